import PyProof.Rows.All
import Wide.All
import OpenK.AllK
import Wide.FinOn
import KE.KSortTup
import Lean
import PySem.Challenge.RW_ph0082_01
section
open PySem PySem.W PyProof.Rows
set_option Elab.async false
namespace Mine
set_option maxRecDepth 100000 in
set_option maxHeartbeats 8000000 in
open_top hd for PySem.Challenge.rw_ph0082_01
end Mine
end

section
set_option Elab.async false
set_option linter.unusedVariables false
set_option autoImplicit true
namespace Mine
-- taking apart and putting together nested ∃ and ∧ in one step (printed by a program of mine)
theorem el_A {P1 : Prop} {P2 : Prop} {q : Prop} (h : P1 ∧ P2) (f : ∀ (h1 : P1) (h2 : P2), q) : q := f (h).1 ((h).2)
theorem el_E {α1 : Sort _} {P1 : α1 → Prop} {q : Prop} (h : ∃ a1, P1 a1) (f : ∀ (a1 : α1) (h1 : P1 a1), q) : q := (h).elim fun a1 g1 => f a1 (g1)
theorem el_AA {P1 : Prop} {P2 : Prop} {P3 : Prop} {q : Prop} (h : P1 ∧ P2 ∧ P3) (f : ∀ (h1 : P1) (h2 : P2) (h3 : P3), q) : q := f (h).1 ((h).2).1 (((h).2).2)
theorem el_AE {α1 : Sort _} {P1 : Prop} {P2 : α1 → Prop} {q : Prop} (h : P1 ∧ ∃ a1, P2 a1) (f : ∀ (h1 : P1) (a1 : α1) (h2 : P2 a1), q) : q := ((h).2).elim fun a1 g1 => f (h).1 a1 (g1)
theorem el_EA {α1 : Sort _} {P1 : α1 → Prop} {P2 : α1 → Prop} {q : Prop} (h : ∃ a1, P1 a1 ∧ P2 a1) (f : ∀ (a1 : α1) (h1 : P1 a1) (h2 : P2 a1), q) : q := (h).elim fun a1 g1 => f a1 (g1).1 ((g1).2)
theorem el_AAA {P1 : Prop} {P2 : Prop} {P3 : Prop} {P4 : Prop} {q : Prop} (h : P1 ∧ P2 ∧ P3 ∧ P4) (f : ∀ (h1 : P1) (h2 : P2) (h3 : P3) (h4 : P4), q) : q := f (h).1 ((h).2).1 (((h).2).2).1 ((((h).2).2).2)
theorem el_EAA {α1 : Sort _} {P1 : α1 → Prop} {P2 : α1 → Prop} {P3 : α1 → Prop} {q : Prop} (h : ∃ a1, P1 a1 ∧ P2 a1 ∧ P3 a1) (f : ∀ (a1 : α1) (h1 : P1 a1) (h2 : P2 a1) (h3 : P3 a1), q) : q := (h).elim fun a1 g1 => f a1 (g1).1 ((g1).2).1 (((g1).2).2)
theorem el_EEA {α1 : Sort _} {α2 : Sort _} {P1 : α1 → α2 → Prop} {P2 : α1 → α2 → Prop} {q : Prop} (h : ∃ a1, ∃ a2, P1 a1 a2 ∧ P2 a1 a2) (f : ∀ (a1 : α1) (a2 : α2) (h1 : P1 a1 a2) (h2 : P2 a1 a2), q) : q := (h).elim fun a1 g1 => (g1).elim fun a2 g2 => f a1 a2 (g2).1 ((g2).2)
theorem el_AAAA {P1 : Prop} {P2 : Prop} {P3 : Prop} {P4 : Prop} {P5 : Prop} {q : Prop} (h : P1 ∧ P2 ∧ P3 ∧ P4 ∧ P5) (f : ∀ (h1 : P1) (h2 : P2) (h3 : P3) (h4 : P4) (h5 : P5), q) : q := f (h).1 ((h).2).1 (((h).2).2).1 ((((h).2).2).2).1 (((((h).2).2).2).2)
theorem el_EAAA {α1 : Sort _} {P1 : α1 → Prop} {P2 : α1 → Prop} {P3 : α1 → Prop} {P4 : α1 → Prop} {q : Prop} (h : ∃ a1, P1 a1 ∧ P2 a1 ∧ P3 a1 ∧ P4 a1) (f : ∀ (a1 : α1) (h1 : P1 a1) (h2 : P2 a1) (h3 : P3 a1) (h4 : P4 a1), q) : q := (h).elim fun a1 g1 => f a1 (g1).1 ((g1).2).1 (((g1).2).2).1 ((((g1).2).2).2)
theorem el_EAAE {α1 : Sort _} {α2 : Sort _} {P1 : α1 → Prop} {P2 : α1 → Prop} {P3 : α1 → α2 → Prop} {q : Prop} (h : ∃ a1, P1 a1 ∧ P2 a1 ∧ ∃ a2, P3 a1 a2) (f : ∀ (a1 : α1) (h1 : P1 a1) (h2 : P2 a1) (a2 : α2) (h3 : P3 a1 a2), q) : q := (h).elim fun a1 g1 => (((g1).2).2).elim fun a2 g2 => f a1 (g1).1 ((g1).2).1 a2 (g2)
theorem el_EEAA {α1 : Sort _} {α2 : Sort _} {P1 : α1 → α2 → Prop} {P2 : α1 → α2 → Prop} {P3 : α1 → α2 → Prop} {q : Prop} (h : ∃ a1, ∃ a2, P1 a1 a2 ∧ P2 a1 a2 ∧ P3 a1 a2) (f : ∀ (a1 : α1) (a2 : α2) (h1 : P1 a1 a2) (h2 : P2 a1 a2) (h3 : P3 a1 a2), q) : q := (h).elim fun a1 g1 => (g1).elim fun a2 g2 => f a1 a2 (g2).1 ((g2).2).1 (((g2).2).2)
theorem el_EEEA {α1 : Sort _} {α2 : Sort _} {α3 : Sort _} {P1 : α1 → α2 → α3 → Prop} {P2 : α1 → α2 → α3 → Prop} {q : Prop} (h : ∃ a1, ∃ a2, ∃ a3, P1 a1 a2 a3 ∧ P2 a1 a2 a3) (f : ∀ (a1 : α1) (a2 : α2) (a3 : α3) (h1 : P1 a1 a2 a3) (h2 : P2 a1 a2 a3), q) : q := (h).elim fun a1 g1 => (g1).elim fun a2 g2 => (g2).elim fun a3 g3 => f a1 a2 a3 (g3).1 ((g3).2)
theorem el_AAAAA {P1 : Prop} {P2 : Prop} {P3 : Prop} {P4 : Prop} {P5 : Prop} {P6 : Prop} {q : Prop} (h : P1 ∧ P2 ∧ P3 ∧ P4 ∧ P5 ∧ P6) (f : ∀ (h1 : P1) (h2 : P2) (h3 : P3) (h4 : P4) (h5 : P5) (h6 : P6), q) : q := f (h).1 ((h).2).1 (((h).2).2).1 ((((h).2).2).2).1 (((((h).2).2).2).2).1 ((((((h).2).2).2).2).2)
theorem el_AEAAA {α1 : Sort _} {P1 : Prop} {P2 : α1 → Prop} {P3 : α1 → Prop} {P4 : α1 → Prop} {P5 : α1 → Prop} {q : Prop} (h : P1 ∧ ∃ a1, P2 a1 ∧ P3 a1 ∧ P4 a1 ∧ P5 a1) (f : ∀ (h1 : P1) (a1 : α1) (h2 : P2 a1) (h3 : P3 a1) (h4 : P4 a1) (h5 : P5 a1), q) : q := ((h).2).elim fun a1 g1 => f (h).1 a1 (g1).1 ((g1).2).1 (((g1).2).2).1 ((((g1).2).2).2)
theorem el_EAAAA {α1 : Sort _} {P1 : α1 → Prop} {P2 : α1 → Prop} {P3 : α1 → Prop} {P4 : α1 → Prop} {P5 : α1 → Prop} {q : Prop} (h : ∃ a1, P1 a1 ∧ P2 a1 ∧ P3 a1 ∧ P4 a1 ∧ P5 a1) (f : ∀ (a1 : α1) (h1 : P1 a1) (h2 : P2 a1) (h3 : P3 a1) (h4 : P4 a1) (h5 : P5 a1), q) : q := (h).elim fun a1 g1 => f a1 (g1).1 ((g1).2).1 (((g1).2).2).1 ((((g1).2).2).2).1 (((((g1).2).2).2).2)
theorem el_EEEAA {α1 : Sort _} {α2 : Sort _} {α3 : Sort _} {P1 : α1 → α2 → α3 → Prop} {P2 : α1 → α2 → α3 → Prop} {P3 : α1 → α2 → α3 → Prop} {q : Prop} (h : ∃ a1, ∃ a2, ∃ a3, P1 a1 a2 a3 ∧ P2 a1 a2 a3 ∧ P3 a1 a2 a3) (f : ∀ (a1 : α1) (a2 : α2) (a3 : α3) (h1 : P1 a1 a2 a3) (h2 : P2 a1 a2 a3) (h3 : P3 a1 a2 a3), q) : q := (h).elim fun a1 g1 => (g1).elim fun a2 g2 => (g2).elim fun a3 g3 => f a1 a2 a3 (g3).1 ((g3).2).1 (((g3).2).2)
theorem el_EEEEA {α1 : Sort _} {α2 : Sort _} {α3 : Sort _} {α4 : Sort _} {P1 : α1 → α2 → α3 → α4 → Prop} {P2 : α1 → α2 → α3 → α4 → Prop} {q : Prop} (h : ∃ a1, ∃ a2, ∃ a3, ∃ a4, P1 a1 a2 a3 a4 ∧ P2 a1 a2 a3 a4) (f : ∀ (a1 : α1) (a2 : α2) (a3 : α3) (a4 : α4) (h1 : P1 a1 a2 a3 a4) (h2 : P2 a1 a2 a3 a4), q) : q := (h).elim fun a1 g1 => (g1).elim fun a2 g2 => (g2).elim fun a3 g3 => (g3).elim fun a4 g4 => f a1 a2 a3 a4 (g4).1 ((g4).2)
theorem el_EEEEE {α1 : Sort _} {α2 : Sort _} {α3 : Sort _} {α4 : Sort _} {α5 : Sort _} {P1 : α1 → α2 → α3 → α4 → α5 → Prop} {q : Prop} (h : ∃ a1, ∃ a2, ∃ a3, ∃ a4, ∃ a5, P1 a1 a2 a3 a4 a5) (f : ∀ (a1 : α1) (a2 : α2) (a3 : α3) (a4 : α4) (a5 : α5) (h1 : P1 a1 a2 a3 a4 a5), q) : q := (h).elim fun a1 g1 => (g1).elim fun a2 g2 => (g2).elim fun a3 g3 => (g3).elim fun a4 g4 => (g4).elim fun a5 g5 => f a1 a2 a3 a4 a5 (g5)
theorem el_AAAAAA {P1 : Prop} {P2 : Prop} {P3 : Prop} {P4 : Prop} {P5 : Prop} {P6 : Prop} {P7 : Prop} {q : Prop} (h : P1 ∧ P2 ∧ P3 ∧ P4 ∧ P5 ∧ P6 ∧ P7) (f : ∀ (h1 : P1) (h2 : P2) (h3 : P3) (h4 : P4) (h5 : P5) (h6 : P6) (h7 : P7), q) : q := f (h).1 ((h).2).1 (((h).2).2).1 ((((h).2).2).2).1 (((((h).2).2).2).2).1 ((((((h).2).2).2).2).2).1 (((((((h).2).2).2).2).2).2)
theorem el_AEEEEE {α1 : Sort _} {α2 : Sort _} {α3 : Sort _} {α4 : Sort _} {α5 : Sort _} {P1 : Prop} {P2 : α1 → α2 → α3 → α4 → α5 → Prop} {q : Prop} (h : P1 ∧ ∃ a1, ∃ a2, ∃ a3, ∃ a4, ∃ a5, P2 a1 a2 a3 a4 a5) (f : ∀ (h1 : P1) (a1 : α1) (a2 : α2) (a3 : α3) (a4 : α4) (a5 : α5) (h2 : P2 a1 a2 a3 a4 a5), q) : q := ((h).2).elim fun a1 g1 => (g1).elim fun a2 g2 => (g2).elim fun a3 g3 => (g3).elim fun a4 g4 => (g4).elim fun a5 g5 => f (h).1 a1 a2 a3 a4 a5 (g5)
theorem el_EEEEAA {α1 : Sort _} {α2 : Sort _} {α3 : Sort _} {α4 : Sort _} {P1 : α1 → α2 → α3 → α4 → Prop} {P2 : α1 → α2 → α3 → α4 → Prop} {P3 : α1 → α2 → α3 → α4 → Prop} {q : Prop} (h : ∃ a1, ∃ a2, ∃ a3, ∃ a4, P1 a1 a2 a3 a4 ∧ P2 a1 a2 a3 a4 ∧ P3 a1 a2 a3 a4) (f : ∀ (a1 : α1) (a2 : α2) (a3 : α3) (a4 : α4) (h1 : P1 a1 a2 a3 a4) (h2 : P2 a1 a2 a3 a4) (h3 : P3 a1 a2 a3 a4), q) : q := (h).elim fun a1 g1 => (g1).elim fun a2 g2 => (g2).elim fun a3 g3 => (g3).elim fun a4 g4 => f a1 a2 a3 a4 (g4).1 ((g4).2).1 (((g4).2).2)
theorem el_AAAAAAA {P1 : Prop} {P2 : Prop} {P3 : Prop} {P4 : Prop} {P5 : Prop} {P6 : Prop} {P7 : Prop} {P8 : Prop} {q : Prop} (h : P1 ∧ P2 ∧ P3 ∧ P4 ∧ P5 ∧ P6 ∧ P7 ∧ P8) (f : ∀ (h1 : P1) (h2 : P2) (h3 : P3) (h4 : P4) (h5 : P5) (h6 : P6) (h7 : P7) (h8 : P8), q) : q := f (h).1 ((h).2).1 (((h).2).2).1 ((((h).2).2).2).1 (((((h).2).2).2).2).1 ((((((h).2).2).2).2).2).1 (((((((h).2).2).2).2).2).2).1 ((((((((h).2).2).2).2).2).2).2)
theorem el_EEAAAAA {α1 : Sort _} {α2 : Sort _} {P1 : α1 → α2 → Prop} {P2 : α1 → α2 → Prop} {P3 : α1 → α2 → Prop} {P4 : α1 → α2 → Prop} {P5 : α1 → α2 → Prop} {P6 : α1 → α2 → Prop} {q : Prop} (h : ∃ a1, ∃ a2, P1 a1 a2 ∧ P2 a1 a2 ∧ P3 a1 a2 ∧ P4 a1 a2 ∧ P5 a1 a2 ∧ P6 a1 a2) (f : ∀ (a1 : α1) (a2 : α2) (h1 : P1 a1 a2) (h2 : P2 a1 a2) (h3 : P3 a1 a2) (h4 : P4 a1 a2) (h5 : P5 a1 a2) (h6 : P6 a1 a2), q) : q := (h).elim fun a1 g1 => (g1).elim fun a2 g2 => f a1 a2 (g2).1 ((g2).2).1 (((g2).2).2).1 ((((g2).2).2).2).1 (((((g2).2).2).2).2).1 ((((((g2).2).2).2).2).2)
theorem el_EEEEAAA {α1 : Sort _} {α2 : Sort _} {α3 : Sort _} {α4 : Sort _} {P1 : α1 → α2 → α3 → α4 → Prop} {P2 : α1 → α2 → α3 → α4 → Prop} {P3 : α1 → α2 → α3 → α4 → Prop} {P4 : α1 → α2 → α3 → α4 → Prop} {q : Prop} (h : ∃ a1, ∃ a2, ∃ a3, ∃ a4, P1 a1 a2 a3 a4 ∧ P2 a1 a2 a3 a4 ∧ P3 a1 a2 a3 a4 ∧ P4 a1 a2 a3 a4) (f : ∀ (a1 : α1) (a2 : α2) (a3 : α3) (a4 : α4) (h1 : P1 a1 a2 a3 a4) (h2 : P2 a1 a2 a3 a4) (h3 : P3 a1 a2 a3 a4) (h4 : P4 a1 a2 a3 a4), q) : q := (h).elim fun a1 g1 => (g1).elim fun a2 g2 => (g2).elim fun a3 g3 => (g3).elim fun a4 g4 => f a1 a2 a3 a4 (g4).1 ((g4).2).1 (((g4).2).2).1 ((((g4).2).2).2)
theorem el_EEEEAAAA {α1 : Sort _} {α2 : Sort _} {α3 : Sort _} {α4 : Sort _} {P1 : α1 → α2 → α3 → α4 → Prop} {P2 : α1 → α2 → α3 → α4 → Prop} {P3 : α1 → α2 → α3 → α4 → Prop} {P4 : α1 → α2 → α3 → α4 → Prop} {P5 : α1 → α2 → α3 → α4 → Prop} {q : Prop} (h : ∃ a1, ∃ a2, ∃ a3, ∃ a4, P1 a1 a2 a3 a4 ∧ P2 a1 a2 a3 a4 ∧ P3 a1 a2 a3 a4 ∧ P4 a1 a2 a3 a4 ∧ P5 a1 a2 a3 a4) (f : ∀ (a1 : α1) (a2 : α2) (a3 : α3) (a4 : α4) (h1 : P1 a1 a2 a3 a4) (h2 : P2 a1 a2 a3 a4) (h3 : P3 a1 a2 a3 a4) (h4 : P4 a1 a2 a3 a4) (h5 : P5 a1 a2 a3 a4), q) : q := (h).elim fun a1 g1 => (g1).elim fun a2 g2 => (g2).elim fun a3 g3 => (g3).elim fun a4 g4 => f a1 a2 a3 a4 (g4).1 ((g4).2).1 (((g4).2).2).1 ((((g4).2).2).2).1 (((((g4).2).2).2).2)
theorem el_EEEEEAAA {α1 : Sort _} {α2 : Sort _} {α3 : Sort _} {α4 : Sort _} {α5 : Sort _} {P1 : α1 → α2 → α3 → α4 → α5 → Prop} {P2 : α1 → α2 → α3 → α4 → α5 → Prop} {P3 : α1 → α2 → α3 → α4 → α5 → Prop} {P4 : α1 → α2 → α3 → α4 → α5 → Prop} {q : Prop} (h : ∃ a1, ∃ a2, ∃ a3, ∃ a4, ∃ a5, P1 a1 a2 a3 a4 a5 ∧ P2 a1 a2 a3 a4 a5 ∧ P3 a1 a2 a3 a4 a5 ∧ P4 a1 a2 a3 a4 a5) (f : ∀ (a1 : α1) (a2 : α2) (a3 : α3) (a4 : α4) (a5 : α5) (h1 : P1 a1 a2 a3 a4 a5) (h2 : P2 a1 a2 a3 a4 a5) (h3 : P3 a1 a2 a3 a4 a5) (h4 : P4 a1 a2 a3 a4 a5), q) : q := (h).elim fun a1 g1 => (g1).elim fun a2 g2 => (g2).elim fun a3 g3 => (g3).elim fun a4 g4 => (g4).elim fun a5 g5 => f a1 a2 a3 a4 a5 (g5).1 ((g5).2).1 (((g5).2).2).1 ((((g5).2).2).2)
theorem el_EAEEEEAAA {α1 : Sort _} {α2 : Sort _} {α3 : Sort _} {α4 : Sort _} {α5 : Sort _} {P1 : α1 → Prop} {P2 : α1 → α2 → α3 → α4 → α5 → Prop} {P3 : α1 → α2 → α3 → α4 → α5 → Prop} {P4 : α1 → α2 → α3 → α4 → α5 → Prop} {P5 : α1 → α2 → α3 → α4 → α5 → Prop} {q : Prop} (h : ∃ a1, P1 a1 ∧ ∃ a2, ∃ a3, ∃ a4, ∃ a5, P2 a1 a2 a3 a4 a5 ∧ P3 a1 a2 a3 a4 a5 ∧ P4 a1 a2 a3 a4 a5 ∧ P5 a1 a2 a3 a4 a5) (f : ∀ (a1 : α1) (h1 : P1 a1) (a2 : α2) (a3 : α3) (a4 : α4) (a5 : α5) (h2 : P2 a1 a2 a3 a4 a5) (h3 : P3 a1 a2 a3 a4 a5) (h4 : P4 a1 a2 a3 a4 a5) (h5 : P5 a1 a2 a3 a4 a5), q) : q := (h).elim fun a1 g1 => ((g1).2).elim fun a2 g2 => (g2).elim fun a3 g3 => (g3).elim fun a4 g4 => (g4).elim fun a5 g5 => f a1 (g1).1 a2 a3 a4 a5 (g5).1 ((g5).2).1 (((g5).2).2).1 ((((g5).2).2).2)
theorem el_EEEEEAAAA {α1 : Sort _} {α2 : Sort _} {α3 : Sort _} {α4 : Sort _} {α5 : Sort _} {P1 : α1 → α2 → α3 → α4 → α5 → Prop} {P2 : α1 → α2 → α3 → α4 → α5 → Prop} {P3 : α1 → α2 → α3 → α4 → α5 → Prop} {P4 : α1 → α2 → α3 → α4 → α5 → Prop} {P5 : α1 → α2 → α3 → α4 → α5 → Prop} {q : Prop} (h : ∃ a1, ∃ a2, ∃ a3, ∃ a4, ∃ a5, P1 a1 a2 a3 a4 a5 ∧ P2 a1 a2 a3 a4 a5 ∧ P3 a1 a2 a3 a4 a5 ∧ P4 a1 a2 a3 a4 a5 ∧ P5 a1 a2 a3 a4 a5) (f : ∀ (a1 : α1) (a2 : α2) (a3 : α3) (a4 : α4) (a5 : α5) (h1 : P1 a1 a2 a3 a4 a5) (h2 : P2 a1 a2 a3 a4 a5) (h3 : P3 a1 a2 a3 a4 a5) (h4 : P4 a1 a2 a3 a4 a5) (h5 : P5 a1 a2 a3 a4 a5), q) : q := (h).elim fun a1 g1 => (g1).elim fun a2 g2 => (g2).elim fun a3 g3 => (g3).elim fun a4 g4 => (g4).elim fun a5 g5 => f a1 a2 a3 a4 a5 (g5).1 ((g5).2).1 (((g5).2).2).1 ((((g5).2).2).2).1 (((((g5).2).2).2).2)
theorem el_EEEEEEEAAAAAA {α1 : Sort _} {α2 : Sort _} {α3 : Sort _} {α4 : Sort _} {α5 : Sort _} {α6 : Sort _} {α7 : Sort _} {P1 : α1 → α2 → α3 → α4 → α5 → α6 → α7 → Prop} {P2 : α1 → α2 → α3 → α4 → α5 → α6 → α7 → Prop} {P3 : α1 → α2 → α3 → α4 → α5 → α6 → α7 → Prop} {P4 : α1 → α2 → α3 → α4 → α5 → α6 → α7 → Prop} {P5 : α1 → α2 → α3 → α4 → α5 → α6 → α7 → Prop} {P6 : α1 → α2 → α3 → α4 → α5 → α6 → α7 → Prop} {P7 : α1 → α2 → α3 → α4 → α5 → α6 → α7 → Prop} {q : Prop} (h : ∃ a1, ∃ a2, ∃ a3, ∃ a4, ∃ a5, ∃ a6, ∃ a7, P1 a1 a2 a3 a4 a5 a6 a7 ∧ P2 a1 a2 a3 a4 a5 a6 a7 ∧ P3 a1 a2 a3 a4 a5 a6 a7 ∧ P4 a1 a2 a3 a4 a5 a6 a7 ∧ P5 a1 a2 a3 a4 a5 a6 a7 ∧ P6 a1 a2 a3 a4 a5 a6 a7 ∧ P7 a1 a2 a3 a4 a5 a6 a7) (f : ∀ (a1 : α1) (a2 : α2) (a3 : α3) (a4 : α4) (a5 : α5) (a6 : α6) (a7 : α7) (h1 : P1 a1 a2 a3 a4 a5 a6 a7) (h2 : P2 a1 a2 a3 a4 a5 a6 a7) (h3 : P3 a1 a2 a3 a4 a5 a6 a7) (h4 : P4 a1 a2 a3 a4 a5 a6 a7) (h5 : P5 a1 a2 a3 a4 a5 a6 a7) (h6 : P6 a1 a2 a3 a4 a5 a6 a7) (h7 : P7 a1 a2 a3 a4 a5 a6 a7), q) : q := (h).elim fun a1 g1 => (g1).elim fun a2 g2 => (g2).elim fun a3 g3 => (g3).elim fun a4 g4 => (g4).elim fun a5 g5 => (g5).elim fun a6 g6 => (g6).elim fun a7 g7 => f a1 a2 a3 a4 a5 a6 a7 (g7).1 ((g7).2).1 (((g7).2).2).1 ((((g7).2).2).2).1 (((((g7).2).2).2).2).1 ((((((g7).2).2).2).2).2).1 (((((((g7).2).2).2).2).2).2)
theorem el_AEEEEEEAAAAAAA {α1 : Sort _} {α2 : Sort _} {α3 : Sort _} {α4 : Sort _} {α5 : Sort _} {α6 : Sort _} {P1 : Prop} {P2 : α1 → α2 → α3 → α4 → α5 → α6 → Prop} {P3 : α1 → α2 → α3 → α4 → α5 → α6 → Prop} {P4 : α1 → α2 → α3 → α4 → α5 → α6 → Prop} {P5 : α1 → α2 → α3 → α4 → α5 → α6 → Prop} {P6 : α1 → α2 → α3 → α4 → α5 → α6 → Prop} {P7 : α1 → α2 → α3 → α4 → α5 → α6 → Prop} {P8 : α1 → α2 → α3 → α4 → α5 → α6 → Prop} {P9 : α1 → α2 → α3 → α4 → α5 → α6 → Prop} {q : Prop} (h : P1 ∧ ∃ a1, ∃ a2, ∃ a3, ∃ a4, ∃ a5, ∃ a6, P2 a1 a2 a3 a4 a5 a6 ∧ P3 a1 a2 a3 a4 a5 a6 ∧ P4 a1 a2 a3 a4 a5 a6 ∧ P5 a1 a2 a3 a4 a5 a6 ∧ P6 a1 a2 a3 a4 a5 a6 ∧ P7 a1 a2 a3 a4 a5 a6 ∧ P8 a1 a2 a3 a4 a5 a6 ∧ P9 a1 a2 a3 a4 a5 a6) (f : ∀ (h1 : P1) (a1 : α1) (a2 : α2) (a3 : α3) (a4 : α4) (a5 : α5) (a6 : α6) (h2 : P2 a1 a2 a3 a4 a5 a6) (h3 : P3 a1 a2 a3 a4 a5 a6) (h4 : P4 a1 a2 a3 a4 a5 a6) (h5 : P5 a1 a2 a3 a4 a5 a6) (h6 : P6 a1 a2 a3 a4 a5 a6) (h7 : P7 a1 a2 a3 a4 a5 a6) (h8 : P8 a1 a2 a3 a4 a5 a6) (h9 : P9 a1 a2 a3 a4 a5 a6), q) : q := ((h).2).elim fun a1 g1 => (g1).elim fun a2 g2 => (g2).elim fun a3 g3 => (g3).elim fun a4 g4 => (g4).elim fun a5 g5 => (g5).elim fun a6 g6 => f (h).1 a1 a2 a3 a4 a5 a6 (g6).1 ((g6).2).1 (((g6).2).2).1 ((((g6).2).2).2).1 (((((g6).2).2).2).2).1 ((((((g6).2).2).2).2).2).1 (((((((g6).2).2).2).2).2).2).1 ((((((((g6).2).2).2).2).2).2).2)
theorem el_EEEEEEEEAAAAAA {α1 : Sort _} {α2 : Sort _} {α3 : Sort _} {α4 : Sort _} {α5 : Sort _} {α6 : Sort _} {α7 : Sort _} {α8 : Sort _} {P1 : α1 → α2 → α3 → α4 → α5 → α6 → α7 → α8 → Prop} {P2 : α1 → α2 → α3 → α4 → α5 → α6 → α7 → α8 → Prop} {P3 : α1 → α2 → α3 → α4 → α5 → α6 → α7 → α8 → Prop} {P4 : α1 → α2 → α3 → α4 → α5 → α6 → α7 → α8 → Prop} {P5 : α1 → α2 → α3 → α4 → α5 → α6 → α7 → α8 → Prop} {P6 : α1 → α2 → α3 → α4 → α5 → α6 → α7 → α8 → Prop} {P7 : α1 → α2 → α3 → α4 → α5 → α6 → α7 → α8 → Prop} {q : Prop} (h : ∃ a1, ∃ a2, ∃ a3, ∃ a4, ∃ a5, ∃ a6, ∃ a7, ∃ a8, P1 a1 a2 a3 a4 a5 a6 a7 a8 ∧ P2 a1 a2 a3 a4 a5 a6 a7 a8 ∧ P3 a1 a2 a3 a4 a5 a6 a7 a8 ∧ P4 a1 a2 a3 a4 a5 a6 a7 a8 ∧ P5 a1 a2 a3 a4 a5 a6 a7 a8 ∧ P6 a1 a2 a3 a4 a5 a6 a7 a8 ∧ P7 a1 a2 a3 a4 a5 a6 a7 a8) (f : ∀ (a1 : α1) (a2 : α2) (a3 : α3) (a4 : α4) (a5 : α5) (a6 : α6) (a7 : α7) (a8 : α8) (h1 : P1 a1 a2 a3 a4 a5 a6 a7 a8) (h2 : P2 a1 a2 a3 a4 a5 a6 a7 a8) (h3 : P3 a1 a2 a3 a4 a5 a6 a7 a8) (h4 : P4 a1 a2 a3 a4 a5 a6 a7 a8) (h5 : P5 a1 a2 a3 a4 a5 a6 a7 a8) (h6 : P6 a1 a2 a3 a4 a5 a6 a7 a8) (h7 : P7 a1 a2 a3 a4 a5 a6 a7 a8), q) : q := (h).elim fun a1 g1 => (g1).elim fun a2 g2 => (g2).elim fun a3 g3 => (g3).elim fun a4 g4 => (g4).elim fun a5 g5 => (g5).elim fun a6 g6 => (g6).elim fun a7 g7 => (g7).elim fun a8 g8 => f a1 a2 a3 a4 a5 a6 a7 a8 (g8).1 ((g8).2).1 (((g8).2).2).1 ((((g8).2).2).2).1 (((((g8).2).2).2).2).1 ((((((g8).2).2).2).2).2).1 (((((((g8).2).2).2).2).2).2)
theorem el_AAEEEEEEEEAAAAAAA {α1 : Sort _} {α2 : Sort _} {α3 : Sort _} {α4 : Sort _} {α5 : Sort _} {α6 : Sort _} {α7 : Sort _} {α8 : Sort _} {P1 : Prop} {P2 : Prop} {P3 : α1 → α2 → α3 → α4 → α5 → α6 → α7 → α8 → Prop} {P4 : α1 → α2 → α3 → α4 → α5 → α6 → α7 → α8 → Prop} {P5 : α1 → α2 → α3 → α4 → α5 → α6 → α7 → α8 → Prop} {P6 : α1 → α2 → α3 → α4 → α5 → α6 → α7 → α8 → Prop} {P7 : α1 → α2 → α3 → α4 → α5 → α6 → α7 → α8 → Prop} {P8 : α1 → α2 → α3 → α4 → α5 → α6 → α7 → α8 → Prop} {P9 : α1 → α2 → α3 → α4 → α5 → α6 → α7 → α8 → Prop} {P10 : α1 → α2 → α3 → α4 → α5 → α6 → α7 → α8 → Prop} {q : Prop} (h : P1 ∧ P2 ∧ ∃ a1, ∃ a2, ∃ a3, ∃ a4, ∃ a5, ∃ a6, ∃ a7, ∃ a8, P3 a1 a2 a3 a4 a5 a6 a7 a8 ∧ P4 a1 a2 a3 a4 a5 a6 a7 a8 ∧ P5 a1 a2 a3 a4 a5 a6 a7 a8 ∧ P6 a1 a2 a3 a4 a5 a6 a7 a8 ∧ P7 a1 a2 a3 a4 a5 a6 a7 a8 ∧ P8 a1 a2 a3 a4 a5 a6 a7 a8 ∧ P9 a1 a2 a3 a4 a5 a6 a7 a8 ∧ P10 a1 a2 a3 a4 a5 a6 a7 a8) (f : ∀ (h1 : P1) (h2 : P2) (a1 : α1) (a2 : α2) (a3 : α3) (a4 : α4) (a5 : α5) (a6 : α6) (a7 : α7) (a8 : α8) (h3 : P3 a1 a2 a3 a4 a5 a6 a7 a8) (h4 : P4 a1 a2 a3 a4 a5 a6 a7 a8) (h5 : P5 a1 a2 a3 a4 a5 a6 a7 a8) (h6 : P6 a1 a2 a3 a4 a5 a6 a7 a8) (h7 : P7 a1 a2 a3 a4 a5 a6 a7 a8) (h8 : P8 a1 a2 a3 a4 a5 a6 a7 a8) (h9 : P9 a1 a2 a3 a4 a5 a6 a7 a8) (h10 : P10 a1 a2 a3 a4 a5 a6 a7 a8), q) : q := (((h).2).2).elim fun a1 g1 => (g1).elim fun a2 g2 => (g2).elim fun a3 g3 => (g3).elim fun a4 g4 => (g4).elim fun a5 g5 => (g5).elim fun a6 g6 => (g6).elim fun a7 g7 => (g7).elim fun a8 g8 => f (h).1 ((h).2).1 a1 a2 a3 a4 a5 a6 a7 a8 (g8).1 ((g8).2).1 (((g8).2).2).1 ((((g8).2).2).2).1 (((((g8).2).2).2).2).1 ((((((g8).2).2).2).2).2).1 (((((((g8).2).2).2).2).2).2).1 ((((((((g8).2).2).2).2).2).2).2)
theorem el_AEEEEEEEEAAAAAAAAA {α1 : Sort _} {α2 : Sort _} {α3 : Sort _} {α4 : Sort _} {α5 : Sort _} {α6 : Sort _} {α7 : Sort _} {α8 : Sort _} {P1 : Prop} {P2 : α1 → α2 → α3 → α4 → α5 → α6 → α7 → α8 → Prop} {P3 : α1 → α2 → α3 → α4 → α5 → α6 → α7 → α8 → Prop} {P4 : α1 → α2 → α3 → α4 → α5 → α6 → α7 → α8 → Prop} {P5 : α1 → α2 → α3 → α4 → α5 → α6 → α7 → α8 → Prop} {P6 : α1 → α2 → α3 → α4 → α5 → α6 → α7 → α8 → Prop} {P7 : α1 → α2 → α3 → α4 → α5 → α6 → α7 → α8 → Prop} {P8 : α1 → α2 → α3 → α4 → α5 → α6 → α7 → α8 → Prop} {P9 : α1 → α2 → α3 → α4 → α5 → α6 → α7 → α8 → Prop} {P10 : α1 → α2 → α3 → α4 → α5 → α6 → α7 → α8 → Prop} {P11 : α1 → α2 → α3 → α4 → α5 → α6 → α7 → α8 → Prop} {q : Prop} (h : P1 ∧ ∃ a1, ∃ a2, ∃ a3, ∃ a4, ∃ a5, ∃ a6, ∃ a7, ∃ a8, P2 a1 a2 a3 a4 a5 a6 a7 a8 ∧ P3 a1 a2 a3 a4 a5 a6 a7 a8 ∧ P4 a1 a2 a3 a4 a5 a6 a7 a8 ∧ P5 a1 a2 a3 a4 a5 a6 a7 a8 ∧ P6 a1 a2 a3 a4 a5 a6 a7 a8 ∧ P7 a1 a2 a3 a4 a5 a6 a7 a8 ∧ P8 a1 a2 a3 a4 a5 a6 a7 a8 ∧ P9 a1 a2 a3 a4 a5 a6 a7 a8 ∧ P10 a1 a2 a3 a4 a5 a6 a7 a8 ∧ P11 a1 a2 a3 a4 a5 a6 a7 a8) (f : ∀ (h1 : P1) (a1 : α1) (a2 : α2) (a3 : α3) (a4 : α4) (a5 : α5) (a6 : α6) (a7 : α7) (a8 : α8) (h2 : P2 a1 a2 a3 a4 a5 a6 a7 a8) (h3 : P3 a1 a2 a3 a4 a5 a6 a7 a8) (h4 : P4 a1 a2 a3 a4 a5 a6 a7 a8) (h5 : P5 a1 a2 a3 a4 a5 a6 a7 a8) (h6 : P6 a1 a2 a3 a4 a5 a6 a7 a8) (h7 : P7 a1 a2 a3 a4 a5 a6 a7 a8) (h8 : P8 a1 a2 a3 a4 a5 a6 a7 a8) (h9 : P9 a1 a2 a3 a4 a5 a6 a7 a8) (h10 : P10 a1 a2 a3 a4 a5 a6 a7 a8) (h11 : P11 a1 a2 a3 a4 a5 a6 a7 a8), q) : q := ((h).2).elim fun a1 g1 => (g1).elim fun a2 g2 => (g2).elim fun a3 g3 => (g3).elim fun a4 g4 => (g4).elim fun a5 g5 => (g5).elim fun a6 g6 => (g6).elim fun a7 g7 => (g7).elim fun a8 g8 => f (h).1 a1 a2 a3 a4 a5 a6 a7 a8 (g8).1 ((g8).2).1 (((g8).2).2).1 ((((g8).2).2).2).1 (((((g8).2).2).2).2).1 ((((((g8).2).2).2).2).2).1 (((((((g8).2).2).2).2).2).2).1 ((((((((g8).2).2).2).2).2).2).2).1 (((((((((g8).2).2).2).2).2).2).2).2).1 ((((((((((g8).2).2).2).2).2).2).2).2).2)
theorem el_AAAAAEEEEEEAAAAAAAA {α1 : Sort _} {α2 : Sort _} {α3 : Sort _} {α4 : Sort _} {α5 : Sort _} {α6 : Sort _} {P1 : Prop} {P2 : Prop} {P3 : Prop} {P4 : Prop} {P5 : Prop} {P6 : α1 → α2 → α3 → α4 → α5 → α6 → Prop} {P7 : α1 → α2 → α3 → α4 → α5 → α6 → Prop} {P8 : α1 → α2 → α3 → α4 → α5 → α6 → Prop} {P9 : α1 → α2 → α3 → α4 → α5 → α6 → Prop} {P10 : α1 → α2 → α3 → α4 → α5 → α6 → Prop} {P11 : α1 → α2 → α3 → α4 → α5 → α6 → Prop} {P12 : α1 → α2 → α3 → α4 → α5 → α6 → Prop} {P13 : α1 → α2 → α3 → α4 → α5 → α6 → Prop} {P14 : α1 → α2 → α3 → α4 → α5 → α6 → Prop} {q : Prop} (h : P1 ∧ P2 ∧ P3 ∧ P4 ∧ P5 ∧ ∃ a1, ∃ a2, ∃ a3, ∃ a4, ∃ a5, ∃ a6, P6 a1 a2 a3 a4 a5 a6 ∧ P7 a1 a2 a3 a4 a5 a6 ∧ P8 a1 a2 a3 a4 a5 a6 ∧ P9 a1 a2 a3 a4 a5 a6 ∧ P10 a1 a2 a3 a4 a5 a6 ∧ P11 a1 a2 a3 a4 a5 a6 ∧ P12 a1 a2 a3 a4 a5 a6 ∧ P13 a1 a2 a3 a4 a5 a6 ∧ P14 a1 a2 a3 a4 a5 a6) (f : ∀ (h1 : P1) (h2 : P2) (h3 : P3) (h4 : P4) (h5 : P5) (a1 : α1) (a2 : α2) (a3 : α3) (a4 : α4) (a5 : α5) (a6 : α6) (h6 : P6 a1 a2 a3 a4 a5 a6) (h7 : P7 a1 a2 a3 a4 a5 a6) (h8 : P8 a1 a2 a3 a4 a5 a6) (h9 : P9 a1 a2 a3 a4 a5 a6) (h10 : P10 a1 a2 a3 a4 a5 a6) (h11 : P11 a1 a2 a3 a4 a5 a6) (h12 : P12 a1 a2 a3 a4 a5 a6) (h13 : P13 a1 a2 a3 a4 a5 a6) (h14 : P14 a1 a2 a3 a4 a5 a6), q) : q := ((((((h).2).2).2).2).2).elim fun a1 g1 => (g1).elim fun a2 g2 => (g2).elim fun a3 g3 => (g3).elim fun a4 g4 => (g4).elim fun a5 g5 => (g5).elim fun a6 g6 => f (h).1 ((h).2).1 (((h).2).2).1 ((((h).2).2).2).1 (((((h).2).2).2).2).1 a1 a2 a3 a4 a5 a6 (g6).1 ((g6).2).1 (((g6).2).2).1 ((((g6).2).2).2).1 (((((g6).2).2).2).2).1 ((((((g6).2).2).2).2).2).1 (((((((g6).2).2).2).2).2).2).1 ((((((((g6).2).2).2).2).2).2).2).1 (((((((((g6).2).2).2).2).2).2).2).2)
theorem in_AA {P1 : Prop} {P2 : Prop} {P3 : Prop} (h1 : P1) (h2 : P2) (h3 : P3) : P1 ∧ P2 ∧ P3 := ⟨h1, h2, h3⟩
theorem in_AE {α1 : Sort _} {P1 : Prop} {P2 : α1 → Prop} (h1 : P1) (a1 : α1) (h2 : P2 a1) : P1 ∧ ∃ a1, P2 a1 := ⟨h1, a1, h2⟩
theorem in_EA {α1 : Sort _} {P1 : α1 → Prop} {P2 : α1 → Prop} (a1 : α1) (h1 : P1 a1) (h2 : P2 a1) : ∃ a1, P1 a1 ∧ P2 a1 := ⟨a1, h1, h2⟩
theorem in_EE {α1 : Sort _} {α2 : Sort _} {P1 : α1 → α2 → Prop} (a1 : α1) (a2 : α2) (h1 : P1 a1 a2) : ∃ a1, ∃ a2, P1 a1 a2 := ⟨a1, a2, h1⟩
theorem in_AAA {P1 : Prop} {P2 : Prop} {P3 : Prop} {P4 : Prop} (h1 : P1) (h2 : P2) (h3 : P3) (h4 : P4) : P1 ∧ P2 ∧ P3 ∧ P4 := ⟨h1, h2, h3, h4⟩
theorem in_AEE {α1 : Sort _} {α2 : Sort _} {P1 : Prop} {P2 : α1 → α2 → Prop} (h1 : P1) (a1 : α1) (a2 : α2) (h2 : P2 a1 a2) : P1 ∧ ∃ a1, ∃ a2, P2 a1 a2 := ⟨h1, a1, a2, h2⟩
theorem in_EAA {α1 : Sort _} {P1 : α1 → Prop} {P2 : α1 → Prop} {P3 : α1 → Prop} (a1 : α1) (h1 : P1 a1) (h2 : P2 a1) (h3 : P3 a1) : ∃ a1, P1 a1 ∧ P2 a1 ∧ P3 a1 := ⟨a1, h1, h2, h3⟩
theorem in_EEA {α1 : Sort _} {α2 : Sort _} {P1 : α1 → α2 → Prop} {P2 : α1 → α2 → Prop} (a1 : α1) (a2 : α2) (h1 : P1 a1 a2) (h2 : P2 a1 a2) : ∃ a1, ∃ a2, P1 a1 a2 ∧ P2 a1 a2 := ⟨a1, a2, h1, h2⟩
theorem in_AAAA {P1 : Prop} {P2 : Prop} {P3 : Prop} {P4 : Prop} {P5 : Prop} (h1 : P1) (h2 : P2) (h3 : P3) (h4 : P4) (h5 : P5) : P1 ∧ P2 ∧ P3 ∧ P4 ∧ P5 := ⟨h1, h2, h3, h4, h5⟩
theorem in_EAAA {α1 : Sort _} {P1 : α1 → Prop} {P2 : α1 → Prop} {P3 : α1 → Prop} {P4 : α1 → Prop} (a1 : α1) (h1 : P1 a1) (h2 : P2 a1) (h3 : P3 a1) (h4 : P4 a1) : ∃ a1, P1 a1 ∧ P2 a1 ∧ P3 a1 ∧ P4 a1 := ⟨a1, h1, h2, h3, h4⟩
theorem in_EEAA {α1 : Sort _} {α2 : Sort _} {P1 : α1 → α2 → Prop} {P2 : α1 → α2 → Prop} {P3 : α1 → α2 → Prop} (a1 : α1) (a2 : α2) (h1 : P1 a1 a2) (h2 : P2 a1 a2) (h3 : P3 a1 a2) : ∃ a1, ∃ a2, P1 a1 a2 ∧ P2 a1 a2 ∧ P3 a1 a2 := ⟨a1, a2, h1, h2, h3⟩
theorem in_EEEA {α1 : Sort _} {α2 : Sort _} {α3 : Sort _} {P1 : α1 → α2 → α3 → Prop} {P2 : α1 → α2 → α3 → Prop} (a1 : α1) (a2 : α2) (a3 : α3) (h1 : P1 a1 a2 a3) (h2 : P2 a1 a2 a3) : ∃ a1, ∃ a2, ∃ a3, P1 a1 a2 a3 ∧ P2 a1 a2 a3 := ⟨a1, a2, a3, h1, h2⟩
theorem in_AAAAA {P1 : Prop} {P2 : Prop} {P3 : Prop} {P4 : Prop} {P5 : Prop} {P6 : Prop} (h1 : P1) (h2 : P2) (h3 : P3) (h4 : P4) (h5 : P5) (h6 : P6) : P1 ∧ P2 ∧ P3 ∧ P4 ∧ P5 ∧ P6 := ⟨h1, h2, h3, h4, h5, h6⟩
theorem in_AEEAA {α1 : Sort _} {α2 : Sort _} {P1 : Prop} {P2 : α1 → α2 → Prop} {P3 : α1 → α2 → Prop} {P4 : α1 → α2 → Prop} (h1 : P1) (a1 : α1) (a2 : α2) (h2 : P2 a1 a2) (h3 : P3 a1 a2) (h4 : P4 a1 a2) : P1 ∧ ∃ a1, ∃ a2, P2 a1 a2 ∧ P3 a1 a2 ∧ P4 a1 a2 := ⟨h1, a1, a2, h2, h3, h4⟩
theorem in_EAAAA {α1 : Sort _} {P1 : α1 → Prop} {P2 : α1 → Prop} {P3 : α1 → Prop} {P4 : α1 → Prop} {P5 : α1 → Prop} (a1 : α1) (h1 : P1 a1) (h2 : P2 a1) (h3 : P3 a1) (h4 : P4 a1) (h5 : P5 a1) : ∃ a1, P1 a1 ∧ P2 a1 ∧ P3 a1 ∧ P4 a1 ∧ P5 a1 := ⟨a1, h1, h2, h3, h4, h5⟩
theorem in_EEEAA {α1 : Sort _} {α2 : Sort _} {α3 : Sort _} {P1 : α1 → α2 → α3 → Prop} {P2 : α1 → α2 → α3 → Prop} {P3 : α1 → α2 → α3 → Prop} (a1 : α1) (a2 : α2) (a3 : α3) (h1 : P1 a1 a2 a3) (h2 : P2 a1 a2 a3) (h3 : P3 a1 a2 a3) : ∃ a1, ∃ a2, ∃ a3, P1 a1 a2 a3 ∧ P2 a1 a2 a3 ∧ P3 a1 a2 a3 := ⟨a1, a2, a3, h1, h2, h3⟩
theorem in_EEEEA {α1 : Sort _} {α2 : Sort _} {α3 : Sort _} {α4 : Sort _} {P1 : α1 → α2 → α3 → α4 → Prop} {P2 : α1 → α2 → α3 → α4 → Prop} (a1 : α1) (a2 : α2) (a3 : α3) (a4 : α4) (h1 : P1 a1 a2 a3 a4) (h2 : P2 a1 a2 a3 a4) : ∃ a1, ∃ a2, ∃ a3, ∃ a4, P1 a1 a2 a3 a4 ∧ P2 a1 a2 a3 a4 := ⟨a1, a2, a3, a4, h1, h2⟩
theorem in_EEEEE {α1 : Sort _} {α2 : Sort _} {α3 : Sort _} {α4 : Sort _} {α5 : Sort _} {P1 : α1 → α2 → α3 → α4 → α5 → Prop} (a1 : α1) (a2 : α2) (a3 : α3) (a4 : α4) (a5 : α5) (h1 : P1 a1 a2 a3 a4 a5) : ∃ a1, ∃ a2, ∃ a3, ∃ a4, ∃ a5, P1 a1 a2 a3 a4 a5 := ⟨a1, a2, a3, a4, a5, h1⟩
theorem in_AAAAAA {P1 : Prop} {P2 : Prop} {P3 : Prop} {P4 : Prop} {P5 : Prop} {P6 : Prop} {P7 : Prop} (h1 : P1) (h2 : P2) (h3 : P3) (h4 : P4) (h5 : P5) (h6 : P6) (h7 : P7) : P1 ∧ P2 ∧ P3 ∧ P4 ∧ P5 ∧ P6 ∧ P7 := ⟨h1, h2, h3, h4, h5, h6, h7⟩
theorem in_EAEEAA {α1 : Sort _} {α2 : Sort _} {α3 : Sort _} {P1 : α1 → Prop} {P2 : α1 → α2 → α3 → Prop} {P3 : α1 → α2 → α3 → Prop} {P4 : α1 → α2 → α3 → Prop} (a1 : α1) (h1 : P1 a1) (a2 : α2) (a3 : α3) (h2 : P2 a1 a2 a3) (h3 : P3 a1 a2 a3) (h4 : P4 a1 a2 a3) : ∃ a1, P1 a1 ∧ ∃ a2, ∃ a3, P2 a1 a2 a3 ∧ P3 a1 a2 a3 ∧ P4 a1 a2 a3 := ⟨a1, h1, a2, a3, h2, h3, h4⟩
theorem in_EAEEEA {α1 : Sort _} {α2 : Sort _} {α3 : Sort _} {α4 : Sort _} {P1 : α1 → Prop} {P2 : α1 → α2 → α3 → α4 → Prop} {P3 : α1 → α2 → α3 → α4 → Prop} (a1 : α1) (h1 : P1 a1) (a2 : α2) (a3 : α3) (a4 : α4) (h2 : P2 a1 a2 a3 a4) (h3 : P3 a1 a2 a3 a4) : ∃ a1, P1 a1 ∧ ∃ a2, ∃ a3, ∃ a4, P2 a1 a2 a3 a4 ∧ P3 a1 a2 a3 a4 := ⟨a1, h1, a2, a3, a4, h2, h3⟩
theorem in_EEEEAA {α1 : Sort _} {α2 : Sort _} {α3 : Sort _} {α4 : Sort _} {P1 : α1 → α2 → α3 → α4 → Prop} {P2 : α1 → α2 → α3 → α4 → Prop} {P3 : α1 → α2 → α3 → α4 → Prop} (a1 : α1) (a2 : α2) (a3 : α3) (a4 : α4) (h1 : P1 a1 a2 a3 a4) (h2 : P2 a1 a2 a3 a4) (h3 : P3 a1 a2 a3 a4) : ∃ a1, ∃ a2, ∃ a3, ∃ a4, P1 a1 a2 a3 a4 ∧ P2 a1 a2 a3 a4 ∧ P3 a1 a2 a3 a4 := ⟨a1, a2, a3, a4, h1, h2, h3⟩
theorem in_AAAAAAA {P1 : Prop} {P2 : Prop} {P3 : Prop} {P4 : Prop} {P5 : Prop} {P6 : Prop} {P7 : Prop} {P8 : Prop} (h1 : P1) (h2 : P2) (h3 : P3) (h4 : P4) (h5 : P5) (h6 : P6) (h7 : P7) (h8 : P8) : P1 ∧ P2 ∧ P3 ∧ P4 ∧ P5 ∧ P6 ∧ P7 ∧ P8 := ⟨h1, h2, h3, h4, h5, h6, h7, h8⟩
theorem in_EEEEAAA {α1 : Sort _} {α2 : Sort _} {α3 : Sort _} {α4 : Sort _} {P1 : α1 → α2 → α3 → α4 → Prop} {P2 : α1 → α2 → α3 → α4 → Prop} {P3 : α1 → α2 → α3 → α4 → Prop} {P4 : α1 → α2 → α3 → α4 → Prop} (a1 : α1) (a2 : α2) (a3 : α3) (a4 : α4) (h1 : P1 a1 a2 a3 a4) (h2 : P2 a1 a2 a3 a4) (h3 : P3 a1 a2 a3 a4) (h4 : P4 a1 a2 a3 a4) : ∃ a1, ∃ a2, ∃ a3, ∃ a4, P1 a1 a2 a3 a4 ∧ P2 a1 a2 a3 a4 ∧ P3 a1 a2 a3 a4 ∧ P4 a1 a2 a3 a4 := ⟨a1, a2, a3, a4, h1, h2, h3, h4⟩
theorem in_EEEEAAAA {α1 : Sort _} {α2 : Sort _} {α3 : Sort _} {α4 : Sort _} {P1 : α1 → α2 → α3 → α4 → Prop} {P2 : α1 → α2 → α3 → α4 → Prop} {P3 : α1 → α2 → α3 → α4 → Prop} {P4 : α1 → α2 → α3 → α4 → Prop} {P5 : α1 → α2 → α3 → α4 → Prop} (a1 : α1) (a2 : α2) (a3 : α3) (a4 : α4) (h1 : P1 a1 a2 a3 a4) (h2 : P2 a1 a2 a3 a4) (h3 : P3 a1 a2 a3 a4) (h4 : P4 a1 a2 a3 a4) (h5 : P5 a1 a2 a3 a4) : ∃ a1, ∃ a2, ∃ a3, ∃ a4, P1 a1 a2 a3 a4 ∧ P2 a1 a2 a3 a4 ∧ P3 a1 a2 a3 a4 ∧ P4 a1 a2 a3 a4 ∧ P5 a1 a2 a3 a4 := ⟨a1, a2, a3, a4, h1, h2, h3, h4, h5⟩
theorem in_EAEEEEAAA {α1 : Sort _} {α2 : Sort _} {α3 : Sort _} {α4 : Sort _} {α5 : Sort _} {P1 : α1 → Prop} {P2 : α1 → α2 → α3 → α4 → α5 → Prop} {P3 : α1 → α2 → α3 → α4 → α5 → Prop} {P4 : α1 → α2 → α3 → α4 → α5 → Prop} {P5 : α1 → α2 → α3 → α4 → α5 → Prop} (a1 : α1) (h1 : P1 a1) (a2 : α2) (a3 : α3) (a4 : α4) (a5 : α5) (h2 : P2 a1 a2 a3 a4 a5) (h3 : P3 a1 a2 a3 a4 a5) (h4 : P4 a1 a2 a3 a4 a5) (h5 : P5 a1 a2 a3 a4 a5) : ∃ a1, P1 a1 ∧ ∃ a2, ∃ a3, ∃ a4, ∃ a5, P2 a1 a2 a3 a4 a5 ∧ P3 a1 a2 a3 a4 a5 ∧ P4 a1 a2 a3 a4 a5 ∧ P5 a1 a2 a3 a4 a5 := ⟨a1, h1, a2, a3, a4, a5, h2, h3, h4, h5⟩
theorem in_EEEEEAAAA {α1 : Sort _} {α2 : Sort _} {α3 : Sort _} {α4 : Sort _} {α5 : Sort _} {P1 : α1 → α2 → α3 → α4 → α5 → Prop} {P2 : α1 → α2 → α3 → α4 → α5 → Prop} {P3 : α1 → α2 → α3 → α4 → α5 → Prop} {P4 : α1 → α2 → α3 → α4 → α5 → Prop} {P5 : α1 → α2 → α3 → α4 → α5 → Prop} (a1 : α1) (a2 : α2) (a3 : α3) (a4 : α4) (a5 : α5) (h1 : P1 a1 a2 a3 a4 a5) (h2 : P2 a1 a2 a3 a4 a5) (h3 : P3 a1 a2 a3 a4 a5) (h4 : P4 a1 a2 a3 a4 a5) (h5 : P5 a1 a2 a3 a4 a5) : ∃ a1, ∃ a2, ∃ a3, ∃ a4, ∃ a5, P1 a1 a2 a3 a4 a5 ∧ P2 a1 a2 a3 a4 a5 ∧ P3 a1 a2 a3 a4 a5 ∧ P4 a1 a2 a3 a4 a5 ∧ P5 a1 a2 a3 a4 a5 := ⟨a1, a2, a3, a4, a5, h1, h2, h3, h4, h5⟩
theorem in_EAEEEEEAAAA {α1 : Sort _} {α2 : Sort _} {α3 : Sort _} {α4 : Sort _} {α5 : Sort _} {α6 : Sort _} {P1 : α1 → Prop} {P2 : α1 → α2 → α3 → α4 → α5 → α6 → Prop} {P3 : α1 → α2 → α3 → α4 → α5 → α6 → Prop} {P4 : α1 → α2 → α3 → α4 → α5 → α6 → Prop} {P5 : α1 → α2 → α3 → α4 → α5 → α6 → Prop} {P6 : α1 → α2 → α3 → α4 → α5 → α6 → Prop} (a1 : α1) (h1 : P1 a1) (a2 : α2) (a3 : α3) (a4 : α4) (a5 : α5) (a6 : α6) (h2 : P2 a1 a2 a3 a4 a5 a6) (h3 : P3 a1 a2 a3 a4 a5 a6) (h4 : P4 a1 a2 a3 a4 a5 a6) (h5 : P5 a1 a2 a3 a4 a5 a6) (h6 : P6 a1 a2 a3 a4 a5 a6) : ∃ a1, P1 a1 ∧ ∃ a2, ∃ a3, ∃ a4, ∃ a5, ∃ a6, P2 a1 a2 a3 a4 a5 a6 ∧ P3 a1 a2 a3 a4 a5 a6 ∧ P4 a1 a2 a3 a4 a5 a6 ∧ P5 a1 a2 a3 a4 a5 a6 ∧ P6 a1 a2 a3 a4 a5 a6 := ⟨a1, h1, a2, a3, a4, a5, a6, h2, h3, h4, h5, h6⟩
theorem in_EEEEEEEAAAAAA {α1 : Sort _} {α2 : Sort _} {α3 : Sort _} {α4 : Sort _} {α5 : Sort _} {α6 : Sort _} {α7 : Sort _} {P1 : α1 → α2 → α3 → α4 → α5 → α6 → α7 → Prop} {P2 : α1 → α2 → α3 → α4 → α5 → α6 → α7 → Prop} {P3 : α1 → α2 → α3 → α4 → α5 → α6 → α7 → Prop} {P4 : α1 → α2 → α3 → α4 → α5 → α6 → α7 → Prop} {P5 : α1 → α2 → α3 → α4 → α5 → α6 → α7 → Prop} {P6 : α1 → α2 → α3 → α4 → α5 → α6 → α7 → Prop} {P7 : α1 → α2 → α3 → α4 → α5 → α6 → α7 → Prop} (a1 : α1) (a2 : α2) (a3 : α3) (a4 : α4) (a5 : α5) (a6 : α6) (a7 : α7) (h1 : P1 a1 a2 a3 a4 a5 a6 a7) (h2 : P2 a1 a2 a3 a4 a5 a6 a7) (h3 : P3 a1 a2 a3 a4 a5 a6 a7) (h4 : P4 a1 a2 a3 a4 a5 a6 a7) (h5 : P5 a1 a2 a3 a4 a5 a6 a7) (h6 : P6 a1 a2 a3 a4 a5 a6 a7) (h7 : P7 a1 a2 a3 a4 a5 a6 a7) : ∃ a1, ∃ a2, ∃ a3, ∃ a4, ∃ a5, ∃ a6, ∃ a7, P1 a1 a2 a3 a4 a5 a6 a7 ∧ P2 a1 a2 a3 a4 a5 a6 a7 ∧ P3 a1 a2 a3 a4 a5 a6 a7 ∧ P4 a1 a2 a3 a4 a5 a6 a7 ∧ P5 a1 a2 a3 a4 a5 a6 a7 ∧ P6 a1 a2 a3 a4 a5 a6 a7 ∧ P7 a1 a2 a3 a4 a5 a6 a7 := ⟨a1, a2, a3, a4, a5, a6, a7, h1, h2, h3, h4, h5, h6, h7⟩
theorem in_AEEEEEEAAAAAAA {α1 : Sort _} {α2 : Sort _} {α3 : Sort _} {α4 : Sort _} {α5 : Sort _} {α6 : Sort _} {P1 : Prop} {P2 : α1 → α2 → α3 → α4 → α5 → α6 → Prop} {P3 : α1 → α2 → α3 → α4 → α5 → α6 → Prop} {P4 : α1 → α2 → α3 → α4 → α5 → α6 → Prop} {P5 : α1 → α2 → α3 → α4 → α5 → α6 → Prop} {P6 : α1 → α2 → α3 → α4 → α5 → α6 → Prop} {P7 : α1 → α2 → α3 → α4 → α5 → α6 → Prop} {P8 : α1 → α2 → α3 → α4 → α5 → α6 → Prop} {P9 : α1 → α2 → α3 → α4 → α5 → α6 → Prop} (h1 : P1) (a1 : α1) (a2 : α2) (a3 : α3) (a4 : α4) (a5 : α5) (a6 : α6) (h2 : P2 a1 a2 a3 a4 a5 a6) (h3 : P3 a1 a2 a3 a4 a5 a6) (h4 : P4 a1 a2 a3 a4 a5 a6) (h5 : P5 a1 a2 a3 a4 a5 a6) (h6 : P6 a1 a2 a3 a4 a5 a6) (h7 : P7 a1 a2 a3 a4 a5 a6) (h8 : P8 a1 a2 a3 a4 a5 a6) (h9 : P9 a1 a2 a3 a4 a5 a6) : P1 ∧ ∃ a1, ∃ a2, ∃ a3, ∃ a4, ∃ a5, ∃ a6, P2 a1 a2 a3 a4 a5 a6 ∧ P3 a1 a2 a3 a4 a5 a6 ∧ P4 a1 a2 a3 a4 a5 a6 ∧ P5 a1 a2 a3 a4 a5 a6 ∧ P6 a1 a2 a3 a4 a5 a6 ∧ P7 a1 a2 a3 a4 a5 a6 ∧ P8 a1 a2 a3 a4 a5 a6 ∧ P9 a1 a2 a3 a4 a5 a6 := ⟨h1, a1, a2, a3, a4, a5, a6, h2, h3, h4, h5, h6, h7, h8, h9⟩
theorem in_EEEEEEEEAAAAAA {α1 : Sort _} {α2 : Sort _} {α3 : Sort _} {α4 : Sort _} {α5 : Sort _} {α6 : Sort _} {α7 : Sort _} {α8 : Sort _} {P1 : α1 → α2 → α3 → α4 → α5 → α6 → α7 → α8 → Prop} {P2 : α1 → α2 → α3 → α4 → α5 → α6 → α7 → α8 → Prop} {P3 : α1 → α2 → α3 → α4 → α5 → α6 → α7 → α8 → Prop} {P4 : α1 → α2 → α3 → α4 → α5 → α6 → α7 → α8 → Prop} {P5 : α1 → α2 → α3 → α4 → α5 → α6 → α7 → α8 → Prop} {P6 : α1 → α2 → α3 → α4 → α5 → α6 → α7 → α8 → Prop} {P7 : α1 → α2 → α3 → α4 → α5 → α6 → α7 → α8 → Prop} (a1 : α1) (a2 : α2) (a3 : α3) (a4 : α4) (a5 : α5) (a6 : α6) (a7 : α7) (a8 : α8) (h1 : P1 a1 a2 a3 a4 a5 a6 a7 a8) (h2 : P2 a1 a2 a3 a4 a5 a6 a7 a8) (h3 : P3 a1 a2 a3 a4 a5 a6 a7 a8) (h4 : P4 a1 a2 a3 a4 a5 a6 a7 a8) (h5 : P5 a1 a2 a3 a4 a5 a6 a7 a8) (h6 : P6 a1 a2 a3 a4 a5 a6 a7 a8) (h7 : P7 a1 a2 a3 a4 a5 a6 a7 a8) : ∃ a1, ∃ a2, ∃ a3, ∃ a4, ∃ a5, ∃ a6, ∃ a7, ∃ a8, P1 a1 a2 a3 a4 a5 a6 a7 a8 ∧ P2 a1 a2 a3 a4 a5 a6 a7 a8 ∧ P3 a1 a2 a3 a4 a5 a6 a7 a8 ∧ P4 a1 a2 a3 a4 a5 a6 a7 a8 ∧ P5 a1 a2 a3 a4 a5 a6 a7 a8 ∧ P6 a1 a2 a3 a4 a5 a6 a7 a8 ∧ P7 a1 a2 a3 a4 a5 a6 a7 a8 := ⟨a1, a2, a3, a4, a5, a6, a7, a8, h1, h2, h3, h4, h5, h6, h7⟩
theorem in_AAEEEEEEEEAAAAAAA {α1 : Sort _} {α2 : Sort _} {α3 : Sort _} {α4 : Sort _} {α5 : Sort _} {α6 : Sort _} {α7 : Sort _} {α8 : Sort _} {P1 : Prop} {P2 : Prop} {P3 : α1 → α2 → α3 → α4 → α5 → α6 → α7 → α8 → Prop} {P4 : α1 → α2 → α3 → α4 → α5 → α6 → α7 → α8 → Prop} {P5 : α1 → α2 → α3 → α4 → α5 → α6 → α7 → α8 → Prop} {P6 : α1 → α2 → α3 → α4 → α5 → α6 → α7 → α8 → Prop} {P7 : α1 → α2 → α3 → α4 → α5 → α6 → α7 → α8 → Prop} {P8 : α1 → α2 → α3 → α4 → α5 → α6 → α7 → α8 → Prop} {P9 : α1 → α2 → α3 → α4 → α5 → α6 → α7 → α8 → Prop} {P10 : α1 → α2 → α3 → α4 → α5 → α6 → α7 → α8 → Prop} (h1 : P1) (h2 : P2) (a1 : α1) (a2 : α2) (a3 : α3) (a4 : α4) (a5 : α5) (a6 : α6) (a7 : α7) (a8 : α8) (h3 : P3 a1 a2 a3 a4 a5 a6 a7 a8) (h4 : P4 a1 a2 a3 a4 a5 a6 a7 a8) (h5 : P5 a1 a2 a3 a4 a5 a6 a7 a8) (h6 : P6 a1 a2 a3 a4 a5 a6 a7 a8) (h7 : P7 a1 a2 a3 a4 a5 a6 a7 a8) (h8 : P8 a1 a2 a3 a4 a5 a6 a7 a8) (h9 : P9 a1 a2 a3 a4 a5 a6 a7 a8) (h10 : P10 a1 a2 a3 a4 a5 a6 a7 a8) : P1 ∧ P2 ∧ ∃ a1, ∃ a2, ∃ a3, ∃ a4, ∃ a5, ∃ a6, ∃ a7, ∃ a8, P3 a1 a2 a3 a4 a5 a6 a7 a8 ∧ P4 a1 a2 a3 a4 a5 a6 a7 a8 ∧ P5 a1 a2 a3 a4 a5 a6 a7 a8 ∧ P6 a1 a2 a3 a4 a5 a6 a7 a8 ∧ P7 a1 a2 a3 a4 a5 a6 a7 a8 ∧ P8 a1 a2 a3 a4 a5 a6 a7 a8 ∧ P9 a1 a2 a3 a4 a5 a6 a7 a8 ∧ P10 a1 a2 a3 a4 a5 a6 a7 a8 := ⟨h1, h2, a1, a2, a3, a4, a5, a6, a7, a8, h3, h4, h5, h6, h7, h8, h9, h10⟩
theorem in_AEEEEEEEEAAAAAAAAA {α1 : Sort _} {α2 : Sort _} {α3 : Sort _} {α4 : Sort _} {α5 : Sort _} {α6 : Sort _} {α7 : Sort _} {α8 : Sort _} {P1 : Prop} {P2 : α1 → α2 → α3 → α4 → α5 → α6 → α7 → α8 → Prop} {P3 : α1 → α2 → α3 → α4 → α5 → α6 → α7 → α8 → Prop} {P4 : α1 → α2 → α3 → α4 → α5 → α6 → α7 → α8 → Prop} {P5 : α1 → α2 → α3 → α4 → α5 → α6 → α7 → α8 → Prop} {P6 : α1 → α2 → α3 → α4 → α5 → α6 → α7 → α8 → Prop} {P7 : α1 → α2 → α3 → α4 → α5 → α6 → α7 → α8 → Prop} {P8 : α1 → α2 → α3 → α4 → α5 → α6 → α7 → α8 → Prop} {P9 : α1 → α2 → α3 → α4 → α5 → α6 → α7 → α8 → Prop} {P10 : α1 → α2 → α3 → α4 → α5 → α6 → α7 → α8 → Prop} {P11 : α1 → α2 → α3 → α4 → α5 → α6 → α7 → α8 → Prop} (h1 : P1) (a1 : α1) (a2 : α2) (a3 : α3) (a4 : α4) (a5 : α5) (a6 : α6) (a7 : α7) (a8 : α8) (h2 : P2 a1 a2 a3 a4 a5 a6 a7 a8) (h3 : P3 a1 a2 a3 a4 a5 a6 a7 a8) (h4 : P4 a1 a2 a3 a4 a5 a6 a7 a8) (h5 : P5 a1 a2 a3 a4 a5 a6 a7 a8) (h6 : P6 a1 a2 a3 a4 a5 a6 a7 a8) (h7 : P7 a1 a2 a3 a4 a5 a6 a7 a8) (h8 : P8 a1 a2 a3 a4 a5 a6 a7 a8) (h9 : P9 a1 a2 a3 a4 a5 a6 a7 a8) (h10 : P10 a1 a2 a3 a4 a5 a6 a7 a8) (h11 : P11 a1 a2 a3 a4 a5 a6 a7 a8) : P1 ∧ ∃ a1, ∃ a2, ∃ a3, ∃ a4, ∃ a5, ∃ a6, ∃ a7, ∃ a8, P2 a1 a2 a3 a4 a5 a6 a7 a8 ∧ P3 a1 a2 a3 a4 a5 a6 a7 a8 ∧ P4 a1 a2 a3 a4 a5 a6 a7 a8 ∧ P5 a1 a2 a3 a4 a5 a6 a7 a8 ∧ P6 a1 a2 a3 a4 a5 a6 a7 a8 ∧ P7 a1 a2 a3 a4 a5 a6 a7 a8 ∧ P8 a1 a2 a3 a4 a5 a6 a7 a8 ∧ P9 a1 a2 a3 a4 a5 a6 a7 a8 ∧ P10 a1 a2 a3 a4 a5 a6 a7 a8 ∧ P11 a1 a2 a3 a4 a5 a6 a7 a8 := ⟨h1, a1, a2, a3, a4, a5, a6, a7, a8, h2, h3, h4, h5, h6, h7, h8, h9, h10, h11⟩
theorem in_AAAAAEEEEEEAAAAAAAA {α1 : Sort _} {α2 : Sort _} {α3 : Sort _} {α4 : Sort _} {α5 : Sort _} {α6 : Sort _} {P1 : Prop} {P2 : Prop} {P3 : Prop} {P4 : Prop} {P5 : Prop} {P6 : α1 → α2 → α3 → α4 → α5 → α6 → Prop} {P7 : α1 → α2 → α3 → α4 → α5 → α6 → Prop} {P8 : α1 → α2 → α3 → α4 → α5 → α6 → Prop} {P9 : α1 → α2 → α3 → α4 → α5 → α6 → Prop} {P10 : α1 → α2 → α3 → α4 → α5 → α6 → Prop} {P11 : α1 → α2 → α3 → α4 → α5 → α6 → Prop} {P12 : α1 → α2 → α3 → α4 → α5 → α6 → Prop} {P13 : α1 → α2 → α3 → α4 → α5 → α6 → Prop} {P14 : α1 → α2 → α3 → α4 → α5 → α6 → Prop} (h1 : P1) (h2 : P2) (h3 : P3) (h4 : P4) (h5 : P5) (a1 : α1) (a2 : α2) (a3 : α3) (a4 : α4) (a5 : α5) (a6 : α6) (h6 : P6 a1 a2 a3 a4 a5 a6) (h7 : P7 a1 a2 a3 a4 a5 a6) (h8 : P8 a1 a2 a3 a4 a5 a6) (h9 : P9 a1 a2 a3 a4 a5 a6) (h10 : P10 a1 a2 a3 a4 a5 a6) (h11 : P11 a1 a2 a3 a4 a5 a6) (h12 : P12 a1 a2 a3 a4 a5 a6) (h13 : P13 a1 a2 a3 a4 a5 a6) (h14 : P14 a1 a2 a3 a4 a5 a6) : P1 ∧ P2 ∧ P3 ∧ P4 ∧ P5 ∧ ∃ a1, ∃ a2, ∃ a3, ∃ a4, ∃ a5, ∃ a6, P6 a1 a2 a3 a4 a5 a6 ∧ P7 a1 a2 a3 a4 a5 a6 ∧ P8 a1 a2 a3 a4 a5 a6 ∧ P9 a1 a2 a3 a4 a5 a6 ∧ P10 a1 a2 a3 a4 a5 a6 ∧ P11 a1 a2 a3 a4 a5 a6 ∧ P12 a1 a2 a3 a4 a5 a6 ∧ P13 a1 a2 a3 a4 a5 a6 ∧ P14 a1 a2 a3 a4 a5 a6 := ⟨h1, h2, h3, h4, h5, a1, a2, a3, a4, a5, a6, h6, h7, h8, h9, h10, h11, h12, h13, h14⟩
end Mine
end

section
open PySem PySem.W PyProof.Rows PySem.Calls
set_option Elab.async false
set_option linter.unusedVariables false
namespace Mine

noncomputable abbrev View := Addr → Option Obj
noncomputable def View.le (V V' : View) : Prop := ∀ b o, V b = some o → V' b = some o
theorem View.le.rfl {V : View} : V.le V := fun _ _ e => e
theorem View.le.trans {V V' V'' : View} (a : V.le V') (b : V'.le V'') : V.le V'' := fun x o e => b x o (a x o e)

noncomputable abbrev lst (xs : List Value) (n : Nat) : Obj := { cls := .type "list", data := .seq xs.toArray n }
noncomputable abbrev tup (xs : List Value) (n : Nat) : Obj := { cls := .type "tuple", data := .seq xs.toArray n }
noncomputable abbrev cel (v : Option Value) : Obj := { cls := .type "cell", data := .cell v }

noncomputable def TT : List Addr := [128, 123, 109, 133]
noncomputable def TQ : List (Addr × Str) := [(128, "_law_due.<locals>.<lambda>"), (123, "_law_pass.<locals>.<lambda>"), (109, "_law_held.<locals>.<lambda>"), (133, "law.<locals>.<lambda>")]

noncomputable def tabOk (h : Heap) (P : Addr) (q : Str) : Prop :=
  ∃ ps, h.get? P = some (tabObj ps) ∧ TriplesOk ps.toList ∧ ∀ pos cv, codeAmong pos ps.toList = some cv → ∃ c', cv = .ref c' ∧ h.CodeRec (.ref c') q
noncomputable def TabsOk (h : Heap) : Prop := ∀ p ∈ TQ, tabOk h p.1 p.2

noncomputable def stab (o : Obj) : Bool := match o.data with
  | .fields vs => (match o.cls with | .none => true | _ => (match (vs[1]? : Option Value) with | some (.str _ _) => true | _ => false))
  | _ => false

theorem stab_code {o : Obj} {vs : Array Value} {q : Str} {t : Tok} (hd : o.data = .fields vs) (h1 : vs[1]? = some (.str q t)) : stab o = true := by
  unfold stab
  rw [hd]; dsimp only
  split
  · rfl
  · rw [h1]
theorem stab_ns {h : Heap} {L : Addr} {m : Str → Option Value} (hn : h.Ns L m) {o : Obj} (e : h.get? L = some o) : stab o = false := by
  refine el_EEEAA (hn) fun o' es ep e' hd _ => ?_; try clear hn
  rw [e] at e'; cases e'
  unfold stab; rw [hd]
theorem stab_tab (ps : Array Value) : stab (tabObj ps) = true := rfl

theorem tabOk.mono {h h' : Heap} {P : Addr} {q : Str} (x : tabOk h P q) (k : ∀ b o, stab o = true → h.get? b = some o → h'.get? b = some o) : tabOk h' P q := by
  refine el_EAA (x) fun ps e t c => ?_; try clear x
  refine ⟨ps, k _ _ rfl e, t, fun pos cv hc => ?_⟩
  refine el_EAEEEEAAA (c pos cv hc) fun c' hR1 c₁ o vs tk e1 e2 e3 e4 => ?_; subst hR1
  exact (in_EAEEEEAAA c' rfl c₁ o vs tk e1 (k _ _ (stab_code e3 e4) e2) e3 e4)
theorem TabsOk.mono {h h' : Heap} (x : TabsOk h) (k : ∀ b o, stab o = true → h.get? b = some o → h'.get? b = some o) : TabsOk h' := fun p hp => (x p hp).mono k
theorem TabsOk.get {h : Heap} (x : TabsOk h) {P : Addr} (hP : P ∈ TT) : ∃ ps, h.get? P = some (tabObj ps) := by
  have hq : ∃ q, (P, q) ∈ TQ := by
    simp only [TT, List.mem_cons, List.not_mem_nil, or_false] at hP
    rcases hP with rfl | rfl | rfl | rfl
    · exact ⟨_, .head _⟩
    · exact ⟨_, .tail _ (.head _)⟩
    · exact ⟨_, .tail _ (.tail _ (.head _))⟩
    · exact ⟨_, .tail _ (.tail _ (.tail _ (.head _)))⟩
  refine el_E (hq) fun q hq => ?_
  refine el_EA (x _ hq) fun ps e _ => ?_
  exact ⟨ps, e⟩

structure Stp (W : List Addr) (s s' : Shared) : Prop where
  keep : ∀ b o, b ∉ W → b ∉ TT → s.heap.get? b = some o → s'.heap.get? b = some o
  tab : TabsOk s'.heap
  gens : s'.gens = s.gens
  os : s'.os = s.os

theorem Stp.refl {W : List Addr} {s : Shared} (h : TabsOk s.heap) : Stp W s s := ⟨fun _ _ _ _ e => e, h, rfl, rfl⟩
theorem Stp.trans {W : List Addr} {s s' s'' : Shared} (a : Stp W s s') (b : Stp W s' s'') : Stp W s s'' :=
  ⟨fun x o h1 h2 e => b.keep x o h1 h2 (a.keep x o h1 h2 e), b.tab, b.gens.trans a.gens, b.os.trans a.os⟩

structure Bd (g : Heap) (s₀ : Shared) (W : List Addr) (V : View) (mu : List (Addr × Obj)) (L : Addr) (m : Str → Option Value) (t : Shared) : Prop where
  st : Stp W s₀ t
  base : ∀ b o, g.get? b = some o → V b = some o
  see : ∀ b o, V b = some o → t.heap.get? b = some o
  ns : t.heap.Ns L m
  offL : V L = none
  newL : s₀.heap.get? L = none
  mus : ∀ p ∈ mu, t.heap.get? p.1 = some p.2 ∧ V p.1 = none ∧ p.1 ≠ L ∧ stab p.2 = false ∧ (p.1 ∈ W ∨ s₀.heap.get? p.1 = none)
  nd : (mu.map (·.1)).Nodup
  offT : ∀ P ∈ TT, V P = none
  all : ∀ b o, s₀.heap.get? b = some o → b ∈ W ∨ b ∈ TT ∨ V b = some o
  wmu : ∀ b ∈ W, b ∈ mu.map (·.1)

section
variable {g : Heap} {s₀ t : Shared} {W : List Addr} {V : View} {mu : List (Addr × Obj)} {L a : Addr} {o : Obj} {m : Str → Option Value}

theorem Bd.neT (D : Bd g s₀ W V mu L m t) {P : Addr} (hP : P ∈ TT) : P ≠ L ∧ P ∉ mu.map (·.1) := by
  refine el_E (D.st.tab.get hP) fun ps e => ?_
  constructor
  · rintro rfl
    refine el_EEEAA (D.ns) fun o' es ep e' hd _ => ?_
    rw [e] at e'; cases e'; cases hd
  · intro hm
    refine el_EA (List.mem_map.mp hm) fun p hp hR2 => ?_; subst hR2
    have := D.mus p hp
    rw [e] at this
    have h1 := Option.some.inj this.1
    have h2 := this.2.2.2.1
    rw [← h1] at h2; cases h2

/-- objects of the entry state are still there -/
theorem Bd.there (D : Bd g s₀ W V mu L m t) {b : Addr} {o : Obj} (e : s₀.heap.get? b = some o) : ∃ o', t.heap.get? b = some o' := by
  rcases D.all b o e with h | h | h
  · refine el_EA (List.mem_map.mp (D.wmu b h)) fun p hp hR3 => ?_; subst hR3
    exact ⟨_, (D.mus p hp).1⟩
  · refine el_E (D.st.tab.get h) fun ps e => ?_
    exact ⟨_, e⟩
  · exact ⟨_, D.see _ _ h⟩
theorem Bd.fresh (D : Bd g s₀ W V mu L m t) {b : Addr} (e : t.heap.get? b = none) : s₀.heap.get? b = none := by
  cases q : s₀.heap.get? b with
  | none => rfl
  | some o =>
    refine el_E (D.there q) fun o' e' => ?_
    rw [e] at e'; cases e'

theorem get_size (h : Heap) : h.get? h.objs.size = none := by
  cases q : h.get? h.objs.size with
  | none => rfl
  | some o => exact absurd (Heap.lt_size q) (Nat.lt_irrefl _)

/-- the general move: all that stood is kept but the frame, the mutables and the tables -/
theorem Bd.move (D : Bd g s₀ W V mu L m t) {V' : View} {mu' : List (Addr × Obj)} {m' : Str → Option Value} {t' : Shared}
    (hV : V.le V') (hsee : ∀ b o, V' b = some o → t'.heap.get? b = some o) (hns : t'.heap.Ns L m') (hoffL : V' L = none) (hoffT : ∀ P ∈ TT, V' P = none)
    (hmu : ∀ p ∈ mu', t'.heap.get? p.1 = some p.2 ∧ V' p.1 = none ∧ p.1 ≠ L ∧ stab p.2 = false ∧ (p.1 ∈ W ∨ s₀.heap.get? p.1 = none))
    (hnd : (mu'.map (·.1)).Nodup) (hw : ∀ b ∈ W, b ∈ mu'.map (·.1)) (ht : TabsOk t'.heap) (hg : t'.gens = t.gens) (ho : t'.os = t.os) : Bd g s₀ W V' mu' L m' t' where
  st := ⟨fun b o h1 h2 e => by
    rcases D.all b o e with h | h | h
    · exact absurd h h1
    · exact absurd h h2
    · exact hsee _ _ (hV _ _ h), ht, hg.trans D.st.gens, ho.trans D.st.os⟩
  base := fun b o e => hV _ _ (D.base b o e)
  see := hsee
  ns := hns
  offL := hoffL
  newL := D.newL
  mus := hmu
  nd := hnd
  offT := hoffT
  all := fun b o e => (D.all b o e).imp id fun h => h.imp id fun h => hV _ _ h
  wmu := hw

theorem Bd.tok (D : Bd g s₀ W V mu L m t) (n : Nat) : Bd g s₀ W V mu L m { t with toks := n } :=
  D.move .rfl D.see D.ns D.offL D.offT D.mus D.nd D.wmu D.st.tab rfl rfl

theorem Bd.frame (D : Bd g s₀ W V mu L m t) {m' : Str → Option Value} {h' : Heap} {n : Nat} (hn : h'.Ns L m') (hs : Heap.SameBut L t.heap h') : Bd g s₀ W V mu L m' { t with heap := h', toks := n } :=
  D.move .rfl (fun b o e => (hs.2 b (fun q => by rw [q, D.offL] at e; cases e)).trans (D.see b o e)) hn D.offL D.offT
    (fun p hp => ⟨(hs.2 _ (D.mus p hp).2.2.1).trans (D.mus p hp).1, (D.mus p hp).2⟩) D.nd D.wmu
    (D.st.tab.mono fun b o h1 e => (hs.2 b (fun q => by rw [q] at e; rw [stab_ns D.ns e] at h1; cases h1)).trans e) rfl rfl

/-- garbage only -/
theorem Bd.grow (D : Bd g s₀ W V mu L m t) {h' : Heap} {n : Nat} (hk : ∀ b o, t.heap.get? b = some o → h'.get? b = some o) : Bd g s₀ W V mu L m { t with heap := h', toks := n } :=
  D.move .rfl (fun b o e => hk _ _ (D.see b o e)) (D.ns.keeps hk) D.offL D.offT (fun p hp => ⟨hk _ _ (D.mus p hp).1, (D.mus p hp).2⟩) D.nd D.wmu (D.st.tab.mono fun b o _ e => hk b o e) rfl rfl

theorem Bd.mu_lt (D : Bd g s₀ W V mu L m t) {a : Addr} (hm : a ∈ mu.map (·.1)) : ∃ o, t.heap.get? a = some o := by
  refine el_EA (List.mem_map.mp hm) fun p hp hR4 => ?_; subst hR4
  exact ⟨_, (D.mus p hp).1⟩

/-- a new object, never changed -/
theorem Bd.new (D : Bd g s₀ W V mu L m t) {a : Addr} {o : Obj} {h' : Heap} {n : Nat} (ha : t.heap.get? a = none) (ho : h'.get? a = some o) (hk : ∀ b o, t.heap.get? b = some o → h'.get? b = some o) :
    ∃ V', V.le V' ∧ V' a = some o ∧ V a = none ∧ s₀.heap.get? a = none ∧ Bd g s₀ W V' mu L m { t with heap := h', toks := n } := by
  have hVa : V a = none := by
    cases q : V a with
    | none => rfl
    | some o' => rw [D.see _ _ q] at ha; cases ha
  have hLa : L ≠ a := by rintro rfl; refine el_EEEA (D.ns) fun o' _ _ e' _ => ?_; rw [ha] at e'; cases e'
  refine (in_EAAAA (fun b => if b = a then some o else V b) (fun b o' e => ?_) (if_pos rfl) hVa (D.fresh ha) ?_)
  · show (if b = a then some o else V b) = some o'
    rw [if_neg (fun q => by rw [q, hVa] at e; cases e)]; exact e
  · refine D.move (fun b o' e => ?_) (fun b o' e => ?_) (D.ns.keeps hk) (by show (if L = a then some o else V L) = none; rw [if_neg hLa]; exact D.offL) (fun P hP => ?_) (fun p hp => ?_) D.nd D.wmu (D.st.tab.mono fun b o _ e => hk b o e) rfl rfl
    · show (if b = a then some o else V b) = some o'
      rw [if_neg (fun q => by rw [q, hVa] at e; cases e)]; exact e
    · by_cases q : b = a
      · subst b; simp only [if_true] at e; cases e; exact ho
      · simp only [q, if_false] at e; exact hk _ _ (D.see _ _ e)
    · have : P ≠ a := by rintro rfl; refine el_E (D.st.tab.get hP) fun ps e => ?_; rw [ha] at e; cases e
      show (if P = a then some o else V P) = none
      rw [if_neg this]; exact D.offT P hP
    · have z := D.mus p hp
      refine (in_AA (hk _ _ z.1) ?_ z.2.2)
      have : p.1 ≠ a := by intro q; have := z.1; rw [q, ha] at this; cases this
      show (if p.1 = a then some o else V p.1) = none
      rw [if_neg this]; exact z.2.1

/-- a new object that will change -/
theorem Bd.newMu (D : Bd g s₀ W V mu L m t) {a : Addr} {o : Obj} {h' : Heap} {n : Nat} (ha : t.heap.get? a = none) (ho : h'.get? a = some o) (hk : ∀ b o, t.heap.get? b = some o → h'.get? b = some o) (hs : stab o = false) :
    Bd g s₀ W V ((a, o) :: mu) L m { t with heap := h', toks := n } := by
  have hLa : a ≠ L := by rintro rfl; refine el_EEEA (D.ns) fun o' _ _ e' _ => ?_; rw [ha] at e'; cases e'
  have hVa : V a = none := by
    cases q : V a with
    | none => rfl
    | some o' => rw [D.see _ _ q] at ha; cases ha
  refine D.move .rfl (fun b o e => hk _ _ (D.see b o e)) (D.ns.keeps hk) D.offL D.offT (fun p hp => ?_) ?_ (fun b hb => List.mem_cons_of_mem _ (D.wmu b hb)) (D.st.tab.mono fun b o _ e => hk b o e) rfl rfl
  · rcases List.mem_cons.mp hp with rfl | hp
    · exact (in_AAAA ho hVa hLa hs (.inr (D.fresh ha)))
    · exact ⟨hk _ _ (D.mus p hp).1, (D.mus p hp).2⟩
  · rw [List.map_cons, List.nodup_cons]
    refine ⟨fun hm => ?_, D.nd⟩
    refine el_E (D.mu_lt hm) fun o' e' => ?_
    rw [ha] at e'; cases e'

theorem set_map_fst : ∀ {l : List (Addr × Obj)} {i : Nat} {a : Addr} {o o' : Obj}, l[i]? = some (a, o) → (l.set i (a, o')).map (·.1) = l.map (·.1)
  | [], _, _, _, _, h => by cases h
  | x :: l, 0, a, o, o', h => by cases h; rfl
  | x :: l, i + 1, a, o, o', h => by
    show x.1 :: (l.set i (a, o')).map (·.1) = x.1 :: l.map (·.1)
    rw [set_map_fst (o := o) (by simpa using h)]
theorem mem_set_cases : ∀ {l : List (Addr × Obj)} {i : Nat} {a : Addr} {o o' : Obj} {p : Addr × Obj}, (l.map (·.1)).Nodup → l[i]? = some (a, o) → p ∈ l.set i (a, o') → p = (a, o') ∨ (p ∈ l ∧ p.1 ≠ a)
  | [], _, _, _, _, _, _, h, _ => by cases h
  | x :: l, 0, a, o, o', p, hn, h, hp => by
    cases h
    rw [List.map_cons, List.nodup_cons] at hn
    rcases List.mem_cons.mp hp with rfl | hp
    · exact .inl rfl
    · exact .inr ⟨.tail _ hp, fun q => hn.1 (List.mem_map.mpr (in_EA p hp q))⟩
  | x :: l, i + 1, a, o, o', p, hn, h, hp => by
    rw [List.map_cons, List.nodup_cons] at hn
    have h' : l[i]? = some (a, o) := by simpa using h
    rcases List.mem_cons.mp hp with rfl | hp
    · exact .inr ⟨.head _, fun q => hn.1 (by rw [q]; exact List.mem_map_of_mem (f := (·.1)) (List.mem_of_getElem? h'))⟩
    · exact (mem_set_cases hn.2 h' hp).imp id fun z => ⟨.tail _ z.1, z.2⟩

/-- a mutable changes -/
theorem Bd.upd (D : Bd g s₀ W V mu L m t) (i : Nat) {a : Addr} {o o' : Obj} {h' : Heap} {n : Nat} (hi : mu[i]? = some (a, o)) (ho : h'.get? a = some o') (hk : Heap.ExtBut a t.heap h') (hs : stab o' = false) :
    Bd g s₀ W V (mu.set i (a, o')) L m { t with heap := h', toks := n } := by
  have z := D.mus _ (List.mem_of_getElem? hi)
  refine D.move .rfl (fun b o e => hk b o (fun q => by rw [q, z.2.1] at e; cases e) (D.see b o e)) (D.ns.extBut hk z.2.2.1.symm) D.offL D.offT (fun p hp => ?_) ?_ (fun b hb => ?_)
    (D.st.tab.mono fun b o h1 e => hk b o (fun q => by rw [q, z.1] at e; cases e; rw [z.2.2.2.1] at h1; cases h1) e) rfl rfl
  · rcases mem_set_cases D.nd hi hp with rfl | ⟨hp, hne⟩
    · exact (in_AAAA ho z.2.1 z.2.2.1 hs z.2.2.2.2)
    · exact ⟨hk _ _ hne (D.mus p hp).1, (D.mus p hp).2⟩
  · rw [set_map_fst hi]; exact D.nd
  · rw [set_map_fst hi]; exact D.wmu b hb

/-- a mutable is dropped (it may have changed) -/
theorem Bd.drop (D : Bd g s₀ W V ((a, o) :: mu) L m t) {h' : Heap} {n : Nat} (hk : Heap.ExtBut a t.heap h') (hw : a ∉ W) : Bd g s₀ W V mu L m { t with heap := h', toks := n } := by
  have z := D.mus _ (.head _)
  have nd := D.nd
  rw [List.map_cons, List.nodup_cons] at nd
  refine D.move .rfl (fun b o e => hk b o (fun q => by rw [q, z.2.1] at e; cases e) (D.see b o e)) (D.ns.extBut hk z.2.2.1.symm) D.offL D.offT (fun p hp => ?_) nd.2 (fun b hb => ?_)
    (D.st.tab.mono fun b o h1 e => hk b o (fun q => by rw [q, z.1] at e; cases e; rw [z.2.2.2.1] at h1; cases h1) e) rfl rfl
  · have y := D.mus p (.tail _ hp)
    exact ⟨hk _ _ (fun q => nd.1 (List.mem_map.mpr (in_EA p hp q))) y.1, y.2⟩
  · have := D.wmu b hb
    rw [List.map_cons] at this
    rcases List.mem_cons.mp this with q | q
    · exact absurd (show a ∈ W from (show b = a from q) ▸ hb) hw
    · exact q

/-- a mutable becomes fixed -/
theorem Bd.fix (D : Bd g s₀ W V ((a, o) :: mu) L m t) (hw : a ∉ W) : ∃ V', V.le V' ∧ V' a = some o ∧ s₀.heap.get? a = none ∧ Bd g s₀ W V' mu L m t := by
  have z := D.mus _ (.head _)
  have nd := D.nd
  rw [List.map_cons, List.nodup_cons] at nd
  have le : V.le (fun b => if b = a then some o else V b) := fun b o' e => by
    show (if b = a then some o else V b) = some o'
    rw [if_neg (fun q => by rw [q, z.2.1] at e; cases e)]; exact e
  refine (in_EAAA _ le (if_pos rfl) (z.2.2.2.2.resolve_left hw) (D.move le (fun b o' e => ?_) D.ns (by show (if L = a then some o else V L) = none; rw [if_neg z.2.2.1.symm]; exact D.offL) (fun P hP => ?_) (fun p hp => ?_) nd.2 (fun b hb => ?_) D.st.tab rfl rfl))
  · by_cases q : b = a
    · subst b; simp only [if_true] at e; cases e; exact z.1
    · simp only [q, if_false] at e; exact D.see _ _ e
  · have : P ≠ a := by rintro rfl; exact (D.neT hP).2 (by rw [List.map_cons]; exact .head _)
    show (if P = a then some o else V P) = none
    rw [if_neg this]; exact D.offT P hP
  · have y := D.mus p (.tail _ hp)
    refine (in_AA y.1 ?_ y.2.2)
    show (if p.1 = a then some o else V p.1) = none
    rw [if_neg (fun q => nd.1 (List.mem_map.mpr (in_EA p hp q)))]; exact y.2.1
  · have := D.wmu b hb
    rw [List.map_cons] at this
    rcases List.mem_cons.mp this with q | q
    · exact absurd (show a ∈ W from (show b = a from q) ▸ hb) hw
    · exact q

/-- behind a call that changes some of the mutables -/
theorem Bd.after (D : Bd g s₀ W V mu L m t) {W' : List Addr} {t' : Shared} {mu' : List (Addr × Obj)} (st : Stp W' t t') (hm : mu'.map (·.1) = mu.map (·.1)) (hW : ∀ b ∈ W', b ∈ mu.map (·.1))
    (hmu : ∀ p ∈ mu', t'.heap.get? p.1 = some p.2 ∧ stab p.2 = false) :
    ∃ V', V.le V' ∧ (∀ b o, t'.heap.get? b = some o → t.heap.get? b = none → V' b = some o ∧ V b = none ∧ s₀.heap.get? b = none) ∧ Bd g s₀ W V' mu' L m t' := by
  have hLW : L ∉ W' := fun h => by
    refine el_EA (List.mem_map.mp (hW L h)) fun p hp e => ?_
    exact (D.mus p hp).2.2.1 e
  have hVW : ∀ b o, V b = some o → b ∉ W' := fun b o e h => by
    refine el_EA (List.mem_map.mp (hW b h)) fun p hp e' => ?_
    have := (D.mus p hp).2.1; rw [e', e] at this; cases this
  have hVT : ∀ b o, V b = some o → b ∉ TT := fun b o e h => by rw [D.offT b h] at e; cases e
  have keepV : ∀ b o, V b = some o → t'.heap.get? b = some o := fun b o e => st.keep b o (hVW b o e) (hVT b o e) (D.see b o e)
  have le : V.le (fun b => if t.heap.get? b = none then t'.heap.get? b else V b) := fun b o e => by
    show (if t.heap.get? b = none then t'.heap.get? b else V b) = some o
    rw [if_neg (by rw [D.see b o e]; exact Option.some_ne_none _)]; exact e
  refine el_EEEA (D.ns) fun oL es ep eL rL => ?_
  have hLt : L ∉ TT := fun h => (D.neT h).1 rfl
  refine (in_EAA _ le (fun b o e h => (in_AA (by show (if t.heap.get? b = none then t'.heap.get? b else V b) = some o; rw [if_pos h]; exact e) ?_ (D.fresh h))) ?_)
  · cases q : V b with
    | none => rfl
    | some o' => rw [D.see _ _ q] at h; cases h
  · refine D.move le (fun b o e => ?_) ⟨oL, es, ep, st.keep _ _ hLW hLt eL, rL⟩ ?_ (fun P hP => ?_) (fun p hp => ?_) (by rw [hm]; exact D.nd) (fun b hb => by rw [hm]; exact D.wmu b hb) st.tab st.gens st.os
    · by_cases q : t.heap.get? b = none
      · simp only [q, if_true] at e; exact e
      · simp only [q, if_false] at e; exact keepV b o e
    · show (if t.heap.get? L = none then t'.heap.get? L else V L) = none
      rw [if_neg (by rw [eL]; exact Option.some_ne_none _)]; exact D.offL
    · refine el_E (D.st.tab.get hP) fun ps e => ?_
      show (if t.heap.get? P = none then t'.heap.get? P else V P) = none
      rw [if_neg (by rw [e]; exact Option.some_ne_none _)]; exact D.offT P hP
    · have hp1 : p.1 ∈ mu.map (·.1) := by rw [← hm]; exact List.mem_map_of_mem hp
      refine el_EA (List.mem_map.mp hp1) fun p' hp' e' => ?_
      have z := D.mus p' hp'
      rw [e'] at z
      refine (in_AAAA ((hmu p hp).1) ?_ z.2.2.1 ((hmu p hp).2) z.2.2.2.2)
      show (if t.heap.get? p.1 = none then t'.heap.get? p.1 else V p.1) = none
      rw [if_neg (by rw [z.1]; exact Option.some_ne_none _)]; exact z.2.1

/-- behind a pure call -/
theorem Bd.pure (D : Bd g s₀ W V mu L m t) {t' : Shared} (st : Stp [] t t') :
    ∃ V', V.le V' ∧ (∀ b o, t'.heap.get? b = some o → t.heap.get? b = none → V' b = some o ∧ V b = none ∧ s₀.heap.get? b = none) ∧ Bd g s₀ W V' mu L m t' :=
  D.after st rfl (fun _ h => nomatch h) fun p hp => ⟨st.keep _ _ (fun h => nomatch h) (fun h => (D.neT h).2 (List.mem_map_of_mem hp)) (D.mus p hp).1, (D.mus p hp).2.2.2.1⟩

end
end Mine
end

section
open PySem PySem.W PyProof.Rows PySem.Calls
set_option Elab.async false
set_option linter.unusedVariables false
namespace Mine
set_option maxRecDepth 100000

structure Bs (w : World) (mg mb : Str → Option Value) (g : Heap) : Prop where
  K : (hd.heap_39 w.params).In g
  ng : g.Ns mainGlobals mg
  nb : g.Ns builtinsNs mb
  nolimit : g.NoLimit
  bi : ∀ x : Str, x ≠ "__name__" → mb x = bootBuiltins x
  bm : ∃ bm ob, mg "__builtins__" = some (.ref bm) ∧ bm ≠ builtinsNs ∧ g.get? bm = some ob ∧ ob.cls = .type "module" ∧ ob.dict = some builtinsNs ∧ ob.data = .plain
  noT : ∀ P ∈ TT, g.get? P = none
  heads : ∀ p ∈ ([(130, 128), (125, 123), (113, 109), (135, 133)] : List (Addr × Addr)), CodeHd g p.1 p.2

structure Wd (g : Heap) (s : Shared) : Prop where
  base : ∀ b o, g.get? b = some o → s.heap.get? b = some o
  tab : TabsOk s.heap

structure Ok (A : Around) (d : Nat) : Prop where
  h : A.handled = none
  depth : A.depth + d < recursionLimit
  units : A.units + 10 * d < cLine

theorem Ok.deeper {A : Around} {d : Nat} (x : Ok A (d + 1)) (env : Env) : Ok (A.deeper env) d :=
  ⟨x.h, by have := x.depth; show A.depth + 1 + d < _; lia, by have := x.units; show A.units + 3 + 10 * d < _; lia⟩
theorem Ok.in1 {A : Around} {d : Nat} (x : Ok A (d + 1)) : Ok A.in1 d :=
  ⟨x.h, by have := x.depth; show A.depth + d < _; (exact Nat.le_of_lt (by assumption)), by have := x.units; show A.units + 1 + 10 * d < _; lia⟩
theorem Ok.le {A : Around} {d d' : Nat} (x : Ok A d) (h : d' ≤ d) : Ok A d' :=
  ⟨x.h, by have := x.depth; lia, by have := x.units; lia⟩
theorem Ok.room {A : Around} {d : Nat} (x : Ok A d) : A.depth < recursionLimit := by have := x.depth; lia
theorem Ok.cl {A : Around} {d : Nat} (x : Ok A d) : A.units < cLine := by have := x.units; lia

noncomputable abbrev NoE : Value → Shared → Prop := fun _ _ => False

theorem noBeta {p : Prop} (h : p) : p := h
theorem hide2 (P : Nat → Shared → Prop) : ∃ J : Nat → Shared → Prop, (∀ i t, P i t → J i t) ∧ (∀ i t, J i t → P i t) := (in_EA P (fun _ _ h => h) (fun _ _ h => h))
/-- a post made opaque -/
theorem cutK {α : Type} {M : Model} {A : Around} {x : Sem α} {Q : α → Shared → Prop} {E : Value → Shared → Prop} {t : Shared} (h : ∀ K : α → Shared → Prop, (∀ v t', Q v t' → K v t') → wpAny M A x K E t) : wpAny M A x Q E t := h Q fun _ _ h => h
theorem seqK {M : Model} {A : Around} {st : Stmt} {rest : List Stmt} {env : Env} {Q : Flow → Shared → Prop} {E : Value → Shared → Prop} {t : Shared} (h : ∀ K : Flow → Shared → Prop, (∀ t', wpAny M A (execs rest env) Q E t' → K .next t') → wpAny M A (exec st env) K E t) : wpAny M A (execs (st :: rest) env) Q E t := wpAny_execs_cons (h _ fun _ h => h)

section
variable {w : World} {mg mb : Str → Option Value} {g : Heap}
theorem Bs.g_insort_right (B : Bs w mg mb g) : mg "insort_right" = some (.ref 23) := mg_of B.K B.ng rfl
theorem Bs.g_bisect_right (B : Bs w mg mb g) : mg "bisect_right" = some (.ref 32) := mg_of B.K B.ng rfl
theorem Bs.g_insort_left (B : Bs w mg mb g) : mg "insort_left" = some (.ref 41) := mg_of B.K B.ng rfl
theorem Bs.g_bisect_left (B : Bs w mg mb g) : mg "bisect_left" = some (.ref 50) := mg_of B.K B.ng rfl
theorem Bs.g_TupleComp (B : Bs w mg mb g) : mg "TupleComp" = some (.ref 74) := mg_of B.K B.ng rfl
theorem Bs.g_law_rows (B : Bs w mg mb g) : mg "_law_rows" = some (.ref 83) := mg_of B.K B.ng rfl
theorem Bs.g_law_keys (B : Bs w mg mb g) : mg "_law_keys" = some (.ref 90) := mg_of B.K B.ng rfl
theorem Bs.g_law_ranks (B : Bs w mg mb g) : mg "_law_ranks" = some (.ref 95) := mg_of B.K B.ng rfl
theorem Bs.g_law_steps (B : Bs w mg mb g) : mg "_law_steps" = some (.ref 100) := mg_of B.K B.ng rfl
theorem Bs.g_law_told (B : Bs w mg mb g) : mg "_law_told" = some (.ref 107) := mg_of B.K B.ng rfl
theorem Bs.g_law_held (B : Bs w mg mb g) : mg "_law_held" = some (.ref 114) := mg_of B.K B.ng rfl
theorem Bs.g_law_both (B : Bs w mg mb g) : mg "_law_both" = some (.ref 121) := mg_of B.K B.ng rfl
theorem Bs.g_law_pass (B : Bs w mg mb g) : mg "_law_pass" = some (.ref 126) := mg_of B.K B.ng rfl
theorem Bs.g_law_due (B : Bs w mg mb g) : mg "_law_due" = some (.ref 131) := mg_of B.K B.ng rfl
theorem Bs.n_len (B : Bs w mg mb g) : mg "len" = none := mg_none_of B.K B.ng rfl
theorem Bs.n_range (B : Bs w mg mb g) : mg "range" = none := mg_none_of B.K B.ng rfl
theorem Bs.n_list (B : Bs w mg mb g) : mg "list" = none := mg_none_of B.K B.ng rfl
theorem Bs.n_sum (B : Bs w mg mb g) : mg "sum" = none := mg_none_of B.K B.ng rfl
theorem Bs.n_min (B : Bs w mg mb g) : mg "min" = none := mg_none_of B.K B.ng rfl
theorem Bs.n_max (B : Bs w mg mb g) : mg "max" = none := mg_none_of B.K B.ng rfl
theorem Bs.n_enumerate (B : Bs w mg mb g) : mg "enumerate" = none := mg_none_of B.K B.ng rfl
theorem Bs.n_sorted (B : Bs w mg mb g) : mg "sorted" = none := mg_none_of B.K B.ng rfl
theorem Bs.b_len (B : Bs w mg mb g) : mb "len" = some (.builtin "len") := (B.bi _ (by decide)).trans (by boot_fast)
theorem Bs.b_range (B : Bs w mg mb g) : mb "range" = some (.type "range") := (B.bi _ (by decide)).trans (by boot_fast)
theorem Bs.b_list (B : Bs w mg mb g) : mb "list" = some (.type "list") := (B.bi _ (by decide)).trans (by boot_fast)
theorem Bs.b_sum (B : Bs w mg mb g) : mb "sum" = some (.builtin "sum") := (B.bi _ (by decide)).trans (by boot_fast)
theorem Bs.b_min (B : Bs w mg mb g) : mb "min" = some (.builtin "min") := (B.bi _ (by decide)).trans (by boot_fast)
theorem Bs.b_max (B : Bs w mg mb g) : mb "max" = some (.builtin "max") := (B.bi _ (by decide)).trans (by boot_fast)
theorem Bs.b_enumerate (B : Bs w mg mb g) : mb "enumerate" = some (.type "enumerate") := (B.bi _ (by decide)).trans (by boot_fast)
theorem Bs.b_sorted (B : Bs w mg mb g) : mb "sorted" = some (.builtin "sorted") := (B.bi _ (by decide)).trans (by boot_fast)
end

section
variable {M : Model} {w : World} {mg mb : Str → Option Value} {A : Around} {E : Value → Shared → Prop} {g : Heap} {s₀ t : Shared} {W : List Addr} {V : View} {mu : List (Addr × Obj)} {m : Str → Option Value} {env : Env}
  {x : Str} {pos : Pos} {v : Value} {c : Addr} {Q : Value → Shared → Prop}

theorem Bd.keepG (D : Bd g s₀ W V mu L m t) : ∀ b o, g.get? b = some o → t.heap.get? b = some o := fun b o e => D.see _ _ (D.base b o e)
theorem Bd.wd (D : Bd g s₀ W V mu L m t) : Wd g t := ⟨D.keepG, D.st.tab⟩

theorem r_name (D : Bd g s₀ W V mu env.locals m t) (hv : m x = some v) (h : Q v t) (hk : env.scope.kind = .function := by rfl) (hl : env.kindOf x = some .local := by rfl) (hd : (x == ("__debug__" : Str)) = false := by decide) :
    wpAny M A (eval (.Name x pos) env) Q E t := wpAny_Name (wpAny_loadName_local hk hl D.ns hv h) hd
theorem r_cell (D : Bd g s₀ W V mu env.locals m t) (hm : (c, cel (some v)) ∈ mu) (h : Q v t) (hc : env.cells.lookup x = some c := by rfl) (hk : env.scope.kind = .function := by rfl) (hl : env.kindOf x = some .cell := by rfl) (hd : (x == ("__debug__" : Str)) = false := by decide) :
    wpAny M A (eval (.Name x pos) env) Q E t := wpAny_Name (wpAny_loadName_cell hk hl hc ⟨_, (D.mus _ hm).1, rfl⟩ h) hd
theorem r_cellV (D : Bd g s₀ W V mu env.locals m t) (hV : V c = some (cel (some v))) (h : Q v t) (hc : env.cells.lookup x = some c := by rfl) (hk : env.scope.kind = .function := by rfl) (hl : env.kindOf x = some .cell := by rfl) (hd : (x == ("__debug__" : Str)) = false := by decide) :
    wpAny M A (eval (.Name x pos) env) Q E t := wpAny_Name (wpAny_loadName_cell hk hl hc ⟨_, D.see _ _ hV, rfl⟩ h) hd
theorem r_free (D : Bd g s₀ W V mu env.locals m t) (hV : V c = some (cel (some v))) (h : Q v t) (hc : env.cells.lookup x = some c := by rfl) (hk : env.scope.kind = .function := by rfl) (hl : env.kindOf x = some .free := by rfl) (hd : (x == ("__debug__" : Str)) = false := by decide)
    (hn : (x == ("__classdict__" : Str)) = false := by decide) : wpAny M A (eval (.Name x pos) env) Q E t := wpAny_Name (wpAny_loadName_free hk hl hc ⟨_, D.see _ _ hV, rfl⟩ h hn) hd
theorem r_glob (D : Bd g s₀ W V mu env.locals m t) (B : Bs w mg mb g) (hv : mg x = some v) (h : Q v t) (hk : env.scope.kind = .function := by rfl) (hx : env.kindOf x = some .globalImplicit := by rfl) (hd : (x == ("__debug__" : Str)) = false := by decide) (hg : env.globals = mainGlobals := by rfl) :
    wpAny M A (eval (.Name x pos) env) Q E t := Name_function_global hk hx (loadGlobal_global (mg := mg) (by rw [hg]; exact B.ng.keeps D.keepG) hv h) hd
theorem r_built (D : Bd g s₀ W V mu env.locals m t) (B : Bs w mg mb g) (hn : mg x = none) (hv : mb x = some v) (h : Q v t) (hk : env.scope.kind = .function := by rfl) (hx : env.kindOf x = some .globalImplicit := by rfl) (hd : (x == ("__debug__" : Str)) = false := by decide) (hg : env.globals = mainGlobals := by rfl) (hb : env.builtins = builtinsNs := by rfl) :
    wpAny M A (eval (.Name x pos) env) Q E t := Name_function_global hk hx (loadGlobal_builtin (mg := mg) (mb := mb) (by rw [hg]; exact B.ng.keeps D.keepG) hn (by rw [hb]; exact B.nb.keeps D.keepG) hv h) hd

theorem r_int {i : Int} {k : Nat} (D : Bd g s₀ W V mu L m t) (h : ∀ tk t', Bd g s₀ W V mu L m t' → Q (.int i tk) t') : wpAny M A (eval (.Constant (.int i) k pos) env) Q E t := wpAny_Constant_int (h _ _ (D.tok _))
theorem r_str {i : Str} {k : Nat} (D : Bd g s₀ W V mu L m t) (h : ∀ tk t', Bd g s₀ W V mu L m t' → Q (.str i tk) t') : wpAny M A (eval (.Constant (.str i) k pos) env) Q E t := wpAny_Constant_str (h _ _ (D.tok _))

noncomputable abbrev upd (m : Str → Option Value) (x : Str) (v : Value) : Str → Option Value := fun y => if y = x then some v else m y

theorem r_store {Q : Unit → Shared → Prop} (D : Bd g s₀ W V mu env.locals m t) (h : ∀ t', Bd g s₀ W V mu env.locals (upd m x v) t' → Q () t') (hk : env.scope.kind = .function := by rfl) (hl : env.kindOf x = some .local := by rfl) :
    wpAny M A (storeName env x v) Q E t :=
  wpAny_storeName_local hl D.ns (fun h' hn hs => h _ (D.frame hn hs)) (by rw [hk]; rfl)

theorem r_storeC {Q : Unit → Shared → Prop} {v₀ : Option Value} (D : Bd g s₀ W V mu env.locals m t) (i : Nat) (hi : mu[i]? = some (c, cel v₀)) (h : ∀ t', Bd g s₀ W V (mu.set i (c, cel (some v))) env.locals m t' → Q () t')
    (hc : env.cells.lookup x = some c := by rfl) (hk : env.scope.kind = .function := by rfl) (hl : env.kindOf x = some .cell := by rfl) :
    wpAny M A (storeName env x v) Q E t := by
  have z := D.mus _ (List.mem_of_getElem? hi)
  have hc' : t.heap.IsCell c v₀ := ⟨_, z.1, rfl⟩
  unfold storeName
  simp only [hl, hk]
  refine wpAny_bind (wpAny_cellOf hc ?_)
  unfold cellSet
  refine wpAny_bind (wpAny_load z.1 ?_)
  dsimp only
  refine wpAny_update z.1 ?_
  exact h _ (D.upd i hi (Heap.get?_update_self _ z.1 rfl) (Heap.SameBut.update ..).extBut rfl)
end
end Mine
end

section
open PySem PySem.W PyProof.Rows PySem.Calls
set_option Elab.async false
set_option linter.unusedVariables false
namespace Mine
set_option maxRecDepth 100000

structure Sub (U : View) (s : Shared) (W : List Addr) : Prop where
  see : ∀ b o, U b = some o → s.heap.get? b = some o
  offT : ∀ P ∈ TT, U P = none
  offW : ∀ b ∈ W, U b = none

noncomputable def fullV (s : Shared) (W : List Addr) : View := fun b => if b ∈ W ∨ b ∈ TT then none else s.heap.get? b
theorem fullV_sub (s : Shared) (W : List Addr) : Sub (fullV s W) s W :=
  ⟨fun b o e => by unfold fullV at e; split at e; cases e; exact e, fun P hP => if_pos (.inr hP), fun b hb => if_pos (.inl hb)⟩
theorem fullV_get {s : Shared} {W : List Addr} {b : Addr} {o : Obj} (e : s.heap.get? b = some o) (h1 : b ∉ W) (h2 : b ∉ TT) : fullV s W b = some o := by
  unfold fullV; rw [if_neg (fun h => h.elim h1 h2)]; exact e

section
variable {g : Heap} {s₀ t : Shared} {W W' : List Addr} {V : View} {mu : List (Addr × Obj)} {L a : Addr} {o : Obj} {m : Str → Option Value}
theorem Bd.sub (D : Bd g s₀ W V mu L m t) (hW : ∀ b ∈ W', b ∈ mu.map (·.1)) : Sub V t W' :=
  ⟨D.see, D.offT, fun b hb => by refine el_EA (List.mem_map.mp (hW b hb)) fun p hp hR1 => ?_; subst hR1; exact (D.mus p hp).2.1⟩
theorem Bd.leFull (D : Bd g s₀ W V mu L m t) (hW : ∀ b ∈ W', b ∈ mu.map (·.1)) : V.le (fullV t W') := fun b o e =>
  fullV_get (D.see b o e) (fun h => by rw [(D.sub hW).offW b h] at e; cases e) fun h => by rw [D.offT b h] at e; cases e
theorem Bd.muFull (D : Bd g s₀ W V mu L m t) (hp : (a, o) ∈ mu) (ha : a ∉ W') : fullV t W' a = some o :=
  fullV_get (D.mus _ hp).1 ha fun h => (D.neT h).2 (List.mem_map_of_mem (f := (·.1)) hp)
end

/-- the view at a call's start -/
theorem entry_bd {g : Heap} {s t : Shared} {mu : List (Addr × Obj)} {L : Addr} {m : Str → Option Value} (hw : Wd g s) (hnT : ∀ P ∈ TT, g.get? P = none)
    (hmu : ∀ p ∈ mu, s.heap.get? p.1 = some p.2 ∧ stab p.2 = false ∧ g.get? p.1 = none) (hnd : (mu.map (·.1)).Nodup)
    (hL : s.heap.get? L = none) (hns : t.heap.Ns L m) (hk : ∀ b o, s.heap.get? b = some o → t.heap.get? b = some o) (hg : t.gens = s.gens) (ho : t.os = s.os) :
    Bd g s (mu.map (·.1)) (fullV s (mu.map (·.1))) mu L m t where
  st := ⟨fun b o _ _ e => hk b o e, hw.tab.mono fun b o _ e => hk b o e, hg, ho⟩
  base := fun b o e => fullV_get (hw.base b o e) (fun h => by
    refine el_EA (List.mem_map.mp h) fun p hp hR2 => ?_; subst hR2
    rw [(hmu p hp).2.2] at e; cases e) fun h => by rw [hnT b h] at e; cases e
  see := fun b o e => hk b o ((fullV_sub s _).see b o e)
  ns := hns
  offL := by cases q : fullV s (mu.map (·.1)) L with
    | none => rfl
    | some o => have := (fullV_sub s _).see L o q; rw [hL] at this; cases this
  newL := hL
  mus := fun p hp => (in_AAAA (hk _ _ (hmu p hp).1) ((fullV_sub s _).offW _ (List.mem_map_of_mem hp)) ((fun q => by have := (hmu p hp).1; rw [q, hL] at this; cases this)) ((hmu p hp).2.1) (.inl (List.mem_map_of_mem hp)))
  nd := hnd
  offT := (fullV_sub s _).offT
  all := fun b o e => by
    by_cases h1 : b ∈ mu.map (·.1)
    · exact .inl h1
    · by_cases h2 : b ∈ TT
      · exact .inr (.inl h2)
      · exact .inr (.inr (fullV_get e h1 h2))
  wmu := fun _ h => h

theorem Sub.leFull {U : View} {s : Shared} {W : List Addr} (h : Sub U s W) : U.le (fullV s W) := fun b o e =>
  fullV_get (h.see b o e) (fun q => by rw [h.offW b q] at e; cases e) fun q => by rw [h.offT b q] at e; cases e

noncomputable def flowV : Flow → Value
  | .ret v => v
  | _ => .none

section
variable {prog : Program} {w : World} {mg mb : Str → Option Value} {g : Heap} {A : Around} {E : Value → Shared → Prop} {s : Shared} {d : Nat}

/-- a call of a plain def (no cells) -/
theorem call_def {a : Addr} {o : Obj} {fd : FuncData} {body : List Stmt} {pos : List Value} {kw : List (Str × Value)} {binds : List (Str × Value)} {mu : List (Addr × Obj)} {Q : Value → Shared → Prop}
    (B : Bs w mg mb g) (hA : Ok A d) (hw : Wd g s) (ho : s.heap.get? a = some o) (hdata : o.data = .func fd) (hcd : s.heap.CodeRec fd.code fd.qualname) (hbody : fd.body = .stmts body) (hbind : BindsTo s fd ⟨pos, kw⟩ binds)
    (hmu : ∀ p ∈ mu, s.heap.get? p.1 = some p.2 ∧ stab p.2 = false ∧ g.get? p.1 = none) (hnd : (mu.map (·.1)).Nodup)
    (h : ∀ L t, s.heap.get? L = none → Bd g s (mu.map (·.1)) (fullV s (mu.map (·.1))) mu L (fun x => binds.reverse.lookup x) t →
      wpAny (model prog w) (A.deeper (callEnv fd L a)) (execs body (callEnv fd L a)) (fun f t' => Q (flowV f) t') NoE t)
    (hcell : ∀ x ∈ fd.scope.names, x.2 ≠ .cell) (hloc : ∀ x ∈ binds, fd.scope.names.lookup x.1 = some .local)
    (hco : fd.scope.isCoroutine = false := by rfl) (hgen : fd.scope.isGenerator = false := by rfl) (hk : fd.scope.kind = .function := by rfl) :
    wpAny (model prog w) A (call (.ref a) pos kw) Q E s := by
  refine wpAny_call (codeAny_call_def hA.room ho hdata (B.nolimit.keeps hw.base) hcd hbody hbind hcell hloc (fun h₀ hns hk₀ => ?_) hco hgen hk)
  have hL := get_size s.heap
  refine wpAny_mono (h _ _ hL (entry_bd (t := { s with heap := h₀, toks := s.toks + binds.length }) hw B.noT hmu hnd hL hns hk₀ rfl rfl)) (fun f t' q => ?_) fun _ _ q => q.elim
  cases f <;> exact q

theorem codeRec_g {cd : Value} {q : Str} (hw : Wd g s) (h : g.CodeRec cd q) : s.heap.CodeRec cd q := h.keeps hw.base
end
end Mine
end

section
open PySem PySem.W PyProof.Rows PySem.Calls
set_option Elab.async false
set_option linter.unusedVariables false
namespace Mine
set_option maxRecDepth 100000

/-- an iterator at I: n items, the i-th as P says, its own object in the state St i; rd: what it reads -/
structure Itr (prog : Program) (w : World) (A : Around) (I : Addr) (n : Nat) (P : Nat → Value → Prop) (St : Nat → Obj → Prop) (rd : Heap → Prop) : Prop where
  item : ∀ i (t : Shared) o (Q : Option Value → Shared → Prop) (E : Value → Shared → Prop), i < n → t.heap.get? I = some o → St i o → rd t.heap →
    (∀ v h' tk o', P i v → h'.get? I = some o' → St (i + 1) o' → Heap.ExtBut I t.heap h' → Q (some v) { t with heap := h', toks := tk }) → wpAny (model prog w) A (pyNext (.ref I)) Q E t
  done : ∀ (t : Shared) o (Q : Option Value → Shared → Prop) (E : Value → Shared → Prop), t.heap.get? I = some o → St n o → rd t.heap →
    (∀ h' tk, Heap.ExtBut I t.heap h' → Q none { t with heap := h', toks := tk }) → wpAny (model prog w) A (pyNext (.ref I)) Q E t
  self : ∀ i (t : Shared) o (Q : Value → Shared → Prop) (E : Value → Shared → Prop), t.heap.get? I = some o → St i o → Q (.ref I) t → wpAny (model prog w) A (pyIter (.ref I)) Q E t
  go : ∀ i (t : Shared) o target v (Q : Unit → Shared → Prop) (E : Value → Shared → Prop), t.heap.get? I = some o → St i o → Q () t → wpAny (model prog w) A (letOwnedTupleGo target (.ref I) v) Q E t
  stab : ∀ i o, St i o → stab o = false

noncomputable def litSt (l : Addr) (i : Nat) (o : Obj) : Prop := o.cls = .type "list_iterator" ∧ o.data = .fields #[.ref l, .int i 0]
noncomputable abbrev ritO (x left step : Int) : Obj := { cls := .type "range_iterator", dict := none, data := .fields #[rawInt x, rawInt left, rawInt step], slots := #[] }
noncomputable def ritSt (a c : Int) (n i : Nat) (o : Obj) : Prop := o = ritO (a + i * c) ((n : Int) - i) c

theorem go_other {prog : Program} {w : World} {A : Around} {I : Addr} {t : Shared} {o : Obj} {T : String} {target : Expr} {v : Value} {Q : Unit → Shared → Prop} {E : Value → Shared → Prop} (e : t.heap.get? I = some o) (hc : o.cls = .type T)
    (hT : (["enumerate", "zip", "dict_itemiterator", "dict_reverseitemiterator", "odict_iterator", "itertools.zip_longest", "itertools.pairwise"].contains T) = false) (hQ : Q () t) : wpAny (model prog w) A (letOwnedTupleGo target (.ref I) v) Q E t := by
  have body : wpAny (model prog w) A (do
      let (.ref r, .ref a) := (Value.ref I, v) | return
      let o ← load r
      match o.cls, o.data with
      | .type n, .fields vs =>
        if ["enumerate", "zip", "dict_itemiterator", "dict_reverseitemiterator", "odict_iterator", "itertools.zip_longest", "itertools.pairwise"].contains n && vs[0]? == some (rawInt a) then
          rule "for.unpacks-the-owned-tuple"
          updateField r 0 .none
      | _, _ => pure ()) Q E t := by
    cases v <;> first | exact wpAny_pure hQ | skip
    refine wpAny_bind (wpAny_load e ?_)
    rw [hc]
    cases hd : o.data <;> dsimp only <;> first | exact wpAny_pure hQ | skip
    rw [hT, Bool.false_and, if_neg Bool.false_ne_true]
    exact wpAny_pure hQ
  unfold letOwnedTupleGo
  cases target <;> first | exact wpAny_pure hQ | exact body

theorem stab_fields {o : Obj} {T : String} {vs : Array Value} (hc : o.cls = .type T) (hd : o.data = .fields vs) (h1 : ∀ q u, vs[1]? ≠ some (.str q u)) : stab o = false := by
  unfold Mine.stab
  rw [hd, hc]
  dsimp only
  split
  · rename_i q u e; exact absurd e (h1 q u)
  · rfl

theorem Itr.list {prog : Program} {w : World} {A : Around} (hh : A.handled = none) (I l : Addr) (xs : List Value) :
    Itr prog w A I xs.length (fun i v => xs[i]? = some v) (litSt l) (fun h => h.IsList l xs.toArray) where
  item := fun i t o Q E hi e st rd hQ => by
    refine wpAny_pyNext_list_item ⟨o, e, st.1, st.2⟩ rd (x := xs[i]) (by simp [hi]) fun h' hit' hs' => ?_
    refine el_EAA (hit') fun o' e' c' d' => ?_; try clear hit'
    exact hQ _ h' t.toks o' (by simp [hi]) e' ⟨c', d'⟩ hs'.extBut
  done := fun t o Q E e st rd hQ => wpAny_pyNext_list_end hh ⟨o, e, st.1, st.2⟩ rd (by simp) fun h' he' => hQ h' t.toks he'
  self := fun i t o Q E e st hQ => wpAny_pyIter_listiter ⟨o, e, st.1, st.2⟩ hQ
  go := fun i t o target v Q E e st hQ => go_other e st.1 (by decide) hQ
  stab := fun i o st => stab_fields st.1 st.2 (by intro q u h; cases h)

theorem wpAny_pyIter_rangeiter {prog : Program} {w : World} {A : Around} {E : Value → Shared → Prop} {s : Shared} {it : Addr} {x left step : Int} {Q : Value → Shared → Prop} (hit : IsRangeIter s.heap it x left step) (h : Q (.ref it) s) :
    wpAny (model prog w) A (pyIter (.ref it)) Q E s := by
  have hT : s.TypeIs (.ref it) "range_iterator" := ⟨_, hit, rfl⟩
  refine wpAny_pyIter_slot hT F.slot_range_iterator_iter (wpAny_call_entry F.slot_range_iterator_iter hT F.entry_range_iterator_iter ?_ (F.args_range_iterator_iter_1 _))
  show wpAny _ _ (ret (.ref it)) _ _ s
  exact wpAny_pure (in_EAEEAA _ rfl ("range_iterator") _ hT F.slot_range_iterator_next.lookup h)

theorem Itr.range {prog : Program} {w : World} {A : Around} (hh : A.handled = none) (I : Addr) (a c : Int) (n : Nat) :
    Itr prog w A I n (fun i v => ∃ tk, v = .int (a + i * c) tk) (ritSt a c n) (fun _ => True) where
  item := fun i t o Q E hi e st rd hQ => by
    subst st
    refine wpAny_pyNext_range_item e (by lia) fun h' hit' hs' => ?_
    refine hQ _ h' _ _ ⟨_, rfl⟩ hit' ?_ hs'.extBut
    unfold ritSt
    have e1 : a + (i : Int) * c + c = a + ((i + 1 : Nat) : Int) * c := by rw [Int.natCast_succ, Int.add_mul]; lia
    have e2 : (n : Int) - i - 1 = n - ((i + 1 : Nat) : Int) := by lia
    rw [e1, e2]
  done := fun t o Q E e st rd hQ => by
    subst st
    exact wpAny_pyNext_range_end hh e (by lia) fun h' he' => hQ h' t.toks he'
  self := fun i t o Q E e st hQ => by subst st; exact wpAny_pyIter_rangeiter e hQ
  go := fun i t o target v Q E e st hQ => by subst st; exact go_other e rfl (by decide) hQ
  stab := fun i o st => by subst st; rfl

section
variable {prog : Program} {w : World} {A : Around} {E : Value → Shared → Prop} {g : Heap} {s₀ t : Shared} {W : List Addr} {V : View} {mu : List (Addr × Obj)} {m : Str → Option Value} {env : Env}

/-- a for loop over an iterator, by an invariant -/
theorem for_it {I : Addr} {oI : Obj} {n : Nat} {P : Nat → Value → Prop} {St : Nat → Obj → Prop} {rd : Heap → Prop} {target : Expr} {body : List Stmt} {R : Result → Shared → Prop}
    (T : Itr prog w A I n P St rd) (D : Bd g s₀ W V ((I, oI) :: mu) env.locals m t) (hI : St 0 oI) (hIW : I ∉ W)
    (J : Nat → View → List (Addr × Obj) → (Str → Option Value) → Prop) (h0 : J 0 V mu m)
    (hrd : ∀ i V' mu' m' o' t', J i V' mu' m' → Bd g s₀ W V' ((I, o') :: mu') env.locals m' t' → rd t'.heap)
    (turn : ∀ i v V' mu' m' o' t' (K : Flow → Shared → Prop), (∀ t3, (∃ V'' mu'' m'', J (i + 1) V'' mu'' m'' ∧ Bd g s₀ W V'' ((I, o') :: mu'') env.locals m'' t3) → K .next t3) → (∀ v t3, R (.ok (.ret v)) t3 → K (.ret v) t3) → i < n → P i v → J i V' mu' m' → Bd g s₀ W V' ((I, o') :: mu') env.locals m' t' →
      wpAny (model prog w) A (assign target env v) (fun _ t2 => wpAny (model prog w) A (execs body env) K NoE t2) NoE t')
    (fin : ∀ V' mu' m' t', J n V' mu' m' → Bd g s₀ W V' mu' env.locals m' t' → R (.ok .next) t') :
    codeAny (model prog w) A (.forLoop target (.ref I) body [] env) R t := by
  refine codeAny_forLoop_any (fun k t' => ∃ i V' mu' m' o', k = n - i ∧ i ≤ n ∧ J i V' mu' m' ∧ St i o' ∧ Bd g s₀ W V' ((I, o') :: mu') env.locals m' t') ?_ n (in_EEEEEAAAA 0 V mu m oI rfl (Nat.zero_le _) h0 hI D)
  intro k t' hQ1; refine el_EEEEEAAAA (hQ1) fun i V' mu' m' o' hR1 hi hJ hS D' => ?_; try clear hQ1; subst hR1
  have e := (D'.mus _ (.head _)).1
  by_cases hlt : i < n
  · refine T.item i t' o' _ _ hlt e hS (hrd i V' mu' m' o' t' hJ D') fun v h' tk o'' hP e' hS' hk => ?_
    have D1 := D'.upd (n := tk) 0 rfl e' hk (T.stab _ _ hS')
    refine T.go (i + 1) _ o'' target v _ _ e' hS' ?_
    refine wpAny_mono (turn i v V' mu' m' o'' _ (fun f t3 => match f with
        | .next | .cont => ∃ V'' mu'' m'', J (i + 1) V'' mu'' m'' ∧ Bd g s₀ W V'' ((I, o'') :: mu'') env.locals m'' t3
        | .brk => R (.ok .next) t3
        | .ret v => R (.ok (.ret v)) t3) (fun _ h => h) (fun _ _ h => h) hlt hP hJ D1) (fun _ t2 h2 => wpAny_mono h2 (fun f t3 h3 => ?_) fun _ _ q => q.elim) fun _ _ q => q.elim
    cases f with
    | next => refine el_EEEA (h3) fun V'' mu'' m'' hJ' D'' => ?_; try clear h3; exact (in_EAEEEEEAAAA (n - (i + 1)) (by omega) (i + 1) V'' mu'' m'' o'' rfl hlt hJ' hS' D'')
    | cont => refine el_EEEA (h3) fun V'' mu'' m'' hJ' D'' => ?_; try clear h3; exact (in_EAEEEEEAAAA (n - (i + 1)) (by omega) (i + 1) V'' mu'' m'' o'' rfl hlt hJ' hS' D'')
    | brk => exact h3
    | ret v => exact h3
  · have hin : i = n := by lia
    subst i
    refine T.done t' o' _ _ e hS (hrd n V' mu' m' o' t' hJ D') fun h' tk hk => wpAny_execs_nil ?_
    exact fin V' mu' m' _ hJ (D'.drop (n := tk) hk hIW)

theorem NoE_came {e : Value} {s' : Shared} {env : Env} : cameBackBy (model prog w) A env E e s' ∨ True := .inr trivial

/-- for over a list -/
theorem for_list {l : Addr} {xs : List Value} {target : Expr} {body : List Stmt} {Q : Flow → Shared → Prop} (hh : A.handled = none) (D : Bd g s₀ W V mu env.locals m t) (hl : t.heap.IsList l xs.toArray)
    (J : Nat → View → List (Addr × Obj) → (Str → Option Value) → Prop) (h0 : J 0 V mu m)
    (hrd : ∀ i I V' mu' m' o' t', J i V' mu' m' → Bd g s₀ W V' ((I, o') :: mu') env.locals m' t' → t'.heap.IsList l xs.toArray)
    (turn : ∀ i I v V' mu' m' o' t' (K : Flow → Shared → Prop), (∀ t3, (∃ V'' mu'' m'', J (i + 1) V'' mu'' m'' ∧ Bd g s₀ W V'' ((I, o') :: mu'') env.locals m'' t3) → K .next t3) → (∀ v t3, Q (.ret v) t3 → K (.ret v) t3) → xs[i]? = some v → J i V' mu' m' → Bd g s₀ W V' ((I, o') :: mu') env.locals m' t' →
      wpAny (model prog w) A (assign target env v) (fun _ t2 => wpAny (model prog w) A (execs body env) K NoE t2) NoE t')
    (fin : ∀ V' mu' m' t', J xs.length V' mu' m' → Bd g s₀ W V' mu' env.locals m' t' → Q .next t') :
    wpAny (model prog w) A (pyIter (.ref l)) (fun it s₂ => codeAny (model prog w) A (.forLoop target it body [] env) (fun r s' => match r with | .ok f => Q f s' | .error e => cameBackBy (model prog w) A env E e s') s₂) E t := by
  refine wpAny_pyIter_list hl ?_
  have hz := get_size t.heap
  have D1 := D.newMu (n := t.toks) (o := { cls := .type "list_iterator", data := .fields #[.ref l, .int 0 0] }) hz (Heap.get?_push_size _ rfl) (fun b o e => Heap.get?_push_of_some _ e) rfl
  refine for_it (Itr.list hh _ l xs) D1 ⟨rfl, rfl⟩ (fun h => ?_) J h0 (fun i V' mu' m' o' t' => hrd i _ V' mu' m' o' t') (fun i v V' mu' m' o' t' K hK hR hi hP hJ D' => turn i _ v V' mu' m' o' t' K hK hR hP hJ D') fin
  refine el_E (D.mu_lt (D.wmu _ h)) fun o' e' => ?_
  rw [hz] at e'; cases e'
end
end Mine
end

section
open PySem PySem.W PyProof.Rows PySem.Calls
set_option Elab.async false
set_option linter.unusedVariables false
namespace Mine
set_option maxRecDepth 100000

structure Row where
  a : Int
  x : Str
  c : Int
  p : Int

noncomputable def IsRow (V : View) (r : Addr) (R : Row) : Prop := ∃ t1 t2 t3 t4 n, V r = some (tup [.int R.a t1, .str R.x t2, .int R.c t3, .int R.p t4] n)
noncomputable def IsKey (V : View) (v : Value) (k : Int × Int) : Prop := ∃ a t1 t2 n, v = .ref a ∧ V a = some (tup [.int k.1 t1, .int k.2 t2] n)
noncomputable def IsKeys (V : View) (kl : Addr) (K : List (Int × Int)) : Prop := ∃ ks n, V kl = some (lst ks n) ∧ ks.length = K.length ∧ ∀ (i : Nat) v k, ks[i]? = some v → K[i]? = some k → IsKey V v k
noncomputable def IsOrd (V : View) (x kl : Addr) : Prop := ∃ dx hsh tk n, V x = some (instObj 74 dx) ∧ V dx = some (dictOf [⟨hsh, .str "comp_select_list" tk, .ref kl⟩] n)
theorem IsRow.mono {V V' : View} {r : Addr} {R : Row} (h : IsRow V r R) (le : V.le V') : IsRow V' r R := let ⟨a, b, c, d, n, e⟩ := h; ⟨a, b, c, d, n, le _ _ e⟩
theorem IsKey.mono {V V' : View} {v : Value} {k : Int × Int} (h : IsKey V v k) (le : V.le V') : IsKey V' v k := let ⟨a, b, c, d, e, f⟩ := h; ⟨a, b, c, d, e, le _ _ f⟩
theorem IsKeys.mono {V V' : View} {kl : Addr} {K : List (Int × Int)} (h : IsKeys V kl K) (le : V.le V') : IsKeys V' kl K := let ⟨a, b, c, d, e⟩ := h; ⟨a, b, le _ _ c, d, fun i v k h1 h2 => (e i v k h1 h2).mono le⟩
theorem IsOrd.mono {V V' : View} {x kl : Addr} (h : IsOrd V x kl) (le : V.le V') : IsOrd V' x kl := let ⟨a, b, c, d, e, f⟩ := h; ⟨a, b, c, d, le _ _ e, le _ _ f⟩

/-- column c of l is less than that of r -/
noncomputable def rlt (c : Int) (l r : Row) : Bool := if c = 0 then decide (l.a < r.a) else if c = 1 then decide (l.x.cps.toList < r.x.cps.toList) else decide (l.c < r.c)
noncomputable def cmpK : List (Int × Int) → Row → Row → Int
  | [], _, _ => 0
  | (c, d) :: K, l, r => if rlt c l r then -d else if rlt c r l then d else cmpK K l r

noncomputable def pack71 : { b : FuncData // ∀ P, (hd.heap_39 P).lookup 71 = some ⟨.type "function", none, .func b, #[]⟩ } := ⟨_, fun P => rfl⟩
noncomputable def F71 : FuncData := pack71.1
noncomputable def b71 : List Stmt := match F71.body with | .stmts b => b | _ => []

section
variable {prog : Program} {w : World} {mg mb : Str → Option Value} {g : Heap} {A : Around} {E : Value → Shared → Prop} {s : Shared}

theorem cmp_col {c : Int} {l r : Row} {t1 t2 t3 t4 u1 u2 u3 u4 : Tok} {vl vr : Value} {Q : Value → Shared → Prop} {t : Shared} (hc : c = 0 ∨ c = 1 ∨ c = 2)
    (h1 : ([.int l.a t1, .str l.x t2, .int l.c t3, .int l.p t4] : List Value)[c.toNat]? = some vl) (h2 : ([.int r.a u1, .str r.x u2, .int r.c u3, .int r.p u4] : List Value)[c.toNat]? = some vr)
    (hQ : Q (.bool (rlt c l r)) t) : wpAny (model prog w) A (compareOp .Lt vl vr) Q E t := by
  rcases hc with rfl | rfl | rfl
  · cases h1; cases h2; exact lt_int hQ
  · cases h1; cases h2; exact lt_str (by simpa [rlt] using hQ)
  · cases h1; cases h2; exact lt_int hQ
theorem cmp_col' {c : Int} {l r : Row} {t1 t2 t3 t4 u1 u2 u3 u4 : Tok} {vl vr : Value} {Q : Value → Shared → Prop} {t : Shared} (hc : c = 0 ∨ c = 1 ∨ c = 2)
    (h1 : ([.int l.a t1, .str l.x t2, .int l.c t3, .int l.p t4] : List Value)[c.toNat]? = some vl) (h2 : ([.int r.a u1, .str r.x u2, .int r.c u3, .int r.p u4] : List Value)[c.toNat]? = some vr)
    (hQ : Q (.bool (rlt c r l)) t) : wpAny (model prog w) A (compareOp .Gt vl vr) Q E t := by
  rcases hc with rfl | rfl | rfl
  · cases h1; cases h2; exact gt_int hQ
  · cases h1; cases h2; exact P.gt_str (by simpa [rlt] using hQ)
  · cases h1; cases h2; exact gt_int hQ

theorem compare_spec (B : Bs w mg mb g) (hA : Ok A 2) (hw : Wd g s) {U : View} (hU : Sub U s []) {x kl l r : Addr} {K : List (Int × Int)} {R1 R2 : Row} {Q : Value → Shared → Prop} (hx : IsOrd U x kl) (hk : IsKeys U kl K) (hK : ∀ p ∈ K, p.1 = 0 ∨ p.1 = 1 ∨ p.1 = 2)
    (hl : IsRow U l R1) (hr : IsRow U r R2) (hQ : ∀ tk s', Stp [] s s' → Q (.int (cmpK K R1 R2) tk) s') :
    wpAny (model prog w) A (call (.ref 71) [.ref x, .ref l, .ref r]) Q E s := by
  refine call_def (mu := []) (body := b71) (binds := [("self", .ref x), ("left", .ref l), ("right", .ref r)]) B hA hw (hw.base _ _ (B.K 71 _ (pack71.2 w.params))) rfl (codeRec_g hw (codeRec_of B.K rfl)) rfl (BindsTo.of_eq rfl) (fun _ h => nomatch h) List.nodup_nil (fun L t hL D => ?_) (by decide) (locs rfl)
  have le := hU.leFull
  generalize hF : fullV s (List.map (fun x => x.1) ([] : List (Addr × Obj))) = V at D
  have le' : U.le V := by rw [← hF]; exact le
  replace hx := hx.mono le'
  replace hk := hk.mono le'
  replace hl := hl.mono le'
  replace hr := hr.mono le'
  clear le le' hF hU
  refine el_EEEEA (hx) fun dx hsh tk0 n0 hx1 hx2 => ?_; try clear hx
  refine el_EEAA (hk) fun ks nk hk1 hk2 hk3 => ?_; try clear hk
  refine el_EEEEE (hl) fun a1 a2 a3 a4 an hl => ?_
  refine el_EEEEE (hr) fun c1 c2 c3 c4 cn hr => ?_
  have hA1 := hA.deeper (callEnv pack71.1 L 71)
  generalize A.deeper (callEnv pack71.1 L 71) = A1 at hA1 ⊢
  revert A1
  refine noBeta ?_
  intro A1 hA1
  refine wpAny_execs_cons (wpAny_For (Attribute_Name_ (r_name D rfl (get_value (K := hd.heap_39 w.params) (B.K.keeps D.keepG) (InstAt.mk (D.see _ _ hx1) rfl rfl (D.see _ _ hx2)) rfl (findObj_own (attr := none) rfl rfl rfl rfl) rfl ?_))))
  have D := D.tok (t.toks + 1)
  refine for_list hA1.h D ⟨_, D.see _ _ hk1, rfl, _, rfl⟩ (fun i V' mu' m' => V' = V ∧ mu' = [] ∧ m' "left" = some (.ref l) ∧ m' "right" = some (.ref r) ∧ cmpK K R1 R2 = cmpK (K.drop i) R1 R2)
    (in_AAAA rfl rfl rfl rfl rfl) (fun i I V' mu' m' o' t' hJ D' => ⟨_, D'.see _ _ (hJ.1 ▸ hk1), rfl, _, rfl⟩) ?_ ?_
  · intro i I v V' mu' m' o' t' KK hKK hRR hv hQ1; refine el_AAAA (hQ1) fun hR1 hR2 m1 m2 hcmp => ?_; try clear hQ1; subst V'; subst mu'; intro D'
    have hi : i < K.length := by rw [← hk2]; exact (List.getElem?_eq_some_iff.mp hv).1
    obtain ⟨⟨c, d⟩, hKi⟩ : ∃ k, K[i]? = some k := ⟨K[i], by simp [hi]⟩
    refine el_EEEEA (hk3 i v _ hv hKi) fun a u1 u2 n2 hR3 ha => ?_; subst hR3
    have hc := hK _ (List.mem_of_getElem? hKi)
    have hdrop : K.drop i = (c, d) :: K.drop (i + 1) := by
      refine el_E (List.getElem?_eq_some_iff.mp hKi) fun h1 h2 => ?_
      rw [List.drop_eq_getElem_cons h1, h2]
    refine wpAny_assign_Tuple hA1.h ⟨_, D'.see _ _ ha, rfl, _, rfl⟩ rfl rfl fun h1 hext => ?_
    have D1 := D'.grow (n := t'.toks) (h' := h1) fun b o e => hext b o (Nat.ne_of_lt (Heap.lt_size e)) e
    refine assignInOrder_cons (PyProof.Rows.assign_Name (r_store D1 fun t2 D2 => assignInOrder_cons (PyProof.Rows.assign_Name (r_store D2 fun t3 D3 => assignInOrder_nil ?_))))
    have hc0 : 0 ≤ c := by (first | decide | lia)
    have hc3 : c < 3 := by (first | decide | lia)
    obtain ⟨vl, hvl⟩ : ∃ v, ([.int R1.a a1, .str R1.x a2, .int R1.c a3, .int R1.p a4] : List Value)[c.toNat]? = some v := ⟨_, List.getElem?_eq_getElem (by simp; (first | decide | lia))⟩
    obtain ⟨vr, hvr⟩ : ∃ v, ([.int R2.a c1, .str R2.x c2, .int R2.c c3, .int R2.p c4] : List Value)[c.toNat]? = some v := ⟨_, List.getElem?_eq_getElem (by simp; (first | decide | lia))⟩
    refine wpAny_execs_cons (wpAny_Assign_Name (Subscript_ (r_name D3 m1 (r_name D3 rfl (item_tupleT ⟨_, D3.see _ _ hl, rfl, _, rfl⟩ (by (first | decide | lia)) (by (first | decide | lia)) (seqIndex_of hc0 (by simp; (first | decide | lia))) hvl (r_store D3 fun t4 D4 => ?_))))))
    refine wpAny_execs_cons (wpAny_Assign_Name (Subscript_ (r_name D4 m2 (r_name D4 rfl (item_tupleT ⟨_, D4.see _ _ hr, rfl, _, rfl⟩ (by (first | decide | lia)) (by (first | decide | lia)) (seqIndex_of hc0 (by simp; (first | decide | lia))) hvr (r_store D4 fun t5 D5 => ?_))))))
    rw [hdrop, cmpK] at hcmp
    refine wpAny_execs_cons (wpAny_If (wpAny_isTrue_Compare1 (r_name D5 rfl (r_name D5 rfl (cmp_col hc hvl hvr (wpAny_truthy_bool ?_))))))
    cases h1 : rlt c R1 R2 with
    | true =>
      rw [h1, if_pos rfl] at hcmp
      refine wpAny_execs_cons (wpAny_Return_some (wpAny_UnaryOp (r_name D5 rfl (neg_int ?_))))
      have := hQ t5.toks { t5 with toks := t5.toks + 1 } (D5.tok _).st
      rw [hcmp] at this
      exact hRR _ _ this
    | false =>
      rw [h1, if_neg Bool.false_ne_true] at hcmp
      refine wpAny_execs_nil ?_
      refine wpAny_execs_cons (wpAny_If (wpAny_isTrue_Compare1 (r_name D5 rfl (r_name D5 rfl (cmp_col' hc hvl hvr (wpAny_truthy_bool ?_))))))
      cases h2 : rlt c R2 R1 with
      | true =>
        rw [h2, if_pos rfl] at hcmp
        refine wpAny_execs_cons (wpAny_Return_some (r_name D5 rfl ?_))
        have := hQ u2 _ D5.st
        rw [hcmp] at this
        exact hRR _ _ this
      | false =>
        rw [h2, if_neg Bool.false_ne_true] at hcmp
        refine wpAny_execs_nil (wpAny_execs_nil ?_)
        exact hKK _ (in_EEEA _ _ _ (by exact (in_AAAA rfl rfl m1 m2 hcmp)) D5)
  · intro V' mu' m' t' hQ2; refine el_AAAA (hQ2) fun hR4 hR5 m1 m2 hcmp => ?_; try clear hQ2; subst V'; subst mu'; intro D'
    refine wpAny_execs_cons (wpAny_Return_some (r_int D' fun tk t2 D2 => ?_))
    rw [hk2, List.drop_length] at hcmp
    have := hQ tk t2 D2.st
    rw [hcmp] at this
    exact this
end
end Mine
end

section
open PySem PySem.W PyProof.Rows PySem.Calls
set_option Elab.async false
set_option linter.unusedVariables false
namespace Mine
set_option maxRecDepth 100000

noncomputable def Fresh (s t : Shared) (V : View) : Prop := ∀ b o, t.heap.get? b = some o → s.heap.get? b = none → V b = some o

section
variable {g : Heap} {s₀ t : Shared} {W W' : List Addr} {V : View} {mu : List (Addr × Obj)} {L a : Addr} {o : Obj} {m : Str → Option Value}
theorem Bd.leOut (D : Bd g s₀ W V mu L m t) {V'' : View} (h1 : (fullV s₀ W).le V'') (h2 : Fresh s₀ t V'') : V.le V'' := fun b o e => by
  cases q : s₀.heap.get? b with
  | none => exact h2 b o (D.see b o e) q
  | some o₀ =>
    have hT : b ∉ TT := fun h => by rw [D.offT b h] at e; cases e
    have hW : b ∉ W := fun h => by
      refine el_EA (List.mem_map.mp (D.wmu b h)) fun p hp hR1 => ?_; subst hR1
      have := (D.mus p hp).2.1; rw [e] at this; cases this
    have e0 : V b = some o₀ := ((D.all b o₀ q).resolve_left hW).resolve_left hT
    rw [e] at e0; cases e0
    exact h1 b o (fullV_get q hW hT)
/-- what is in the view is old or fresh -/
theorem Bd.after' (D : Bd g s₀ W V mu L m t) {W' : List Addr} {t' : Shared} {mu' : List (Addr × Obj)} (st : Stp W' t t') (hm : mu'.map (·.1) = mu.map (·.1)) (hW : ∀ b ∈ W', b ∈ mu.map (·.1))
    (hmu : ∀ p ∈ mu', t'.heap.get? p.1 = some p.2 ∧ stab p.2 = false) : ∃ V', V.le V' ∧ Fresh t t' V' ∧ Bd g s₀ W V' mu' L m t' :=
  let ⟨V', a, b, c⟩ := D.after st hm hW hmu
  (in_EAA V' a (fun x o h1 h2 => (b x o h1 h2).1) c)
end

section
variable {prog : Program} {w : World} {A : Around} {E : Value → Shared → Prop} {g : Heap} {s₀ t : Shared} {W : List Addr} {V : View} {mu : List (Addr × Obj)} {m : Str → Option Value} {env : Env}

theorem while_bd {test : Expr} {body : List Stmt} {pos : Pos} {Q : Flow → Shared → Prop} (D : Bd g s₀ W V mu env.locals m t)
    (J : Nat → View → List (Addr × Obj) → (Str → Option Value) → Prop) (k : Nat) (h0 : J k V mu m)
    (turn : ∀ k V' mu' m' t' (K : Flow → Shared → Prop), (∀ t3, (∃ k' V'' mu'' m'', k' < k ∧ J k' V'' mu'' m'' ∧ Bd g s₀ W V'' mu'' env.locals m'' t3) → K .next t3) → (∀ v t3, Q (.ret v) t3 → K (.ret v) t3) → J k V' mu' m' → Bd g s₀ W V' mu' env.locals m' t' → wpAny (model prog w) A (isTrue test env (eval test env)) (fun b t2 =>
      if b then wpAny (model prog w) A (execs body env) K NoE t2 else Q .next t2) NoE t') : wpAny (model prog w) A (exec (.While test body [] pos) env) Q E t := by
  refine wpAny_While (codeAny_whileLoop (fun k t' => ∃ V' mu' m', J k V' mu' m' ∧ Bd g s₀ W V' mu' env.locals m' t') ?_ k (in_EEEA V mu m h0 D))
  intro k t' hQ1; refine el_EEEA (hQ1) fun V' mu' m' hJ D' => ?_; try clear hQ1
  refine wpAny_mono (turn k V' mu' m' t' (fun f t3 => match f with
        | .next | .cont => ∃ k' V'' mu'' m'', k' < k ∧ J k' V'' mu'' m'' ∧ Bd g s₀ W V'' mu'' env.locals m'' t3
        | .brk => Q .next t3
        | .ret v => Q (.ret v) t3) (fun _ h => h) (fun _ _ h => h) hJ D') (fun b t2 h2 => ?_) fun _ _ q => q.elim
  cases b with
  | false => simp only [Bool.false_eq_true, if_false] at h2 ⊢; exact wpAny_execs_nil h2
  | true =>
    simp only [if_true] at h2 ⊢
    refine wpAny_mono h2 (fun f t3 h3 => ?_) fun _ _ q => q.elim
    cases f with
    | next => refine el_EEEEAA (h3) fun k' a b c h j d => ?_; try clear h3; exact (in_EAEEEA k' h a b c j d)
    | cont => refine el_EEEEAA (h3) fun k' a b c h j d => ?_; try clear h3; exact (in_EAEEEA k' h a b c j d)
    | brk => exact h3
    | ret v => exact h3
end

theorem Sub.anti {U V : View} {s : Shared} {W : List Addr} (h : Sub V s W) (le : U.le V) : Sub U s W :=
  ⟨fun b o e => h.see b o (le b o e), (fun P hP => by
    cases e : U P with
    | none => rfl
    | some o => have := le _ _ e; rw [h.offT P hP] at this; cases this), fun b hb => by
    cases e : U b with
    | none => rfl
    | some o => have := le _ _ e; rw [h.offW b hb] at this; cases this⟩
theorem Sub.less {U : View} {s : Shared} {W W' : List Addr} (h : Sub U s W) (hw : ∀ b ∈ W', b ∈ W) : Sub U s W' := ⟨h.see, h.offT, fun b hb => h.offW b (hw b hb)⟩
noncomputable def extV (t t' : Shared) (V : View) : View := fun b => if t.heap.get? b = none then t'.heap.get? b else V b
theorem le_extV {t t' : Shared} {V : View} (h : ∀ b o, V b = some o → t.heap.get? b = some o) : V.le (extV t t' V) := fun b o e => by
  unfold extV; rw [if_neg (by rw [h b o e]; exact Option.some_ne_none _)]; exact e
theorem fresh_extV {t t' : Shared} {V : View} : Fresh t t' (extV t t' V) := fun b o e h => by
  unfold extV; rw [if_pos h]; exact e
theorem extV_le {t t' : Shared} {V V' : View} (h1 : V.le V') (h2 : Fresh t t' V') : (extV t t' V).le V' := fun b o e => by
  unfold extV at e
  by_cases q : t.heap.get? b = none
  · rw [if_pos q] at e; exact h2 b o e q
  · rw [if_neg q] at e; exact h1 b o e
/-- each object of V' is one of V or was not there at s -/
noncomputable def OldOr (s : Shared) (V V' : View) : Prop := ∀ b o, V' b = some o → V b = some o ∨ s.heap.get? b = none
theorem OldOr.refl {s : Shared} {V : View} : OldOr s V V := fun _ _ e => .inl e
theorem OldOr.ext {s t t' : Shared} {V V' : View} (h : OldOr s V V') (hf : ∀ b, t.heap.get? b = none → s.heap.get? b = none) : OldOr s V (extV t t' V') := fun b o e => by
  unfold extV at e
  by_cases q : t.heap.get? b = none
  · exact .inr (hf b q)
  · rw [if_neg q] at e; exact h b o e
theorem OldOr.out {s t : Shared} {V V' V'' : View} (h : OldOr s V V') (see : ∀ b o, V' b = some o → t.heap.get? b = some o) (h1 : V.le V'') (h2 : Fresh s t V'') : V'.le V'' := fun b o e =>
  (h b o e).elim (h1 b o) fun q => h2 b o (see b o e) q

/-- a key function: asked about the i-th value it tells f i; what it notes is told by P -/
structure KeyOk (prog : Program) (w : World) (g : Heap) (d N : Nat) (key : Value) (Wk : List Addr) (U : View) (vals : List Value) (f : Nat → Int) (P : List Nat → View → List (Addr × Obj) → Prop) : Prop where
  fn : ∃ a o fd, key = .ref a ∧ U a = some o ∧ o.data = .func fd
  mono : ∀ q V V' mu, P q V mu → V.le V' → P q V' mu
  call : ∀ (A : Around) (t : Shared) q i v Vt mu (Q : Value → Shared → Prop) (E : Value → Shared → Prop), Ok A d → Wd g t → Sub U t Wk → Sub Vt t Wk → mu.map (·.1) = Wk → Wk.Nodup →
    (∀ p ∈ mu, t.heap.get? p.1 = some p.2 ∧ stab p.2 = false ∧ g.get? p.1 = none) → P q Vt mu → q.length ≤ N → vals[i]? = some v →
    (∀ tk t' mu', Stp Wk t t' → mu'.map (·.1) = Wk → (∀ p ∈ mu', t'.heap.get? p.1 = some p.2 ∧ stab p.2 = false) → (∀ V'', Vt.le V'' → Fresh t t' V'' → P (q ++ [i]) V'' mu') → Q (.int (f i) tk) t') →
    wpAny (model prog w) A (PySem.call key [v]) Q E t

theorem mid_bd {lo hi : Nat} (h : lo < hi) : lo ≤ (lo + hi) / 2 ∧ (lo + hi) / 2 < hi := by lia
theorem mid_l {lo hi : Nat} (h : lo < hi) : (lo + hi) / 2 - lo < hi - lo := Nat.sub_lt_sub_right (mid_bd h).1 (mid_bd h).2
theorem mid_r {lo hi : Nat} (h : lo < hi) : hi - ((lo + hi) / 2 + 1) < hi - lo := Nat.sub_lt_sub_left h (Nat.lt_succ_of_le (mid_bd h).1)
theorem mid_q {lo hi a N : Nat} {d : Nat} (h : d < hi - lo) (hN : a + (hi - lo) ≤ N) : a + 1 + d ≤ N := by
  rw [Nat.add_assoc, Nat.add_comm 1]; exact Nat.le_trans (Nat.add_le_add_left (Nat.succ_le_of_lt h) _) hN
noncomputable def bisR (f : Nat → Int) (x : Int) (lo hi : Nat) (q : List Nat) : Nat × List Nat :=
  if h : lo < hi then
    (if x < f ((lo + hi) / 2) then bisR f x lo ((lo + hi) / 2) (q ++ [(lo + hi) / 2]) else bisR f x ((lo + hi) / 2 + 1) hi (q ++ [(lo + hi) / 2]))
  else (lo, q)
termination_by hi - lo
decreasing_by
  · exact mid_l h
  · exact mid_r h
noncomputable def bisL (f : Nat → Int) (x : Int) (lo hi : Nat) (q : List Nat) : Nat × List Nat :=
  if h : lo < hi then
    (if f ((lo + hi) / 2) < x then bisL f x ((lo + hi) / 2 + 1) hi (q ++ [(lo + hi) / 2]) else bisL f x lo ((lo + hi) / 2) (q ++ [(lo + hi) / 2]))
  else (lo, q)
termination_by hi - lo
decreasing_by
  · exact mid_r h
  · exact mid_l h

noncomputable def pack32 : { b : FuncData // ∀ P, (hd.heap_39 P).lookup 32 = some ⟨.type "function", none, .func b, #[]⟩ } := ⟨_, fun P => rfl⟩
noncomputable def F32 : FuncData := pack32.1
noncomputable def b32 : List Stmt := match F32.body with | .stmts b => b | _ => []
noncomputable def pack50 : { b : FuncData // ∀ P, (hd.heap_39 P).lookup 50 = some ⟨.type "function", none, .func b, #[]⟩ } := ⟨_, fun P => rfl⟩
noncomputable def F50 : FuncData := pack50.1
noncomputable def b50 : List Stmt := match F50.body with | .stmts b => b | _ => []

section
variable {prog : Program} {w : World} {mg mb : Str → Option Value} {g : Heap} {A : Around} {E : Value → Shared → Prop} {s : Shared}

theorem get_arr {vals : List Value} {j : Nat} {v : Value} (h : vals[j]? = some v) : vals.toArray[((j : Nat) : Int).toNat]? = some v := by simpa using h
/-- the value given for hi -/
noncomputable def hiOk (v : Value) (hi n : Nat) : Prop := (v = .none ∧ hi = n) ∨ ∃ tk, v = .int hi tk

theorem bisect_right_spec (B : Bs w mg mb g) {d N : Nat} (hA : Ok A (d + 3)) (hw : Wd g s) {U : View} {Wk : List Addr} (hU : Sub U s Wk) {key : Value} {vals : List Value} {f : Nat → Int} {P : List Nat → View → List (Addr × Obj) → Prop}
    {dv : List Value} (KO : KeyOk prog w g d N key Wk U dv f P) (hpre : ∀ (i : Nat) v, vals[i]? = some v → dv[i]? = some v) {q : List Nat} {mu : List (Addr × Obj)} {Vt : View} (hVt : Sub Vt s Wk) (hP : P q Vt mu) (hmu : mu.map (·.1) = Wk) (hnd : Wk.Nodup) (hob : ∀ p ∈ mu, s.heap.get? p.1 = some p.2 ∧ stab p.2 = false ∧ g.get? p.1 = none)
    {a : Addr} {n : Nat} (ha : fullV s Wk a = some (lst vals n)) (hlen : vals.length < 1000) {x : Int} {tx tl : Tok} {lo hi : Nat} {hv : Value} (hhv : hiOk hv hi vals.length) (hhi : hi ≤ vals.length) (hN : q.length + vals.length ≤ N) {Q : Value → Shared → Prop}
    (hQ : ∀ tk s' mu', Stp Wk s s' → mu'.map (·.1) = Wk → (∀ p ∈ mu', s'.heap.get? p.1 = some p.2 ∧ stab p.2 = false) → (∀ V'', Vt.le V'' → Fresh s s' V'' → P (bisR f x lo hi q).2 V'' mu') → Q (.int (bisR f x lo hi q).1 tk) s') :
    wpAny (model prog w) A (call (.ref 32) [.ref a, .int x tx, .int lo tl, hv] [("key", key)]) Q E s := by
  subst hmu
  refine call_def (mu := mu) (body := b32) (binds := [("a", .ref a), ("x", .int x tx), ("lo", .int lo tl), ("hi", hv), ("key", key)]) B hA hw (hw.base _ _ (B.K 32 _ (pack32.2 w.params))) rfl (codeRec_g hw (codeRec_of B.K rfl)) rfl
    (binds_K (K := hd.heap_39 w.params) (B.K.keeps hw.base) rfl rfl rfl rfl rfl) hob hnd (fun L t hL D => ?_) (by decide) (locs rfl)
  have leU : U.le (fullV s (mu.map (·.1))) := hU.leFull
  have hloc : ∀ {V' : View} {mu' : List (Addr × Obj)} {m' : Str → Option Value} {t' : Shared}, mu'.map (·.1) = mu.map (·.1) → Bd g s (mu.map (·.1)) V' mu' L m' t' → ∀ p ∈ mu', t'.heap.get? p.1 = some p.2 ∧ stab p.2 = false ∧ g.get? p.1 = none := fun hm D' p hp => by
    have z := D'.mus p hp
    refine (in_AA z.1 z.2.2.2.1 ?_)
    cases e : g.get? p.1 with
    | none => rfl
    | some o => have := D'.base _ _ e; rw [z.2.1] at this; cases this
  have hA1 := hA.deeper (callEnv pack32.1 L 32)
  generalize A.deeper (callEnv pack32.1 L 32) = A1 at hA1 ⊢
  revert A1
  refine noBeta ?_
  intro A1 hA1
  have rest : ∀ m' t', m' "a" = some (.ref a) → m' "x" = some (.int x tx) → (∃ tl, m' "lo" = some (.int lo tl)) → (∃ th, m' "hi" = some (.int hi th)) → m' "key" = some key → Bd g s (mu.map (·.1)) (fullV s (mu.map (·.1))) mu L m' t' →
      wpAny (model prog w) A1 (execs (b32.drop 2) (callEnv F32 L 32)) (fun f t' => Q (flowV f) t') NoE t' := by
    intro m' t' ma mx ⟨tl, ml⟩ ⟨th, mh⟩ mk D'
    refine el_EEEAA (KO.fn) fun ka ko kfd hR2 hkU hkd => ?_; subst hR2
    refine wpAny_execs_cons (wpAny_If (wpAny_isTrue_Compare1 (r_name D' mk (wpAny_Constant_none (is_none (wpAny_truthy_bool ?_))))))
    refine wpAny_execs_cons ?_
    refine while_bd D' (fun k V' mu' m' => mu'.map (·.1) = mu.map (·.1) ∧ (fullV s (mu.map (·.1))).le V' ∧ m' "a" = some (.ref a) ∧ m' "x" = some (.int x tx) ∧ m' "key" = some (.ref ka) ∧
      ∃ (lo' hi' : Nat) (q' : List Nat) (tl th : Tok) (VP : View), VP.le V' ∧ OldOr s Vt VP ∧ m' "lo" = some (.int lo' tl) ∧ m' "hi" = some (.int hi' th) ∧ k = hi' - lo' ∧ hi' ≤ vals.length ∧ q'.length + (hi' - lo') ≤ N ∧ P q' VP mu' ∧ bisR f x lo hi q = bisR f x lo' hi' q') (hi - lo)
      (in_AAAAAEEEEEEAAAAAAAA rfl .rfl ma mx mk lo hi q tl th Vt hVt.leFull .refl ml mh rfl hhi (by lia) hP rfl) ?_
    intro k V2 mu2 m2 t2 K hK hR hQ2; refine el_AAAAAEEEEEEAAAAAAAA (hQ2) fun hm2 le2 ma mx mk lo' hi' q' tl th VP leP oldP ml mh hR3 hhi' hqN hP' hbis => ?_; try clear hQ2; subst hR3; intro D2
    refine wpAny_isTrue_Compare1 (r_name D2 ml (r_name D2 mh (lt_int (wpAny_truthy_bool ?_))))
    by_cases hlt : lo' < hi'
    · rw [if_pos (by simpa using hlt)]
      have hmid : (((lo' : Int) + hi').fdiv 2) = (((lo' + hi') / 2 : Nat) : Int) := by
        rw [Int.fdiv_eq_ediv_of_nonneg _ (by decide)]; rfl
      refine wpAny_execs_cons (wpAny_Assign_Name (wpAny_BinOp (wpAny_BinOp (r_name D2 ml (r_name D2 mh (add_int (r_int (D2.tok _) fun tk t3 D3 => floordiv_int (by decide) (r_store (D3.tok _) fun t4 D4 => ?_))))))))
      rw [hmid] at D4
      have hml : (lo' + hi') / 2 < vals.length := Nat.lt_of_lt_of_le (mid_bd hlt).2 hhi'
      have hge : vals[(lo' + hi') / 2]? = some vals[(lo' + hi') / 2] := List.getElem?_eq_getElem hml
      have sub4 := D4.sub (W' := mu.map (·.1)) (fun b hb => by rw [hm2]; exact hb)
      refine wpAny_execs_cons (wpAny_If (wpAny_isTrue_Compare1 (r_name D4 mx (Call_ (r_name D4 mk (callWith_def hkd (args_cons (Subscript_ (r_name D4 ma (r_name D4 rfl (tail_any (T := "list") ⟨_, D4.see _ _ (le2 _ _ ha), rfl⟩ slot_list_getitem.lookup (wpAny_getItem_list ⟨_, D4.see _ _ (le2 _ _ ha), rfl, _, rfl⟩ (by (exact Int.natCast_nonneg _)) (by lia) (get_arr hge) (args_nil ⟨D4.see _ _ (le2 _ _ (leU _ _ hkU)), ?_⟩)) rfl)))))))))))
      have ob4 := hloc hm2 D4
      have subU : Sub U t4 (mu.map (·.1)) := ⟨fun b o e => D4.see _ _ (le2 _ _ (leU _ _ e)), hU.offT, hU.offW⟩
      refine KO.call _ t4 q' ((lo' + hi') / 2) _ VP mu2 _ _ ((hA1.le (by (exact Nat.le_add_right _ _)))) D4.wd subU (sub4.anti leP) hm2 hnd ob4 hP' (by lia) (hpre _ _ hge) ?_
      intro tk5 t5 mu5 st5 hm5 ob5 hP5
      refine el_EAA (D4.after' st5 (hm5.trans hm2.symm) (fun b hb => by rw [hm2]; exact hb) ob5) fun V5 le5 fr5 D5 => ?_
      have seeP : ∀ b o, VP b = some o → t4.heap.get? b = some o := fun b o e => D4.see b o (leP b o e)
      have hP5' := hP5 (extV t4 t5 VP) (le_extV seeP) fresh_extV
      have leP5 : (extV t4 t5 VP).le V5 := extV_le (leP.trans le5) fr5
      have oldP5 : OldOr s Vt (extV t4 t5 VP) := oldP.ext fun b => D4.fresh
      refine lt_int (wpAny_truthy_bool ?_)
      have ebis := bisR.eq_1 f x lo' hi' q'
      rw [dif_pos hlt] at ebis
      rw [ebis] at hbis
      by_cases hx : x < f ((lo' + hi') / 2)
      · rw [if_pos (by simpa using hx)]
        rw [if_pos hx] at hbis
        refine wpAny_execs_cons (wpAny_Assign_Name (r_name D5 rfl (r_store D5 fun t6 D6 => wpAny_execs_nil (wpAny_execs_nil ?_))))
        refine hK _ (in_EEEEAA ((lo' + hi') / 2 - lo') _ _ _ (mid_l hlt) ?_ D6)
        exact (in_AAAAAEEEEEEAAAAAAAA (hm5.trans rfl) (le2.trans le5) ma mx mk lo' ((lo' + hi') / 2) (q' ++ [(lo' + hi') / 2]) _ _ _ leP5 oldP5 ml rfl rfl (Nat.le_trans (Nat.le_of_lt (mid_bd hlt).2) hhi') (by rw [List.length_append, List.length_singleton]; exact mid_q (mid_l hlt) hqN) hP5' hbis)
      · rw [if_neg (by simpa using hx)]
        rw [if_neg hx] at hbis
        refine wpAny_execs_cons (wpAny_Assign_Name (wpAny_BinOp (r_name D5 rfl (r_int D5 fun tk6 t6 D6 => add_int (r_store (D6.tok _) fun t7 D7 => wpAny_execs_nil (wpAny_execs_nil ?_))))))
        refine hK _ (in_EEEEAA (hi' - ((lo' + hi') / 2 + 1)) _ _ _ (mid_r hlt) ?_ D7)
        exact (in_AAAAAEEEEEEAAAAAAAA (hm5.trans rfl) (le2.trans le5) ma mx mk ((lo' + hi') / 2 + 1) hi' (q' ++ [(lo' + hi') / 2]) _ _ _ leP5 oldP5 rfl mh rfl hhi' (by rw [List.length_append, List.length_singleton]; exact mid_q (mid_r hlt) hqN) hP5' hbis)
    · rw [if_neg (by simpa using hlt)]
      have ebis := bisR.eq_1 f x lo' hi' q'
      rw [dif_neg hlt] at ebis
      rw [ebis] at hbis
      refine wpAny_execs_nil ?_
      refine wpAny_execs_cons (wpAny_Return_some (r_name D2 ml ?_))
      have hh := hQ tl t2 mu2 D2.st hm2 (fun p hp => ⟨(hloc hm2 D2 p hp).1, (hloc hm2 D2 p hp).2.1⟩) (fun V'' h1 h2 => by rw [hbis]; exact KO.mono _ _ _ _ hP' (oldP.out (fun b o e => D2.see b o (leP b o e)) h1 h2))
      rw [hbis] at hh
      exact hh
  refine wpAny_execs_cons (wpAny_If (wpAny_isTrue_Compare1 (r_name D rfl (r_int D fun tk t1 D1 => lt_int (wpAny_truthy_bool ?_)))))
  rw [if_neg (by simp)]
  refine wpAny_execs_nil ?_
  refine wpAny_execs_cons (wpAny_If (wpAny_isTrue_Compare1 (r_name D1 rfl (wpAny_Constant_none (is_none (wpAny_truthy_bool ?_))))))
  rcases hhv with ⟨rfl, rfl⟩ | ⟨th, rfl⟩
  · refine wpAny_execs_cons (wpAny_Assign_Name (Call_ (r_built D1 B B.n_len B.b_len (callWith_builtin1 (args_cons (r_name D1 rfl (args_nil (call_len_list ⟨_, D1.see _ _ ha, rfl, _, rfl⟩ (by simp; lia) ?_))))))))
    refine r_store (D1.tok _) fun t2 D2 => wpAny_execs_nil ?_
    refine rest _ _ rfl rfl ⟨_, rfl⟩ ⟨t1.toks + 1, ?_⟩ rfl D2
    simp
  · exact wpAny_execs_nil (rest _ _ rfl rfl ⟨_, rfl⟩ ⟨_, rfl⟩ rfl D1)

theorem bisect_left_spec (B : Bs w mg mb g) {d N : Nat} (hA : Ok A (d + 3)) (hw : Wd g s) {U : View} {Wk : List Addr} (hU : Sub U s Wk) {key : Value} {vals : List Value} {f : Nat → Int} {P : List Nat → View → List (Addr × Obj) → Prop}
    {dv : List Value} (KO : KeyOk prog w g d N key Wk U dv f P) (hpre : ∀ (i : Nat) v, vals[i]? = some v → dv[i]? = some v) {q : List Nat} {mu : List (Addr × Obj)} {Vt : View} (hVt : Sub Vt s Wk) (hP : P q Vt mu) (hmu : mu.map (·.1) = Wk) (hnd : Wk.Nodup) (hob : ∀ p ∈ mu, s.heap.get? p.1 = some p.2 ∧ stab p.2 = false ∧ g.get? p.1 = none)
    {a : Addr} {n : Nat} (ha : fullV s Wk a = some (lst vals n)) (hlen : vals.length < 1000) {x : Int} {tx tl : Tok} {lo hi : Nat} {hv : Value} (hhv : hiOk hv hi vals.length) (hhi : hi ≤ vals.length) (hN : q.length + vals.length ≤ N) {Q : Value → Shared → Prop}
    (hQ : ∀ tk s' mu', Stp Wk s s' → mu'.map (·.1) = Wk → (∀ p ∈ mu', s'.heap.get? p.1 = some p.2 ∧ stab p.2 = false) → (∀ V'', Vt.le V'' → Fresh s s' V'' → P (bisL f x lo hi q).2 V'' mu') → Q (.int (bisL f x lo hi q).1 tk) s') :
    wpAny (model prog w) A (call (.ref 50) [.ref a, .int x tx, .int lo tl, hv] [("key", key)]) Q E s := by
  subst hmu
  refine call_def (mu := mu) (body := b50) (binds := [("a", .ref a), ("x", .int x tx), ("lo", .int lo tl), ("hi", hv), ("key", key)]) B hA hw (hw.base _ _ (B.K 50 _ (pack50.2 w.params))) rfl (codeRec_g hw (codeRec_of B.K rfl)) rfl
    (binds_K (K := hd.heap_39 w.params) (B.K.keeps hw.base) rfl rfl rfl rfl rfl) hob hnd (fun L t hL D => ?_) (by decide) (locs rfl)
  have leU : U.le (fullV s (mu.map (·.1))) := hU.leFull
  have hloc : ∀ {V' : View} {mu' : List (Addr × Obj)} {m' : Str → Option Value} {t' : Shared}, mu'.map (·.1) = mu.map (·.1) → Bd g s (mu.map (·.1)) V' mu' L m' t' → ∀ p ∈ mu', t'.heap.get? p.1 = some p.2 ∧ stab p.2 = false ∧ g.get? p.1 = none := fun hm D' p hp => by
    have z := D'.mus p hp
    refine (in_AA z.1 z.2.2.2.1 ?_)
    cases e : g.get? p.1 with
    | none => rfl
    | some o => have := D'.base _ _ e; rw [z.2.1] at this; cases this
  have hA1 := hA.deeper (callEnv pack50.1 L 50)
  generalize A.deeper (callEnv pack50.1 L 50) = A1 at hA1 ⊢
  revert A1
  refine noBeta ?_
  intro A1 hA1
  have rest : ∀ m' t', m' "a" = some (.ref a) → m' "x" = some (.int x tx) → (∃ tl, m' "lo" = some (.int lo tl)) → (∃ th, m' "hi" = some (.int hi th)) → m' "key" = some key → Bd g s (mu.map (·.1)) (fullV s (mu.map (·.1))) mu L m' t' →
      wpAny (model prog w) A1 (execs (b50.drop 2) (callEnv F50 L 50)) (fun f t' => Q (flowV f) t') NoE t' := by
    intro m' t' ma mx ⟨tl, ml⟩ ⟨th, mh⟩ mk D'
    refine el_EEEAA (KO.fn) fun ka ko kfd hR4 hkU hkd => ?_; subst hR4
    refine wpAny_execs_cons (wpAny_If (wpAny_isTrue_Compare1 (r_name D' mk (wpAny_Constant_none (is_none (wpAny_truthy_bool ?_))))))
    refine wpAny_execs_cons ?_
    refine while_bd D' (fun k V' mu' m' => mu'.map (·.1) = mu.map (·.1) ∧ (fullV s (mu.map (·.1))).le V' ∧ m' "a" = some (.ref a) ∧ m' "x" = some (.int x tx) ∧ m' "key" = some (.ref ka) ∧
      ∃ (lo' hi' : Nat) (q' : List Nat) (tl th : Tok) (VP : View), VP.le V' ∧ OldOr s Vt VP ∧ m' "lo" = some (.int lo' tl) ∧ m' "hi" = some (.int hi' th) ∧ k = hi' - lo' ∧ hi' ≤ vals.length ∧ q'.length + (hi' - lo') ≤ N ∧ P q' VP mu' ∧ bisL f x lo hi q = bisL f x lo' hi' q') (hi - lo)
      (in_AAAAAEEEEEEAAAAAAAA rfl .rfl ma mx mk lo hi q tl th Vt hVt.leFull .refl ml mh rfl hhi (by lia) hP rfl) ?_
    intro k V2 mu2 m2 t2 K hK hR hQ3; refine el_AAAAAEEEEEEAAAAAAAA (hQ3) fun hm2 le2 ma mx mk lo' hi' q' tl th VP leP oldP ml mh hR5 hhi' hqN hP' hbis => ?_; try clear hQ3; subst hR5; intro D2
    refine wpAny_isTrue_Compare1 (r_name D2 ml (r_name D2 mh (lt_int (wpAny_truthy_bool ?_))))
    by_cases hlt : lo' < hi'
    · rw [if_pos (by simpa using hlt)]
      have hmid : (((lo' : Int) + hi').fdiv 2) = (((lo' + hi') / 2 : Nat) : Int) := by
        rw [Int.fdiv_eq_ediv_of_nonneg _ (by decide)]; rfl
      refine wpAny_execs_cons (wpAny_Assign_Name (wpAny_BinOp (wpAny_BinOp (r_name D2 ml (r_name D2 mh (add_int (r_int (D2.tok _) fun tk t3 D3 => floordiv_int (by decide) (r_store (D3.tok _) fun t4 D4 => ?_))))))))
      rw [hmid] at D4
      have hml : (lo' + hi') / 2 < vals.length := Nat.lt_of_lt_of_le (mid_bd hlt).2 hhi'
      have hge : vals[(lo' + hi') / 2]? = some vals[(lo' + hi') / 2] := List.getElem?_eq_getElem hml
      have sub4 := D4.sub (W' := mu.map (·.1)) (fun b hb => by rw [hm2]; exact hb)
      refine wpAny_execs_cons (wpAny_If (wpAny_isTrue_Compare1 (Call_ (r_name D4 mk (callWith_def hkd (args_cons (Subscript_ (r_name D4 ma (r_name D4 rfl (tail_any (T := "list") ⟨_, D4.see _ _ (le2 _ _ ha), rfl⟩ slot_list_getitem.lookup (wpAny_getItem_list ⟨_, D4.see _ _ (le2 _ _ ha), rfl, _, rfl⟩ (by (exact Int.natCast_nonneg _)) (by lia) (get_arr hge) (args_nil ⟨D4.see _ _ (le2 _ _ (leU _ _ hkU)), ?_⟩)) rfl))))))))))
      have ob4 := hloc hm2 D4
      have subU : Sub U t4 (mu.map (·.1)) := ⟨fun b o e => D4.see _ _ (le2 _ _ (leU _ _ e)), hU.offT, hU.offW⟩
      refine KO.call _ t4 q' ((lo' + hi') / 2) _ VP mu2 _ _ ((hA1.le (by (exact Nat.le_add_right _ _)))) D4.wd subU (sub4.anti leP) hm2 hnd ob4 hP' (by lia) (hpre _ _ hge) ?_
      intro tk5 t5 mu5 st5 hm5 ob5 hP5
      refine el_EAA (D4.after' st5 (hm5.trans hm2.symm) (fun b hb => by rw [hm2]; exact hb) ob5) fun V5 le5 fr5 D5 => ?_
      have seeP : ∀ b o, VP b = some o → t4.heap.get? b = some o := fun b o e => D4.see b o (leP b o e)
      have hP5' := hP5 (extV t4 t5 VP) (le_extV seeP) fresh_extV
      have leP5 : (extV t4 t5 VP).le V5 := extV_le (leP.trans le5) fr5
      have oldP5 : OldOr s Vt (extV t4 t5 VP) := oldP.ext fun b => D4.fresh
      refine r_name D5 mx (lt_int (wpAny_truthy_bool ?_))
      have ebis := bisL.eq_1 f x lo' hi' q'
      rw [dif_pos hlt] at ebis
      rw [ebis] at hbis
      by_cases hx : f ((lo' + hi') / 2) < x
      · rw [if_pos (by simpa using hx)]
        rw [if_pos hx] at hbis
        refine wpAny_execs_cons (wpAny_Assign_Name (wpAny_BinOp (r_name D5 rfl (r_int D5 fun tk6 t6 D6 => add_int (r_store (D6.tok _) fun t7 D7 => wpAny_execs_nil (wpAny_execs_nil ?_))))))
        refine hK _ (in_EEEEAA (hi' - ((lo' + hi') / 2 + 1)) _ _ _ (mid_r hlt) ?_ D7)
        exact (in_AAAAAEEEEEEAAAAAAAA (hm5.trans rfl) (le2.trans le5) ma mx mk ((lo' + hi') / 2 + 1) hi' (q' ++ [(lo' + hi') / 2]) _ _ _ leP5 oldP5 rfl mh rfl hhi' (by rw [List.length_append, List.length_singleton]; exact mid_q (mid_r hlt) hqN) hP5' hbis)
      · rw [if_neg (by simpa using hx)]
        rw [if_neg hx] at hbis
        refine wpAny_execs_cons (wpAny_Assign_Name (r_name D5 rfl (r_store D5 fun t6 D6 => wpAny_execs_nil (wpAny_execs_nil ?_))))
        refine hK _ (in_EEEEAA ((lo' + hi') / 2 - lo') _ _ _ (mid_l hlt) ?_ D6)
        exact (in_AAAAAEEEEEEAAAAAAAA (hm5.trans rfl) (le2.trans le5) ma mx mk lo' ((lo' + hi') / 2) (q' ++ [(lo' + hi') / 2]) _ _ _ leP5 oldP5 ml rfl rfl (Nat.le_trans (Nat.le_of_lt (mid_bd hlt).2) hhi') (by rw [List.length_append, List.length_singleton]; exact mid_q (mid_l hlt) hqN) hP5' hbis)
    · rw [if_neg (by simpa using hlt)]
      have ebis := bisL.eq_1 f x lo' hi' q'
      rw [dif_neg hlt] at ebis
      rw [ebis] at hbis
      refine wpAny_execs_nil ?_
      refine wpAny_execs_cons (wpAny_Return_some (r_name D2 ml ?_))
      have hh := hQ tl t2 mu2 D2.st hm2 (fun p hp => ⟨(hloc hm2 D2 p hp).1, (hloc hm2 D2 p hp).2.1⟩) (fun V'' h1 h2 => by rw [hbis]; exact KO.mono _ _ _ _ hP' (oldP.out (fun b o e => D2.see b o (leP b o e)) h1 h2))
      rw [hbis] at hh
      exact hh
  refine wpAny_execs_cons (wpAny_If (wpAny_isTrue_Compare1 (r_name D rfl (r_int D fun tk t1 D1 => lt_int (wpAny_truthy_bool ?_)))))
  rw [if_neg (by simp)]
  refine wpAny_execs_nil ?_
  refine wpAny_execs_cons (wpAny_If (wpAny_isTrue_Compare1 (r_name D1 rfl (wpAny_Constant_none (is_none (wpAny_truthy_bool ?_))))))
  rcases hhv with ⟨rfl, rfl⟩ | ⟨th, rfl⟩
  · refine wpAny_execs_cons (wpAny_Assign_Name (Call_ (r_built D1 B B.n_len B.b_len (callWith_builtin1 (args_cons (r_name D1 rfl (args_nil (call_len_list ⟨_, D1.see _ _ ha, rfl, _, rfl⟩ (by simp; lia) ?_))))))))
    refine r_store (D1.tok _) fun t2 D2 => wpAny_execs_nil ?_
    refine rest _ _ rfl rfl ⟨_, rfl⟩ ⟨t1.toks + 1, ?_⟩ rfl D2
    simp
  · exact wpAny_execs_nil (rest _ _ rfl rfl ⟨_, rfl⟩ ⟨_, rfl⟩ rfl D1)
end
end Mine
end

section
open PySem PySem.W PyProof.Rows PySem.Calls
set_option Elab.async false
set_option linter.unusedVariables false
namespace Mine
set_option maxRecDepth 100000

noncomputable def insAt (l : List Value) (k : Nat) (y : Value) : List Value := l.take k ++ y :: l.drop k

section
variable {prog : Program} {w : World} {mg mb : Str → Option Value} {g : Heap} {A : Around} {E : Value → Shared → Prop} {s₀ t : Shared} {W : List Addr} {V : View} {mu : List (Addr × Obj)} {L : Addr} {m : Str → Option Value}

theorem list_insert_ {a : Addr} {xs : List Value} {n k : Nat} {kk : Int} {tk : Tok} {y : Value} {Q : Value → Shared → Prop} (D : Bd g s₀ W V mu L m t) (i : Nat) (hi : mu[i]? = some (a, lst xs n)) (hkk : kk = (k : Int)) (hk : k ≤ xs.length) (hz : xs.length < 1000)
    (h : ∀ n' t', Bd g s₀ W V (mu.set i (a, lst (insAt xs k y) n')) L m t' → Q .none t') : wpAny (model prog w) A (call (.builtin "list.insert") [.ref a, .int kk tk, y]) Q E t := by
  have z := D.mus _ (List.mem_of_getElem? hi)
  have f1 : ¬(!Builtin.List.listFitsIndex kk) = true := by rw [fitsIndex_of (by lia) (by lia)]; decide
  have f2 : xs.toArray.size ≤ sizeLine := by rw [List.size_toArray, sizeLine_eq]; (exact Nat.le_of_lt (Nat.lt_of_lt_of_le (by assumption) (by decide)))
  have ek : (if kk < 0 then (kk + (xs.toArray.size : Int)).toNat else min kk.toNat xs.toArray.size) = k := by
    rw [if_neg (by lia), List.size_toArray]; lia
  have M := PySem.AutoSeq1.list_insert_list_int_val_1 a xs.toArray n kk tk y f1 f2
  refine call_meets PySem.F.slot_list_insert ⟨_, z.1, rfl⟩ PySem.F.entry_list_insert (PySem.F.args_list_insert_3 _ _ _) M ⟨z.1, ?_⟩
  refine h _ _ (D.upd (n := t.toks) i hi (o' := lst (insAt xs k y) (if ((xs.take k ++ y :: xs.drop k).toArray).size == xs.toArray.size then n else n + 1)) ?_ (Heap.SameBut.update ..).extBut rfl)
  refine (Heap.get?_update_self (h := t.heap) (a := a) _ z.1 rfl).trans ?_
  show some (Obj.mapSeq _ (lst xs n)) = _
  unfold Obj.mapSeq
  dsimp only
  rw [ek, kl_ins_eq]
  rfl
end

noncomputable def pack23 : { b : FuncData // ∀ P, (hd.heap_39 P).lookup 23 = some ⟨.type "function", none, .func b, #[]⟩ } := ⟨_, fun P => rfl⟩
noncomputable def F23 : FuncData := pack23.1
noncomputable def b23 : List Stmt := match F23.body with | .stmts b => b | _ => []
noncomputable def pack41 : { b : FuncData // ∀ P, (hd.heap_39 P).lookup 41 = some ⟨.type "function", none, .func b, #[]⟩ } := ⟨_, fun P => rfl⟩
noncomputable def F41 : FuncData := pack41.1
noncomputable def b41 : List Stmt := match F41.body with | .stmts b => b | _ => []

section
variable {prog : Program} {w : World} {mg mb : Str → Option Value} {g : Heap} {A : Around} {E : Value → Shared → Prop} {s : Shared}

theorem insort_right_spec (B : Bs w mg mb g) {d N : Nat} (hA : Ok A (d + 4)) (hw : Wd g s) {U : View} {Wk : List Addr} {key : Value} {vals : List Value} {f : Nat → Int} {P : List Nat → View → List (Addr × Obj) → Prop} {a : Addr} {xv : Value}
    (hU : Sub U s (a :: Wk)) (KO : KeyOk prog w g d N key Wk U (vals ++ [xv]) f P) {q : List Nat} {mu : List (Addr × Obj)} {Vt : View} (hVt : Sub Vt s (a :: Wk)) (hP : P q Vt mu) (hmu : mu.map (·.1) = Wk) (hnd : (a :: Wk).Nodup)
    (hob : ∀ p ∈ mu, s.heap.get? p.1 = some p.2 ∧ stab p.2 = false ∧ g.get? p.1 = none)
    {n : Nat} (ha : s.heap.get? a = some (lst vals n)) (hag : g.get? a = none) (hlen : vals.length < 1000) {tl : Tok} {lo hi : Nat} {hv : Value} (hhv : hiOk hv hi vals.length) (hhi : hi ≤ vals.length) (hN : q.length + 1 + vals.length ≤ N) (hres : (bisR f (f vals.length) lo hi (q ++ [vals.length])).1 ≤ vals.length) {Q : Value → Shared → Prop}
    {pos : List Value} {kw : List (Str × Value)} (hbind : BindsTo s F23 ⟨pos, kw⟩ [("a", .ref a), ("x", xv), ("lo", .int lo tl), ("hi", hv), ("key", key)])
    (hQ : ∀ s' mu' n', Stp (a :: Wk) s s' → mu'.map (·.1) = Wk → (∀ p ∈ mu', s'.heap.get? p.1 = some p.2 ∧ stab p.2 = false) → s'.heap.get? a = some (lst (insAt vals (bisR f (f vals.length) lo hi (q ++ [vals.length])).1 xv) n') →
      (∀ V'', Vt.le V'' → Fresh s s' V'' → P (bisR f (f vals.length) lo hi (q ++ [vals.length])).2 V'' mu') → Q .none s') :
    wpAny (model prog w) A (call (.ref 23) pos kw) Q E s := by
  subst hmu
  refine call_def (mu := (a, lst vals n) :: mu) (body := b23) (binds := [("a", .ref a), ("x", xv), ("lo", .int lo tl), ("hi", hv), ("key", key)]) B hA hw (hw.base _ _ (B.K 23 _ (pack23.2 w.params))) rfl (codeRec_g hw (codeRec_of B.K rfl)) rfl
    hbind ?_ hnd (fun L t hL D => ?_) (by decide) (locs rfl)
  · intro p hp
    rcases List.mem_cons.mp hp with rfl | hp
    · exact (in_AA ha rfl hag)
    · exact hob p hp
  have hA1 := hA.deeper (callEnv pack23.1 L 23)
  generalize A.deeper (callEnv pack23.1 L 23) = A1 at hA1 ⊢
  revert A1
  refine noBeta ?_
  intro A1 hA1
  have leU : U.le (fullV s (List.map (fun x => x.1) ((a, lst vals n) :: mu))) := hU.leFull
  have hanW : a ∉ mu.map (·.1) := (List.nodup_cons.mp hnd).1
  have hndW := (List.nodup_cons.mp hnd).2
  have noG : ∀ {V' : View} {mu' : List (Addr × Obj)} {m' : Str → Option Value} {t' : Shared}, Bd g s (List.map (fun x => x.1) ((a, lst vals n) :: mu)) V' mu' L m' t' → ∀ p ∈ mu', t'.heap.get? p.1 = some p.2 ∧ stab p.2 = false ∧ g.get? p.1 = none := fun D' p hp => by
    have z := D'.mus p hp
    refine (in_AA z.1 z.2.2.2.1 ?_)
    cases e : g.get? p.1 with
    | none => rfl
    | some o => have := D'.base _ _ e; rw [z.2.1] at this; cases this
  refine el_EEEAA (KO.fn) fun ka ko kfd hR1 hkU hkd => ?_; subst hR1
  refine wpAny_execs_cons (wpAny_If (wpAny_isTrue_Compare1 (r_name D rfl (wpAny_Constant_none (is_none (wpAny_truthy_bool ?_))))))
  have W1 : ∀ b ∈ mu.map (·.1), b ∈ List.map (fun x => x.1) ((a, lst vals n) :: mu) := fun b hb => .tail _ hb
  have leV : Vt.le (fullV s (List.map (fun x => x.1) ((a, lst vals n) :: mu))) := hVt.leFull
  have subU : ∀ {V' : View} {mu' : List (Addr × Obj)} {m' : Str → Option Value} {t' : Shared}, (fullV s (List.map (fun x => x.1) ((a, lst vals n) :: mu))).le V' → Bd g s (List.map (fun x => x.1) ((a, lst vals n) :: mu)) V' mu' L m' t' → Sub U t' (mu.map (·.1)) := fun le D' =>
    ⟨fun b o e => D'.see _ _ (le _ _ (leU _ _ e)), hU.offT, fun b hb => hU.offW b (.tail _ hb)⟩
  refine wpAny_execs_cons (wpAny_Assign_Name (wpAny_Call_Name_kw (r_glob D B B.g_bisect_right (callWith_function_kw (o := ⟨.type "function", none, .func F32, #[]⟩) (fd := F32) (evalArgs_kw2 rfl (args_cons (r_name D rfl (args_cons (Call_ (r_name D rfl (callWith_def hkd (args_cons (r_name D rfl (args_nil ⟨D.see _ _ (leU _ _ hkU), ?_⟩)))))))))))))) 
  refine KO.call _ t q vals.length _ Vt mu _ _ (hA1.le (by (exact Nat.le_add_right _ _))) D.wd (subU .rfl D) ((D.sub W1).anti leV) rfl hndW (fun p hp => noG D p (.tail _ hp)) hP (by lia) (by simp) ?_
  intro tk1 t1 mu1 st1 hm1 ob1 hP1
  have aT : ∀ {V' : View} {mu' : List (Addr × Obj)} {m' : Str → Option Value} {t' : Shared}, Bd g s (List.map (fun x => x.1) ((a, lst vals n) :: mu)) V' ((a, lst vals n) :: mu') L m' t' → a ∉ TT := fun D' h => (D'.neT h).2 (.head _)
  refine el_EAA (D.after' (mu' := (a, lst vals n) :: mu1) st1 (by simp only [List.map_cons]; rw [hm1]) W1 (by
    intro p hp
    rcases List.mem_cons.mp hp with rfl | hp
    · exact ⟨st1.keep _ _ hanW (aT D) (D.mus _ (.head _)).1, rfl⟩
    · exact ob1 p hp)) fun V1 le1 fr1 D1 => ?_
  have seeP : ∀ b o, Vt b = some o → t.heap.get? b = some o := fun b o e => D.see b o (leV b o e)
  have hP1' := hP1 (extV t t1 Vt) (le_extV seeP) fresh_extV
  have leP1 : (extV t t1 Vt).le V1 := extV_le (leV.trans le1) fr1
  have oldP1 : OldOr s Vt (extV t t1 Vt) := OldOr.refl.ext fun b => D.fresh
  have W1' : ∀ b ∈ mu.map (·.1), b ∈ List.map (fun x => x.1) ((a, lst vals n) :: mu1) := fun b hb => by rw [List.map_cons, hm1]; exact .tail _ hb
  refine args_cons (r_name D1 rfl (args_cons (r_name D1 rfl (args_nil ?_))))
  refine kwAll_cons (r_name D1 rfl (kwAll_nil ⟨⟨D1.keepG _ _ (B.K 32 _ (pack32.2 w.params)), rfl⟩, ?_⟩))
  refine bisect_right_spec B (d := d) (hA1.le (by (exact Nat.lt_succ_self _))) D1.wd (subU le1 D1) KO (fun i v hv => by rw [List.getElem?_append_left (List.getElem?_eq_some_iff.mp hv).1]; exact hv) ((D1.sub W1').anti leP1) hP1' hm1 hndW (fun p hp => noG D1 p (.tail _ hp))
    (D1.muFull (.head _) hanW) hlen (x := f vals.length) (lo := lo) (hi := hi) hhv hhi (by rw [List.length_append, List.length_singleton]; omega) ?_
  intro tk2 t2 mu2 st2 hm2 ob2 hP2
  refine el_EAA (D1.after' (mu' := (a, lst vals n) :: mu2) st2 (by simp only [List.map_cons]; rw [hm1, hm2]) W1' (by
    intro p hp
    rcases List.mem_cons.mp hp with rfl | hp
    · exact ⟨st2.keep _ _ hanW (aT D1) (D1.mus _ (.head _)).1, rfl⟩
    · exact ob2 p hp)) fun V2 le2 fr2 D2 => ?_
  have seeP1 : ∀ b o, extV t t1 Vt b = some o → t1.heap.get? b = some o := fun b o e => D1.see b o (leP1 b o e)
  have hP2' := hP2 (extV t1 t2 (extV t t1 Vt)) (le_extV seeP1) fresh_extV
  have leP2 : (extV t1 t2 (extV t t1 Vt)).le V2 := extV_le (leP1.trans le2) fr2
  have oldP2 : OldOr s Vt (extV t1 t2 (extV t t1 Vt)) := oldP1.ext fun b => D1.fresh
  refine r_store D2 fun t3 D3 => wpAny_execs_nil ?_
  refine wpAny_execs_cons (wpAny_Expr (methodCall_KW (r_name D3 rfl (getMethod_list_of PySem.F.slot_list_insert PySem.F.type_list_insert ⟨_, (D3.mus _ (.head _)).1, rfl, _, rfl⟩ ⟨_, (D3.mus _ (.head _)).1, rfl⟩
    (callWith_builtin rfl (evalArgs_plain (args_cons (r_name D3 rfl (args_cons (r_name D3 rfl (args_nil ?_)))))))))))
  refine list_insert_ D3 0 rfl rfl hres hlen fun n' t4 D4 => wpAny_execs_nil ?_
  have hm2' : mu2.map (·.1) = mu.map (·.1) := hm2
  refine hQ t4 mu2 n' D4.st hm2' (fun p hp => ?_) (D4.mus _ (.head _)).1 (fun V'' h1 h2 => KO.mono _ _ _ _ hP2' (oldP2.out (fun b o e => D4.see b o (leP2 b o e)) h1 h2))
  have z := D4.mus p (.tail _ hp)
  exact ⟨z.1, z.2.2.2.1⟩

theorem insort_left_spec (B : Bs w mg mb g) {d N : Nat} (hA : Ok A (d + 4)) (hw : Wd g s) {U : View} {Wk : List Addr} {key : Value} {vals : List Value} {f : Nat → Int} {P : List Nat → View → List (Addr × Obj) → Prop} {a : Addr} {xv : Value}
    (hU : Sub U s (a :: Wk)) (KO : KeyOk prog w g d N key Wk U (vals ++ [xv]) f P) {q : List Nat} {mu : List (Addr × Obj)} {Vt : View} (hVt : Sub Vt s (a :: Wk)) (hP : P q Vt mu) (hmu : mu.map (·.1) = Wk) (hnd : (a :: Wk).Nodup)
    (hob : ∀ p ∈ mu, s.heap.get? p.1 = some p.2 ∧ stab p.2 = false ∧ g.get? p.1 = none)
    {n : Nat} (ha : s.heap.get? a = some (lst vals n)) (hag : g.get? a = none) (hlen : vals.length < 1000) {tl : Tok} {lo hi : Nat} {hv : Value} (hhv : hiOk hv hi vals.length) (hhi : hi ≤ vals.length) (hN : q.length + 1 + vals.length ≤ N) (hres : (bisL f (f vals.length) lo hi (q ++ [vals.length])).1 ≤ vals.length) {Q : Value → Shared → Prop}
    {pos : List Value} {kw : List (Str × Value)} (hbind : BindsTo s F41 ⟨pos, kw⟩ [("a", .ref a), ("x", xv), ("lo", .int lo tl), ("hi", hv), ("key", key)])
    (hQ : ∀ s' mu' n', Stp (a :: Wk) s s' → mu'.map (·.1) = Wk → (∀ p ∈ mu', s'.heap.get? p.1 = some p.2 ∧ stab p.2 = false) → s'.heap.get? a = some (lst (insAt vals (bisL f (f vals.length) lo hi (q ++ [vals.length])).1 xv) n') →
      (∀ V'', Vt.le V'' → Fresh s s' V'' → P (bisL f (f vals.length) lo hi (q ++ [vals.length])).2 V'' mu') → Q .none s') :
    wpAny (model prog w) A (call (.ref 41) pos kw) Q E s := by
  subst hmu
  refine call_def (mu := (a, lst vals n) :: mu) (body := b41) (binds := [("a", .ref a), ("x", xv), ("lo", .int lo tl), ("hi", hv), ("key", key)]) B hA hw (hw.base _ _ (B.K 41 _ (pack41.2 w.params))) rfl (codeRec_g hw (codeRec_of B.K rfl)) rfl
    hbind ?_ hnd (fun L t hL D => ?_) (by decide) (locs rfl)
  · intro p hp
    rcases List.mem_cons.mp hp with rfl | hp
    · exact (in_AA ha rfl hag)
    · exact hob p hp
  have hA1 := hA.deeper (callEnv pack41.1 L 41)
  generalize A.deeper (callEnv pack41.1 L 41) = A1 at hA1 ⊢
  revert A1
  refine noBeta ?_
  intro A1 hA1
  have leU : U.le (fullV s (List.map (fun x => x.1) ((a, lst vals n) :: mu))) := hU.leFull
  have hanW : a ∉ mu.map (·.1) := (List.nodup_cons.mp hnd).1
  have hndW := (List.nodup_cons.mp hnd).2
  have noG : ∀ {V' : View} {mu' : List (Addr × Obj)} {m' : Str → Option Value} {t' : Shared}, Bd g s (List.map (fun x => x.1) ((a, lst vals n) :: mu)) V' mu' L m' t' → ∀ p ∈ mu', t'.heap.get? p.1 = some p.2 ∧ stab p.2 = false ∧ g.get? p.1 = none := fun D' p hp => by
    have z := D'.mus p hp
    refine (in_AA z.1 z.2.2.2.1 ?_)
    cases e : g.get? p.1 with
    | none => rfl
    | some o => have := D'.base _ _ e; rw [z.2.1] at this; cases this
  refine el_EEEAA (KO.fn) fun ka ko kfd hR2 hkU hkd => ?_; subst hR2
  refine wpAny_execs_cons (wpAny_If (wpAny_isTrue_Compare1 (r_name D rfl (wpAny_Constant_none (is_none (wpAny_truthy_bool ?_))))))
  have W1 : ∀ b ∈ mu.map (·.1), b ∈ List.map (fun x => x.1) ((a, lst vals n) :: mu) := fun b hb => .tail _ hb
  have leV : Vt.le (fullV s (List.map (fun x => x.1) ((a, lst vals n) :: mu))) := hVt.leFull
  have subU : ∀ {V' : View} {mu' : List (Addr × Obj)} {m' : Str → Option Value} {t' : Shared}, (fullV s (List.map (fun x => x.1) ((a, lst vals n) :: mu))).le V' → Bd g s (List.map (fun x => x.1) ((a, lst vals n) :: mu)) V' mu' L m' t' → Sub U t' (mu.map (·.1)) := fun le D' =>
    ⟨fun b o e => D'.see _ _ (le _ _ (leU _ _ e)), hU.offT, fun b hb => hU.offW b (.tail _ hb)⟩
  refine wpAny_execs_cons (wpAny_Assign_Name (wpAny_Call_Name_kw (r_glob D B B.g_bisect_left (callWith_function_kw (o := ⟨.type "function", none, .func F50, #[]⟩) (fd := F50) (evalArgs_kw2 rfl (args_cons (r_name D rfl (args_cons (Call_ (r_name D rfl (callWith_def hkd (args_cons (r_name D rfl (args_nil ⟨D.see _ _ (leU _ _ hkU), ?_⟩)))))))))))))) 
  refine KO.call _ t q vals.length _ Vt mu _ _ (hA1.le (by (exact Nat.le_add_right _ _))) D.wd (subU .rfl D) ((D.sub W1).anti leV) rfl hndW (fun p hp => noG D p (.tail _ hp)) hP (by lia) (by simp) ?_
  intro tk1 t1 mu1 st1 hm1 ob1 hP1
  have aT : ∀ {V' : View} {mu' : List (Addr × Obj)} {m' : Str → Option Value} {t' : Shared}, Bd g s (List.map (fun x => x.1) ((a, lst vals n) :: mu)) V' ((a, lst vals n) :: mu') L m' t' → a ∉ TT := fun D' h => (D'.neT h).2 (.head _)
  refine el_EAA (D.after' (mu' := (a, lst vals n) :: mu1) st1 (by simp only [List.map_cons]; rw [hm1]) W1 (by
    intro p hp
    rcases List.mem_cons.mp hp with rfl | hp
    · exact ⟨st1.keep _ _ hanW (aT D) (D.mus _ (.head _)).1, rfl⟩
    · exact ob1 p hp)) fun V1 le1 fr1 D1 => ?_
  have seeP : ∀ b o, Vt b = some o → t.heap.get? b = some o := fun b o e => D.see b o (leV b o e)
  have hP1' := hP1 (extV t t1 Vt) (le_extV seeP) fresh_extV
  have leP1 : (extV t t1 Vt).le V1 := extV_le (leV.trans le1) fr1
  have oldP1 : OldOr s Vt (extV t t1 Vt) := OldOr.refl.ext fun b => D.fresh
  have W1' : ∀ b ∈ mu.map (·.1), b ∈ List.map (fun x => x.1) ((a, lst vals n) :: mu1) := fun b hb => by rw [List.map_cons, hm1]; exact .tail _ hb
  refine args_cons (r_name D1 rfl (args_cons (r_name D1 rfl (args_nil ?_))))
  refine kwAll_cons (r_name D1 rfl (kwAll_nil ⟨⟨D1.keepG _ _ (B.K 50 _ (pack50.2 w.params)), rfl⟩, ?_⟩))
  refine bisect_left_spec B (d := d) (hA1.le (by (exact Nat.lt_succ_self _))) D1.wd (subU le1 D1) KO (fun i v hv => by rw [List.getElem?_append_left (List.getElem?_eq_some_iff.mp hv).1]; exact hv) ((D1.sub W1').anti leP1) hP1' hm1 hndW (fun p hp => noG D1 p (.tail _ hp))
    (D1.muFull (.head _) hanW) hlen (x := f vals.length) (lo := lo) (hi := hi) hhv hhi (by rw [List.length_append, List.length_singleton]; omega) ?_
  intro tk2 t2 mu2 st2 hm2 ob2 hP2
  refine el_EAA (D1.after' (mu' := (a, lst vals n) :: mu2) st2 (by simp only [List.map_cons]; rw [hm1, hm2]) W1' (by
    intro p hp
    rcases List.mem_cons.mp hp with rfl | hp
    · exact ⟨st2.keep _ _ hanW (aT D1) (D1.mus _ (.head _)).1, rfl⟩
    · exact ob2 p hp)) fun V2 le2 fr2 D2 => ?_
  have seeP1 : ∀ b o, extV t t1 Vt b = some o → t1.heap.get? b = some o := fun b o e => D1.see b o (leP1 b o e)
  have hP2' := hP2 (extV t1 t2 (extV t t1 Vt)) (le_extV seeP1) fresh_extV
  have leP2 : (extV t1 t2 (extV t t1 Vt)).le V2 := extV_le (leP1.trans le2) fr2
  have oldP2 : OldOr s Vt (extV t1 t2 (extV t t1 Vt)) := oldP1.ext fun b => D1.fresh
  refine r_store D2 fun t3 D3 => wpAny_execs_nil ?_
  refine wpAny_execs_cons (wpAny_Expr (methodCall_KW (r_name D3 rfl (getMethod_list_of PySem.F.slot_list_insert PySem.F.type_list_insert ⟨_, (D3.mus _ (.head _)).1, rfl, _, rfl⟩ ⟨_, (D3.mus _ (.head _)).1, rfl⟩
    (callWith_builtin rfl (evalArgs_plain (args_cons (r_name D3 rfl (args_cons (r_name D3 rfl (args_nil ?_)))))))))))
  refine list_insert_ D3 0 rfl rfl hres hlen fun n' t4 D4 => wpAny_execs_nil ?_
  have hm2' : mu2.map (·.1) = mu.map (·.1) := hm2
  refine hQ t4 mu2 n' D4.st hm2' (fun p hp => ?_) (D4.mus _ (.head _)).1 (fun V'' h1 h2 => KO.mono _ _ _ _ hP2' (oldP2.out (fun b o e => D4.see b o (leP2 b o e)) h1 h2))
  have z := D4.mus p (.tail _ hp)
  exact ⟨z.1, z.2.2.2.1⟩
end
end Mine
end

section
open PySem PySem.W PyProof.Rows PySem.Calls
set_option Elab.async false
set_option linter.unusedVariables false
namespace Mine
set_option maxRecDepth 100000

theorem cells_get : ∀ (names : List (Str × NameKind)) (h : Heap) (acc : List (Str × Addr)) (lo : Nat), (∀ p ∈ acc, h.get? p.2 = some (cel none) ∧ lo ≤ p.2) → lo ≤ h.objs.size →
    ∀ p ∈ cellsFrom h.objs.size names acc, (pushCells h names).get? p.2 = some (cel none) ∧ lo ≤ p.2
  | [], _, _, _, x, _ => x
  | (name, kind) :: r, h, acc, lo, x, hlo => by
    unfold pushCells cellsFrom
    split
    · have := cells_get r (h.push (cel none)) ((name, h.objs.size) :: acc) lo (fun p hp => by
        rcases List.mem_cons.mp hp with rfl | hp
        · exact ⟨Heap.get?_push_size _ rfl, hlo⟩
        · exact ⟨Heap.get?_push_of_some _ (x p hp).1, (x p hp).2⟩) (by rw [Heap.size_push]; (first | decide | lia))
      rwa [Heap.size_push] at this
    · exact cells_get r h acc lo x hlo
theorem cellsFrom_app : ∀ (names : List (Str × NameKind)) (n : Nat) (acc : List (Str × Addr)), cellsFrom n names acc = cellsFrom n names [] ++ acc
  | [], _, _ => rfl
  | (name, kind) :: r, n, acc => by
    unfold cellsFrom
    split
    · rw [cellsFrom_app r (n + 1) ((name, n) :: acc), cellsFrom_app r (n + 1) [(name, n)], List.append_assoc]; rfl
    · exact cellsFrom_app r n acc

/-- the cells' objects -/
noncomputable def celMu (cs : List (Str × Addr)) (cm : Str → Option Value) : List (Addr × Obj) := cs.map fun p => (p.2, cel (cm p.1))
theorem celMu_set : ∀ {cs : List (Str × Addr)} {i : Nat} {n : Str} {c : Addr} {cm : Str → Option Value} {v : Value}, (cs.map (·.1)).Nodup → cs[i]? = some (n, c) → (celMu cs cm).set i (c, cel (some v)) = celMu cs (upd cm n v)
  | [], _, _, _, _, _, _, h => by cases h
  | x :: cs, 0, n, c, cm, v, hn, h => by
    cases h
    rw [List.map_cons, List.nodup_cons] at hn
    show (c, cel (some v)) :: celMu cs cm = (c, cel (upd cm n v n)) :: celMu cs (upd cm n v)
    have e1 : upd cm n v n = some v := if_pos rfl
    rw [e1]
    congr 1
    refine List.map_congr_left fun p hp => ?_
    have : p.1 ≠ n := fun q => hn.1 (List.mem_map.mpr (in_EA p hp q))
    show _ = (p.2, cel (if p.1 = n then some v else cm p.1))
    rw [if_neg this]
  | x :: cs, i + 1, n, c, cm, v, hn, h => by
    rw [List.map_cons, List.nodup_cons] at hn
    have h' : cs[i]? = some (n, c) := by simpa using h
    show (x.2, cel (cm x.1)) :: (celMu cs cm).set i (c, cel (some v)) = (x.2, cel (upd cm n v x.1)) :: celMu cs (upd cm n v)
    rw [celMu_set hn.2 h']
    have : x.1 ≠ n := fun q => hn.1 (List.mem_map.mpr (in_EA _ (List.mem_of_getElem? h') q.symm))
    show _ = (x.2, cel (if x.1 = n then some v else cm x.1)) :: _
    rw [if_neg this]

section
variable {M : Model} {A : Around} {E : Value → Shared → Prop} {g : Heap} {s₀ t : Shared} {W : List Addr} {V : View} {mu : List (Addr × Obj)} {m cm : Str → Option Value} {env : Env} {own clos : List (Str × Addr)}

theorem binds_bd (f : Str × Value → PUnit → Sem (ForInStep PUnit)) (hf : ∀ n v u, f (n, v) u = (do storeName env n v; pure (.yield ⟨⟩))) (hk : env.scope.kind = .function) (hcells : env.cells = own ++ clos) (hown : (own.map (·.1)).Nodup) :
    ∀ (binds : List (Str × Value)) (m cm : Str → Option Value) (t : Shared) (Q : PUnit → Shared → Prop), Bd g s₀ W V (celMu own cm ++ mu) env.locals m t →
      (∀ x ∈ binds, env.kindOf x.1 = some .local ∨ (env.kindOf x.1 = some .cell ∧ ∃ (i : Nat) (c : Addr), own[i]? = some (x.1, c))) →
      (∀ t', Bd g s₀ W V (celMu own (bindC env.kindOf binds cm) ++ mu) env.locals (bindL env.kindOf binds m) t' → Q ⟨⟩ t') → wpAny M A (forIn binds ⟨⟩ f) Q E t
  | [], m, cm, t, Q, D, _, h => by rw [List.forIn_nil]; exact wpAny_pure (h t D)
  | (n, v) :: r, m, cm, t, Q, D, hkind, h => by
    rw [List.forIn_cons, hf]
    have hr := fun y hy => hkind y (List.mem_cons_of_mem _ hy)
    rcases hkind (n, v) List.mem_cons_self with hl | ⟨hl, i, c, hi⟩
    · refine wpAny_bind (wpAny_bind (r_store D (fun t' D' => wpAny_pure (binds_bd f hf hk hcells hown r _ _ t' Q D' hr fun t'' D'' => h t'' ?_)) hk hl))
      unfold bindL bindC; rw [if_pos hl, if_pos hl]; exact D''
    · have hnl : ¬ env.kindOf n = some .local := by rw [hl]; decide
      have hi' : (celMu own cm ++ mu)[i]? = some (c, cel (cm n)) := by
        have hlt : i < own.length := (List.getElem?_eq_some_iff.mp hi).1
        rw [List.getElem?_append_left (by unfold celMu; rw [List.length_map]; exact hlt)]
        unfold celMu; rw [List.getElem?_map, hi]; rfl
      have hc : env.cells.lookup n = some c := by
        rw [hcells]
        have : ∀ (l : List (Str × Addr)) (i : Nat), (l.map (·.1)).Nodup → l[i]? = some (n, c) → (l ++ clos).lookup n = some c := by
          intro l
          induction l with
          | nil => intro i _ h; cases h
          | cons x l ih =>
            intro i hn h
            rw [List.map_cons, List.nodup_cons] at hn
            cases i with
            | zero => cases h; show List.lookup n ((n, c) :: (l ++ clos)) = _; rw [List.lookup_cons]; simp
            | succ i =>
              have h' : l[i]? = some (n, c) := by simpa using h
              have hx : n ≠ x.1 := fun q => hn.1 (List.mem_map.mpr (in_EA _ (List.mem_of_getElem? h') q))
              show List.lookup n (x :: (l ++ clos)) = _
              obtain ⟨xn, xc⟩ := x
              rw [List.lookup_cons, beq_false_of_ne hx]
              exact ih i hn.2 h'
        exact this own i hown hi
      refine wpAny_bind (wpAny_bind (r_storeC D i hi' (fun t' D' => wpAny_pure (binds_bd f hf hk hcells hown r m (upd cm n v) t' Q ?_ hr fun t'' D'' => h t'' ?_)) hc hk hl))
      · rw [List.set_append_left _ _ (by unfold celMu; rw [List.length_map]; exact (List.getElem?_eq_some_iff.mp hi).1), celMu_set hown hi] at D'
        exact D'
      · unfold bindL bindC; rw [if_neg hnl, if_neg hnl]; exact D''
end

/-- a new frame with its cells -/
theorem newEnv_bd {M : Model} {A : Around} {E : Value → Shared → Prop} {g : Heap} {s : Shared} {mu : List (Addr × Obj)} {scope : Scope} {globals : Addr} {closure : List (Str × Addr)} {binds : List (Str × Value)} {qual : Str} {func : Option Addr} {code : Value} {around : Option Env} {builtins : Addr} {Q : Env → Shared → Prop}
    (hw : Wd g s) (hnT : ∀ P ∈ TT, g.get? P = none) (hmu : ∀ p ∈ mu, s.heap.get? p.1 = some p.2 ∧ stab p.2 = false ∧ g.get? p.1 = none) (hnd : (mu.map (·.1)).Nodup)
    (hk : scope.kind = .function) (hown : ∀ n, ((cellsFrom n scope.names []).map (·.1)).Nodup)
    (hkind : ∀ n, ∀ x ∈ binds, scope.names.lookup x.1 = some .local ∨ (scope.names.lookup x.1 = some .cell ∧ ∃ (i : Nat) (c : Addr), (cellsFrom n scope.names [])[i]? = some (x.1, c)))
    (hQ : ∀ L t, s.heap.get? L = none → L < t.heap.objs.size →
      Bd g s (mu.map (·.1)) (fullV s (mu.map (·.1))) (celMu (cellsFrom (L + 1) scope.names []) (bindC (fun y => scope.names.lookup y) binds fun _ => none) ++ mu) L (bindL (fun y => scope.names.lookup y) binds fun _ => none) t →
      Q (newEnv scope L globals (cellsFrom (L + 1) scope.names closure) qual func code around builtins) t) :
    wpAny M A (newFunctionEnv scope globals closure binds qual func code around builtins) Q E s := by
  unfold newFunctionEnv
  refine wpAny_bind (wpAny_alloc ?_)
  refine wpAny_bind (wpAny_layCells _ (fun name kind cells => by cases hkc : kind == NameKind.cell <;> simp [hkc]) _ _ _ _ ?_)
  generalize hfo : ({ cls := .type (if around.isSome = true then "dict" else "frame"), data := .dict #[] } : Obj) = fo
  have hfd : fo.data = .dict #[] := by rw [← hfo]
  have hff : fo.isFreed = false := by rw [← hfo]; rfl
  dsimp only
  rw [Heap.size_push]
  have hz := get_size s.heap
  have hH : (s.heap.push fo).objs.size = s.heap.objs.size + 1 := Heap.size_push ..
  have keep1 : ∀ b o, s.heap.get? b = some o → (pushCells (s.heap.push fo) scope.names).get? b = some o := fun b o e => pushCells_keeps _ _ b o (Heap.get?_push_of_some _ e)
  have hns : (pushCells (s.heap.push fo) scope.names).Ns s.heap.objs.size fun _ => none := by
    refine ⟨fo, #[], 0, pushCells_keeps _ _ _ _ (Heap.get?_push_size _ hff), hfd, fun _ he => by simp at he, fun _ => rfl⟩
  have ok := cellsFrom_ok scope.names (s.heap.push fo) (s.heap.objs.size + 1) [] ⟨fun _ _ hm => (nomatch hm), List.Pairwise.nil⟩ (by rw [hH]; exact Nat.le_refl _)
  have cg := cells_get scope.names (s.heap.push fo) [] (s.heap.objs.size + 1) (fun _ h => nomatch h) (by rw [hH]; exact Nat.le_refl _)
  rw [hH] at ok cg
  have D0 : Bd g s (mu.map (·.1)) (fullV s (mu.map (·.1))) mu s.heap.objs.size (fun _ => none) { s with heap := pushCells (s.heap.push fo) scope.names } :=
    entry_bd hw hnT hmu hnd hz hns keep1 rfl rfl
  have freshC : ∀ p ∈ cellsFrom (s.heap.objs.size + 1) scope.names [], s.heap.get? p.2 = none := fun p hp => by
    cases e : s.heap.get? p.2 with
    | none => rfl
    | some o => exact absurd (Heap.lt_size e) (Nat.not_lt.mpr (Nat.le_trans (Nat.le_succ _) (cg p hp).2))
  have D1 : Bd g s (mu.map (·.1)) (fullV s (mu.map (·.1))) (celMu (cellsFrom (s.heap.objs.size + 1) scope.names []) (fun _ => none) ++ mu) s.heap.objs.size (fun _ => none) { s with heap := pushCells (s.heap.push fo) scope.names } := by
    refine D0.move .rfl D0.see D0.ns D0.offL D0.offT (fun p hp => ?_) ?_ (fun b hb => ?_) D0.st.tab rfl rfl
    · rcases List.mem_append.mp hp with hp | hp
      · refine el_EA (List.mem_map.mp hp) fun q hq hR1 => ?_; subst hR1
        refine (in_AAAA ((cg q hq).1) ?_ ?_ rfl (.inr (freshC q hq)))
        · cases e : fullV s (mu.map (·.1)) q.2 with
          | none => rfl
          | some o => have := (fullV_sub s _).see _ _ e; rw [freshC q hq] at this; cases this
        · exact Nat.ne_of_gt (cg q hq).2
      · exact D0.mus p hp
    · rw [List.map_append, List.nodup_append]
      refine (in_AA ?_ D0.nd ?_)
      · have : (celMu (cellsFrom (s.heap.objs.size + 1) scope.names []) fun _ => none).map (·.1) = (cellsFrom (s.heap.objs.size + 1) scope.names []).map (·.2) := by
          unfold celMu; rw [List.map_map]; rfl
        rw [this]
        exact List.pairwise_map.mpr (ok.apart.imp fun h => h)
      · intro a ha b hb e
        refine el_EA (List.mem_map.mp ha) fun q hq hR2 => ?_; subst hR2
        refine el_EA (List.mem_map.mp hq) fun q' hq' hR3 => ?_; subst hR3
        refine el_EA (List.mem_map.mp hb) fun p hp hR4 => ?_; subst hR4
        have := (hmu p hp).1
        rw [← e, freshC q' hq'] at this; cases this
    · rw [List.map_append]; exact List.mem_append_right _ (D0.wmu b hb)
  have fin : ∀ env : Env, env = newEnv scope s.heap.objs.size globals (cellsFrom (s.heap.objs.size + 1) scope.names closure) qual func code around builtins →
      wpAny M A (do
        for (name, v) in binds do storeName env name v
        return env) Q E { s with heap := pushCells (s.heap.push fo) scope.names } := by
    intro env he
    have e1 : env.scope = scope := by rw [he]; unfold newEnv; cases around <;> rfl
    have e2 : env.locals = s.heap.objs.size := by rw [he]; unfold newEnv; cases around <;> rfl
    have e3 : env.cells = cellsFrom (s.heap.objs.size + 1) scope.names [] ++ closure := by rw [← cellsFrom_app, he]; unfold newEnv; cases around <;> rfl
    have e4 : env.kindOf = fun y => scope.names.lookup y := by funext y; show env.scope.names.lookup y = _; rw [e1]
    refine wpAny_bind (binds_bd (env := env) (own := cellsFrom (s.heap.objs.size + 1) scope.names []) (clos := closure) _ (fun _ _ _ => rfl) (by rw [e1]; exact hk) e3 (hown _) binds (fun _ => none) (fun _ => none) _ _ (by rw [e2]; exact D1) (fun x hx => by rw [e4]; exact hkind _ x hx) fun t' D' => wpAny_pure ?_)
    rw [e4, e2] at D'
    rw [he]
    exact hQ s.heap.objs.size t' hz D'.ns.lt D'
  cases around with
  | none => exact fin _ rfl
  | some o => exact fin _ rfl
end Mine
end

section
open PySem PySem.W PyProof.Rows PySem.Calls
set_option Elab.async false
set_option linter.unusedVariables false
namespace Mine
set_option maxRecDepth 100000

section
variable {prog : Program} {w : World} {mg mb : Str → Option Value} {g : Heap} {A : Around} {E : Value → Shared → Prop} {s : Shared} {d : Nat}

/-- a call of a def with cells of its own -/
theorem call_defC {a : Addr} {o : Obj} {fd : FuncData} {body : List Stmt} {pos : List Value} {kw : List (Str × Value)} {binds : List (Str × Value)} {mu : List (Addr × Obj)} {Q : Value → Shared → Prop}
    (B : Bs w mg mb g) (hA : Ok A d) (hw : Wd g s) (ho : s.heap.get? a = some o) (hdata : o.data = .func fd) (hcd : s.heap.CodeRec fd.code fd.qualname) (hbody : fd.body = .stmts body) (hbind : BindsTo s fd ⟨pos, kw⟩ binds) (hclo : fd.closure = [])
    (hmu : ∀ p ∈ mu, s.heap.get? p.1 = some p.2 ∧ stab p.2 = false ∧ g.get? p.1 = none) (hnd : (mu.map (·.1)).Nodup)
    (h : ∀ L t, s.heap.get? L = none → Bd g s (mu.map (·.1)) (fullV s (mu.map (·.1))) (celMu (cellsFrom (L + 1) fd.scope.names []) (bindC (fun y => fd.scope.names.lookup y) binds fun _ => none) ++ mu) L (bindL (fun y => fd.scope.names.lookup y) binds fun _ => none) t →
      wpAny (model prog w) (A.deeper (callEnvC fd L a)) (execs body (callEnvC fd L a)) (fun f t' => Q (flowV f) t') NoE t)
    (hown : ∀ n, ((cellsFrom n fd.scope.names []).map (·.1)).Nodup)
    (hkind : ∀ n, ∀ x ∈ binds, fd.scope.names.lookup x.1 = some .local ∨ (fd.scope.names.lookup x.1 = some .cell ∧ ∃ (i : Nat) (c : Addr), (cellsFrom n fd.scope.names [])[i]? = some (x.1, c)))
    (hco : fd.scope.isCoroutine = false := by rfl) (hgen : fd.scope.isGenerator = false := by rfl) (hk : fd.scope.kind = .function := by rfl) :
    wpAny (model prog w) A (call (.ref a) pos kw) Q E s := by
  refine wpAny_call (codeAny_call_function hA.room ho hdata hco hgen hbody hcd (hbind _ _ _ _ ?_))
  rw [hclo]
  refine newEnv_bd hw B.noT hmu hnd hk hown hkind fun L t hL hlt D => ⟨B.nolimit.keeps D.keepG, codeAny_func (wpAny_mono (h L t hL D) (fun f t' q => ?_) fun _ _ q => q.elim)⟩
  cases f <;> exact q

/-- a call of a lambda -/
theorem call_lam {a : Addr} {o : Obj} {fd : FuncData} {body : PySem.Expr} {pos : List Value} {binds : List (Str × Value)} {mu : List (Addr × Obj)} {Q : Value → Shared → Prop}
    (B : Bs w mg mb g) (hA : Ok A d) (hw : Wd g s) (ho : s.heap.get? a = some o) (hdata : o.data = .func fd) (hcd : s.heap.CodeRec fd.code fd.qualname) (hbody : fd.body = .expr body) (hbind : bindArgs fd ⟨pos, []⟩ = pure binds)
    (hmu : ∀ p ∈ mu, s.heap.get? p.1 = some p.2 ∧ stab p.2 = false ∧ g.get? p.1 = none) (hnd : (mu.map (·.1)).Nodup)
    (h : ∀ L t, s.heap.get? L = none → Bd g s (mu.map (·.1)) (fullV s (mu.map (·.1))) mu L (fun x => binds.reverse.lookup x) t →
      wpAny (model prog w) (A.deeper (callEnv fd L a)) (eval body (callEnv fd L a)) (fun v t' => Q v t') NoE t)
    (hcell : ∀ x ∈ fd.scope.names, x.2 ≠ .cell) (hloc : ∀ x ∈ binds, fd.scope.names.lookup x.1 = some .local)
    (hco : fd.scope.isCoroutine = false := by rfl) (hgen : fd.scope.isGenerator = false := by rfl) (hk : fd.scope.kind = .function := by rfl) :
    wpAny (model prog w) A (call (.ref a) pos) Q E s := by
  refine wpAny_call (kla_callFunE hA.room ho hdata hco hgen hbody hcd ?_)
  rw [hbind]
  refine wpAny_pure (wpAny_newFunctionEnv hcell hloc (fun h₀ hns hsb => ⟨(B.nolimit.keeps hw.base).fresh _ hsb, ?_⟩) hk)
  have hL := get_size s.heap
  have hk₀ : ∀ b o, s.heap.get? b = some o → h₀.get? b = some o := fun b o e => hsb.extBut b o (Nat.ne_of_lt (Heap.lt_size e)) (Heap.get?_push_of_some _ e)
  exact kla_codeExpr (wpAny_mono (h _ _ hL (entry_bd (t := { s with heap := h₀, toks := s.toks + binds.length }) hw B.noT hmu hnd hL hns hk₀ rfl rfl)) (fun v t' q => q) fun _ _ q => q.elim)
end

theorem codeAmong_app {pos : Pos} {a b : Int} {c cv : Value} (l : List Value) (h : TriplesOk l) (e : codeAmong pos (l ++ [rawInt a, rawInt b, c]) = some cv) : codeAmong pos l = some cv ∨ cv = c := by
  fun_induction TriplesOk l with
  | case1 =>
    right
    simp only [List.nil_append, rawInt, codeAmong] at e
    split at e
    · cases e; rfl
    · cases e
  | case2 a' t b' u x rest ih =>
    simp only [List.cons_append, codeAmong] at e ⊢
    split at e
    · rename_i hc; left; rw [if_pos hc]; exact e
    · rename_i hc; rw [if_neg hc]; exact ih h e
  | case3 l h1 h2 => exact h.elim

theorem triples_nostr {l : List Value} (h : TriplesOk l) {q : Str} {t : Tok} : l[1]? ≠ some (.str q t) := by
  intro e
  match l, h with
  | [], _ => cases e
  | .int _ _ :: .int _ _ :: _ :: rest, _ => cases e

section
variable {g : Heap} {s₀ t : Shared} {W : List Addr} {V : View} {mu : List (Addr × Obj)} {L a : Addr} {o : Obj} {m : Str → Option Value}
/-- an object that stands, is no frame, no mutable, no table: it may be looked at -/
theorem Bd.addV (D : Bd g s₀ W V mu L m t) {b : Addr} {o : Obj} (e : t.heap.get? b = some o) (hL : b ≠ L) (hm : b ∉ mu.map (·.1)) (hT : b ∉ TT) : ∃ V', V.le V' ∧ V' b = some o ∧ Bd g s₀ W V' mu L m t := by
  have le : V.le (fun x => if x = b then some o else V x) := fun x o' e' => by
    show (if x = b then some o else V x) = some o'
    by_cases q : x = b
    · subst q; rw [if_pos rfl, ← e, D.see _ _ e']
    · rw [if_neg q]; exact e'
  refine (in_EAA _ le (if_pos rfl) (D.move le (fun x o' e' => ?_) D.ns (by show (if L = b then some o else V L) = none; rw [if_neg hL.symm]; exact D.offL) (fun P hP => ?_) (fun p hp => ?_) D.nd D.wmu D.st.tab rfl rfl))
  · by_cases q : x = b
    · subst q; simp only [if_true] at e'; cases e'; exact e
    · simp only [q, if_false] at e'; exact D.see _ _ e'
  · show (if P = b then some o else V P) = none
    rw [if_neg (fun (q : P = b) => hT (q ▸ hP))]; exact D.offT P hP
  · have z := D.mus p hp
    refine (in_AA z.1 ?_ z.2.2)
    show (if p.1 = b then some o else V p.1) = none
    rw [if_neg (fun q => hm (by rw [← q]; exact List.mem_map_of_mem hp))]; exact z.2.1

/-- the code object of a lambda -/
noncomputable def IsCodeV (V : View) (c' : Addr) (q : Str) : Prop := ∃ oc vs tk, V c' = some oc ∧ oc.data = .fields vs ∧ vs[1]? = some (.str q tk)
theorem IsCodeV.mono {V V' : View} {c' : Addr} {q : Str} (h : IsCodeV V c' q) (le : V.le V') : IsCodeV V' c' q := let ⟨a, b, c, d, e⟩ := h; ⟨a, b, c, le _ _ d, e⟩
theorem IsCodeV.rec {V : View} {c' : Addr} {q : Str} {h : Heap} (x : IsCodeV V c' q) (see : ∀ b o, V b = some o → h.get? b = some o) : h.CodeRec (.ref c') q := let ⟨a, b, c, d, e, f⟩ := x; ⟨c', a, b, c, rfl, see _ _ d, e, f⟩

theorem stab_code_off (D : Bd g s₀ W V mu L m t) {b : Addr} {o : Obj} {vs : Array Value} {q : Str} {tk : Tok} (e : t.heap.get? b = some o) (hd : o.data = .fields vs) (h1 : vs[1]? = some (.str q tk)) : b ≠ L ∧ b ∉ mu.map (·.1) ∧ b ∉ TT := by
  refine (in_AA (fun h => ?_) (fun h => ?_) (fun h => ?_))
  · subst h; have := stab_ns D.ns e; rw [stab_code hd h1] at this; cases this
  · refine el_EA (List.mem_map.mp h) fun p hp hR1 => ?_; subst hR1
    have z := D.mus p hp
    rw [e] at z
    have := z.2.2.2.1
    rw [← Option.some.inj z.1, stab_code hd h1] at this; cases this
  · have hq : ∃ q', (b, q') ∈ TQ := by
      simp only [TT, List.mem_cons, List.not_mem_nil, or_false] at h
      rcases h with rfl | rfl | rfl | rfl
      · exact ⟨_, .head _⟩
      · exact ⟨_, .tail _ (.head _)⟩
      · exact ⟨_, .tail _ (.tail _ (.head _))⟩
      · exact ⟨_, .tail _ (.tail _ (.tail _ (.head _)))⟩
    refine el_E (hq) fun q' hq' => ?_; try clear hq
    refine el_EAA (D.st.tab _ hq') fun ps e1 e2 _ => ?_
    rw [e] at e1; cases e1
    cases hd
    exact triples_nostr e2 (by rw [← h1]; simp)
end

section
variable {prog : Program} {w : World} {mg mb : Str → Option Value} {A : Around} {E : Value → Shared → Prop} {g : Heap} {s₀ t : Shared} {W : List Addr} {V : View} {mu : List (Addr × Obj)} {m : Str → Option Value} {env : Env}

theorem r_lambda {c P : Addr} {q : Str} {params : Arguments} {body : PySem.Expr} {scope : Scope} {clos : List (Str × Addr)} {pos : Pos} {Q : Value → Shared → Prop} (D : Bd g s₀ W V mu env.locals m t) (B : Bs w mg mb g)
    (hq : (P, q) ∈ TQ) (hh : (c, P) ∈ ([(130, 128), (125, 123), (113, 109), (135, 133)] : List (Addr × Addr))) (hcode : env.code = .ref c) (hqual : env.qual ++ "<lambda>" = q) (hge : env.globals = mainGlobals) (hcl : closureFor scope env = pure clos) (hdef : defaultsOf params env = ([], []))
    (h : ∀ f c' pm ctv V' t', V.le V' → V' f = some (kla_obj "<lambda>" q params body scope clos pm c' ctv) → IsCodeV V' c' q → s₀.heap.get? f = none → Bd g s₀ W V' mu env.locals m t' → Q (.ref f) t') :
    wpAny (model prog w) A (eval (.Lambda params body scope pos) env) Q E t := by
  subst hqual
  refine kla_eval hdef ?_
  refine el_EAA (D.st.tab _ hq) fun ps hP htr hca => ?_
  have hPT : P ∈ TT := by
    have : ∀ p ∈ TQ, p.1 ∈ TT := by decide
    exact this _ hq
  have C : CodeHd t.heap c P := (B.heads _ hh).keeps D.keepG
  have hgs := B.ng.keeps D.keepG
  refine el_EEAAAAA (B.bm) fun bm ob b1 b2 b3 b4 b5 b6 => ?_
  have hgP : mainGlobals ≠ P := fun q => by
    refine el_EEEAA (hgs) fun o es ep e hd _ => ?_; try clear hgs
    rw [q, hP] at e; cases e; cases hd
  have hbP : bm ≠ P := fun q => by
    have e := D.keepG _ _ b3
    rw [q, hP] at e; cases e; cases b4
  have hbG : bm ≠ mainGlobals := fun q => by
    refine el_EEEAA (B.ng) fun o es ep e hd _ => ?_
    rw [q, e] at b3; cases b3; rw [hd] at b6; cases b6
  have hb : t.heap.BuiltinsAt mg P := ⟨bm, ob, b1, b2, hbG, hbP, D.keepG _ _ b3, b4, b5, b6⟩
  cases hf : codeAmong pos ps.toList with
  | some cv =>
    refine el_EAEEEEAAA (hca pos cv hf) fun c' hR2 c₁ oc vs tk e1 e2 e3 e4 => ?_; subst hR2
    cases e1
    refine kla_makeFunctionHit (mg := mg) hcl hge hgs hcode C hP htr hf hb fun ctv h' tk' hk hsz => ?_
    refine el_AA (stab_code_off D e2 e3 e4) fun o1 o2 o3 => ?_
    refine el_EAA (D.addV e2 o1 o2 o3) fun V1 le1 hc1 D1 => ?_
    have hn : t.heap.get? h'.objs.size = none := by
      cases e : t.heap.get? h'.objs.size with
      | none => rfl
      | some o => exact absurd (Heap.lt_size e) (Nat.not_lt.mpr hsz)
    refine el_EAAAA (D1.new (n := tk') (o := kla_obj "<lambda>" (env.qual ++ "<lambda>") params body scope clos ((mg "__name__").getD .none) c' ctv) hn (Heap.get?_push_size _ rfl) (fun b o e => Heap.get?_push_of_some _ (hk b o e))) fun V2 le2 hf2 _ hs2 D2 => ?_
    exact h _ c' _ ctv V2 _ (le1.trans le2) hf2 ⟨oc, vs, tk, le2 _ _ hc1, e3, e4⟩ hs2 D2
  | none =>
    refine kla_makeFunction (mg := mg) hcl hge hgs hcode C hP htr hf hgP hb fun c' ctv h' tk' hx hge' hlt hrec htb => ?_
    refine el_EEEEAAA (hrec) fun c₁ oc vs tk e1 e2 e3 e4 => ?_; try clear hrec
    cases e1
    have hnc : t.heap.get? c' = none := by
      cases e : t.heap.get? c' with
      | none => rfl
      | some o => exact absurd (Heap.lt_size e) (Nat.not_lt.mpr hge')
    have hnf : t.heap.get? h'.objs.size = none := by
      cases e : t.heap.get? h'.objs.size with
      | none => rfl
      | some o => exact absurd (Heap.lt_size e) (Nat.not_lt.mpr (Nat.le_trans hge' (Nat.le_of_lt hlt)))
    -- the table grows
    have tabs' : TabsOk h' := by
      intro p hp
      refine el_EAA (D.st.tab p hp) fun ps' f1 f2 f3 => ?_
      by_cases hpP : p.1 = P
      · rw [hpP] at f1 ⊢
        rw [hP] at f1; cases f1
        have hq2 : p.2 = env.qual ++ "<lambda>" := by
          have : ∀ p ∈ TQ, ∀ p' ∈ TQ, p.1 = p'.1 → p.2 = p'.2 := by decide
          exact this p hp _ hq hpP
        refine ⟨_, htb, ?_, fun pos' cv' hcv => ?_⟩
        · have := TriplesOk_snoc pos.line pos.col (.ref c') _ htr
          simpa using this
        · have hl : (ps ++ #[rawInt pos.line, rawInt pos.col, Value.ref c']).toList = ps.toList ++ [rawInt pos.line, rawInt pos.col, .ref c'] := by simp
          rw [hl] at hcv
          rcases codeAmong_app _ htr hcv with h1 | rfl
          · refine el_EAEEEEAAA (hca pos' cv' h1) fun c2 hR3 c3 o3 vs3 tk3 g1 g2 g3 g4 => ?_; subst hR3
            cases g1
            rw [hq2]
            exact (in_EAEEEEAAA c2 rfl c2 o3 vs3 tk3 rfl (hx _ _ (fun q => (stab_code_off D g2 g3 g4).2.2 (q ▸ hPT)) g2) g3 g4)
          · rw [hq2]
            exact (in_EAEEEEAAA c' rfl c' oc vs tk rfl e2 e3 e4)
      · refine ⟨ps', hx _ _ hpP f1, f2, fun pos' cv' hcv => ?_⟩
        refine el_EAEEEEAAA (f3 pos' cv' hcv) fun c2 hR4 c3 o3 vs3 tk3 g1 g2 g3 g4 => ?_; subst hR4
        cases g1
        exact (in_EAEEEEAAA c2 rfl c2 o3 vs3 tk3 rfl (hx _ _ (fun q => (stab_code_off D g2 g3 g4).2.2 (q ▸ hPT)) g2) g3 g4)
    have D1 : Bd g s₀ W V mu env.locals m { t with heap := h', toks := tk' } := by
      refine D.move .rfl (fun b o e => hx b o (fun q => by rw [q, D.offT P hPT] at e; cases e) (D.see b o e)) (D.ns.extBut hx (D.neT hPT).1.symm) D.offL D.offT (fun p hp => ?_) D.nd D.wmu tabs' rfl rfl
      have z := D.mus p hp
      exact ⟨hx _ _ (fun q => (D.neT hPT).2 (by rw [← q]; exact List.mem_map_of_mem hp)) z.1, z.2⟩
    refine el_AA (stab_code_off D1 e2 e3 e4) fun o1 o2 o3 => ?_
    refine el_EAA (D1.addV e2 o1 o2 o3) fun V2 le2 hc2 D2 => ?_
    refine el_EAAAA (D2.new (n := tk') (o := kla_obj "<lambda>" (env.qual ++ "<lambda>") params body scope clos ((mg "__name__").getD .none) c' ctv) (get_size h') (Heap.get?_push_size _ rfl) (fun b o e => Heap.get?_push_of_some _ e)) fun V3 le3 hf3 _ hs3 D3 => ?_
    exact h _ c' _ ctv V3 _ (le2.trans le3) hf3 ⟨oc, vs, tk, le3 _ _ hc2, e3, e4⟩ hs3 D3
end
end Mine
end

section
open PySem PySem.W PyProof.Rows PySem.Calls
set_option Elab.async false
set_option linter.unusedVariables false
namespace Mine
set_option maxRecDepth 100000

section
variable {prog : Program} {w : World} {mg mb : Str → Option Value} {g : Heap} {A : Around} {E : Value → Shared → Prop} {s₀ t : Shared} {W : List Addr} {V : View} {mu : List (Addr × Obj)} {L : Addr} {m : Str → Option Value} {env : Env}

theorem list_append_ {a : Addr} {xs : List Value} {n : Nat} {y : Value} {Q : Value → Shared → Prop} (D : Bd g s₀ W V mu L m t) (i : Nat) (hi : mu[i]? = some (a, lst xs n)) (hz : xs.length ≤ 100000)
    (h : ∀ n' t', Bd g s₀ W V (mu.set i (a, lst (xs ++ [y]) n')) L m t' → Q .none t') : wpAny (model prog w) A (call (.builtin "list.append") [.ref a, y]) Q E t := by
  have z := D.mus _ (List.mem_of_getElem? hi)
  have f2 : xs.toArray.size ≤ sizeLine := by rw [List.size_toArray, sizeLine_eq]; (exact Nat.le_trans (by assumption) (by decide))
  refine call_meets PySem.F.slot_list_append ⟨_, z.1, rfl⟩ PySem.F.entry_list_append (PySem.F.args_list_append_2 _ _) (PySem.list_append a xs.toArray n y f2) ⟨z.1, ?_⟩
  refine h _ _ (D.upd (n := t.toks) i hi (o' := lst (xs ++ [y]) (if (xs.toArray.push y).size == xs.toArray.size then n else n + 1)) ?_ (Heap.SameBut.update ..).extBut rfl)
  refine (Heap.get?_update_self (h := t.heap) (a := a) _ z.1 rfl).trans ?_
  show some (Obj.mapSeq _ (lst xs n)) = _
  unfold Obj.mapSeq
  dsimp only
  rw [List.push_toArray]

/-- a tuple display -/
theorem r_tuple {elts : List PySem.Expr} {k : Nat} {pos : Pos} {Q : Value → Shared → Prop}
    (h : wpAny (model prog w) A (spliced (backTo pos (starEach elts env))) (fun vs t' => ∃ V' mu' m', Bd g s₀ W V' mu' env.locals m' t' ∧ vs.length ≤ 1000 ∧
      ∀ a V'' t'', V'.le V'' → V'' a = some (tup vs 0) → V' a = none → s₀.heap.get? a = none → Bd g s₀ W V'' mu' env.locals m' t'' → Q (.ref a) t'') E t) : wpAny (model prog w) A (eval (.Tuple elts k pos) env) Q E t := by
  refine wpAny_Tuple (wpAny_mono h (fun vs t' h' => ?_) fun _ _ x => x)
  refine el_EEEAA (h') fun V' mu' m' D' hl h'' => ?_; try clear h'
  refine ⟨by rw [sizeLine_eq]; (exact Nat.le_trans (by assumption) (by decide)), ?_⟩
  refine el_EAAAA (D'.new (n := t'.toks) (o := tup vs 0) (get_size t'.heap) (Heap.get?_push_size _ rfl) (fun b o e => Heap.get?_push_of_some _ e)) fun V2 le2 hf hn hs D2 => ?_
  exact h'' _ V2 _ le2 hf hn hs D2
/-- a list display, as a mutable -/
theorem r_list {elts : List PySem.Expr} {pos : Pos} {Q : Value → Shared → Prop}
    (h : wpAny (model prog w) A (spliced (backTo pos (starEach elts env))) (fun vs t' => ∃ V' mu' m', Bd g s₀ W V' mu' env.locals m' t' ∧ vs.length ≤ 1000 ∧
      ∀ a t'', V' a = none → s₀.heap.get? a = none → Bd g s₀ W V' ((a, lst vs 0) :: mu') env.locals m' t'' → Q (.ref a) t'') E t) : wpAny (model prog w) A (eval (.List elts pos) env) Q E t := by
  refine wpAny_List (wpAny_mono h (fun vs t' h' => ?_) fun _ _ x => x)
  refine el_EEEAA (h') fun V' mu' m' D' hl h'' => ?_; try clear h'
  refine ⟨by rw [sizeLine_eq]; (exact Nat.le_trans (by assumption) (by decide)), ?_⟩
  have D2 := D'.newMu (n := t'.toks) (o := lst vs 0) (get_size t'.heap) (Heap.get?_push_size _ rfl) (fun b o e => Heap.get?_push_of_some _ e) rfl
  have z := D2.mus _ (.head _)
  exact h'' _ _ z.2.1 (D'.fresh (get_size t'.heap)) D2
end

noncomputable def pack107 : { b : FuncData // ∀ P, (hd.heap_39 P).lookup 107 = some ⟨.type "function", none, .func b, #[]⟩ } := ⟨_, fun P => rfl⟩
noncomputable def F107 : FuncData := pack107.1
noncomputable def b107 : List Stmt := match F107.body with | .stmts b => b | _ => []
noncomputable def pack114 : { b : FuncData // ∀ P, (hd.heap_39 P).lookup 114 = some ⟨.type "function", none, .func b, #[]⟩ } := ⟨_, fun P => rfl⟩
noncomputable def F114 : FuncData := pack114.1
noncomputable def b114 : List Stmt := match F114.body with | .stmts b => b | _ => []

section
variable {prog : Program} {w : World} {mg mb : Str → Option Value} {g : Heap} {A : Around} {E : Value → Shared → Prop} {s : Shared}

/-- order.compare(x, y) as an expression, x and y names or anything that evaluates to values -/
theorem m_compare (B : Bs w mg mb g) {s₀ t : Shared} {W : List Addr} {V : View} {mu : List (Addr × Obj)} {L : Addr} {m : Str → Option Value} {x kl : Addr} {pl : Sem Bool} {Q : Value × List Value → Shared → Prop}
    (D : Bd g s₀ W V mu L m t) (hx : IsOrd V x kl) (h : Q (.ref 71, [.ref x]) t) : wpAny (model prog w) A (getMethod (.ref x) "compare" pl) Q E t := by
  refine el_EEEEA (hx) fun dx hsh tk0 n0 hx1 hx2 => ?_; try clear hx
  have I : InstAt t.heap x (instObj 74 dx) 74 (some (dictOf [⟨hsh, .str "comp_select_list" tk0, .ref kl⟩] n0)) := InstAt.mk (D.see _ _ hx1) rfl rfl (D.see _ _ hx2)
  exact method_fn (K := hd.heap_39 w.params) (f := 71) (B.K.keeps D.keepG) I rfl rfl rfl rfl rfl h

theorem told_spec (B : Bs w mg mb g) (hA : Ok A 4) (hw : Wd g s) {U : View} {ask : Addr} (hU : Sub U s [ask]) {x kl l r : Addr} {K : List (Int × Int)} {R1 R2 : Row} {Q : Value → Shared → Prop} (hx : IsOrd U x kl) (hk : IsKeys U kl K) (hK : ∀ p ∈ K, p.1 = 0 ∨ p.1 = 1 ∨ p.1 = 2)
    (hl : IsRow U l R1) (hr : IsRow U r R2) {items : List Value} {n : Nat} (ha : s.heap.get? ask = some (lst items n)) (hag : g.get? ask = none) (hz : items.length ≤ 100000)
    (hQ : ∀ tk tr n' s', Stp [ask] s s' → s.heap.get? tr = none → s'.heap.get? tr = some (tup [.ref l, .ref r] 0) → s'.heap.get? ask = some (lst (items ++ [.ref tr]) n') → Q (.int (cmpK K R1 R2) tk) s') :
    wpAny (model prog w) A (call (.ref 107) [.ref ask, .ref x, .ref l, .ref r]) Q E s := by
  refine call_def (mu := [(ask, lst items n)]) (body := b107) (binds := [("asked", .ref ask), ("order", .ref x), ("other", .ref l), ("row", .ref r)]) B hA hw (hw.base _ _ (B.K 107 _ (pack107.2 w.params))) rfl (codeRec_g hw (codeRec_of B.K rfl)) rfl (BindsTo.of_eq rfl)
    (fun p hp => by obtain rfl := List.mem_singleton.mp hp; exact (in_AA ha rfl hag)) (List.nodup_cons.mpr ⟨List.not_mem_nil, List.nodup_nil⟩) (fun L t hL D => ?_) (by decide) (locs rfl)
  have le' : U.le (fullV s (List.map (fun x => x.1) [(ask, lst items n)])) := hU.leFull
  replace hx := hx.mono le'
  replace hk := hk.mono le'
  replace hl := hl.mono le'
  replace hr := hr.mono le'
  have hA1 := hA.deeper (callEnv pack107.1 L 107)
  generalize A.deeper (callEnv pack107.1 L 107) = A1 at hA1 ⊢
  revert A1
  refine noBeta ?_
  intro A1 hA1
  try refine kq _ ?_
  refine seqK fun KQ kq => (wpAny_Expr (methodCall_KW (r_name D rfl (getMethod_list_of PySem.F.slot_list_append PySem.F.type_list_append ⟨_, (D.mus _ (.head _)).1, rfl, _, rfl⟩ ⟨_, (D.mus _ (.head _)).1, rfl⟩
    (callWith_builtin rfl (evalArgs_plain (args_cons (r_tuple (args_cons (r_name D rfl (args_cons (r_name D rfl (args_nil (in_EEEAA _ _ _ D (Nat.le_of_ble_eq_true rfl) (fun tr V1 t1 le1 ht1 hV hs D1 => args_nil ?_)))))))))))))))
  refine list_append_ D1 0 rfl hz fun n' t2 D2 => ?_
  try refine kq _ ?_
  refine wpAny_execs_cons (wpAny_Return_some (methodCall_KW (r_name D2 rfl (m_compare B D2 (hx.mono le1) (callWith_function (o := ⟨.type "function", none, .func F71, #[]⟩) (fd := F71) (evalArgs_plain (args_cons (r_name D2 rfl (args_cons (r_name D2 rfl (args_nil ⟨⟨D2.keepG _ _ (B.K 71 _ (pack71.2 w.params)), rfl⟩, ?_⟩)))))))))))
  refine compare_spec B (hA1.le (by decide)) D2.wd (D2.sub (fun _ h => nomatch h)) (hx.mono le1) (hk.mono le1) hK (hl.mono le1) (hr.mono le1) fun tk t3 st3 => ?_
  refine el_EAA (D2.pure st3) fun V3 le3 fr3 D3 => ?_
  have hh := hQ tk tr n' t3 D3.st hs (D3.see _ _ (le3 _ _ ht1)) (D3.mus _ (.head _)).1
  exact hh
end
end Mine
end

section
open PySem PySem.W PyProof.Rows PySem.Calls
set_option Elab.async false
set_option linter.unusedVariables false
namespace Mine
set_option maxRecDepth 100000

noncomputable def lamParts : PySem.Expr → Arguments × PySem.Expr × Scope × Pos
  | .Lambda p b s pos => (p, b, s, pos)
  | e => (⟨[], [], none, [], [], none, []⟩, e, default, default)
noncomputable def lamH : PySem.Expr := match b114 with | [.Return (some e) _] => e | _ => default
noncomputable def pack126 : { b : FuncData // ∀ P, (hd.heap_39 P).lookup 126 = some ⟨.type "function", none, .func b, #[]⟩ } := ⟨_, fun P => rfl⟩
noncomputable def F126 : FuncData := pack126.1
noncomputable def b126 : List Stmt := match F126.body with | .stmts b => b | _ => []
noncomputable def lamL : PySem.Expr := match b126 with | [_, _, .For _ _ [_, _, .If _ [.For _ _ [.Expr (.Call _ _ [k1] _) _] _ _] [.For _ _ [.Expr (.Call _ _ [k2] _) _] _ _] _, _, _] _ _, _] => k1.value | _ => default
noncomputable def lamR : PySem.Expr := match b126 with | [_, _, .For _ _ [_, _, .If _ [.For _ _ [.Expr (.Call _ _ [k1] _) _] _ _] [.For _ _ [.Expr (.Call _ _ [k2] _) _] _ _] _, _, _] _ _, _] => k2.value | _ => default

noncomputable abbrev lamObj (lam : PySem.Expr) (q : Str) (clos : List (Str × Addr)) (pm : Value) (c' : Addr) (ctv : Value) : Obj := kla_obj "<lambda>" q (lamParts lam).1 (lamParts lam).2.1 (lamParts lam).2.2.1 clos pm c' ctv

noncomputable def qH : Str := "_law_held.<locals>.<lambda>"
noncomputable def qP : Str := "_law_pass.<locals>.<lambda>"
noncomputable def IsHeldV (V : View) (f x r c' : Addr) : Prop := ∃ c1 c2 pm ctv, V f = some (lamObj lamH qH [("row", c2), ("order", c1)] pm c' ctv) ∧ V c1 = some (cel (some (.ref x))) ∧ V c2 = some (cel (some (.ref r)))
theorem IsHeldV.mono {V V' : View} {f x r c' : Addr} (h : IsHeldV V f x r c') (le : V.le V') : IsHeldV V' f x r c' := let ⟨a, b, c, d, e1, e2, e3⟩ := h; ⟨a, b, c, d, le _ _ e1, le _ _ e2, le _ _ e3⟩

section
variable {prog : Program} {w : World} {mg mb : Str → Option Value} {g : Heap} {A : Around} {E : Value → Shared → Prop} {s : Shared}

theorem held_spec (B : Bs w mg mb g) (hA : Ok A 2) (hw : Wd g s) {x r : Addr} {Q : Value → Shared → Prop}
    (hQ : ∀ f c' s', Stp [] s s' → s'.heap.CodeRec (.ref c') qH → (∀ V'', Fresh s s' V'' → IsHeldV V'' f x r c') → Q (.ref f) s') :
    wpAny (model prog w) A (call (.ref 114) [.ref x, .ref r]) Q E s := by
  refine call_defC (mu := []) (body := b114) (binds := [("order", .ref x), ("row", .ref r)]) B hA hw (hw.base _ _ (B.K 114 _ (pack114.2 w.params))) rfl (codeRec_g hw (codeRec_of B.K rfl)) rfl (BindsTo.of_eq rfl) rfl (fun _ h => nomatch h) List.nodup_nil (fun L t hL D => ?_)
    (fun n => by show List.Nodup [("row" : Str), "order"]; decide) (fun n y hy => ?_)
  · have D : Bd g s [] (fullV s []) [(L + 1 + 1, cel (some (.ref r))), (L + 1, cel (some (.ref x)))] L (fun _ => none) t := D
    refine wpAny_execs_cons (wpAny_Return_some ?_)
    refine r_lambda (q := qH) D B (c := 113) (P := 109) (by decide) (by decide) rfl (by show (F114.qualname ++ ".<locals>.") ++ "<lambda>" = qH; decide) rfl rfl rfl fun f c' pm ctv V' t' le hf hc hs D' => ?_
    have hh := hQ f c' t' D'.st (hc.rec D'.see) (fun V'' fr => ?_)
    · exact hh
    have z1 := D'.mus _ (.head _)
    have z2 := D'.mus _ (.tail _ (.head _))
    refine ⟨L + 1, L + 1 + 1, pm, ctv, fr _ _ (D'.see _ _ hf) hs, fr _ _ z2.1 (z2.2.2.2.2.resolve_left (fun h => nomatch h)), fr _ _ z1.1 (z1.2.2.2.2.resolve_left (fun h => nomatch h))⟩
  · simp only [List.mem_cons, List.not_mem_nil, or_false] at hy
    rcases hy with rfl | rfl
    · exact .inr (in_AEE rfl 1 n rfl)
    · exact .inr (in_AEE rfl 0 (n + 1) rfl)

/-- the values are rows -/
noncomputable def RowsAre (V : View) (vals : List Value) (Rs : Nat → Row) : Prop := ∀ (i : Nat) v, vals[i]? = some v → ∃ a, v = .ref a ∧ IsRow V a (Rs i)
theorem RowsAre.mono {V V' : View} {vals : List Value} {Rs : Nat → Row} (h : RowsAre V vals Rs) (le : V.le V') : RowsAre V' vals Rs := fun i v e => let ⟨a, b, c⟩ := h i v e; (in_EA a b (c.mono le))

theorem held_key (B : Bs w mg mb g) {U : View} {f x r c' kl : Addr} {K : List (Int × Int)} {Rr : Row} {vals : List Value} {Rs : Nat → Row} {N : Nat} (hf : IsHeldV U f x r c') (hc : IsCodeV U c' qH) (hx : IsOrd U x kl) (hk : IsKeys U kl K) (hK : ∀ p ∈ K, p.1 = 0 ∨ p.1 = 1 ∨ p.1 = 2)
    (hr : IsRow U r Rr) (hv : RowsAre U vals Rs) : KeyOk prog w g 4 N (.ref f) [] U vals (fun i => cmpK K (Rs i) Rr) (fun _ _ mu => mu = []) where
  fn := let ⟨c1, c2, pm, ctv, e, _⟩ := hf; (in_EEEAA f _ _ rfl e rfl)
  mono := fun q V V' mu h _ => h
  call := fun A t q i v Vt mu Q E hA hw hU hVt hmu hnd hob hP hqN hvi hQ => by
    subst hP
    refine el_EA (hv i v hvi) fun l hR1 hl => ?_; subst hR1
    refine el_EEEEAA (hf) fun c1 c2 pm ctv e1 e2 e3 => ?_; try clear hf
    refine call_lam (mu := []) (binds := [("other", .ref l)]) B hA hw (hU.see _ _ e1) rfl (hc.rec hU.see) rfl rfl (fun _ h => nomatch h) List.nodup_nil (fun L t1 hL D => ?_) (show ∀ x ∈ (lamParts lamH).2.2.1.names, x.2 ≠ .cell from by decide) (locs rfl)
    have le : U.le (fullV t (List.map (fun x => x.1) ([] : List (Addr × Obj)))) := hU.leFull
    refine methodCall_KW (r_free D (le _ _ e2) (m_compare B D (hx.mono le) (callWith_function (o := ⟨.type "function", none, .func F71, #[]⟩) (fd := F71) (evalArgs_plain (args_cons (r_name D rfl (args_cons (r_free D (le _ _ e3) (args_nil ⟨⟨D.keepG _ _ (B.K 71 _ (pack71.2 w.params)), rfl⟩, ?_⟩)))))))))
    refine compare_spec B ((hA.deeper _).le (by (first | decide | lia))) D.wd (D.sub (fun _ h => nomatch h)) (hx.mono le) (hk.mono le) hK (hl.mono le) (hr.mono le) fun tk t2 st2 => ?_
    exact hQ tk t2 [] (D.st.trans st2) rfl (fun _ h => nomatch h) (fun _ _ _ => rfl)

/-- the pairs noted so far -/
noncomputable def AskL (V : View) (items : List Value) (ps : List (Addr × Addr)) : Prop := items.length = ps.length ∧ ∀ (i : Nat) v p, items[i]? = some v → ps[i]? = some p → ∃ t n, v = .ref t ∧ V t = some (tup [.ref p.1, .ref p.2] n)
theorem AskL.mono {V V' : View} {items : List Value} {ps : List (Addr × Addr)} (h : AskL V items ps) (le : V.le V') : AskL V' items ps := ⟨h.1, fun i v p e1 e2 => let ⟨t, n, a, b⟩ := h.2 i v p e1 e2; (in_EEA t n a (le _ _ b))⟩
theorem AskL.snoc {V : View} {items : List Value} {ps : List (Addr × Addr)} (h : AskL V items ps) {t : Addr} {n : Nat} {p : Addr × Addr} (e : V t = some (tup [.ref p.1, .ref p.2] n)) : AskL V (items ++ [.ref t]) (ps ++ [p]) := by
  refine ⟨by simp [h.1], fun i v p' e1 e2 => ?_⟩
  by_cases hi : i < items.length
  · rw [List.getElem?_append_left hi] at e1
    rw [List.getElem?_append_left (h.1 ▸ hi)] at e2
    exact h.2 i v p' e1 e2
  · have hlt : i < (items ++ [Value.ref t]).length := (List.getElem?_eq_some_iff.mp e1).1
    rw [List.length_append, List.length_singleton] at hlt
    have : i = items.length := by (first | decide | lia)
    subst this
    rw [List.getElem?_append_right (Nat.le_refl _), Nat.sub_self] at e1
    rw [h.1, List.getElem?_append_right (Nat.le_refl _), Nat.sub_self] at e2
    cases e1; cases e2
    exact (in_EEA t n rfl e)

noncomputable def IsPassV (lam : PySem.Expr) (V : View) (f ask x r c' : Addr) : Prop := ∃ c1 c2 c3 pm ctv, V f = some (lamObj lam qP [("row", c3), ("order", c2), ("asked", c1)] pm c' ctv) ∧ V c1 = some (cel (some (.ref ask))) ∧ V c2 = some (cel (some (.ref x))) ∧ V c3 = some (cel (some (.ref r)))
theorem IsPassV.mono {lam : PySem.Expr} {V V' : View} {f ask x r c' : Addr} (h : IsPassV lam V f ask x r c') (le : V.le V') : IsPassV lam V' f ask x r c' := let ⟨a, a', b, c, d, e1, e2, e3, e4⟩ := h; ⟨a, a', b, c, d, le _ _ e1, le _ _ e2, le _ _ e3, le _ _ e4⟩

noncomputable def noted (ask r : Addr) (dom : Nat → Addr) (pre : List (Addr × Addr)) (q : List Nat) (V : View) (mu : List (Addr × Obj)) : Prop := ∃ items n, mu = [(ask, lst items n)] ∧ AskL V items (pre ++ q.map fun i => (dom i, r))

theorem pass_keyL (B : Bs w mg mb g) {U : View} {f ask x r c' kl : Addr} {K : List (Int × Int)} {Rr : Row} {vals : List Value} {Rs : Nat → Row} {dom : Nat → Addr} {N : Nat} {pre : List (Addr × Addr)} (hf : IsPassV lamL U f ask x r c') (hc : IsCodeV U c' qP) (hx : IsOrd U x kl) (hk : IsKeys U kl K) (hK : ∀ p ∈ K, p.1 = 0 ∨ p.1 = 1 ∨ p.1 = 2)
    (hr : IsRow U r Rr) (hv : ∀ (i : Nat) v, vals[i]? = some v → v = .ref (dom i) ∧ IsRow U (dom i) (Rs i)) (hN : pre.length + N ≤ 100000) : KeyOk prog w g 6 N (.ref f) [ask] U vals (fun i => cmpK K (Rs i) Rr) (noted ask r dom pre) where
  fn := let ⟨c1, c2, c3, pm, ctv, e, _⟩ := hf; (in_EEEAA f _ _ rfl e rfl)
  mono := fun q V V' mu h le => let ⟨items, n, a, b⟩ := h; ⟨items, n, a, b.mono le⟩
  call := fun A t q i v Vt mu Q E hA hw hU hVt hmu hnd hob hP hqN hvi hQ => by
    refine el_EEA (hP) fun items n hR2 hPx => ?_; clear hP; subst hR2
    refine el_A (hv i v hvi) fun hR3 hl => ?_; subst hR3
    refine el_EEEEEAAA (hf) fun c1 c2 c3 pm ctv e1 e2 e3 e4 => ?_; try clear hf
    have ho := hob _ (.head _)
    refine call_lam (mu := [(ask, lst items n)]) (binds := [("other", .ref (dom i))]) B hA hw (hU.see _ _ e1) rfl (hc.rec hU.see) rfl rfl hob hnd (fun L t1 hL D => ?_) (show ∀ x ∈ (lamParts lamL).2.2.1.names, x.2 ≠ .cell from by decide) (locs rfl)
    have le : U.le (fullV t (List.map (fun x => x.1) [(ask, lst items n)])) := hU.leFull
    refine Call_ (r_glob D B B.g_law_told (callWith_def (o := ⟨.type "function", none, .func F107, #[]⟩) (fd := F107) rfl (args_cons (r_free D (le _ _ e2) (args_cons (r_free D (le _ _ e3) (args_cons (r_name D rfl (args_cons (r_free D (le _ _ e4) (args_nil ⟨D.keepG _ _ (B.K 107 _ (pack107.2 w.params)), ?_⟩)))))))))))
    have hlen : items.length ≤ 100000 := by rw [hPx.1, List.length_append, List.length_map]; (first | decide | lia)
    refine told_spec B ((hA.deeper _).le (by (first | decide | lia))) D.wd (D.sub (fun b hb => by have hq0 := List.mem_singleton.mp hb; subst b; exact .head _)) (hx.mono le) (hk.mono le) hK (hl.mono le) (hr.mono le) (D.mus _ (.head _)).1 ho.2.2 hlen fun tk tr n' t2 st2 htr1 htr2 ha2 => ?_
    have stt : Stp [ask] t t2 := D.st.trans st2
    refine hQ tk t2 [(ask, lst (items ++ [.ref tr]) n')] stt rfl (fun p hp => by obtain rfl := List.mem_singleton.mp hp; exact ⟨ha2, rfl⟩) (fun V'' le2 fr => ?_)
    refine ⟨_, n', rfl, ?_⟩
    rw [List.map_append, ← List.append_assoc]
    exact (hPx.mono le2).snoc (p := (dom i, r)) (n := 0) (fr _ _ htr2 (D.fresh htr1))

theorem pass_keyR (B : Bs w mg mb g) {U : View} {f ask x r c' kl : Addr} {K : List (Int × Int)} {Rr : Row} {vals : List Value} {Rs : Nat → Row} {dom : Nat → Addr} {N : Nat} {pre : List (Addr × Addr)} (hf : IsPassV lamR U f ask x r c') (hc : IsCodeV U c' qP) (hx : IsOrd U x kl) (hk : IsKeys U kl K) (hK : ∀ p ∈ K, p.1 = 0 ∨ p.1 = 1 ∨ p.1 = 2)
    (hr : IsRow U r Rr) (hv : ∀ (i : Nat) v, vals[i]? = some v → v = .ref (dom i) ∧ IsRow U (dom i) (Rs i)) (hN : pre.length + N ≤ 100000) : KeyOk prog w g 6 N (.ref f) [ask] U vals (fun i => cmpK K (Rs i) Rr) (noted ask r dom pre) where
  fn := let ⟨c1, c2, c3, pm, ctv, e, _⟩ := hf; (in_EEEAA f _ _ rfl e rfl)
  mono := fun q V V' mu h le => let ⟨items, n, a, b⟩ := h; ⟨items, n, a, b.mono le⟩
  call := fun A t q i v Vt mu Q E hA hw hU hVt hmu hnd hob hP hqN hvi hQ => by
    refine el_EEA (hP) fun items n hR4 hPx => ?_; clear hP; subst hR4
    refine el_A (hv i v hvi) fun hR5 hl => ?_; subst hR5
    refine el_EEEEEAAA (hf) fun c1 c2 c3 pm ctv e1 e2 e3 e4 => ?_; try clear hf
    have ho := hob _ (.head _)
    refine call_lam (mu := [(ask, lst items n)]) (binds := [("other", .ref (dom i))]) B hA hw (hU.see _ _ e1) rfl (hc.rec hU.see) rfl rfl hob hnd (fun L t1 hL D => ?_) (show ∀ x ∈ (lamParts lamR).2.2.1.names, x.2 ≠ .cell from by decide) (locs rfl)
    have le : U.le (fullV t (List.map (fun x => x.1) [(ask, lst items n)])) := hU.leFull
    refine Call_ (r_glob D B B.g_law_told (callWith_def (o := ⟨.type "function", none, .func F107, #[]⟩) (fd := F107) rfl (args_cons (r_free D (le _ _ e2) (args_cons (r_free D (le _ _ e3) (args_cons (r_name D rfl (args_cons (r_free D (le _ _ e4) (args_nil ⟨D.keepG _ _ (B.K 107 _ (pack107.2 w.params)), ?_⟩)))))))))))
    have hlen : items.length ≤ 100000 := by rw [hPx.1, List.length_append, List.length_map]; (first | decide | lia)
    refine told_spec B ((hA.deeper _).le (by (first | decide | lia))) D.wd (D.sub (fun b hb => by have hq0 := List.mem_singleton.mp hb; subst b; exact .head _)) (hx.mono le) (hk.mono le) hK (hl.mono le) (hr.mono le) (D.mus _ (.head _)).1 ho.2.2 hlen fun tk tr n' t2 st2 htr1 htr2 ha2 => ?_
    have stt : Stp [ask] t t2 := D.st.trans st2
    refine hQ tk t2 [(ask, lst (items ++ [.ref tr]) n')] stt rfl (fun p hp => by obtain rfl := List.mem_singleton.mp hp; exact ⟨ha2, rfl⟩) (fun V'' le2 fr => ?_)
    refine ⟨_, n', rfl, ?_⟩
    rw [List.map_append, ← List.append_assoc]
    exact (hPx.mono le2).snoc (p := (dom i, r)) (n := 0) (fr _ _ htr2 (D.fresh htr1))
end
end Mine
end

section
open PySem PySem.W PyProof.Rows PySem.Calls
set_option Elab.async false
set_option linter.unusedVariables false
namespace Mine
set_option maxRecDepth 100000

theorem bisR_bd (f : Nat → Int) (x : Int) (lo hi : Nat) (q : List Nat) (h : lo ≤ hi) : lo ≤ (bisR f x lo hi q).1 ∧ (bisR f x lo hi q).1 ≤ hi := by
  fun_induction bisR f x lo hi q with
  | case1 lo hi q hlt hc ih => have := ih (by lia); lia
  | case2 lo hi q hlt hc ih => have := ih (by lia); lia
  | case3 lo hi q hlt => exact ⟨Nat.le_refl _, h⟩
theorem bisL_bd (f : Nat → Int) (x : Int) (lo hi : Nat) (q : List Nat) (h : lo ≤ hi) : lo ≤ (bisL f x lo hi q).1 ∧ (bisL f x lo hi q).1 ≤ hi := by
  fun_induction bisL f x lo hi q with
  | case1 lo hi q hlt hc ih => have := ih (by lia); lia
  | case2 lo hi q hlt hc ih => have := ih (by lia); lia
  | case3 lo hi q hlt => exact ⟨Nat.le_refl _, h⟩

section
variable {prog : Program} {w : World} {mg mb : Str → Option Value} {g : Heap} {A : Around} {E : Value → Shared → Prop} {s₀ t : Shared} {W : List Addr} {V : View} {mu : List (Addr × Obj)} {L : Addr} {m : Str → Option Value} {env : Env}

theorem slice_tail {value slice : PySem.Expr} {l : Addr} {xs : List Value} {vl vu vk : Value} {lo hi st : Option Int} {ops : List Value} {Q : Value → Shared → Prop} (D : Bd g s₀ W V mu L m t) (hl : t.heap.IsList l xs.toArray)
    (pl : IsPart vl lo) (pu : IsPart vu hi) (pk : IsPart vk st) (h0 : st ≠ some 0) (hlen : xs.length < 100000)
    (h : ∀ a t', V a = none → s₀.heap.get? a = none → Bd g s₀ W V ((a, lst (slicePick xs.toArray lo hi st).toList 0) :: mu) L m t' → Q (.ref a) t')
    (hs : subscripted slice false (.ref l) (.ref t.heap.objs.size) = operate ops (getItem (.ref l) (.ref t.heap.objs.size)) := by with_unfolding_all rfl) (ht : ∀ r, letTemporaryGo value (.ref l) r = pure () := by intro _; with_unfolding_all rfl) :
    wpAny (model prog w) A (subscriptTail value slice (.ref l) (.ref t.heap.objs.size)) Q E { t with heap := t.heap.push { cls := .type "slice", data := .fields #[vl, vu, vk] } } := by
  refine subscriptTail_ops (Heap.IsList.typeIs (s := { t with heap := t.heap.push { cls := .type "slice", data := .fields #[vl, vu, vk] } }) (hl.push _)) list_getitem_lookup
    (wpAny_getItem_list_slice (hl.push _) (Heap.IsSliceOf.new ..) pl pu pk h0 ?_ (by rw [List.size_toArray, sizeLine_eq]; (exact Nat.le_of_lt (Nat.lt_of_lt_of_le (by assumption) (by decide))))) hs ht
  have D1 := D.grow (n := t.toks) (h' := t.heap.push { cls := .type "slice", data := .fields #[vl, vu, vk] }) fun b o e => Heap.get?_push_of_some _ e
  have D2 := D1.newMu (n := t.toks) (o := lst (slicePick xs.toArray lo hi st).toList 0) (get_size _) (Heap.get?_push_size _ rfl) (fun b o e => Heap.get?_push_of_some _ e) rfl
  have z := D2.mus _ (.head _)
  refine h _ _ z.2.1 (D1.fresh (get_size _)) ?_
  have e : lst (slicePick xs.toArray lo hi st).toList 0 = { cls := .type "list", data := .seq (slicePick xs.toArray lo hi st) } := by simp [lst]
  rw [← e]
  exact D2

/-- xs[::-1] behind the name -/
theorem r_rev {x : Str} {xp p1 p2 p3 pos : Pos} {k : Nat} {l : Addr} {xs : List Value} {Q : Value → Shared → Prop} (D : Bd g s₀ W V mu env.locals m t)
    (hx : ∀ (Q' : Value → Shared → Prop), Q' (.ref l) t → wpAny (model prog w) A (eval (.Name x xp) env) Q' E t) (hl : ∀ t', Bd g s₀ W V mu env.locals m t' → t'.heap.IsList l xs.toArray) (hlen : xs.length < 100000)
    (h : ∀ a t', V a = none → s₀.heap.get? a = none → Bd g s₀ W V ((a, lst xs.reverse 0) :: mu) env.locals m t' → Q (.ref a) t') :
    wpAny (model prog w) A (eval (.Subscript (.Name x xp) (.Slice none none (some (.UnaryOp .USub (.Constant (.int 1) k p1) p2)) p3) pos) env) Q E t := by
  refine Subscript_ (hx _ (wpAny_Slice ?_))
  rw [evalPart_none, evalPart_some]
  refine wpAny_pure (wpAny_pure (wpAny_UnaryOp (r_int D fun tk t1 D1 => neg_int ?_)))
  have D2 := D1.tok (t1.toks + 1)
  refine slice_tail D2 (hl _ D2) .none .none (.int (-1) _) (by decide) hlen (fun a t' h1 h2 D' => h a t' h1 h2 ?_)
  rw [krv_pick] at D'
  exact D'
end
end Mine
end

section
open PySem PySem.W PyProof.Rows PySem.Calls
set_option Elab.async false
set_option linter.unusedVariables false
namespace Mine
set_option maxRecDepth 100000

noncomputable def vref (ra : Nat → Addr) (js : List Nat) : List Value := js.map fun j => .ref (ra j)
theorem vref_len (ra : Nat → Addr) (js : List Nat) : (vref ra js).length = js.length := List.length_map ..
theorem vref_get {ra : Nat → Addr} {js : List Nat} {i : Nat} {v : Value} (h : (vref ra js)[i]? = some v) : v = .ref (ra (js.getD i 0)) ∧ js.getD i 0 ∈ js := by
  unfold vref at h
  rw [List.getElem?_map] at h
  cases e : js[i]? with
  | none => rw [e] at h; cases h
  | some j =>
    rw [e] at h
    have : js.getD i 0 = j := by rw [List.getD_eq_getElem?_getD, e]; rfl
    rw [this]
    exact ⟨(Option.some.inj h).symm, List.mem_of_getElem? e⟩
theorem vref_ins (ra : Nat → Addr) (js : List Nat) (k x : Nat) : insAt (vref ra js) k (.ref (ra x)) = vref ra (js.take k ++ x :: js.drop k) := by
  unfold insAt vref; simp [List.map_take, List.map_drop]

/-- one row laid by insort_right, over the whole -/
noncomputable def insRi (c : Nat → Nat → Int) (js : List Nat) (x : Nat) : List Nat :=
  js.take (bisR (fun i => c ((js ++ [x]).getD i 0) x) (c ((js ++ [x]).getD js.length 0) x) 0 js.length [js.length]).1 ++ x :: js.drop (bisR (fun i => c ((js ++ [x]).getD i 0) x) (c ((js ++ [x]).getD js.length 0) x) 0 js.length [js.length]).1
noncomputable def insLi (c : Nat → Nat → Int) (js : List Nat) (x : Nat) : List Nat :=
  js.take (bisL (fun i => c ((js ++ [x]).getD i 0) x) (c ((js ++ [x]).getD js.length 0) x) 0 js.length [js.length]).1 ++ x :: js.drop (bisL (fun i => c ((js ++ [x]).getD i 0) x) (c ((js ++ [x]).getD js.length 0) x) 0 js.length [js.length]).1
theorem ins_len (P : List Nat) (t x : Nat) : (P.take t ++ x :: P.drop t).length = P.length + 1 := by
  have := (List.perm_middle (a := x) (l₁ := P.take t) (l₂ := P.drop t)).length_eq
  rw [List.take_append_drop] at this
  exact this
theorem insRi_len (c : Nat → Nat → Int) (js : List Nat) (x : Nat) : (insRi c js x).length = js.length + 1 := ins_len _ _ _
theorem insLi_len (c : Nat → Nat → Int) (js : List Nat) (x : Nat) : (insLi c js x).length = js.length + 1 := ins_len _ _ _
theorem insRi_mem {c : Nat → Nat → Int} {js : List Nat} {x j : Nat} (h : j ∈ insRi c js x) : j = x ∨ j ∈ js := by
  unfold insRi at h
  rcases List.mem_append.mp h with h | h
  · exact .inr (List.mem_of_mem_take h)
  · rcases List.mem_cons.mp h with h | h
    · exact .inl h
    · exact .inr (List.mem_of_mem_drop h)
theorem insLi_mem {c : Nat → Nat → Int} {js : List Nat} {x j : Nat} (h : j ∈ insLi c js x) : j = x ∨ j ∈ js := by
  unfold insLi at h
  rcases List.mem_append.mp h with h | h
  · exact .inr (List.mem_of_mem_take h)
  · rcases List.mem_cons.mp h with h | h
    · exact .inl h
    · exact .inr (List.mem_of_mem_drop h)

noncomputable def pack121 : { b : FuncData // ∀ P, (hd.heap_39 P).lookup 121 = some ⟨.type "function", none, .func b, #[]⟩ } := ⟨_, fun P => rfl⟩
noncomputable def F121 : FuncData := pack121.1
noncomputable def b121 : List Stmt := match F121.body with | .stmts b => b | _ => []

section
variable {prog : Program} {w : World} {mg mb : Str → Option Value} {g : Heap} {A : Around} {E : Value → Shared → Prop} {s : Shared}

/-- lay one row, key = _law_held(order, row): the call of insort_right as it stands in the loop's state -/
theorem lay_right (B : Bs w mg mb g) (hA : Ok A 9) {s₀ t : Shared} {W : List Addr} {V : View} {mu : List (Addr × Obj)} {L : Addr} {m : Str → Option Value} {x kl f c' a : Addr} {K : List (Int × Int)} {ra : Nat → Addr} {R : Nat → Row} {js : List Nat} {j n : Nat} {Q : Value → Shared → Prop}
    (D : Bd g s₀ W V mu L m t) (i : Nat) (hi : mu[i]? = some (a, lst (vref ra js) n)) (hf : IsHeldV V f x (ra j) c') (hc : IsCodeV V c' qH) (hx : IsOrd V x kl) (hk : IsKeys V kl K) (hK : ∀ p ∈ K, p.1 = 0 ∨ p.1 = 1 ∨ p.1 = 2)
    (hj : IsRow V (ra j) (R j)) (hjs : ∀ j ∈ js, IsRow V (ra j) (R j)) (hlen : js.length < 900) (hag : g.get? a = none)
    (hQ : ∀ n' V' t', V.le V' → Bd g s₀ W V' (mu.set i (a, lst (vref ra (insRi (fun i j => cmpK K (R i) (R j)) js j)) n')) L m t' → Q .none t') :
    wpAny (model prog w) A (call (.ref 23) [.ref a, .ref (ra j)] [("key", .ref f)]) Q E t := by
  have hmem := List.mem_of_getElem? hi
  have hW : ∀ b ∈ [a], b ∈ mu.map (·.1) := fun b hb => by have hq0 := List.mem_singleton.mp hb; subst b; exact List.mem_map_of_mem (f := (·.1)) hmem
  have sub := D.sub hW
  have KO := held_key (prog := prog) (N := 2000) (vals := vref ra js ++ [.ref (ra j)]) (Rs := fun i => R ((js ++ [j]).getD i 0)) B hf hc hx hk hK hj (fun i v hv => by
    have : vref ra js ++ [.ref (ra j)] = vref ra (js ++ [j]) := by unfold vref; simp
    rw [this] at hv
    refine el_A (vref_get hv) fun h1 h2 => ?_
    refine (in_EA _ h1 ?_)
    rcases List.mem_append.mp h2 with h2 | h2
    · exact hjs _ h2
    · have e := List.mem_singleton.mp h2
      show IsRow V (ra ((js ++ [j]).getD i 0)) (R ((js ++ [j]).getD i 0))
      rw [e]; exact hj)
  have hvl := vref_len ra js
  refine insort_right_spec (d := 4) (N := 2000) B (hA.le (by (first | decide | lia))) D.wd (q := []) (lo := 0) (hi := (vref ra js).length) sub KO sub rfl rfl (List.nodup_cons.mpr ⟨List.not_mem_nil, List.nodup_nil⟩) (fun _ h => nomatch h) (D.mus _ hmem).1 hag (by (first | decide | lia)) (.inl ⟨rfl, rfl⟩) (Nat.le_refl _) (by show 0 + 1 + _ ≤ 2000; (first | decide | lia)) (bisR_bd _ _ _ _ _ (Nat.zero_le _)).2
    (binds_K (K := hd.heap_39 w.params) (B.K.keeps D.keepG) rfl rfl rfl rfl rfl) ?_
  intro t' mu' n' st hm' _ ha' _
  refine el_EAA (D.after' (mu' := mu.set i (a, lst (vref ra (insRi (fun i j => cmpK K (R i) (R j)) js j)) n')) st (set_map_fst hi) hW (fun p hp => by
    rcases mem_set_cases D.nd hi hp with rfl | ⟨hp, hne⟩
    · refine ⟨?_, rfl⟩
      rw [ha', vref_ins]
      unfold insRi
      rw [hvl]
      rfl
    · have z := D.mus p hp
      exact ⟨st.keep _ _ (fun h => hne (List.mem_singleton.mp h)) (fun h => (D.neT h).2 (List.mem_map_of_mem hp)) z.1, z.2.2.2.1⟩)) fun V' le' fr' D' => ?_
  exact hQ n' V' t' le' D'
/-- lay one row, key = _law_held(order, row): the call of insort_left as it stands in the loop's state -/
theorem lay_left (B : Bs w mg mb g) (hA : Ok A 9) {s₀ t : Shared} {W : List Addr} {V : View} {mu : List (Addr × Obj)} {L : Addr} {m : Str → Option Value} {x kl f c' a : Addr} {K : List (Int × Int)} {ra : Nat → Addr} {R : Nat → Row} {js : List Nat} {j n : Nat} {Q : Value → Shared → Prop}
    (D : Bd g s₀ W V mu L m t) (i : Nat) (hi : mu[i]? = some (a, lst (vref ra js) n)) (hf : IsHeldV V f x (ra j) c') (hc : IsCodeV V c' qH) (hx : IsOrd V x kl) (hk : IsKeys V kl K) (hK : ∀ p ∈ K, p.1 = 0 ∨ p.1 = 1 ∨ p.1 = 2)
    (hj : IsRow V (ra j) (R j)) (hjs : ∀ j ∈ js, IsRow V (ra j) (R j)) (hlen : js.length < 900) (hag : g.get? a = none)
    (hQ : ∀ n' V' t', V.le V' → Bd g s₀ W V' (mu.set i (a, lst (vref ra (insLi (fun i j => cmpK K (R i) (R j)) js j)) n')) L m t' → Q .none t') :
    wpAny (model prog w) A (call (.ref 41) [.ref a, .ref (ra j)] [("key", .ref f)]) Q E t := by
  have hmem := List.mem_of_getElem? hi
  have hW : ∀ b ∈ [a], b ∈ mu.map (·.1) := fun b hb => by have hq0 := List.mem_singleton.mp hb; subst b; exact List.mem_map_of_mem (f := (·.1)) hmem
  have sub := D.sub hW
  have KO := held_key (prog := prog) (N := 2000) (vals := vref ra js ++ [.ref (ra j)]) (Rs := fun i => R ((js ++ [j]).getD i 0)) B hf hc hx hk hK hj (fun i v hv => by
    have : vref ra js ++ [.ref (ra j)] = vref ra (js ++ [j]) := by unfold vref; simp
    rw [this] at hv
    refine el_A (vref_get hv) fun h1 h2 => ?_
    refine (in_EA _ h1 ?_)
    rcases List.mem_append.mp h2 with h2 | h2
    · exact hjs _ h2
    · have e := List.mem_singleton.mp h2
      show IsRow V (ra ((js ++ [j]).getD i 0)) (R ((js ++ [j]).getD i 0))
      rw [e]; exact hj)
  have hvl := vref_len ra js
  refine insort_left_spec (d := 4) (N := 2000) B (hA.le (by (first | decide | lia))) D.wd (q := []) (lo := 0) (hi := (vref ra js).length) sub KO sub rfl rfl (List.nodup_cons.mpr ⟨List.not_mem_nil, List.nodup_nil⟩) (fun _ h => nomatch h) (D.mus _ hmem).1 hag (by (first | decide | lia)) (.inl ⟨rfl, rfl⟩) (Nat.le_refl _) (by show 0 + 1 + _ ≤ 2000; (first | decide | lia)) (bisL_bd _ _ _ _ _ (Nat.zero_le _)).2
    (binds_K (K := hd.heap_39 w.params) (B.K.keeps D.keepG) rfl rfl rfl rfl rfl) ?_
  intro t' mu' n' st hm' _ ha' _
  refine el_EAA (D.after' (mu' := mu.set i (a, lst (vref ra (insLi (fun i j => cmpK K (R i) (R j)) js j)) n')) st (set_map_fst hi) hW (fun p hp => by
    rcases mem_set_cases D.nd hi hp with rfl | ⟨hp, hne⟩
    · refine ⟨?_, rfl⟩
      rw [ha', vref_ins]
      unfold insLi
      rw [hvl]
      rfl
    · have z := D.mus p hp
      exact ⟨st.keep _ _ (fun h => hne (List.mem_singleton.mp h)) (fun h => (D.neT h).2 (List.mem_map_of_mem hp)) z.1, z.2.2.2.1⟩)) fun V' le' fr' D' => ?_
  exact hQ n' V' t' le' D'

theorem held_at (B : Bs w mg mb g) (hA : Ok A 3) {s₀ t : Shared} {W : List Addr} {V : View} {mu : List (Addr × Obj)} {L : Addr} {m : Str → Option Value} {x r : Addr} {Q : Value → Shared → Prop} (D : Bd g s₀ W V mu L m t)
    (hQ : ∀ f c' V' t', V.le V' → IsHeldV V' f x r c' → IsCodeV V' c' qH → Bd g s₀ W V' mu L m t' → Q (.ref f) t') : wpAny (model prog w) A (call (.ref 114) [.ref x, .ref r]) Q E t := by
  refine held_spec B (hA.le (by (first | decide | lia))) D.wd fun f c' t' st hrec hV => ?_
  refine el_EAA (D.pure st) fun V1 le1 fr1 D1 => ?_
  have fr1' : Fresh t t' V1 := fun b o h1 h2 => (fr1 b o h1 h2).1
  refine el_EEEEAAA (hrec) fun c₁ oc vs tk e1 e2 e3 e4 => ?_; try clear hrec
  cases e1
  refine el_AA (stab_code_off D1 e2 e3 e4) fun o1 o2 o3 => ?_
  refine el_EAA (D1.addV e2 o1 o2 o3) fun V2 le2 hc2 D2 => ?_
  exact hQ f c' V2 t' (le1.trans le2) ((hV V1 fr1').mono le2) ⟨oc, vs, tk, hc2, e3, e4⟩ D2

theorem Bd.notG {s₀ t : Shared} {W : List Addr} {V : View} {mu : List (Addr × Obj)} {L : Addr} {m : Str → Option Value} (D : Bd g s₀ W V mu L m t) {p : Addr × Obj} (hp : p ∈ mu) : g.get? p.1 = none := by
  cases e : g.get? p.1 with
  | none => rfl
  | some o => have := D.base _ _ e; rw [(D.mus p hp).2.1] at this; cases this

theorem both_spec (B : Bs w mg mb g) (hA : Ok A 11) (hw : Wd g s) {U : View} (hU : Sub U s []) {x kl rl : Addr} {K : List (Int × Int)} {ra : Nat → Addr} {R : Nat → Row} {js : List Nat} {n : Nat} {Q : Value → Shared → Prop} (hx : IsOrd U x kl) (hk : IsKeys U kl K) (hK : ∀ p ∈ K, p.1 = 0 ∨ p.1 = 1 ∨ p.1 = 2)
    (hrl : U rl = some (lst (vref ra js) n)) (hjs : ∀ j ∈ js, IsRow U (ra j) (R j)) (hlen : js.length < 900)
    (hQ : ∀ b ah bh na nb nl s', Stp [] s s' → (∀ V'', Fresh s s' V'' → V'' b = some (lst [.ref ah, .ref bh] nl) ∧ V'' ah = some (lst (vref ra (js.foldl (insRi fun i j => cmpK K (R i) (R j)) [])) na) ∧
      V'' bh = some (lst (vref ra (js.reverse.foldl (insLi fun i j => cmpK K (R i) (R j)) [])) nb)) → Q (.ref b) s') :
    wpAny (model prog w) A (call (.ref 121) [.ref rl, .ref x]) Q E s := by
  refine call_def (mu := []) (body := b121) (binds := [("rows", .ref rl), ("order", .ref x)]) B hA hw (hw.base _ _ (B.K 121 _ (pack121.2 w.params))) rfl (codeRec_g hw (codeRec_of B.K rfl)) rfl (BindsTo.of_eq rfl) (fun _ h => nomatch h) List.nodup_nil (fun L t hL D => ?_) (by decide) (locs rfl)
  have le' : U.le (fullV s (List.map (fun x => x.1) ([] : List (Addr × Obj)))) := hU.leFull
  replace hx := hx.mono le'
  replace hk := hk.mono le'
  replace hrl := le' _ _ hrl
  replace hjs := fun j hj => (hjs j hj).mono le'
  clear le' hU
  generalize hF : fullV s (List.map (fun x => x.1) ([] : List (Addr × Obj))) = V0 at D hx hk hrl hjs
  have hA1 := hA.deeper (callEnv pack121.1 L 121)
  generalize A.deeper (callEnv pack121.1 L 121) = A1 at hA1 ⊢
  revert A1
  refine noBeta ?_
  intro A1 hA1
  try refine kq _ ?_
  refine seqK fun KQ kq => (wpAny_Assign_Name (r_list (args_nil (in_EEEAA _ _ _ D (Nat.le_of_ble_eq_true rfl) (fun ah t1 hV1 hs1 D1 => r_store D1 fun t2 D2 => ?_)))))
  try refine kq _ ?_
  refine seqK fun KQ kq => (wpAny_Assign_Name (r_list (args_nil (in_EEEAA _ _ _ D2 (Nat.le_of_ble_eq_true rfl) (fun bh t3 hV3 hs3 D3 => r_store D3 fun t4 D4 => ?_)))))
  have hvl := vref_len ra js
  -- the first loop
  try refine kq _ ?_
  refine seqK fun KQ kq => (wpAny_For (r_name D4 rfl ?_))
  refine for_list hA1.h D4 ⟨_, D4.see _ _ hrl, rfl, _, rfl⟩ (fun i V' mu' m' => V0.le V' ∧ (∃ na, mu' = [(bh, lst [] 0), (ah, lst (vref ra ((js.take i).foldl (insRi fun i j => cmpK K (R i) (R j)) [])) na)]) ∧ ((js.take i).foldl (insRi fun i j => cmpK K (R i) (R j)) []).length = i ∧
      (∀ j ∈ (js.take i).foldl (insRi fun i j => cmpK K (R i) (R j)) [], j ∈ js) ∧ m' "rows" = some (.ref rl) ∧ m' "order" = some (.ref x) ∧ m' "ahead" = some (.ref ah) ∧ m' "behind" = some (.ref bh))
    (in_AAAAAAA .rfl (⟨0, rfl⟩) rfl ((fun j hj => nomatch hj)) rfl rfl rfl rfl) (fun i I V' mu' m' o' t' hJ D' => ⟨_, D'.see _ _ (hJ.1 _ _ hrl), rfl, _, rfl⟩) ?_ ?_
  · intro i I v V' mu' m' o' t' KK hKK hRR hv hQ1; refine el_AAAAAAA (hQ1) fun le hN1 hl hm m1 m2 m3 m4 => ?_; try clear hQ1; refine el_E (hN1) fun na hR1 => ?_; try clear hN1; subst hR1; intro D'
    have hi : i < js.length := by rw [← hvl]; exact (List.getElem?_eq_some_iff.mp hv).1
    refine el_A (vref_get hv) fun hR2 hjm => ?_; subst hR2
    have htake : js.take (i + 1) = js.take i ++ [js.getD i 0] := by
      rw [List.take_add_one, List.getD_eq_getElem?_getD, List.getElem?_eq_getElem hi]; rfl
    refine PyProof.Rows.assign_Name (r_store D' fun t2 D2 => ?_)
    try refine kq _ ?_
    refine seqK fun KQ kq => (wpAny_Expr (wpAny_Call_Name_kw (r_glob D2 B B.g_insort_right (callWith_function_kw (o := ⟨.type "function", none, .func F23, #[]⟩) (fd := F23) (evalArgs_kw2 rfl (args_cons (r_name D2 m3 (args_cons (r_name D2 rfl (args_nil ?_))))))))))
    refine kwAll_cons (Call_ (r_glob D2 B B.g_law_held (callWith_def (o := ⟨.type "function", none, .func F114, #[]⟩) (fd := F114) rfl (args_cons (r_name D2 m2 (args_cons (r_name D2 rfl (args_nil ⟨D2.keepG _ _ (B.K 114 _ (pack114.2 w.params)), ?_⟩))))))))
    refine held_at B (hA1.le (by (first | decide | lia))) D2 fun f c' V3 t3 le3 hf hc D3 => kwAll_nil ⟨⟨D3.keepG _ _ (B.K 23 _ (pack23.2 w.params)), rfl⟩, ?_⟩
    have leT := le.trans le3
    refine lay_right (R := R) B (hA1.le (by (first | decide | lia))) D3 2 rfl hf hc (hx.mono leT) (hk.mono leT) hK ((hjs _ hjm).mono leT) (fun j hj => (hjs _ (hm j hj)).mono leT) (by (first | decide | lia)) (D3.notG (p := (ah, _)) (.tail _ (.tail _ (.head _)))) fun n' V4 t4 le4 D4 => kq _ <| wpAny_execs_nil ?_
    refine hKK _ (in_EEEA V4 ([(bh, lst [] 0), (ah, _)]) _ ?_ D4)
    refine (in_AAAAAAA (leT.trans le4) (⟨n', ?_⟩) ?_ ?_ m1 m2 m3 m4)
    · rw [htake, List.foldl_append]; rfl
    · rw [htake, List.foldl_append, List.foldl_cons, List.foldl_nil, insRi_len, hl]
    · rw [htake, List.foldl_append, List.foldl_cons, List.foldl_nil]
      intro j hj
      rcases insRi_mem hj with hq0 | hj
      · subst j; exact hjm
      · exact hm j hj
  intro V' mu' m' t' hQ2; refine el_AAAAAAA (hQ2) fun le hN2 hl hm m1 m2 m3 m4 => ?_; try clear hQ2; refine el_E (hN2) fun na hR3 => ?_; try clear hN2; subst hR3; intro D'
  rw [hvl, List.take_of_length_le (Nat.le_refl _)] at D' hl hm
  -- the second loop
  try refine kq _ ?_
  refine seqK fun KQ kq => (wpAny_For (r_rev D' (fun Q' h => r_name D' m1 h) (fun t'' D'' => ⟨_, D''.see _ _ (le _ _ hrl), rfl, _, rfl⟩) (by (first | decide | lia)) fun rv t5 hVr hsr D5 => ?_))
  refine el_EAAA (D5.fix (fun h => nomatch h)) fun V6 le6 hrv hsv D6 => ?_
  have hrev : (vref ra js).reverse = vref ra js.reverse := by unfold vref; rw [List.map_reverse]
  rw [hrev] at hrv
  have hvl2 := vref_len ra js.reverse
  have leT6 := le.trans le6
  refine for_list hA1.h D6 ⟨_, D6.see _ _ hrv, rfl, _, rfl⟩ (fun i V' mu' m' => V6.le V' ∧ (∃ nb, mu' = [(bh, lst (vref ra ((js.reverse.take i).foldl (insLi fun i j => cmpK K (R i) (R j)) [])) nb), (ah, lst (vref ra (js.foldl (insRi fun i j => cmpK K (R i) (R j)) [])) na)]) ∧ ((js.reverse.take i).foldl (insLi fun i j => cmpK K (R i) (R j)) []).length = i ∧
      (∀ j ∈ (js.reverse.take i).foldl (insLi fun i j => cmpK K (R i) (R j)) [], j ∈ js) ∧ m' "order" = some (.ref x) ∧ m' "ahead" = some (.ref ah) ∧ m' "behind" = some (.ref bh))
    (in_AAAAAA .rfl (⟨0, rfl⟩) rfl ((fun j hj => nomatch hj)) m2 m3 m4) (fun i I V' mu' m' o' t' hJ D' => ⟨_, D'.see _ _ (hJ.1 _ _ hrv), rfl, _, rfl⟩) ?_ ?_
  · intro i I v V' mu' m' o' t' KK hKK hRR hv hQ3; refine el_AAAAAA (hQ3) fun le hN3 hl hm m2 m3 m4 => ?_; try clear hQ3; refine el_E (hN3) fun nb hR4 => ?_; try clear hN3; subst hR4; intro D'
    have hi : i < js.reverse.length := by rw [← hvl2]; exact (List.getElem?_eq_some_iff.mp hv).1
    refine el_A (vref_get hv) fun hR5 hjm => ?_; subst hR5
    have htake : js.reverse.take (i + 1) = js.reverse.take i ++ [js.reverse.getD i 0] := by
      rw [List.take_add_one, List.getD_eq_getElem?_getD, List.getElem?_eq_getElem hi]; rfl
    have hjm' := List.mem_reverse.mp hjm
    rw [List.length_reverse] at hi
    refine PyProof.Rows.assign_Name (r_store D' fun t2 D2 => ?_)
    try refine kq _ ?_
    refine seqK fun KQ kq => (wpAny_Expr (wpAny_Call_Name_kw (r_glob D2 B B.g_insort_left (callWith_function_kw (o := ⟨.type "function", none, .func F41, #[]⟩) (fd := F41) (evalArgs_kw2 rfl (args_cons (r_name D2 m4 (args_cons (r_name D2 rfl (args_nil ?_))))))))))
    refine kwAll_cons (Call_ (r_glob D2 B B.g_law_held (callWith_def (o := ⟨.type "function", none, .func F114, #[]⟩) (fd := F114) rfl (args_cons (r_name D2 m2 (args_cons (r_name D2 rfl (args_nil ⟨D2.keepG _ _ (B.K 114 _ (pack114.2 w.params)), ?_⟩))))))))
    refine held_at B (hA1.le (by (first | decide | lia))) D2 fun f c' V3 t3 le3 hf hc D3 => kwAll_nil ⟨⟨D3.keepG _ _ (B.K 41 _ (pack41.2 w.params)), rfl⟩, ?_⟩
    have leT := (leT6.trans le).trans le3
    refine lay_left (R := R) B (hA1.le (by (first | decide | lia))) D3 1 rfl hf hc (hx.mono leT) (hk.mono leT) hK ((hjs _ hjm').mono leT) (fun j hj => (hjs _ (hm j hj)).mono leT) (by (first | decide | lia)) (D3.notG (p := (bh, _)) (.tail _ (.head _))) fun n' V4 t4 le4 D4 => kq _ <| wpAny_execs_nil ?_
    refine hKK _ (in_EEEA V4 ([(bh, _), (ah, _)]) _ ?_ D4)
    refine (in_AAAAAA ((le.trans le3).trans le4) (⟨n', ?_⟩) ?_ ?_ m2 m3 m4)
    · rw [htake, List.foldl_append]; rfl
    · rw [htake, List.foldl_append, List.foldl_cons, List.foldl_nil, insLi_len, hl]
    · rw [htake, List.foldl_append, List.foldl_cons, List.foldl_nil]
      intro j hj
      rcases insLi_mem hj with hq0 | hj
      · subst j; exact hjm'
      · exact hm j hj
  intro V' mu' m' t' hQ4; refine el_AAAAAA (hQ4) fun le hN4 hl hm m2 m3 m4 => ?_; try clear hQ4; refine el_E (hN4) fun nb hR6 => ?_; try clear hN4; subst hR6; intro D'
  rw [hvl2, List.take_of_length_le (Nat.le_refl _)] at D'
  try refine kq _ ?_
  refine wpAny_execs_cons (wpAny_Return_some (r_list (args_cons (r_name D' m3 (args_cons (r_name D' m4 (args_nil (in_EEEAA _ _ _ D' (Nat.le_of_ble_eq_true rfl) (fun b t7 hVb hsb D7 => ?_)))))))))
  have z0 := D7.mus _ (.head _)
  have z1 := D7.mus _ (.tail _ (.head _))
  have z2 := D7.mus _ (.tail _ (.tail _ (.head _)))
  have hh := hQ b ah bh na nb 0 t7 D7.st (fun V'' fr => (in_AA (fr _ _ z0.1 hsb) (fr _ _ z2.1 (z2.2.2.2.2.resolve_left (fun h => nomatch h))) (fr _ _ z1.1 (z1.2.2.2.2.resolve_left (fun h => nomatch h)))))
  exact hh
end
end Mine
end

section
open PySem PySem.W PyProof.Rows PySem.Calls
set_option Elab.async false
set_option linter.unusedVariables false
namespace Mine
set_option maxRecDepth 100000

section
variable {g : Heap} {s₀ t : Shared} {W W' : List Addr} {V : View} {mu : List (Addr × Obj)} {L a : Addr} {o : Obj} {m : Str → Option Value}

/-- as Bd.after; the new object at x stays out of the view -/
theorem Bd.afterX (D : Bd g s₀ W V mu L m t) {W' : List Addr} {t' : Shared} {mu' : List (Addr × Obj)} (x : Addr) (st : Stp W' t t') (hm : mu'.map (·.1) = mu.map (·.1)) (hW : ∀ b ∈ W', b ∈ mu.map (·.1))
    (hmu : ∀ p ∈ mu', t'.heap.get? p.1 = some p.2 ∧ stab p.2 = false) (hx : t.heap.get? x = none) :
    ∃ V', V.le V' ∧ V' x = none ∧ (∀ b o, b ≠ x → t'.heap.get? b = some o → t.heap.get? b = none → V' b = some o) ∧ Bd g s₀ W V' mu' L m t' := by
  refine el_EAA (D.after' st hm hW hmu) fun V1 le1 fr1 D1 => ?_
  have hVx : V x = none := by
    cases e : V x with
    | none => rfl
    | some o => rw [D.see _ _ e] at hx; cases hx
  have le : V.le (fun b => if b = x then none else V1 b) := fun b o e => by
    show (if b = x then none else V1 b) = some o
    rw [if_neg (fun q => by rw [q, hVx] at e; cases e)]; exact le1 _ _ e
  refine (in_EAAA _ le (if_pos rfl) (fun b o hb h1 h2 => ?_) (D.move le (fun b o e => ?_) D1.ns ?_ (fun P hP => ?_) (fun p hp => ?_) D1.nd D1.wmu D1.st.tab st.gens st.os))
  · show (if b = x then none else V1 b) = some o
    rw [if_neg hb]; exact fr1 b o h1 h2
  · by_cases q : b = x
    · simp only [q, if_true] at e; cases e
    · simp only [q, if_false] at e; exact D1.see _ _ e
  · show (if L = x then none else V1 L) = none
    split
    · rfl
    · exact D1.offL
  · show (if P = x then none else V1 P) = none
    split
    · rfl
    · exact D1.offT P hP
  · have z := D1.mus p hp
    refine (in_AA z.1 ?_ z.2.2)
    show (if p.1 = x then none else V1 p.1) = none
    split
    · rfl
    · exact z.2.1

/-- an object that nobody looks at changes -/
theorem Bd.other (D : Bd g s₀ W V mu L m t) {c : Addr} {mc : Str → Option Value} {h' : Heap} {n : Nat} (hV : V c = none) (hL : c ≠ L) (hm : c ∉ mu.map (·.1)) (hns : t.heap.Ns c mc) (hs : Heap.SameBut c t.heap h') : Bd g s₀ W V mu L m { t with heap := h', toks := n } :=
  D.move .rfl (fun b o e => (hs.2 b (fun q => by rw [q, hV] at e; cases e)).trans (D.see b o e)) (D.ns.sameBut hs hL.symm) D.offL D.offT
    (fun p hp => ⟨(hs.2 _ (fun q => hm (by rw [← q]; exact List.mem_map_of_mem hp))).trans (D.mus p hp).1, (D.mus p hp).2⟩) D.nd D.wmu
    (D.st.tab.mono fun b o h1 e => (hs.2 b (fun q => by subst q; rw [stab_ns hns e] at h1; cases h1)).trans e) rfl rfl
end

theorem get_push_ne (h : Heap) (o : Obj) {b : Addr} (hb : b ≠ h.objs.size) : (h.push o).get? b = h.get? b := by
  cases h; simp only [Heap.push, Heap.get?, Array.getElem?_push] at hb ⊢; rw [if_neg hb]

/-- the second mutable is dropped -/
theorem Bd.drop1 {g : Heap} {s₀ t : Shared} {W : List Addr} {V : View} {mu : List (Addr × Obj)} {L a : Addr} {o : Obj} {m : Str → Option Value} {p : Addr × Obj} (D : Bd g s₀ W V (p :: (a, o) :: mu) L m t) {h' : Heap} {n : Nat} (hk : Heap.ExtBut a t.heap h') (hw : a ∉ W) : Bd g s₀ W V (p :: mu) L m { t with heap := h', toks := n } := by
  have z := D.mus _ (.tail _ (.head _))
  have nd := D.nd
  rw [List.map_cons, List.map_cons, List.nodup_cons, List.nodup_cons] at nd
  have hpa : p.1 ≠ a := fun q => nd.1 (by show p.1 ∈ a :: _; rw [q]; exact .head _)
  refine D.move .rfl (fun b o e => hk b o (fun q => by rw [q, z.2.1] at e; cases e) (D.see b o e)) (D.ns.extBut hk z.2.2.1.symm) D.offL D.offT (fun q hq => ?_) ?_ (fun b hb => ?_)
    (D.st.tab.mono fun b o h1 e => hk b o (fun q => by subst q; rw [z.1] at e; cases e; rw [z.2.2.2.1] at h1; cases h1) e) rfl rfl
  · rcases List.mem_cons.mp hq with rfl | hq
    · have y := D.mus q (.head _)
      exact ⟨hk _ _ hpa y.1, y.2⟩
    · have y := D.mus q (.tail _ (.tail _ hq))
      exact ⟨hk _ _ (fun e => nd.2.1 (List.mem_map.mpr (in_EA q hq e))) y.1, y.2⟩
  · rw [List.map_cons, List.nodup_cons]
    exact ⟨fun h => nd.1 (.tail _ h), nd.2.2⟩
  · have := D.wmu b hb
    rw [List.map_cons, List.map_cons] at this
    rw [List.map_cons]
    rcases List.mem_cons.mp this with q | this
    · rw [q]; exact .head _
    · rcases List.mem_cons.mp this with q | q
      · exact absurd (show a ∈ W from (show b = a from q) ▸ hb) hw
      · exact .tail _ q

theorem two_at0 {α : Type} (l : List α) (a b : α) : (l ++ [a, b])[l.length]? = some a := by simp
theorem two_at1 {α : Type} (l : List α) (a b : α) : (l ++ [a, b])[l.length + 1]? = some b := by simp
theorem two_set0 {α : Type} (l : List α) (a b c : α) : (l ++ [a, b]).set l.length c = l ++ [c, b] := by simp
theorem two_set1 {α : Type} (l : List α) (a b c : α) : (l ++ [a, b]).set (l.length + 1) c = l ++ [a, c] := by
  rw [List.set_append_right _ _ (by (exact Nat.le_add_right _ _))]; congr 1; rw [Nat.add_sub_cancel_left]; rfl

/-- the comprehension's own environment -/
noncomputable def cEnv (scope : Scope) (cells : List (Str × Addr)) (C : Addr) (env : Env) : Env :=
  { scope := relabel scope env, locals := C, globals := env.globals, cells := cells, qual := env.qual, func := none, code := env.code, frame := env.frame, builtins := env.builtins }

/-- of an inner view: what is new behind t, and the outer view -/
noncomputable def cut (t : Shared) (V V' : View) : View := fun b => if t.heap.get? b = none then V' b else V b
theorem cut_le {t : Shared} {V V' V'' : View} (h : V'.le V'') : (cut t V V').le (cut t V V'') := fun b o e => by
  unfold cut at e ⊢
  split at e
  · rename_i q; rw [if_pos q]; exact h _ _ e
  · rename_i q; rw [if_neg q]; exact e
theorem le_cut {t : Shared} {V V' : View} (h : ∀ b o, V b = some o → t.heap.get? b = some o) : V.le (cut t V V') := fun b o e => by
  unfold cut; rw [if_neg (by rw [h b o e]; exact Option.some_ne_none _)]; exact e
theorem cut_new {t : Shared} {V V' : View} {b : Addr} {o : Obj} (h : t.heap.get? b = none) (e : V' b = some o) : cut t V V' b = some o := by
  unfold cut; rw [if_pos h]; exact e

/-- the tests of a comprehension -/
noncomputable abbrev cTests (ifs : List PySem.Expr) (env : Env) : Sem Bool := forIn ifs true fun c r => if r = true then do let ok ← isTrue c env (eval c env); pure (ForInStep.yield ok) else pure (ForInStep.yield r)

section
variable {prog : Program} {w : World} {A : Around} {E : Value → Shared → Prop} {R : Result → Shared → Prop} {s : Shared}
theorem codeAny_compLoop_any {elt target iter : PySem.Expr} {ifs : List PySem.Expr} {scope : Scope} {pos : Pos} {it acc : Value} {env : Env} (I : Nat → Shared → Prop)
    (turn : ∀ n s (K3 : Value → Shared → Prop) (K4 : Shared → Prop), I n s → (∀ x s₄, wpAny (model prog w) A (call (.builtin "list.append") [acc, x]) (fun _ s₅ => ∃ m, m < n ∧ I m s₅) NoE s₄ → K3 x s₄) → (∀ s₃, (∃ m, m < n ∧ I m s₃) → K4 s₃) →
      wpAny (model prog w) A (pyNext it) (fun r s₁ => match r with
      | none => R (.ok .next) s₁
      | some v => wpAny (model prog w) A (letOwnedTupleGo target it v) (fun _ s₁' => wpAny (model prog w) A (assign target env v) (fun _ s₂ =>
          wpAny (model prog w) A (cTests ifs env) (fun ok s₃ => if ok = true then wpAny (model prog w) A (eval elt env) K3 NoE s₃ else K4 s₃) NoE s₂) NoE s₁') NoE s₁) NoE s)
    (n : Nat) (h : I n s) :
    codeAny (model prog w) A (.compLoop (.ListComp elt [⟨target, iter, ifs, 0⟩] scope pos) 0 it acc env) R s := by
  refine codeAny_loop rfl I (fun n s hI => ?_) n h
  show wpAny _ A ((compTurn (.ListComp elt [⟨target, iter, ifs, 0⟩] scope pos) 0 it acc env).onRaise (fun x => do noteFrame x env; theTreesLotGoes x)) _ _ s
  refine wpAny_noted ?_
  rw [compTurn_list]
  refine wpAny_bind (wpAny_standAt (wpAny_bind (wpAny_mono (turn n s _ _ hI (fun _ _ h => h) (fun _ h => h)) (fun r s₁ h₁ => ?_) fun _ _ h' => h'.elim)))
  cases r with
  | none => exact wpAny_pure h₁
  | some v =>
    refine wpAny_bind (wpAny_mono h₁ (fun _ s₁' h₁' => ?_) fun _ _ h' => h'.elim)
    refine wpAny_bind (wpAny_mono h₁' (fun _ s₂ h₂ => wpAny_bind (wpAny_mono h₂ (fun ok s₃ h₃ => ?_) fun _ _ h' => h'.elim)) fun _ _ h' => h'.elim)
    cases ok with
    | false => exact wpAny_pure ⟨rfl, h₃⟩
    | true =>
      exact wpAny_bind (wpAny_bind (wpAny_mono h₃ (fun x s₄ h₄ => wpAny_bind (wpAny_mono h₄ (fun _ s₅ h₅ => wpAny_pure (wpAny_pure ⟨rfl, h₅⟩)) fun _ _ h' => h'.elim)) fun _ _ h' => h'.elim))
end

section
variable {prog : Program} {w : World} {mg mb : Str → Option Value} {A : Around} {E : Value → Shared → Prop} {g : Heap} {s₀ t : Shared} {W : List Addr} {V : View} {mu : List (Addr × Obj)} {m : Str → Option Value} {env : Env}

/-- the block of a comprehension behind pyIter: the list, the frame, the loop -/
theorem comp_block {I : Addr} {oI : Obj} {n : Nat} {P : Nat → Value → Prop} {St : Nat → Obj → Prop} {rd : Heap → Prop} {elt target iter : PySem.Expr} {ifs : List PySem.Expr} {scope : Scope} {cl : List (Str × Addr)} {pos : Pos} {use : Option (Value → Sem Unit)} {Q : Value → Shared → Prop}
    (B : Bs w mg mb g) (T : Itr prog w A I n P St rd) (D : Bd g s₀ W V ((I, oI) :: mu) env.locals m t) (hI : St 0 oI) (hIW : I ∉ W) (hkind : scope.kind = .function) (hown : ∀ k, ((cellsFrom k scope.names []).map (·.1)).Nodup)
    (hrd : ∀ h : Heap, (∀ b o, b ≠ I → b ∉ TT → t.heap.get? b = some o → h.get? b = some o) → rd h) (hn : n < 100000)
    (J : Nat → View → List Value → Prop) (hJ : ∀ i V V' ys, J i V ys → V.le V' → J i V' ys) (h0 : J 0 V [])
    (turn : ∀ (s3 : Shared) (acc C : Addr) i v V' cm m' t' ys n' oI' (K : Value → Shared → Prop) (K2 : Shared → Prop), i < n → P i v → ys.length ≤ i → (∀ b o, t.heap.get? b = some o → s3.heap.get? b = some o) → (fullV t [I]).le V' → J i (cut t V V') ys →
      Bd g s3 [acc, I] V' (celMu (cellsFrom (C + 1) scope.names []) cm ++ [(acc, lst ys n'), (I, oI')]) C m' t' →
      (∀ y t4, (∃ V'' cm' m'', V'.le V'' ∧ J (i + 1) (cut t V V'') (ys ++ [y]) ∧ Bd g s3 [acc, I] V'' (celMu (cellsFrom (C + 1) scope.names []) cm' ++ [(acc, lst ys n'), (I, oI')]) C m'' t4) → K y t4) →
      (∀ t3, (∃ V'' cm' m'', V'.le V'' ∧ J (i + 1) (cut t V V'') ys ∧ Bd g s3 [acc, I] V'' (celMu (cellsFrom (C + 1) scope.names []) cm' ++ [(acc, lst ys n'), (I, oI')]) C m'' t3) → K2 t3) →
      wpAny (model prog w) A (assign target (cEnv scope (cellsFrom (C + 1) scope.names cl) C env) v) (fun _ t2 => wpAny (model prog w) A (cTests ifs (cEnv scope (cellsFrom (C + 1) scope.names cl) C env)) (fun ok t3 =>
        if ok = true then wpAny (model prog w) A (eval elt (cEnv scope (cellsFrom (C + 1) scope.names cl) C env)) K NoE t3 else K2 t3) NoE t2) NoE t')
    (fin : ∀ acc C ys n' V' mC t', J n V' ys → V.le V' → ys.length ≤ n → s₀.heap.get? acc = none → t'.heap.Ns C mC → V' C = none → C ≠ env.locals → C ∉ acc :: mu.map (·.1) → Bd g s₀ W V' ((acc, lst ys n') :: mu) env.locals m t' → compPost (model prog w) A E use Q (.ref acc) C (.ok .next) t') :
    wpAny (model prog w) A (newList []) (fun acc s₃ => wpAny (model prog w) A (newFunctionEnv scope env.globals cl [] env.qual none .none (some env)) (fun cenv s₄ =>
      codeAny (model prog w) A (.compStart (.ListComp elt [⟨target, iter, ifs, 0⟩] scope pos) 0 (.ref I) acc { cenv with scope := relabel scope env }) (compPost (model prog w) A E use Q acc cenv.locals) s₄) E s₃) E t := by
  refine wpAny_newObj_type ?_ (by size_fits)
  generalize hacc : t.heap.objs.size = acc
  revert acc
  refine noBeta ?_
  intro acc hacc
  have hzt : t.heap.get? acc = none := by rw [← hacc]; exact get_size t.heap
  have D3 := D.newMu (a := acc) (n := t.toks) (o := lst [] 0) hzt (by rw [← hacc]; exact Heap.get?_push_size _ rfl) (fun b o e => Heap.get?_push_of_some _ e) rfl
  generalize hs3 : ({ t with heap := t.heap.push (lst [] 0) } : Shared) = s3 at D3
  revert s3
  refine noBeta ?_
  intro s3 hs3 D3
  have s3t : ∀ b o, t.heap.get? b = some o → s3.heap.get? b = some o := fun b o e => by rw [← hs3]; exact Heap.get?_push_of_some _ e
  have zA := D3.mus _ (.head _)
  have zI := D3.mus _ (.tail _ (.head _))
  have nd3 := D3.nd
  have haI : acc ≠ I := fun q => by
    rw [List.map_cons, List.nodup_cons] at nd3
    exact nd3.1 (by rw [List.map_cons]; show acc ∈ I :: _; rw [q]; exact .head _)
  have hnd2 : (List.map (fun x => x.1) [(acc, lst [] 0), (I, oI)]).Nodup := by
    simp only [List.map_cons, List.map_nil, List.nodup_cons, List.mem_singleton, List.not_mem_nil, not_false_iff, List.nodup_nil, and_true]
    exact haI
  have gO : ∀ {p : Addr × Obj}, p ∈ (acc, lst [] 0) :: (I, oI) :: mu → g.get? p.1 = none := fun hp => D3.notG hp
  refine newEnv_bd (mu := [(acc, lst [] 0), (I, oI)]) D3.wd B.noT (fun p hp => ?_) hnd2 hkind hown (fun _ _ h => nomatch h) fun C t4 hC hlt D4 => ?_
  · rcases List.mem_cons.mp hp with rfl | hp
    · exact (in_AA zA.1 zA.2.2.2.1 (gO (.head _)))
    · obtain rfl := List.mem_singleton.mp hp
      exact (in_AA zI.1 zI.2.2.2.1 (gO (.tail _ (.head _))))
  have s3b : ∀ b, b ≠ acc → t.heap.get? b = none → s3.heap.get? b = none := fun b hb e => by
    rw [← hs3]; show (t.heap.push (lst [] 0)).get? b = none; rw [get_push_ne _ _ (by rw [hacc]; exact hb)]; exact e
  have hV0 : cut t V (fullV s3 [acc, I]) = V := by
    funext b
    unfold cut
    split
    · rename_i q
      have e1 : V b = none := by
        cases e : V b with
        | none => rfl
        | some o => rw [D.see _ _ e] at q; cases q
      rw [e1]
      by_cases hb : b = acc
      · exact (fullV_sub s3 _).offW b (by rw [hb]; exact .head _)
      · cases e : fullV s3 [acc, I] b with
        | none => rfl
        | some o => have := (fullV_sub s3 _).see _ _ e; rw [s3b b hb q] at this; cases this
    · rfl
  have hle0 : (fullV t [I]).le (fullV s3 [acc, I]) := fun b o e => by
    have e1 := (fullV_sub t _).see _ _ e
    refine fullV_get (s3t _ _ e1) (fun h => ?_) (fun h => by rw [(fullV_sub t _).offT b h] at e; cases e)
    rcases List.mem_cons.mp h with q | h
    · rw [q, hzt] at e1; cases e1
    · rw [(fullV_sub t _).offW b h] at e; cases e
  have hCt : t.heap.get? C = none := by
    cases e : t.heap.get? C with
    | none => rfl
    | some o => rw [s3t _ _ e] at hC; cases hC
  have loop : codeAny (model prog w) A (.compLoop (.ListComp elt [⟨target, iter, ifs, 0⟩] scope pos) 0 (.ref I) (.ref acc) (cEnv scope (cellsFrom (C + 1) scope.names cl) C env)) (compPost (model prog w) A E use Q (.ref acc) C) t4 := by
    refine el_EA (hide2 (fun k t' => ∃ i V' cm m' ys n' oI', k = n - i ∧ i ≤ n ∧ ys.length ≤ i ∧ (fullV t [I]).le V' ∧ J i (cut t V V') ys ∧ St i oI' ∧
      Bd g s3 [acc, I] V' (celMu (cellsFrom (C + 1) scope.names []) cm ++ [(acc, lst ys n'), (I, oI')]) C m' t')) fun J9 Ji Je => ?_
    refine codeAny_compLoop_any J9 ?_ n (Ji _ _ (in_EEEEEEEAAAAAA 0 _ _ _ [] 0 oI rfl (Nat.zero_le _) (Nat.le_refl _) hle0 (by rw [hV0]; exact h0) hI D4))
    intro k t' K3 K4 hj hK3 hK4
    refine el_EEEEEEEAAAAAA (Je _ _ hj) fun i V' cm m' ys n' oI' hR1 hi hyl leV' hJi hS D' => ?_; subst hR1
    have zI' := D'.mus (I, oI') (List.mem_append_right _ (.tail _ (.head _)))
    have zA' := D'.mus (acc, lst ys n') (List.mem_append_right _ (.head _))
    have rd' : rd t'.heap := hrd _ fun b o hb hT e => D'.see _ _ (leV' _ _ (fullV_get e (fun h => hb (List.mem_singleton.mp h)) hT))
    by_cases hlt : i < n
    · refine T.item i t' oI' _ _ hlt zI'.1 hS rd' fun v h' tk o'' hP e' hS' hk => ?_
      have D1 := D'.upd (n := tk) ((celMu (cellsFrom (C + 1) scope.names []) cm).length + 1) (two_at1 _ _ _) e' hk (T.stab _ _ hS')
      rw [two_set1] at D1
      refine T.go (i + 1) _ o'' target v _ _ e' hS' ?_
      refine turn s3 acc C i v V' cm m' _ ys n' o'' K3 K4 hlt hP hyl s3t leV' hJi D1 (fun y t5 h5 => ?_) (fun t3 h3 => ?_)
      · refine el_EEEAA (h5) fun V'' cm' m'' le'' hJ'' D'' => ?_; try clear h5
        refine hK3 _ _ (list_append_ D'' (celMu (cellsFrom (C + 1) scope.names []) cm').length (two_at0 _ _ _) (by lia) fun n'' t6 D6 => ?_)
        rw [two_set0] at D6
        exact (in_EA (n - (i + 1)) (by lia) (Ji _ _ (in_EEEEEEEAAAAAA (i + 1) V'' cm' m'' (ys ++ [y]) n'' o'' rfl hlt (by rw [List.length_append, List.length_singleton]; lia) (leV'.trans le'') hJ'' hS' D6)))
      · refine el_EEEAA (h3) fun V'' cm' m'' le'' hJ'' D'' => ?_; try clear h3
        exact hK4 _ (in_EA (n - (i + 1)) (by lia) (Ji _ _ (in_EEEEEEEAAAAAA (i + 1) V'' cm' m'' ys n' o'' rfl hlt (by lia) (leV'.trans le'') hJ'' hS' D'')))
    · have hin : i = n := by lia
      subst i
      refine T.done t' oI' _ _ zI'.1 hS rd' fun h' tk hk => ?_
      have hmap : List.map (fun x => x.1) ((acc, lst ys n') :: (I, oI') :: mu) = List.map (fun x => x.1) ((acc, lst [] 0) :: (I, oI) :: mu) := rfl
      refine el_EAAA (D3.afterX (mu' := (acc, lst ys n') :: (I, oI') :: mu) C D'.st hmap (fun b hb => by
        rcases List.mem_cons.mp hb with hq0 | hb
        · subst b; exact .head _
        · rw [List.mem_singleton.mp hb]; exact .tail _ (.head _)) (fun p hp => by
        rcases List.mem_cons.mp hp with rfl | hp
        · exact ⟨zA'.1, rfl⟩
        · rcases List.mem_cons.mp hp with rfl | hp
          · exact ⟨zI'.1, zI'.2.2.2.1⟩
          · have z := D3.mus p (.tail _ (.tail _ hp))
            refine ⟨D'.st.keep _ _ (fun h => ?_) (fun h => (D3.neT h).2 (List.mem_map_of_mem (.tail _ (.tail _ hp)))) z.1, z.2.2.2.1⟩
            rw [List.map_cons, List.map_cons, List.nodup_cons, List.nodup_cons] at nd3
            rcases List.mem_cons.mp h with q | h
            · exact nd3.1 (.tail _ (List.mem_map.mpr (in_EA p hp q)))
            · exact nd3.2.1 (List.mem_map.mpr (in_EA p hp (List.mem_singleton.mp h)))) hC) fun V5 le5 hV5C fr5 D5 => ?_
      have D6 := D5.drop1 (n := tk) hk hIW
      have hCI : C ≠ I := fun q => by rw [q] at hC; rw [zI.1] at hC; cases hC
      have hCacc : C ≠ acc := fun q => by rw [q] at hC; rw [zA.1] at hC; cases hC
      refine fin acc C ys n' V5 m' _ (hJ _ _ _ _ hJi fun b o e => ?_) le5 hyl (D.fresh hzt) (D'.ns.extBut hk hCI) hV5C (fun q => ?_) (fun h => ?_) D6
      · unfold cut at e
        split at e
        · rename_i q
          have hbC : b ≠ C := fun q' => by rw [q', D'.offL] at e; cases e
          have hba : b ≠ acc := fun q' => by rw [q', zA'.2.1] at e; cases e
          exact fr5 b o hbC (D'.see _ _ e) (s3b b hba q)
        · exact le5 _ _ e
      · refine el_EEEA (D.ns) fun oL _ _ eL _ => ?_
        rw [← q, hCt] at eL; cases eL
      · rcases List.mem_cons.mp h with q | h
        · exact hCacc q
        · refine el_EA (List.mem_map.mp h) fun p hp q => ?_
          have := (D.mus p (.tail _ hp)).1
          rw [q, hCt] at this; cases this
  have zI4 := D4.mus (I, oI) (List.mem_append_right _ (.tail _ (.head _)))
  exact codeAny_compStart_list loop (T.self 0 t4 oI _ _ zI4.1 hI loop)
end
end Mine
end

section
open PySem PySem.W PyProof.Rows PySem.Calls
set_option Elab.async false
set_option linter.unusedVariables false
namespace Mine
set_option maxRecDepth 100000

noncomputable abbrev Blk (prog : Program) (w : World) (A : Around) (E : Value → Shared → Prop) (elt target iter : PySem.Expr) (ifs : List PySem.Expr) (scope : Scope) (cl : List (Str × Addr)) (pos : Pos) (env : Env) (use : Option (Value → Sem Unit)) (Q : Value → Shared → Prop) (it : Value) (s₂ : Shared) : Prop :=
  wpAny (model prog w) A (newList []) (fun acc s₃ => wpAny (model prog w) A (newFunctionEnv scope env.globals cl [] env.qual none .none (some env)) (fun cenv s₄ =>
      codeAny (model prog w) A (.compStart (.ListComp elt [⟨target, iter, ifs, 0⟩] scope pos) 0 it acc { cenv with scope := relabel scope env }) (compPost (model prog w) A E use Q acc cenv.locals) s₄) E s₃) E s₂

section
variable {prog : Program} {w : World} {mg mb : Str → Option Value} {A : Around} {E : Value → Shared → Prop} {g : Heap} {s₀ t : Shared} {W : List Addr} {V : View} {mu : List (Addr × Obj)} {m : Str → Option Value} {env : Env}
  {elt target iter : PySem.Expr} {ifs : List PySem.Expr} {scope : Scope} {cl : List (Str × Addr)} {pos : Pos}

theorem comp_expr {Q : Value → Shared → Prop} (hclos : closureFor scope env = pure cl) (hkind : scope.kind = .function) (hnames : ∀ x ∈ scope.names, x.2 = .local → scope.names.lookup x.1 = some .local)
    (h : wpAny (model prog w) A (eval iter env) (fun xv t1 => wpAny (model prog w) A (pyIter xv) (Blk prog w A E elt target iter ifs scope cl pos env none Q) E t1) E t) (hs : ∀ x, foldedSetIterable iter env x = pure x := by intro _; rfl) :
    wpAny (model prog w) A (eval (.ListComp elt [⟨target, iter, ifs, 0⟩] scope pos) env) Q E t := by
  rw [eval_ListComp]
  exact wpAny_comprehension_free (use := none) rfl hs hclos hkind hnames h

theorem comp_assign {y : Str} {py spos : Pos} {Q : Flow → Shared → Prop} (hsw : swapsWith (.ListComp elt [⟨target, iter, ifs, 0⟩] scope pos) (some (.Name y py)) spos.line env = pure true)
    (hclos : closureFor scope env = pure cl) (hkind : scope.kind = .function) (hnames : ∀ x ∈ scope.names, x.2 = .local → scope.names.lookup x.1 = some .local)
    (h : wpAny (model prog w) A (eval iter env) (fun xv t1 => wpAny (model prog w) A (pyIter xv) (Blk prog w A E elt target iter ifs scope cl pos env (some (assign (.Name y py) env)) (fun _ => Q .next)) E t1) E t) (hs : ∀ x, foldedSetIterable iter env x = pure x := by intro _; rfl) :
    wpAny (model prog w) A (exec (.Assign [.Name y py] (.ListComp elt [⟨target, iter, ifs, 0⟩] scope pos) spos) env) Q E t := by
  rw [exec_Assign_Name_used _ _ _ _ hsw]
  refine wpAny_bind (wpAny_standAt (wpAny_bind ?_))
  show wpAny _ A (do let _ ← comprehension (.ListComp elt [⟨target, iter, ifs, 0⟩] scope pos) scope env _ (newList []) false (eval iter env) (some (assign (.Name y py) env))) _ _ t
  exact wpAny_bind (wpAny_mono (wpAny_comprehension_free (use := some (assign (.Name y py) env)) (Q := fun _ s' => Q .next s') rfl hs hclos hkind hnames h) (fun _ s' hq => wpAny_pure (wpAny_pure hq)) fun _ _ e => e)

theorem post_none {Q : Value → Shared → Prop} {acc C : Addr} {ys : List Value} {n' : Nat} {mC : Str → Option Value} (hns : t.heap.Ns C mC) (hV : V C = none) (hL : C ≠ env.locals) (hm : C ∉ acc :: mu.map (·.1)) (D : Bd g s₀ W V ((acc, lst ys n') :: mu) env.locals m t)
    (h : ∀ t', Bd g s₀ W V ((acc, lst ys n') :: mu) env.locals m t' → Q (.ref acc) t') : compPost (model prog w) A E none Q (.ref acc) C (.ok .next) t :=
  ⟨mC, hns, fun h' hs => h _ (D.other (n := t.toks) hV hL hm hns hs)⟩
theorem post_local {Q : Value → Shared → Prop} {acc C : Addr} {ys : List Value} {n' : Nat} {mC : Str → Option Value} {y : Str} {py : Pos} (hns : t.heap.Ns C mC) (hV : V C = none) (hL : C ≠ env.locals) (hm : C ∉ acc :: mu.map (·.1)) (D : Bd g s₀ W V ((acc, lst ys n') :: mu) env.locals m t)
    (hl : env.kindOf y = some .local) (hk : env.scope.kind = .function)
    (h : ∀ t', Bd g s₀ W V ((acc, lst ys n') :: mu) env.locals (upd m y (.ref acc)) t' → Q .none t') : compPost (model prog w) A E (some (assign (.Name y py) env)) Q (.ref acc) C (.ok .next) t := by
  show wpAny _ A (assign (.Name y py) env (.ref acc)) _ _ _
  refine wpAny_assign_Name (wpAny_storeName_local hl D.ns (fun h₂ hn₂ hs₂ => ?_) (by rw [hk]; rfl))
  have D2 := D.frame (n := t.toks + 1) hn₂ hs₂
  exact (in_EA mC (hns.sameBut hs₂ hL) (fun h' hs => h _ (D2.other (n := t.toks + 1) hV hL hm (hns.sameBut hs₂ hL) hs)))
theorem post_cell {Q : Value → Shared → Prop} {acc C : Addr} {ys : List Value} {n' : Nat} {mC : Str → Option Value} {y : Str} {py : Pos} {c : Addr} {v₀ : Option Value} (hns : t.heap.Ns C mC) (hV : V C = none) (hL : C ≠ env.locals) (hm : C ∉ acc :: mu.map (·.1)) (D : Bd g s₀ W V ((acc, lst ys n') :: mu) env.locals m t)
    (i : Nat) (hi : mu[i]? = some (c, cel v₀)) (hc : env.cells.lookup y = some c) (hl : env.kindOf y = some .cell) (hk : env.scope.kind = .function)
    (h : ∀ t', Bd g s₀ W V ((acc, lst ys n') :: mu.set i (c, cel (some (.ref acc)))) env.locals m t' → Q .none t') : compPost (model prog w) A E (some (assign (.Name y py) env)) Q (.ref acc) C (.ok .next) t := by
  show wpAny _ A (assign (.Name y py) env (.ref acc)) _ _ _
  have z := D.mus (c, cel v₀) (.tail _ (List.mem_of_getElem? hi))
  have hcC : c ≠ C := fun q => hm (.tail _ (by rw [← q]; exact List.mem_map_of_mem (f := (·.1)) (List.mem_of_getElem? hi)))
  refine wpAny_assign_Name ?_
  unfold storeName
  simp only [hl, hk]
  refine wpAny_bind (wpAny_cellOf hc ?_)
  unfold cellSet
  refine wpAny_bind (wpAny_load z.1 ?_)
  dsimp only
  refine wpAny_update z.1 ?_
  have hs₂ : Heap.SameBut c t.heap (t.heap.update c fun o => { o with data := .cell (some (.ref acc)) }) := Heap.SameBut.update ..
  have D2 := D.upd (n := t.toks) (i + 1) (o' := cel (some (.ref acc))) (by simpa using hi) (Heap.get?_update_self _ z.1 rfl) hs₂.extBut rfl
  have hns2 := hns.sameBut hs₂ hcC.symm
  refine (in_EA mC hns2 (fun h' hs => h _ (D2.other (n := t.toks) hV hL (fun hh => hm ?_) hns2 hs)))
  rw [set_map_fst (o := cel v₀) (show ((acc, lst ys n') :: mu)[i + 1]? = some (c, cel v₀) by simpa using hi)] at hh
  exact hh

/-- a comprehension over a list -/
theorem blk_list {l : Addr} {xs : List Value} {use : Option (Value → Sem Unit)} {Q : Value → Shared → Prop} (B : Bs w mg mb g) (hh : A.handled = none) (D : Bd g s₀ W V mu env.locals m t) (hl : t.heap.IsList l xs.toArray) (hkind : scope.kind = .function) (hown : ∀ k, ((cellsFrom k scope.names []).map (·.1)).Nodup)
    (hn : xs.length < 100000) (J : Nat → View → List Value → Prop) (hJ : ∀ i V V' ys, J i V ys → V.le V' → J i V' ys) (h0 : J 0 V [])
    (turn : ∀ (t1 s3 : Shared) (I acc C : Addr) i v V' cm m' t' ys n' oI' (K : Value → Shared → Prop) (K2 : Shared → Prop), (∀ b o, t1.heap.get? b = some o → s3.heap.get? b = some o) → i < xs.length → xs[i]? = some v → ys.length ≤ i → (fullV t []).le V' → J i (cut t1 V V') ys →
      Bd g s3 [acc, I] V' (celMu (cellsFrom (C + 1) scope.names []) cm ++ [(acc, lst ys n'), (I, oI')]) C m' t' →
      (∀ y t4, (∃ V'' cm' m'', V'.le V'' ∧ J (i + 1) (cut t1 V V'') (ys ++ [y]) ∧ Bd g s3 [acc, I] V'' (celMu (cellsFrom (C + 1) scope.names []) cm' ++ [(acc, lst ys n'), (I, oI')]) C m'' t4) → K y t4) →
      (∀ t3, (∃ V'' cm' m'', V'.le V'' ∧ J (i + 1) (cut t1 V V'') ys ∧ Bd g s3 [acc, I] V'' (celMu (cellsFrom (C + 1) scope.names []) cm' ++ [(acc, lst ys n'), (I, oI')]) C m'' t3) → K2 t3) →
      wpAny (model prog w) A (assign target (cEnv scope (cellsFrom (C + 1) scope.names cl) C env) v) (fun _ t2 => wpAny (model prog w) A (cTests ifs (cEnv scope (cellsFrom (C + 1) scope.names cl) C env)) (fun ok t3 =>
        if ok = true then wpAny (model prog w) A (eval elt (cEnv scope (cellsFrom (C + 1) scope.names cl) C env)) K NoE t3 else K2 t3) NoE t2) NoE t')
    (fin : ∀ acc C ys n' V' mC t', J xs.length V' ys → V.le V' → ys.length ≤ xs.length → s₀.heap.get? acc = none → t'.heap.Ns C mC → V' C = none → C ≠ env.locals → C ∉ acc :: mu.map (·.1) → Bd g s₀ W V' ((acc, lst ys n') :: mu) env.locals m t' → compPost (model prog w) A E use Q (.ref acc) C (.ok .next) t') :
    wpAny (model prog w) A (pyIter (.ref l)) (Blk prog w A E elt target iter ifs scope cl pos env use Q) E t := by
  refine wpAny_pyIter_list hl ?_
  have hz := get_size t.heap
  have D1 := D.newMu (n := t.toks) (o := { cls := .type "list_iterator", data := .fields #[.ref l, .int 0 0] }) hz (Heap.get?_push_size _ rfl) (fun b o e => Heap.get?_push_of_some _ e) rfl
  have keep : ∀ b o, t.heap.get? b = some o → (t.heap.push { cls := .type "list_iterator", data := .fields #[.ref l, .int 0 0] }).get? b = some o := fun b o e => Heap.get?_push_of_some _ e
  refine el_EAAE (hl) fun ol el cl1 nl dl => ?_; try clear hl
  have hlI : l ≠ t.heap.objs.size := Nat.ne_of_lt (Heap.lt_size el)
  have hlT : l ∉ TT := fun h => by
    refine el_E (D.st.tab.get h) fun ps e => ?_
    rw [el] at e; cases e; cases cl1
  refine comp_block B (Itr.list hh _ l xs) D1 ⟨rfl, rfl⟩ (fun h => ?_) hkind hown (fun h hk => ⟨ol, hk _ _ hlI hlT (keep _ _ el), cl1, nl, dl⟩) hn J hJ h0 ?_ fin
  · refine el_E (D.mu_lt (D.wmu _ h)) fun o' e' => ?_
    rw [hz] at e'; cases e'
  · intro s3 acc C i v V' cm m' t' ys n' oI' K K2 hi hP hyl h3 hle hJi D' hK hK2
    refine turn _ s3 _ acc C i v V' cm m' t' ys n' oI' K K2 h3 hi hP hyl (fun b o e => hle _ _ ?_) hJi D' hK hK2
    have e1 := (fullV_sub t _).see _ _ e
    exact fullV_get (keep _ _ e1) (fun h => Nat.ne_of_lt (Heap.lt_size e1) (List.mem_singleton.mp h)) (fun h => by rw [(fullV_sub t _).offT b h] at e; cases e)

/-- a comprehension over a range -/
theorem blk_range {r : Addr} {a b c : Int} {u1 u2 u3 : Tok} {n : Nat} {use : Option (Value → Sem Unit)} {Q : Value → Shared → Prop} (B : Bs w mg mb g) (hh : A.handled = none) (D : Bd g s₀ W V mu env.locals m t) (hr : IsRange t.heap r a b c u1 u2 u3) (hsm : Builtin.Range.small a b c = true) (hsz : Builtin.Range.rangeSize a b c = n) (hkind : scope.kind = .function) (hown : ∀ k, ((cellsFrom k scope.names []).map (·.1)).Nodup)
    (hn : n < 100000) (J : Nat → View → List Value → Prop) (hJ : ∀ i V V' ys, J i V ys → V.le V' → J i V' ys) (h0 : J 0 V [])
    (turn : ∀ (t1 s3 : Shared) (I acc C : Addr) i tk V' cm m' t' ys n' oI' (K : Value → Shared → Prop) (K2 : Shared → Prop), (∀ b o, t.heap.get? b = some o → t1.heap.get? b = some o ∧ s3.heap.get? b = some o) → i < n → ys.length ≤ i → (fullV t []).le V' → J i (cut t1 V V') ys →
      Bd g s3 [acc, I] V' (celMu (cellsFrom (C + 1) scope.names []) cm ++ [(acc, lst ys n'), (I, oI')]) C m' t' →
      (∀ y t4, (∃ V'' cm' m'', V'.le V'' ∧ J (i + 1) (cut t1 V V'') (ys ++ [y]) ∧ Bd g s3 [acc, I] V'' (celMu (cellsFrom (C + 1) scope.names []) cm' ++ [(acc, lst ys n'), (I, oI')]) C m'' t4) → K y t4) →
      (∀ t3, (∃ V'' cm' m'', V'.le V'' ∧ J (i + 1) (cut t1 V V'') ys ∧ Bd g s3 [acc, I] V'' (celMu (cellsFrom (C + 1) scope.names []) cm' ++ [(acc, lst ys n'), (I, oI')]) C m'' t3) → K2 t3) →
      wpAny (model prog w) A (assign target (cEnv scope (cellsFrom (C + 1) scope.names cl) C env) (.int (a + i * c) tk)) (fun _ t2 => wpAny (model prog w) A (cTests ifs (cEnv scope (cellsFrom (C + 1) scope.names cl) C env)) (fun ok t3 =>
        if ok = true then wpAny (model prog w) A (eval elt (cEnv scope (cellsFrom (C + 1) scope.names cl) C env)) K NoE t3 else K2 t3) NoE t2) NoE t')
    (fin : ∀ acc C ys n' V' mC t', J n V' ys → V.le V' → ys.length ≤ n → s₀.heap.get? acc = none → t'.heap.Ns C mC → V' C = none → C ≠ env.locals → C ∉ acc :: mu.map (·.1) → Bd g s₀ W V' ((acc, lst ys n') :: mu) env.locals m t' → compPost (model prog w) A E use Q (.ref acc) C (.ok .next) t') :
    wpAny (model prog w) A (pyIter (.ref r)) (Blk prog w A E elt target iter ifs scope cl pos env use Q) E t := by
  refine wpAny_pyIter_range hr hsm ?_
  rw [hsz]
  have hz := get_size t.heap
  have D1 := D.newMu (n := t.toks) (o := ritO a n c) hz (Heap.get?_push_size _ rfl) (fun b o e => Heap.get?_push_of_some _ e) rfl
  have keep : ∀ b o, t.heap.get? b = some o → (t.heap.push (ritO a n c)).get? b = some o := fun b o e => Heap.get?_push_of_some _ e
  refine comp_block B (Itr.range hh _ a c n) D1 (by unfold ritSt; simp) (fun h => ?_) hkind hown (fun h hk => trivial) hn J hJ h0 ?_ fin
  · refine el_E (D.mu_lt (D.wmu _ h)) fun o' e' => ?_
    rw [hz] at e'; cases e'
  · intro s3 acc C i v V' cm m' t' ys n' oI' K K2 hi hQ1; refine el_E (hQ1) fun tk hR1 => ?_; try clear hQ1; subst hR1; intro hyl h3 hle hJi D' hK hK2
    refine turn _ s3 _ acc C i tk V' cm m' t' ys n' oI' K K2 (fun b o e => ⟨keep b o e, h3 _ _ (keep b o e)⟩) hi hyl (fun b o e => hle _ _ ?_) hJi D' hK hK2
    have e1 := (fullV_sub t _).see _ _ e
    exact fullV_get (keep _ _ e1) (fun h => Nat.ne_of_lt (Heap.lt_size e1) (List.mem_singleton.mp h)) (fun h => by rw [(fullV_sub t _).offT b h] at e; cases e)

/-- for over a range -/
theorem for_range {r : Addr} {a b c : Int} {u1 u2 u3 : Tok} {n : Nat} {body : List Stmt} {Q : Flow → Shared → Prop} (hh : A.handled = none) (D : Bd g s₀ W V mu env.locals m t) (hr : IsRange t.heap r a b c u1 u2 u3) (hsm : Builtin.Range.small a b c = true) (hsz : Builtin.Range.rangeSize a b c = n)
    (J : Nat → View → List (Addr × Obj) → (Str → Option Value) → Prop) (h0 : J 0 V mu m)
    (turn : ∀ i I tk V' mu' m' o' t' (K : Flow → Shared → Prop), (∀ t3, (∃ V'' mu'' m'', J (i + 1) V'' mu'' m'' ∧ Bd g s₀ W V'' ((I, o') :: mu'') env.locals m'' t3) → K .next t3) → (∀ v t3, Q (.ret v) t3 → K (.ret v) t3) → i < n → J i V' mu' m' → Bd g s₀ W V' ((I, o') :: mu') env.locals m' t' →
      wpAny (model prog w) A (assign target env (.int (a + i * c) tk)) (fun _ t2 => wpAny (model prog w) A (execs body env) K NoE t2) NoE t')
    (fin : ∀ V' mu' m' t', J n V' mu' m' → Bd g s₀ W V' mu' env.locals m' t' → Q .next t') :
    wpAny (model prog w) A (pyIter (.ref r)) (fun it s₂ => codeAny (model prog w) A (.forLoop target it body [] env) (fun r s' => match r with | .ok f => Q f s' | .error e => cameBackBy (model prog w) A env E e s') s₂) E t := by
  refine wpAny_pyIter_range hr hsm ?_
  rw [hsz]
  have hz := get_size t.heap
  have D1 := D.newMu (n := t.toks) (o := ritO a n c) hz (Heap.get?_push_size _ rfl) (fun b o e => Heap.get?_push_of_some _ e) rfl
  refine for_it (Itr.range hh _ a c n) D1 (by unfold ritSt; simp) (fun h => ?_) J h0 (fun i V' mu' m' o' t' _ _ => trivial) (fun i v V' mu' m' o' t' K hK hR hi hP hJ D' => by refine el_E (hP) fun tk hR2 => ?_; try clear hP; subst hR2; exact turn i _ tk V' mu' m' o' t' K hK hR hi hJ D') fin
  refine el_E (D.mu_lt (D.wmu _ h)) fun o' e' => ?_
  rw [hz] at e'; cases e'
end
end Mine
end

section
open PySem PySem.W PyProof.Rows PySem.Calls
set_option Elab.async false
set_option linter.unusedVariables false
namespace Mine
set_option maxRecDepth 100000

section
variable {prog : Program} {w : World} {mg mb : Str → Option Value} {g : Heap} {A : Around} {E : Value → Shared → Prop} {s₀ t : Shared} {W : List Addr} {V : View} {mu : List (Addr × Obj)} {L : Addr} {m : Str → Option Value} {env : Env}

theorem list_set_ {a : Addr} {xs : List Value} {n k : Nat} {kk : Int} {tk : Tok} {y : Value} {Q : Unit → Shared → Prop} (D : Bd g s₀ W V mu L m t) (i : Nat) (hi : mu[i]? = some (a, lst xs n)) (hkk : kk = (k : Int)) (hk : k < xs.length) (hz : xs.length < 100000)
    (h : ∀ n' t', Bd g s₀ W V (mu.set i (a, lst (xs.set k y) n')) L m t' → Q () t') : wpAny (model prog w) A (setItem (.ref a) (.int kk tk) y) Q E t := by
  have z := D.mus _ (List.mem_of_getElem? hi)
  refine ki_setAt z.1 (by lia) (by lia) (by rw [List.size_toArray]; lia) ?_
  refine h n _ (D.upd (n := t.toks) i hi (o' := lst (xs.set k y) n) ?_ (Heap.SameBut.update ..).extBut rfl)
  refine (Heap.get?_update_self (h := t.heap) (a := a) _ z.1 rfl).trans ?_
  show some (Obj.mapSeq _ (lst xs n)) = _
  unfold Obj.mapSeq
  dsimp only
  have e : kk.toNat = k := by lia
  rw [e]
  simp [lst]

/-- list(x) of a list -/
theorem list_copy_ {l : Addr} {xs : List Value} {Q : Value → Shared → Prop} (D : Bd g s₀ W V mu L m t) (hl : t.heap.IsList l xs.toArray) (hz : xs.length < 100000)
    (h : ∀ a n' t', V a = none → s₀.heap.get? a = none → Bd g s₀ W V ((a, lst xs n') :: mu) L m t' → Q (.ref a) t') : wpAny (model prog w) A (call (.type "list") [.ref l]) Q E t := by
  refine el_EAAE (hl) fun o e hc n hd => ?_; try clear hl
  refine call_list_seq l (.inl rfl) e hc hd (fun h' c' hk ho => ?_) (by rw [List.size_toArray, sizeLine_eq]; (exact Nat.le_of_lt (Nat.lt_of_lt_of_le (by assumption) (by decide))))
  have hz := get_size t.heap
  have D2 := D.newMu (n := t.toks) (o := lst xs c') hz ho hk rfl
  have z := D2.mus _ (.head _)
  exact h _ c' _ z.2.1 (D.fresh hz) D2

/-- an item of a list by an int, behind its value -/
theorem item_list {value slice : PySem.Expr} {l : Addr} {xs : List Value} {k : Nat} {kk : Int} {tk : Tok} {v : Value} {Q : Value → Shared → Prop} (hl : t.heap.IsList l xs.toArray) (hkk : kk = (k : Int)) (hz : k < 100000) (hv : xs[k]? = some v) (h : Q v t)
    (hs : subscripted slice false (.ref l) (.int kk tk) = operate [.ref l, .int kk tk] (getItem (.ref l) (.int kk tk)) := by with_unfolding_all rfl) : wpAny (model prog w) A (subscriptTail value slice (.ref l) (.int kk tk)) Q E t :=
  tail_any hl.typeIs slot_list_getitem.lookup (wpAny_getItem_list hl (by lia) (by lia) (by (have : kk.toNat = k := by lia); rw [this]; simpa using hv) h) hs

/-- range(a, b, c), small -/
theorem range3_ {a b c : Int} {u1 u2 u3 : Tok} {Q : Value → Shared → Prop} (D : Bd g s₀ W V mu L m t) (hc : c ≠ 0) (hb : -100000 < b - a ∧ b - a < 100000) (hc2 : c < 100000 ∧ -100000 < c) (h : ∀ r u1 u2 u3 t', Bd g s₀ W V mu L m t' → IsRange t'.heap r a b c u1 u2 u3 → Q (.ref r) t') :
    wpAny (model prog w) A (call (.type "range") [.int a u1, .int b u2, .int c u3]) Q E t :=
  call_range_3 hc (h _ u1 u2 u3 _ (D.grow (n := t.toks) fun b o e => Heap.get?_push_of_some _ e) (IsRange.new ..)) (Or.inl (PyProof.noPylong_small (by omega)))
theorem range1_ {b : Int} {u2 : Tok} {Q : Value → Shared → Prop} (D : Bd g s₀ W V mu L m t) (h : ∀ r u1 u2 u3 t', Bd g s₀ W V mu L m t' → IsRange t'.heap r 0 b 1 u1 u2 u3 → Q (.ref r) t') :
    wpAny (model prog w) A (call (.type "range") [.int b u2]) Q E t :=
  call_range_1 (h _ _ _ _ _ (D.grow (n := t.toks + 1 + 1) fun b o e => Heap.get?_push_of_some _ e) (IsRange.new ..))
end

theorem small_pos {a b c : Int} (ha : -100000 < a ∧ a < 100000) (hb : -100000 < b ∧ b < 100000) (hc : 0 < c ∧ c < 100000) : Builtin.Range.small a b c = true := by
  have h1 : Builtin.Range.rangeSize a b c ≤ 400000 ∧ 0 ≤ Builtin.Range.rangeSize a b c := by
    unfold Builtin.Range.rangeSize
    simp only [hc.1, gt_iff_lt, if_true]
    split
    · have h1 := @Int.ediv_le_self (b - a - 1) c (by lia)
      have h2 := Int.ediv_nonneg (a := b - a - 1) (b := c) (by lia) (by lia)
      omega
    · decide
  unfold Builtin.Range.small
  simp only [Builtin.Range.rangeFitsLong, Bool.and_eq_true, Bool.or_eq_true, decide_eq_true_eq, beq_iff_eq, hc.1, if_true]
  omega
end Mine
end

section
open PySem PySem.W PyProof.Rows PySem.Calls
set_option Elab.async false
set_option linter.unusedVariables false
namespace Mine
set_option maxRecDepth 100000

theorem bisR_q (f : Nat → Int) (x : Int) (lo hi : Nat) (q : List Nat) : (bisR f x lo hi q).2.length ≤ q.length + (hi - lo) := by
  fun_induction bisR f x lo hi q with
  | case1 lo hi q hlt hc ih => rw [List.length_append, List.length_singleton] at ih; exact Nat.le_trans ih (mid_q (mid_l hlt) (Nat.le_refl _))
  | case2 lo hi q hlt hc ih => rw [List.length_append, List.length_singleton] at ih; exact Nat.le_trans ih (mid_q (mid_r hlt) (Nat.le_refl _))
  | case3 lo hi q hlt => exact Nat.le_add_right _ _
theorem bisL_q (f : Nat → Int) (x : Int) (lo hi : Nat) (q : List Nat) : (bisL f x lo hi q).2.length ≤ q.length + (hi - lo) := by
  fun_induction bisL f x lo hi q with
  | case1 lo hi q hlt hc ih => rw [List.length_append, List.length_singleton] at ih; exact Nat.le_trans ih (mid_q (mid_r hlt) (Nat.le_refl _))
  | case2 lo hi q hlt hc ih => rw [List.length_append, List.length_singleton] at ih; exact Nat.le_trans ih (mid_q (mid_l hlt) (Nat.le_refl _))
  | case3 lo hi q hlt => exact Nat.le_add_right _ _

/-- one row laid behind the last one or ahead of it; what was asked -/
noncomputable def stepR (c : Nat → Nat → Int) (st : List Nat × List (Nat × Nat)) (x : Nat) : List Nat × List (Nat × Nat) :=
  let r := bisR (fun i => c ((st.1 ++ [x]).getD i 0) x) (c ((st.1 ++ [x]).getD st.1.length 0) x) (st.1.length - 1) st.1.length [st.1.length]
  (st.1.take r.1 ++ x :: st.1.drop r.1, st.2 ++ r.2.map fun i => ((st.1 ++ [x]).getD i 0, x))
noncomputable def stepL (c : Nat → Nat → Int) (st : List Nat × List (Nat × Nat)) (x : Nat) : List Nat × List (Nat × Nat) :=
  let r := bisL (fun i => c ((st.1 ++ [x]).getD i 0) x) (c ((st.1 ++ [x]).getD st.1.length 0) x) 0 (min st.1.length 1) [st.1.length]
  (st.1.take r.1 ++ x :: st.1.drop r.1, st.2 ++ r.2.map fun i => ((st.1 ++ [x]).getD i 0, x))
theorem stepR_len (c : Nat → Nat → Int) (st) (x : Nat) : (stepR c st x).1.length = st.1.length + 1 := ins_len _ _ _
theorem stepL_len (c : Nat → Nat → Int) (st) (x : Nat) : (stepL c st x).1.length = st.1.length + 1 := ins_len _ _ _
theorem stepR_asks (c : Nat → Nat → Int) (st) (x : Nat) : (stepR c st x).2.length ≤ st.2.length + 2 := by
  unfold stepR
  have := bisR_q (fun i => c ((st.1 ++ [x]).getD i 0) x) (c ((st.1 ++ [x]).getD st.1.length 0) x) (st.1.length - 1) st.1.length [st.1.length]
  simp only [List.length_append, List.length_map, List.length_singleton] at this ⊢
  omega
theorem stepL_asks (c : Nat → Nat → Int) (st) (x : Nat) : (stepL c st x).2.length ≤ st.2.length + 2 := by
  unfold stepL
  have := bisL_q (fun i => c ((st.1 ++ [x]).getD i 0) x) (c ((st.1 ++ [x]).getD st.1.length 0) x) 0 (min st.1.length 1) [st.1.length]
  simp only [List.length_append, List.length_map, List.length_singleton] at this ⊢
  lia
theorem stepR_mem {c : Nat → Nat → Int} {st} {x j : Nat} (h : j ∈ (stepR c st x).1) : j = x ∨ j ∈ st.1 := by
  unfold stepR at h
  rcases List.mem_append.mp h with h | h
  · exact .inr (List.mem_of_mem_take h)
  · exact (List.mem_cons.mp h).imp id List.mem_of_mem_drop
theorem stepL_mem {c : Nat → Nat → Int} {st} {x j : Nat} (h : j ∈ (stepL c st x).1) : j = x ∨ j ∈ st.1 := by
  unfold stepL at h
  rcases List.mem_append.mp h with h | h
  · exact .inr (List.mem_of_mem_take h)
  · exact (List.mem_cons.mp h).imp id List.mem_of_mem_drop

noncomputable def noV : View := fun _ => none

section
variable {g : Heap} {s₀ t : Shared} {W : List Addr} {V : View} {mu : List (Addr × Obj)} {L a b : Addr} {m : Str → Option Value}
theorem Bd.after2 (D : Bd g s₀ W V mu L m t) {t' : Shared} (i j : Nat) {oa ob oa' ob' : Obj} (hi : mu[i]? = some (a, oa)) (hj : mu[j]? = some (b, ob)) (hab : a ≠ b) (st : Stp [a, b] t t') (ha : t'.heap.get? a = some oa') (hb : t'.heap.get? b = some ob') (sa : stab oa' = false) (sb : stab ob' = false) :
    ∃ V', V.le V' ∧ Fresh t t' V' ∧ Bd g s₀ W V' ((mu.set i (a, oa')).set j (b, ob')) L m t' := by
  have hij : i ≠ j := fun q => by subst q; rw [hi] at hj; cases hj; exact hab rfl
  have hj' : (mu.set i (a, oa'))[j]? = some (b, ob) := by rw [List.getElem?_set_ne hij]; exact hj
  have nd' : ((mu.set i (a, oa')).map (·.1)).Nodup := by rw [set_map_fst hi]; exact D.nd
  refine D.after' st (by rw [set_map_fst hj', set_map_fst hi]) (fun x hx => ?_) (fun p hp => ?_)
  · rcases List.mem_cons.mp hx with hq0 | hx
    · subst x; exact List.mem_map_of_mem (f := (·.1)) (List.mem_of_getElem? hi)
    · rw [List.mem_singleton.mp hx]; exact List.mem_map_of_mem (f := (·.1)) (List.mem_of_getElem? hj)
  · rcases mem_set_cases nd' hj' hp with rfl | ⟨hp, hne⟩
    · exact ⟨hb, sb⟩
    · rcases mem_set_cases D.nd hi hp with rfl | ⟨hp, hne'⟩
      · exact ⟨ha, sa⟩
      · have z := D.mus p hp
        refine ⟨st.keep _ _ (fun h => ?_) (fun h => (D.neT h).2 (List.mem_map_of_mem hp)) z.1, z.2.2.2.1⟩
        rcases List.mem_cons.mp h with q | h
        · exact hne' q
        · exact hne (List.mem_singleton.mp h)
end

section
variable {prog : Program} {w : World} {mg mb : Str → Option Value} {g : Heap} {A : Around} {E : Value → Shared → Prop} {s : Shared}

theorem lay_passR (B : Bs w mg mb g) (hA : Ok A 11) {s₀ t : Shared} {W : List Addr} {V : View} {mu : List (Addr × Obj)} {L : Addr} {m : Str → Option Value} {x kl f c' kp ak c1 c2 c3 : Addr} {pm ctv : Value} {K : List (Int × Int)} {ra : Nat → Addr} {R : Nat → Row} {ks : List Nat} {asks : List (Nat × Nat)} {items : List Value} {j n n1 : Nat} {tl : Tok} {Q : Value → Shared → Prop}
    (D : Bd g s₀ W V mu L m t) (i1 i2 : Nat) (hi1 : mu[i1]? = some (kp, lst (vref ra ks) n)) (hi2 : mu[i2]? = some (ak, lst items n1)) (hne : kp ≠ ak) (hf : V f = some (lamObj lamR qP [("row", c3), ("order", c2), ("asked", c1)] pm c' ctv)) (hc : IsCodeV V c' qP)
    (h1 : (c1, cel (some (.ref ak))) ∈ mu) (h2 : (c2, cel (some (.ref x))) ∈ mu) (h3 : (c3, cel (some (.ref (ra j)))) ∈ mu)
    (hx : IsOrd V x kl) (hk : IsKeys V kl K) (hK : ∀ p ∈ K, p.1 = 0 ∨ p.1 = 1 ∨ p.1 = 2)
    (hj : IsRow V (ra j) (R j)) (hjs : ∀ j ∈ ks, IsRow V (ra j) (R j)) (hlen : ks.length < 900) (hP : AskL (cut s₀ noV V) items (asks.map fun p => (ra p.1, ra p.2))) (hal : asks.length < 90000)
    (hQ : ∀ n' n1' items' V' t', V.le V' → AskL (cut s₀ noV V') items' ((stepR (fun i j => cmpK K (R i) (R j)) (ks, asks) j).2.map fun p => (ra p.1, ra p.2)) →
      Bd g s₀ W V' ((mu.set i1 (kp, lst (vref ra (stepR (fun i j => cmpK K (R i) (R j)) (ks, asks) j).1) n')).set i2 (ak, lst items' n1')) L m t' → Q .none t') :
    wpAny (model prog w) A (call (.ref 23) [.ref kp, .ref (ra j), .int ((ks.length - 1 : Nat) : Int) tl] [("key", .ref f)]) Q E t := by
  have hm1 := List.mem_of_getElem? hi1
  have hm2 := List.mem_of_getElem? hi2
  have hW : ∀ b ∈ [kp, ak], b ∈ mu.map (·.1) := fun b hb => by
    rcases List.mem_cons.mp hb with hq0 | hb
    · subst b; exact List.mem_map_of_mem (f := (·.1)) hm1
    · rw [List.mem_singleton.mp hb]; exact List.mem_map_of_mem (f := (·.1)) hm2
  have sub := D.sub hW
  have leU : V.le (fullV t [kp, ak]) := D.leFull hW
  have inU : ∀ {c : Addr} {v : Option Value}, (c, cel v) ∈ mu → fullV t [kp, ak] c = some (cel v) := fun {c v} hm => D.muFull hm (fun h => by
    have z := (D.mus _ hm).1
    rcases List.mem_cons.mp h with q | h
    · rw [q, (D.mus _ hm1).1] at z; have hz := congrArg Obj.data (Option.some.inj z); cases hz
    · rw [List.mem_singleton.mp h, (D.mus _ hm2).1] at z; have hz := congrArg Obj.data (Option.some.inj z); cases hz)
  have hvl := vref_len ra ks
  have KO := pass_keyR (prog := prog) (N := 2000) (pre := asks.map fun p => (ra p.1, ra p.2)) (U := fullV t [kp, ak]) (dom := fun i => ra ((ks ++ [j]).getD i 0)) (vals := vref ra ks ++ [.ref (ra j)]) (Rs := fun i => R ((ks ++ [j]).getD i 0)) B
    ⟨c1, c2, c3, pm, ctv, leU _ _ hf, inU h1, inU h2, inU h3⟩ (hc.mono leU) (hx.mono leU) (hk.mono leU) hK (hj.mono leU) (fun i v hv => by
    have : vref ra ks ++ [.ref (ra j)] = vref ra (ks ++ [j]) := by unfold vref; simp
    rw [this] at hv
    refine el_A (vref_get hv) fun h1 h2 => ?_
    refine ⟨h1, ?_⟩
    rcases List.mem_append.mp h2 with h2 | h2
    · exact (hjs _ h2).mono leU
    · have e := List.mem_singleton.mp h2
      show IsRow _ (ra ((ks ++ [j]).getD i 0)) (R ((ks ++ [j]).getD i 0))
      rw [e]; exact hj.mono leU) (by rw [List.length_map]; lia)
  have leVt : (cut s₀ noV V).le V := fun b o e => by
    unfold cut at e
    split at e
    · exact e
    · cases e
  refine insort_right_spec (d := 6) (N := 2000) B (hA.le (by decide)) D.wd (q := []) (mu := [(ak, lst items n1)]) (lo := ks.length - 1) (hi := (vref ra ks).length) (fullV_sub t _) KO (sub.anti leVt) ⟨items, n1, rfl, by rw [List.map_nil, List.append_nil]; exact hP⟩ rfl
    (by simp [hne]) (fun p hp => by rw [List.mem_singleton.mp hp]; exact (in_AA ((D.mus _ hm2).1) rfl (D.notG hm2))) (D.mus _ hm1).1 (D.notG hm1) (by lia) (.inl ⟨rfl, rfl⟩) (Nat.le_refl _) (by show 0 + 1 + _ ≤ 2000; lia) (bisR_bd _ _ _ _ _ (by lia)).2
    (binds_K (K := hd.heap_39 w.params) (B.K.keeps D.keepG) rfl rfl rfl rfl rfl) ?_
  intro t' mu' n' st hm' ob' ha' hP'
  obtain ⟨items', n1', rfl, -⟩ : ∃ items' n1', mu' = [(ak, lst items' n1')] ∧ True := by
    refine el_EEA (hP' (extV t t' (cut s₀ noV V)) (le_extV fun b o e => D.see b o (leVt b o e)) fresh_extV) fun i' n' e _ => ?_
    exact (in_EEA i' n' e trivial)
  refine el_EAA (D.after2 i1 i2 hi1 hi2 hne st ha' (ob' _ (.head _)).1 rfl rfl) fun V' le' fr' D' => ?_
  have hP2 := hP' (cut s₀ noV V') (cut_le le') (fun b o e1 e2 => cut_new (D.fresh e2) (fr' b o e1 e2))
  refine el_EEA (hP2) fun i' n'' e hask => ?_; try clear hP2
  cases e
  have e1 : insAt (vref ra ks) (bisR (fun i => cmpK K (R ((ks ++ [j]).getD i 0)) (R j)) (cmpK K (R ((ks ++ [j]).getD (vref ra ks).length 0)) (R j)) (ks.length - 1) (vref ra ks).length ([] ++ [(vref ra ks).length])).1 (.ref (ra j)) = vref ra (stepR (fun i j => cmpK K (R i) (R j)) (ks, asks) j).1 := by
    rw [vref_ins, hvl]; rfl
  rw [e1] at D'
  refine hQ n' n1' items' V' t' le' ?_ D'
  have e2 : (stepR (fun i j => cmpK K (R i) (R j)) (ks, asks) j).2.map (fun p => (ra p.1, ra p.2)) = asks.map (fun p => (ra p.1, ra p.2)) ++ (bisR (fun i => cmpK K (R ((ks ++ [j]).getD i 0)) (R j)) (cmpK K (R ((ks ++ [j]).getD (vref ra ks).length 0)) (R j)) (ks.length - 1) (vref ra ks).length ([] ++ [(vref ra ks).length])).2.map (fun i => (ra ((ks ++ [j]).getD i 0), ra j)) := by
    unfold stepR
    rw [hvl, List.map_append, List.map_map]; rfl
  rw [e2]
  exact hask

theorem lay_passL (B : Bs w mg mb g) (hA : Ok A 11) {s₀ t : Shared} {W : List Addr} {V : View} {mu : List (Addr × Obj)} {L : Addr} {m : Str → Option Value} {x kl f c' kp ak c1 c2 c3 : Addr} {pm ctv : Value} {K : List (Int × Int)} {ra : Nat → Addr} {R : Nat → Row} {ks : List Nat} {asks : List (Nat × Nat)} {items : List Value} {j n n1 : Nat} {tl th : Tok} {Q : Value → Shared → Prop}
    (D : Bd g s₀ W V mu L m t) (i1 i2 : Nat) (hi1 : mu[i1]? = some (kp, lst (vref ra ks) n)) (hi2 : mu[i2]? = some (ak, lst items n1)) (hne : kp ≠ ak) (hf : V f = some (lamObj lamL qP [("row", c3), ("order", c2), ("asked", c1)] pm c' ctv)) (hc : IsCodeV V c' qP)
    (h1 : (c1, cel (some (.ref ak))) ∈ mu) (h2 : (c2, cel (some (.ref x))) ∈ mu) (h3 : (c3, cel (some (.ref (ra j)))) ∈ mu)
    (hx : IsOrd V x kl) (hk : IsKeys V kl K) (hK : ∀ p ∈ K, p.1 = 0 ∨ p.1 = 1 ∨ p.1 = 2)
    (hj : IsRow V (ra j) (R j)) (hjs : ∀ j ∈ ks, IsRow V (ra j) (R j)) (hlen : ks.length < 900) (hP : AskL (cut s₀ noV V) items (asks.map fun p => (ra p.1, ra p.2))) (hal : asks.length < 90000)
    (hQ : ∀ n' n1' items' V' t', V.le V' → AskL (cut s₀ noV V') items' ((stepL (fun i j => cmpK K (R i) (R j)) (ks, asks) j).2.map fun p => (ra p.1, ra p.2)) →
      Bd g s₀ W V' ((mu.set i1 (kp, lst (vref ra (stepL (fun i j => cmpK K (R i) (R j)) (ks, asks) j).1) n')).set i2 (ak, lst items' n1')) L m t' → Q .none t') :
    wpAny (model prog w) A (call (.ref 41) [.ref kp, .ref (ra j), .int ((0 : Nat) : Int) tl, .int ((min ks.length 1 : Nat) : Int) th] [("key", .ref f)]) Q E t := by
  have hm1 := List.mem_of_getElem? hi1
  have hm2 := List.mem_of_getElem? hi2
  have hW : ∀ b ∈ [kp, ak], b ∈ mu.map (·.1) := fun b hb => by
    rcases List.mem_cons.mp hb with hq0 | hb
    · subst b; exact List.mem_map_of_mem (f := (·.1)) hm1
    · rw [List.mem_singleton.mp hb]; exact List.mem_map_of_mem (f := (·.1)) hm2
  have sub := D.sub hW
  have leU : V.le (fullV t [kp, ak]) := D.leFull hW
  have inU : ∀ {c : Addr} {v : Option Value}, (c, cel v) ∈ mu → fullV t [kp, ak] c = some (cel v) := fun {c v} hm => D.muFull hm (fun h => by
    have z := (D.mus _ hm).1
    rcases List.mem_cons.mp h with q | h
    · rw [q, (D.mus _ hm1).1] at z; have hz := congrArg Obj.data (Option.some.inj z); cases hz
    · rw [List.mem_singleton.mp h, (D.mus _ hm2).1] at z; have hz := congrArg Obj.data (Option.some.inj z); cases hz)
  have hvl := vref_len ra ks
  have KO := pass_keyL (prog := prog) (N := 2000) (pre := asks.map fun p => (ra p.1, ra p.2)) (U := fullV t [kp, ak]) (dom := fun i => ra ((ks ++ [j]).getD i 0)) (vals := vref ra ks ++ [.ref (ra j)]) (Rs := fun i => R ((ks ++ [j]).getD i 0)) B
    ⟨c1, c2, c3, pm, ctv, leU _ _ hf, inU h1, inU h2, inU h3⟩ (hc.mono leU) (hx.mono leU) (hk.mono leU) hK (hj.mono leU) (fun i v hv => by
    have : vref ra ks ++ [.ref (ra j)] = vref ra (ks ++ [j]) := by unfold vref; simp
    rw [this] at hv
    refine el_A (vref_get hv) fun h1 h2 => ?_
    refine ⟨h1, ?_⟩
    rcases List.mem_append.mp h2 with h2 | h2
    · exact (hjs _ h2).mono leU
    · have e := List.mem_singleton.mp h2
      show IsRow _ (ra ((ks ++ [j]).getD i 0)) (R ((ks ++ [j]).getD i 0))
      rw [e]; exact hj.mono leU) (by rw [List.length_map]; lia)
  have leVt : (cut s₀ noV V).le V := fun b o e => by
    unfold cut at e
    split at e
    · exact e
    · cases e
  refine insort_left_spec (d := 6) (N := 2000) B (hA.le (by decide)) D.wd (q := []) (mu := [(ak, lst items n1)]) (lo := 0) (hi := min ks.length 1) (fullV_sub t _) KO (sub.anti leVt) ⟨items, n1, rfl, by rw [List.map_nil, List.append_nil]; exact hP⟩ rfl
    (by simp [hne]) (fun p hp => by rw [List.mem_singleton.mp hp]; exact (in_AA ((D.mus _ hm2).1) rfl (D.notG hm2))) (D.mus _ hm1).1 (D.notG hm1) (by lia) (.inr ⟨th, rfl⟩) (by lia) (by show 0 + 1 + _ ≤ 2000; lia) (Nat.le_trans (bisL_bd _ _ _ _ _ (by (exact Nat.zero_le _))).2 (by lia))
    (binds_K (K := hd.heap_39 w.params) (B.K.keeps D.keepG) rfl rfl rfl rfl rfl) ?_
  intro t' mu' n' st hm' ob' ha' hP'
  obtain ⟨items', n1', rfl, -⟩ : ∃ items' n1', mu' = [(ak, lst items' n1')] ∧ True := by
    refine el_EEA (hP' (extV t t' (cut s₀ noV V)) (le_extV fun b o e => D.see b o (leVt b o e)) fresh_extV) fun i' n' e _ => ?_
    exact (in_EEA i' n' e trivial)
  refine el_EAA (D.after2 i1 i2 hi1 hi2 hne st ha' (ob' _ (.head _)).1 rfl rfl) fun V' le' fr' D' => ?_
  have hP2 := hP' (cut s₀ noV V') (cut_le le') (fun b o e1 e2 => cut_new (D.fresh e2) (fr' b o e1 e2))
  refine el_EEA (hP2) fun i' n'' e hask => ?_; try clear hP2
  cases e
  have e1 : insAt (vref ra ks) (bisL (fun i => cmpK K (R ((ks ++ [j]).getD i 0)) (R j)) (cmpK K (R ((ks ++ [j]).getD (vref ra ks).length 0)) (R j)) 0 (min ks.length 1) ([] ++ [(vref ra ks).length])).1 (.ref (ra j)) = vref ra (stepL (fun i j => cmpK K (R i) (R j)) (ks, asks) j).1 := by
    rw [vref_ins, hvl]; rfl
  rw [e1] at D'
  refine hQ n' n1' items' V' t' le' ?_ D'
  have e2 : (stepL (fun i j => cmpK K (R i) (R j)) (ks, asks) j).2.map (fun p => (ra p.1, ra p.2)) = asks.map (fun p => (ra p.1, ra p.2)) ++ (bisL (fun i => cmpK K (R ((ks ++ [j]).getD i 0)) (R j)) (cmpK K (R ((ks ++ [j]).getD (vref ra ks).length 0)) (R j)) 0 (min ks.length 1) ([] ++ [(vref ra ks).length])).2.map (fun i => (ra ((ks ++ [j]).getD i 0), ra j)) := by
    unfold stepL
    rw [hvl, List.map_append, List.map_map]; rfl
  rw [e2]
  exact hask
end
end Mine
end

section
open PySem PySem.W PyProof.Rows PySem.Calls
set_option Elab.async false
set_option linter.unusedVariables false
namespace Mine
set_option maxRecDepth 100000

noncomputable def cnt (start n step : Nat) : Nat := if start < n then (n - start - 1) / step + 1 else 0
theorem cnt_lt {start n step i : Nat} (h : i < cnt start n step) (hs : 0 < step) : start + i * step < n := by
  unfold cnt at h
  split at h
  · have h1 : i ≤ (n - start - 1) / step := by lia
    have h2 := Nat.mul_le_of_le_div _ _ _ h1
    omega
  · (exact absurd (by assumption) (Nat.not_lt_zero _))
theorem cnt_le {start n step : Nat} (hs : 0 < step) : cnt start n step ≤ n := by
  unfold cnt
  split
  · have := Nat.div_le_self (n - start - 1) step
    omega
  · (exact Nat.zero_le _)
theorem rangeSize_cnt (start n step : Nat) (hs : 0 < step) : Builtin.Range.rangeSize (start : Int) (n : Int) (step : Int) = (cnt start n step : Int) := by
  unfold Builtin.Range.rangeSize cnt
  rw [if_pos (by (exact Int.ofNat_lt.mpr (by assumption)))]
  by_cases h : start < n
  · rw [if_pos (by (exact Int.ofNat_lt.mpr (by assumption))), if_pos h]
    have : (n : Int) - start - 1 = ((n - start - 1 : Nat) : Int) := by omega
    rw [this]
    simp
  · rw [if_neg (by lia), if_neg h]; rfl
noncomputable def chainOf (js : List Nat) (start step : Nat) : List Nat := (List.range (cnt start js.length step)).map fun i => js.getD (start + i * step) 0
noncomputable def chainPass (c : Nat → Nat → Int) (back : Bool) (ch : List Nat) (asks : List (Nat × Nat)) : List Nat × List (Nat × Nat) :=
  if back then ch.reverse.foldl (stepL c) ([], asks) else ch.foldl (stepR c) ([], asks)
noncomputable def putChain (js : List Nat) (start step : Nat) (kept : List Nat) (k : Nat) : List Nat := (List.range k).foldl (fun js k => js.set (start + k * step) (kept.getD k 0)) js
noncomputable def passStep (c : Nat → Nat → Int) (back : Bool) (step : Nat) (st : List Nat × List (Nat × Nat)) (start : Nat) : List Nat × List (Nat × Nat) :=
  (putChain st.1 start step (chainPass c back (chainOf st.1 start step) st.2).1 (chainPass c back (chainOf st.1 start step) st.2).1.length, (chainPass c back (chainOf st.1 start step) st.2).2)
noncomputable def passOf (c : Nat → Nat → Int) (back : Bool) (step : Nat) (js : List Nat) (k : Nat) : List Nat × List (Nat × Nat) := (List.range k).foldl (passStep c back step) (js, [])

theorem putChain_len (js : List Nat) (start step : Nat) (kept : List Nat) (k : Nat) : (putChain js start step kept k).length = js.length := by
  unfold putChain
  induction k with
  | zero => rfl
  | succ k ih => rw [List.range_succ, List.foldl_append, List.foldl_cons, List.foldl_nil, List.length_set]; exact ih
theorem putChain_mem {js : List Nat} {start step : Nat} {kept : List Nat} {k j : Nat} (h : j ∈ putChain js start step kept k) (hk : k ≤ kept.length) : j ∈ js ∨ j ∈ kept := by
  unfold putChain at h
  induction k with
  | zero => exact .inl h
  | succ k ih =>
    rw [List.range_succ, List.foldl_append, List.foldl_cons, List.foldl_nil] at h
    rcases List.mem_or_eq_of_mem_set h with h | h
    · exact ih h (by (exact Nat.le_of_lt (by assumption)))
    · right; rw [h, List.getD_eq_getElem?_getD, List.getElem?_eq_getElem (by assumption)]; exact List.getElem_mem _
theorem foldR_facts (c : Nat → Nat → Int) : ∀ (ch : List Nat) (st : List Nat × List (Nat × Nat)), (ch.foldl (stepR c) st).1.length = st.1.length + ch.length ∧ (ch.foldl (stepR c) st).2.length ≤ st.2.length + 2 * ch.length ∧ ∀ j ∈ (ch.foldl (stepR c) st).1, j ∈ st.1 ∨ j ∈ ch
  | [], st => (in_AA rfl (Nat.le_refl _) (fun j h => .inl h))
  | x :: ch, st => by
    refine el_AA (foldR_facts c ch (stepR c st x)) fun a b d => ?_
    have e1 := stepR_len c st x
    have e2 := stepR_asks c st x
    rw [List.foldl_cons, List.length_cons]
    refine (in_AA (by lia) (by lia) (fun j h => ?_))
    rcases d j h with h | h
    · rcases stepR_mem h with hq0 | h
      · subst j; exact .inr (.head _)
      · exact .inl h
    · exact .inr (.tail _ h)
theorem foldL_facts (c : Nat → Nat → Int) : ∀ (ch : List Nat) (st : List Nat × List (Nat × Nat)), (ch.foldl (stepL c) st).1.length = st.1.length + ch.length ∧ (ch.foldl (stepL c) st).2.length ≤ st.2.length + 2 * ch.length ∧ ∀ j ∈ (ch.foldl (stepL c) st).1, j ∈ st.1 ∨ j ∈ ch
  | [], st => (in_AA rfl (Nat.le_refl _) (fun j h => .inl h))
  | x :: ch, st => by
    refine el_AA (foldL_facts c ch (stepL c st x)) fun a b d => ?_
    have e1 := stepL_len c st x
    have e2 := stepL_asks c st x
    rw [List.foldl_cons, List.length_cons]
    refine (in_AA (by lia) (by lia) (fun j h => ?_))
    rcases d j h with h | h
    · rcases stepL_mem h with hq0 | h
      · subst j; exact .inr (.head _)
      · exact .inl h
    · exact .inr (.tail _ h)
theorem chainOf_mem {js : List Nat} {start step j : Nat} (hs : 0 < step) (h : j ∈ chainOf js start step) : j ∈ js := by
  unfold chainOf at h
  refine el_EA (List.mem_map.mp h) fun i hi hR1 => ?_; subst hR1
  have := cnt_lt (List.mem_range.mp hi) hs
  rw [List.getD_eq_getElem?_getD, List.getElem?_eq_getElem this]; exact List.getElem_mem _
theorem chainOf_len (js : List Nat) (start step : Nat) : (chainOf js start step).length = cnt start js.length step := by unfold chainOf; simp

section
variable {prog : Program} {w : World} {mg mb : Str → Option Value} {g : Heap} {A : Around} {E : Value → Shared → Prop} {s : Shared}

theorem max_int (hh : A.handled = none) {s₀ t : Shared} {W : List Addr} {V : View} {mu : List (Addr × Obj)} {L : Addr} {m : Str → Option Value} {a b : Int} {u1 u2 : Tok} {Q : Value → Shared → Prop} (D : Bd g s₀ W V mu L m t) (h : ∀ tk t', Bd g s₀ W V mu L m t' → Q (.int (max a b) tk) t') :
    wpAny (model prog w) A (call (.builtin "max") [.int a u1, .int b u2]) Q E t := by
  refine max_two_ints hh fun h' tk hk => ?_
  have D' := D.grow (n := tk) hk
  by_cases hab : b > a
  · rw [if_pos hab]; have := h u2 _ D'; rwa [Int.max_eq_right (by lia)] at this
  · rw [if_neg hab]; have := h u1 _ D'; rwa [Int.max_eq_left (by lia)] at this
theorem min_int (hh : A.handled = none) {s₀ t : Shared} {W : List Addr} {V : View} {mu : List (Addr × Obj)} {L : Addr} {m : Str → Option Value} {a b : Int} {u1 u2 : Tok} {Q : Value → Shared → Prop} (D : Bd g s₀ W V mu L m t) (h : ∀ tk t', Bd g s₀ W V mu L m t' → Q (.int (min a b) tk) t') :
    wpAny (model prog w) A (call (.builtin "min") [.int a u1, .int b u2]) Q E t := by
  refine min_two_ints hh fun h' tk hk => ?_
  have D' := D.grow (n := tk) hk
  by_cases hab : b < a
  · rw [if_pos hab]; have := h u2 _ D'; rwa [Int.min_eq_right (by lia)] at this
  · rw [if_neg hab]; have := h u1 _ D'; rwa [Int.min_eq_left (by lia)] at this

set_option maxHeartbeats 2000000 in
theorem pass_spec (B : Bs w mg mb g) (hA : Ok A 14) (hw : Wd g s) {U : View} (hU : Sub U s []) {x kl rl : Addr} {K : List (Int × Int)} {ra : Nat → Addr} {R : Nat → Row} {js : List Nat} {n step : Nat} {ts : Tok} {back : Bool} {Q : Value → Shared → Prop} (hx : IsOrd U x kl) (hk : IsKeys U kl K) (hK : ∀ p ∈ K, p.1 = 0 ∨ p.1 = 1 ∨ p.1 = 2)
    (hrl : U rl = some (lst (vref ra js) n)) (hjs : ∀ j ∈ js, IsRow U (ra j) (R j)) (hlen : js.length ≤ 20) (hst0 : 0 < step) (hst : step ≤ 20)
    (hQ : ∀ tr rl' al items n1 n2 s', Stp [] s s' → (∀ V'', Fresh s s' V'' → V'' tr = some (tup [.ref rl', .ref al] 0) ∧ V'' rl' = some (lst (vref ra (passOf (fun i j => cmpK K (R i) (R j)) back step js step).1) n1) ∧
      V'' al = some (lst items n2) ∧ AskL V'' items ((passOf (fun i j => cmpK K (R i) (R j)) back step js step).2.map fun p => (ra p.1, ra p.2))) → Q (.ref tr) s') :
    wpAny (model prog w) A (call (.ref 126) [.ref rl, .ref x, .int step ts, .bool back]) Q E s := by
  refine call_defC (mu := []) (body := b126) (binds := [("rows", .ref rl), ("order", .ref x), ("step", .int step ts), ("back", .bool back)]) B hA hw (hw.base _ _ (B.K 126 _ (pack126.2 w.params))) rfl (codeRec_g hw (codeRec_of B.K rfl)) rfl (BindsTo.of_eq rfl) rfl (fun _ h => nomatch h) List.nodup_nil (fun L t hL D => ?_)
    (fun n => by show List.Nodup [("row" : Str), "asked", "order", "rows"]; decide) (fun n y hy => ?_)
  case refine_2 =>
    simp only [List.mem_cons, List.not_mem_nil, or_false] at hy
    rcases hy with rfl | rfl | rfl | rfl
    · exact .inr (in_AEE rfl 3 n rfl)
    · exact .inr (in_AEE rfl 2 (n + 1) rfl)
    · exact .inl rfl
    · exact .inl rfl
  have D : Bd g s [] (fullV s []) [(L + 1 + 1 + 1 + 1, cel none), (L + 1 + 1 + 1, cel none), (L + 1 + 1, cel (some (.ref x))), (L + 1, cel (some (.ref rl)))] L (upd (upd (fun _ => none) "step" (.int step ts)) "back" (.bool back)) t := D
  have le' : U.le (fullV s []) := hU.leFull
  replace hx := hx.mono le'
  replace hk := hk.mono le'
  replace hrl := le' _ _ hrl
  replace hjs := fun j hj => (hjs j hj).mono le'
  clear le' hU
  generalize hF : fullV s [] = V0 at D hx hk hrl hjs
  revert V0
  refine noBeta ?_
  intro V0 hF D hx hk hrl hjs
  have hA1 := hA.deeper (callEnvC pack126.1 L 126)
  generalize A.deeper (callEnvC pack126.1 L 126) = A1 at hA1 ⊢
  revert A1
  refine noBeta ?_
  intro A1 hA1
  have hvl := vref_len ra js
  try refine kq _ ?_
  refine seqK fun KQ kq => (wpAny_Assign_Name (Call_ (r_built D B B.n_list B.b_list (callWith_type1 (args_cons (r_cell D (.tail _ (.tail _ (.tail _ (.head _)))) (args_nil (list_copy_ D ⟨_, D.see _ _ hrl, rfl, _, rfl⟩ (by lia) fun rw nrw t1 hV1 hs1 D1 => r_storeC D1 4 rfl fun t2 D2 => ?_))))))))
  try refine kq _ ?_
  refine seqK fun KQ kq => (wpAny_Assign_Name (r_list (args_nil (in_EEEAA _ _ _ D2 (Nat.le_of_ble_eq_true rfl) (fun ak t3 hV3 hs3 D3 => r_storeC D3 3 rfl fun t4 D4 => ?_)))))
  have D4 : Bd g s [] V0 [(ak, lst [] 0), (rw, lst (vref ra js) nrw), (L + 1 + 1 + 1 + 1, cel none), (L + 1 + 1 + 1, cel (some (.ref ak))), (L + 1 + 1, cel (some (.ref x))), (L + 1, cel (some (.ref rw)))] L (upd (upd (fun _ => none) "step" (.int step ts)) "back" (.bool back)) t4 := D4
  generalize hmc : [(L + 1 + 1 + 1, cel (some (.ref ak))), (L + 1 + 1, cel (some (.ref x))), (L + 1, cel (some (.ref rw)))] = mc at D4
  have hma : (L + 1 + 1 + 1, cel (some (.ref ak))) ∈ mc := by rw [← hmc]; exact .head _
  have hmx : (L + 1 + 1, cel (some (.ref x))) ∈ mc := by rw [← hmc]; exact .tail _ (.head _)
  have hmr : (L + 1, cel (some (.ref rw))) ∈ mc := by rw [← hmc]; exact .tail _ (.tail _ (.head _))
  clear hmc
  revert mc
  refine noBeta ?_
  intro mc D4 hma hmx hmr
  generalize hc : (fun i j => cmpK K (R i) (R j)) = c at hQ
  revert c
  refine noBeta ?_
  intro c hc hQ
  -- the loop over the chains
  try refine kq _ ?_
  refine seqK fun KQ kq => (wpAny_For (Call_ (r_built D4 B B.n_range B.b_range (callWith_type1 (args_cons (r_name D4 rfl (args_nil (range1_ D4 fun rg u1 u2 u3 t5 D5 hrg => ?_))))))))
  refine for_range hA1.h D5 hrg (small_pos (by decide) (by lia) (by decide)) (n := step) (by rw [rangeSize_one]; split <;> lia)
    (fun st V' mu' m' => V0.le V' ∧ (∃ items n1 n2 rv, mu' = ((ak, lst items n1) :: (rw, lst (vref ra (passOf c back step js st).1) n2) :: (L + 1 + 1 + 1 + 1, cel rv) :: mc) ∧
      AskL (cut s noV V') items ((passOf c back step js st).2.map fun p => (ra p.1, ra p.2))) ∧ (passOf c back step js st).1.length = js.length ∧ (∀ j ∈ (passOf c back step js st).1, j ∈ js) ∧ (passOf c back step js st).2.length ≤ 40 * st ∧ m' "step" = some (.int step ts) ∧ m' "back" = some (.bool back))
    (in_AAAAAA .rfl ((in_EEEEAA [] 0 nrw none rfl rfl (fun i v p e => nomatch e))) rfl (fun j hj => hj) (Nat.le_refl _) rfl rfl) ?_ ?_
  · intro st I tk V' mu' m' o' t' KK hKK hRR hst' hQ1; refine el_AAAAAA (hQ1) fun le hN1 hl1 hl2 hl3 ms mb => ?_; try clear hQ1; refine el_EEEEA (hN1) fun items n1 n2 rv hR2 hask => ?_; try clear hN1; subst hR2; intro D'
    have e0 : (0 : Int) + (st : Int) * 1 = (st : Int) := by lia
    rw [e0]
    generalize hS : passOf c back step js st = S at hask hl1 hl2 hl3 D'
    revert S
    refine noBeta ?_
    intro S hS hask hl1 hl2 hl3 D'
    have hSl := vref_len ra S.1
    have hrows : ∀ j ∈ S.1, IsRow V' (ra j) (R j) := fun j hj => (hjs j (hl2 j hj)).mono le
    refine PyProof.Rows.assign_Name (r_store D' fun t1 D1 => ?_)
    -- the chain
    try refine kq _ ?_
    refine seqK fun KQ kq => ?_
    refine comp_assign (cl := [("rows", L + 1)]) ?hsw ?hcl ?hkd ?hnm ?hmain
    case hsw => exact rfl
    case hcl => exact rfl
    case hkd => exact rfl
    case hnm => decide
    refine Call_ (r_built D1 B B.n_range B.b_range (callWith_type1 ?_ (by kernel_rfl) (by kernel_rfl)))
    refine args_cons (r_name D1 rfl (args_cons ?_ (by kernel_rfl))) (by kernel_rfl)
    refine Call_ (r_built D1 B B.n_len B.b_len (callWith_builtin1 (args_cons (r_cell D1 (.tail _ (.tail _ (.tail _ (.tail _ hmr)))) (args_nil ?_)))))
    refine call_len_list ⟨_, (D1.mus (rw, _) (.tail _ (.tail _ (.head _)))).1, rfl, _, rfl⟩ (by rw [List.size_toArray]; lia) ?_
    have D2 := D1.tok (t1.toks + 1 + 1)
    refine args_cons (r_name D2 ms (args_nil ?_))
    rw [List.size_toArray, hSl]
    refine range3_ D2 (by lia) (by lia) (by lia) fun rg2 w1 w2 w3 t3 D3 hrg2 => ?_
    refine blk_range B hA1.h D3 hrg2 (small_pos (by lia) (by lia) (by lia)) (rangeSize_cnt st S.1.length step hst0) rfl (fun k => by show List.Nodup ([] : List Str); exact List.nodup_nil) (by have := cnt_le (start := st) (n := S.1.length) hst0; lia)
      (fun i _ ys => ys = vref ra ((List.range i).map fun k => S.1.getD (st + k * step) 0)) (fun i V V' ys h _ => h) rfl ?_ ?_
    · intro tt1 s3 I2 acc C i tk2 V2 cm m2 t2 ys nn oI2 K3Dc K4Dc hkk hi hyl hle hJi Dc hK3Dc hK4Dc
      have Dc : Bd g s3 [acc, I2] V2 [(acc, lst ys nn), (I2, oI2)] C m2 t2 := Dc
      have hcell := hle _ _ (D3.muFull (W' := []) (a := L + 1) (.tail _ (.tail _ (.tail _ (.tail _ hmr)))) List.not_mem_nil)
      have hrw := hle _ _ (D3.muFull (W' := []) (a := rw) (.tail _ (.tail _ (.head _))) List.not_mem_nil)
      have hlt := cnt_lt hi hst0
      have hge : (vref ra S.1)[st + i * step]? = some (.ref (ra (S.1.getD (st + i * step) 0))) := by
        unfold vref
        rw [List.getElem?_map, List.getD_eq_getElem?_getD, List.getElem?_eq_getElem hlt]; rfl
      refine PyProof.Rows.assign_Name (r_store Dc fun t4 D4 => wpAny_tests_nil ?_)
      rw [if_pos rfl]
      refine Subscript_ (r_cellV D4 hcell (r_name D4 rfl (item_list (k := st + i * step) ⟨_, D4.see _ _ hrw, rfl, _, rfl⟩ (by simp) (by lia) hge ?_)))
      refine hK3Dc _ _ (in_EEEAA V2 cm _ .rfl ?_ D4)
      rw [hJi, List.range_succ, List.map_append]
      unfold vref
      rw [List.map_append]; rfl
    intro ch C ys nch Vf mC tf hJ leF hyl2 hsch hns hVC hCL hCm Df
    refine post_local hns hVC hCL hCm Df rfl rfl fun t6 D6 => ?_
    have hys : ys = vref ra (chainOf S.1 st step) := hJ
    subst hys
    refine el_EAAA (D6.fix (fun h => nomatch h)) fun V7 le7 hch _ D7 => ?_
    have leT : V'.le V7 := leF.trans le7
    have hcl := chainOf_len S.1 st step
    have hcl2 : (chainOf S.1 st step).length ≤ 20 := by have := cnt_le (start := st) (n := S.1.length) hst0; lia
    have hvc := vref_len ra (chainOf S.1 st step)
    have hcm : ∀ j ∈ chainOf S.1 st step, IsRow V7 (ra j) (R j) := fun j hj => (hrows j (chainOf_mem hst0 hj)).mono leT
    try refine kq _ ?_
    refine seqK fun KQ kq => (wpAny_Assign_Name (r_list (args_nil (in_EEEAA _ _ _ D7 (Nat.le_of_ble_eq_true rfl) (fun kp t8 hVk hsk D8 => r_store D8 fun t9 D9 => ?_)))))
    have D9 : Bd g s [] V7 ((kp, lst [] 0) :: (I, o') :: (ak, lst items n1) :: (rw, lst (vref ra S.1) n2) :: (L + 1 + 1 + 1 + 1, cel rv) :: mc) L (upd (upd (upd m' "start" (.int st tk)) "chain" (.ref ch)) "kept" (.ref kp)) t9 := D9
    have hne : kp ≠ ak := fun q => by
      have nd := D9.nd
      rw [List.map_cons, List.nodup_cons] at nd
      exact nd.1 (by show kp ∈ I :: ak :: _; rw [q]; exact .tail _ (.head _))
    have hx7 := hx.mono (le.trans leT)
    have hk7 := hk.mono (le.trans leT)
    generalize hCP : chainPass c back (chainOf S.1 st step) S.2 = CP
    revert CP
    refine noBeta ?_
    intro CP hCP
    have hfacts : CP.1.length = (chainOf S.1 st step).length ∧ CP.2.length ≤ S.2.length + 2 * (chainOf S.1 st step).length ∧ ∀ j ∈ CP.1, j ∈ chainOf S.1 st step := by
      rw [← hCP]; unfold chainPass
      by_cases hb : back = true
      · rw [if_pos hb]
        refine el_AA (foldL_facts c (chainOf S.1 st step).reverse ([], S.2)) fun a b d => ?_
        rw [List.length_reverse] at a b
        refine (in_AA (by rw [a]; simp) b (fun j hj => ?_))
        rcases d j hj with h | h
        · cases h
        · exact List.mem_reverse.mp h
      · rw [if_neg hb]
        refine el_AA (foldR_facts c (chainOf S.1 st step) ([], S.2)) fun a b d => ?_
        refine (in_AA (by rw [a]; simp) b (fun j hj => ?_))
        rcases d j hj with h | h
        · cases h
        · exact h
    try refine kq _ ?_
    refine wpAny_execs_cons (wpAny_mono (Q := fun f t1 => f = .next ∧ ∃ V1 items' n1' n3 rv' m1, V7.le V1 ∧ AskL (cut s noV V1) items' (CP.2.map fun p => (ra p.1, ra p.2)) ∧ m1 "start" = some (.int st tk) ∧ m1 "step" = some (.int step ts) ∧ m1 "back" = some (.bool back) ∧ m1 "chain" = some (.ref ch) ∧ m1 "kept" = some (.ref kp) ∧
      Bd g s [] V1 ((kp, lst (vref ra CP.1) n3) :: (I, o') :: (ak, lst items' n1') :: (rw, lst (vref ra S.1) n2) :: (L + 1 + 1 + 1 + 1, cel rv') :: mc) L m1 t1) (E := NoE) ?_ (fun f t1 h => ?_) (fun _ _ q => q))
    · refine wpAny_If (wpAny_isTrue_value (r_name D9 mb (wpAny_truthy_bool ?_)))
      by_cases hbk : back = true
      · rw [if_pos hbk]
        try refine kq _ ?_
        refine seqK fun KQ kq => (wpAny_For (r_rev D9 (fun Q' h => r_name D9 rfl h) (fun t'' D'' => ⟨_, D''.see _ _ hch, rfl, _, rfl⟩) (by lia) fun rv2 t5 hVr hsr D5 => ?_))
        refine el_EAAA (D5.fix (fun h => nomatch h)) fun V6 le6 hrv hsv D6 => ?_
        have hrev : (vref ra (chainOf S.1 st step)).reverse = vref ra (chainOf S.1 st step).reverse := by unfold vref; rw [List.map_reverse]
        rw [hrev] at hrv
        have hvl2 := vref_len ra (chainOf S.1 st step).reverse
        have hrl2 : (chainOf S.1 st step).reverse.length = (chainOf S.1 st step).length := List.length_reverse
        have hcm2 : ∀ j ∈ (chainOf S.1 st step).reverse, IsRow V7 (ra j) (R j) := fun j hj => hcm j (List.mem_reverse.mp hj)
        have hCP2 : (chainOf S.1 st step).reverse.foldl (stepL c) ([], S.2) = CP := by rw [← hCP]; unfold chainPass; rw [if_pos hbk]
        generalize (chainOf S.1 st step).reverse = cr at hrv hvl2 hrl2 hcm2 hCP2
        revert cr
        refine noBeta ?_
        intro cr hrv hvl2 hrl2 hcm2 hCP2
        refine for_list hA1.h D6 ⟨_, D6.see _ _ hrv, rfl, _, rfl⟩ (fun i V' mu' m1 => V6.le V' ∧ (∃ items' n1' n3 rv', mu' = ((kp, lst (vref ra ((cr.take i).foldl (stepL c) ([], S.2)).1) n3) :: (I, o') :: (ak, lst items' n1') :: (rw, lst (vref ra S.1) n2) :: (L + 1 + 1 + 1 + 1, cel rv') :: mc) ∧
            AskL (cut s noV V') items' (((cr.take i).foldl (stepL c) ([], S.2)).2.map fun p => (ra p.1, ra p.2))) ∧ m1 "start" = some (.int st tk) ∧ m1 "step" = some (.int step ts) ∧ m1 "back" = some (.bool back) ∧ m1 "chain" = some (.ref ch) ∧ m1 "kept" = some (.ref kp))
          (in_AAAAAA .rfl ((in_EEEEA items n1 0 rv rfl (hask.mono (cut_le (leT.trans le6))))) rfl ms mb rfl rfl) (fun i I V' mu' m' o' t' hJ D' => ⟨_, D'.see _ _ (hJ.1 _ _ hrv), rfl, _, rfl⟩) ?_ ?_
        · intro i I2 v V' mu' m1 o2 t' KK hKK hRR hv hQ2; refine el_AAAAAA (hQ2) fun leV hN2 k1 k2 k3 k4 k5 => ?_; try clear hQ2; refine el_EEEEA (hN2) fun items' n1' n3 rv' hR3 hask' => ?_; try clear hN2; subst hR3; intro D'
          have hi : i < cr.length := by rw [← hvl2]; exact (List.getElem?_eq_some_iff.mp hv).1
          refine el_A (vref_get hv) fun hR4 hjm => ?_; subst hR4
          have htake : cr.take (i + 1) = cr.take i ++ [cr.getD i 0] := by
            rw [List.take_add_one, List.getD_eq_getElem?_getD, List.getElem?_eq_getElem hi]; rfl
          refine el_AA (foldL_facts c (cr.take i) ([], S.2)) fun fa fb fd => ?_
          have htl : (cr.take i).length ≤ 20 := by rw [List.length_take]; lia
          have hstep : (cr.take (i + 1)).foldl (stepL c) ([], S.2) = stepL c ((cr.take i).foldl (stepL c) ([], S.2)) (cr.getD i 0) := by rw [htake, List.foldl_append]; rfl
          generalize hG : (cr.take i).foldl (stepL c) ([], S.2) = G at fa fb fd hask' hstep D'
          revert G
          refine noBeta ?_
          intro G hG fa fb fd hask' hstep D'
          have hgl := vref_len ra G.1
          have fa' : G.1.length ≤ 20 := by rw [fa]; simpa using htl
          have fb' : G.2.length ≤ 40 * st + 40 := by have : G.2.length ≤ S.2.length + 2 * (cr.take i).length := fb; lia
          have hGr : ∀ j ∈ G.1, IsRow V' (ra j) (R j) := fun j hj => by
            rcases fd j hj with h | h
            · cases h
            · exact (hcm2 j (List.mem_of_mem_take h)).mono (le6.trans leV)
          refine PyProof.Rows.assign_Name (r_storeC D' 5 rfl fun t2 D2 => ?_)
          have D2 : Bd g s [] V' ((I2, o2) :: (kp, lst (vref ra G.1) n3) :: (I, o') :: (ak, lst items' n1') :: (rw, lst (vref ra S.1) n2) :: (L + 1 + 1 + 1 + 1, cel (some (.ref (ra (cr.getD i 0))))) :: mc) L m1 t2 := D2
          try refine kq _ ?_
          refine seqK fun KQ kq => (wpAny_Expr (wpAny_Call_Name_kw (r_glob D2 B B.g_insort_left (callWith_function_kw (o := ⟨.type "function", none, .func F41, #[]⟩) (fd := F41) (evalArgs_kw2 (by kernel_rfl) ?_)))))
          refine args_cons (r_name D2 k5 (args_cons (r_cell D2 (.tail _ (.tail _ (.tail _ (.tail _ (.tail _ (.head _)))))) (args_cons (r_int D2 fun tk0 t3 D3 => args_cons ?_ (by kernel_rfl)) (by kernel_rfl))) (by kernel_rfl))) (by kernel_rfl)
          refine Call_ (r_built D3 B B.n_min B.b_min (callWith_builtin1 ?_ (by kernel_rfl)))
          refine args_cons ?_ (by kernel_rfl)
          refine Call_ (r_built D3 B B.n_len B.b_len (callWith_builtin1 (args_cons (r_name D3 k5 (args_nil ?_)))))
          refine call_len_list ⟨_, (D3.mus (kp, _) (.tail _ (.head _))).1, rfl, _, rfl⟩ (by rw [List.size_toArray]; lia) ?_
          have D4 := D3.tok (t3.toks + 1 + 1)
          refine args_cons (r_int D4 fun tk1 t5 D5 => args_nil (min_int hA1.h D5 fun tk2 t6 D6 => args_nil ?_))
          rw [List.size_toArray, hgl]
          have emin : min (G.1.length : Int) 1 = ((min G.1.length 1 : Nat) : Int) := by lia
          rw [emin]
          refine kwAll_cons (r_lambda (q := qP) D6 B (c := 125) (P := 123) (by decide) (by decide) rfl (by show (F126.qualname ++ ".<locals>.") ++ "<lambda>" = qP; decide) rfl rfl rfl fun f c' pm ctv V3 t7 le3 hf hc' hsf D7 => kwAll_nil ⟨⟨D7.keepG _ _ (B.K 41 _ (pack41.2 w.params)), rfl⟩, ?_⟩)
          have leX := (le6.trans leV).trans le3
          subst hc
          refine lay_passL (R := R) (K := K) B (hA1.le (by decide)) D7 1 3 rfl rfl hne hf hc' (.tail _ (.tail _ (.tail _ (.tail _ (.tail _ (.tail _ hma)))))) (.tail _ (.tail _ (.tail _ (.tail _ (.tail _ (.tail _ hmx)))))) (.tail _ (.tail _ (.tail _ (.tail _ (.tail _ (.head _))))))
            (hx7.mono leX) (hk7.mono leX) hK ((hcm2 _ hjm).mono leX) (fun j hj => (hGr j hj).mono le3) (by (exact Nat.lt_of_le_of_lt (by assumption) (by decide))) (hask'.mono (cut_le le3)) (by lia) fun n' n1'' items'' V4 t8 le4 hask4 D8 => kq _ <| wpAny_execs_nil ?_
          refine hKK _ (in_EEEA V4 (((kp, lst (vref ra (stepL (fun i j => cmpK K (R i) (R j)) G (cr.getD i 0)).1) n') :: (I, o') :: (ak, lst items'' n1'') :: (rw, lst (vref ra S.1) n2) :: (L + 1 + 1 + 1 + 1, cel (some (.ref (ra (cr.getD i 0))))) :: mc)) m1 ((in_AAAAAA ((leV.trans le3).trans le4) ((in_EEEEA items'' n1'' n' _ (by rw [hstep]) ?_)) k1 k2 k3 k4 k5)) D8)
          rw [hstep]; exact hask4
        · intro V' mu' m1 t' hQ3; refine el_AAAAAA (hQ3) fun leV hN3 k1 k2 k3 k4 k5 => ?_; try clear hQ3; refine el_EEEEA (hN3) fun items' n1' n3 rv' hR5 hask' => ?_; try clear hN3; subst hR5; intro D'
          rw [hvl2, List.take_of_length_le (Nat.le_refl _), hCP2] at D' hask'
          exact kq _ (wpAny_execs_nil (in_AEEEEEEAAAAAAA rfl V' items' n1' n3 rv' m1 (le6.trans leV) hask' k1 k2 k3 k4 k5 D'))
      · rw [if_neg hbk]
        try refine kq _ ?_
        refine seqK fun KQ kq => (wpAny_For (r_name D9 rfl ?_))
        have hrv := hch
        have hvl2 := vref_len ra (chainOf S.1 st step)
        have hrl2 : (chainOf S.1 st step).length = (chainOf S.1 st step).length := rfl
        have hcm2 := hcm
        have hCP2 : (chainOf S.1 st step).foldl (stepR c) ([], S.2) = CP := by rw [← hCP]; unfold chainPass; rw [if_neg hbk]
        have le6 : V7.le V7 := .rfl
        have D6 := D9
        generalize hcr : chainOf S.1 st step = cr at hrv hvl2 hcm2 hCP2
        revert cr
        refine noBeta ?_
        intro cr hcr hrv hvl2 hcm2 hCP2
        replace hrl2 : cr.length = (chainOf S.1 st step).length := by rw [hcr]
        refine for_list hA1.h D6 ⟨_, D6.see _ _ hrv, rfl, _, rfl⟩ (fun i V' mu' m1 => V7.le V' ∧ (∃ items' n1' n3 rv', mu' = ((kp, lst (vref ra ((cr.take i).foldl (stepR c) ([], S.2)).1) n3) :: (I, o') :: (ak, lst items' n1') :: (rw, lst (vref ra S.1) n2) :: (L + 1 + 1 + 1 + 1, cel rv') :: mc) ∧
            AskL (cut s noV V') items' (((cr.take i).foldl (stepR c) ([], S.2)).2.map fun p => (ra p.1, ra p.2))) ∧ m1 "start" = some (.int st tk) ∧ m1 "step" = some (.int step ts) ∧ m1 "back" = some (.bool back) ∧ m1 "chain" = some (.ref ch) ∧ m1 "kept" = some (.ref kp))
          (in_AAAAAA .rfl ((in_EEEEA items n1 0 rv rfl (hask.mono (cut_le (leT))))) rfl ms mb rfl rfl) (fun i I V' mu' m' o' t' hJ D' => ⟨_, D'.see _ _ (hJ.1 _ _ hrv), rfl, _, rfl⟩) ?_ ?_
        · intro i I2 v V' mu' m1 o2 t' KK hKK hRR hv hQ4; refine el_AAAAAA (hQ4) fun leV hN4 k1 k2 k3 k4 k5 => ?_; try clear hQ4; refine el_EEEEA (hN4) fun items' n1' n3 rv' hR6 hask' => ?_; try clear hN4; subst hR6; intro D'
          have hi : i < cr.length := by rw [← hvl2]; exact (List.getElem?_eq_some_iff.mp hv).1
          refine el_A (vref_get hv) fun hR7 hjm => ?_; subst hR7
          have htake : cr.take (i + 1) = cr.take i ++ [cr.getD i 0] := by
            rw [List.take_add_one, List.getD_eq_getElem?_getD, List.getElem?_eq_getElem hi]; rfl
          refine el_AA (foldR_facts c (cr.take i) ([], S.2)) fun fa fb fd => ?_
          have htl : (cr.take i).length ≤ 20 := by rw [List.length_take]; lia
          have hstep : (cr.take (i + 1)).foldl (stepR c) ([], S.2) = stepR c ((cr.take i).foldl (stepR c) ([], S.2)) (cr.getD i 0) := by rw [htake, List.foldl_append]; rfl
          generalize hG : (cr.take i).foldl (stepR c) ([], S.2) = G at fa fb fd hask' hstep D'
          revert G
          refine noBeta ?_
          intro G hG fa fb fd hask' hstep D'
          have hgl := vref_len ra G.1
          have fa' : G.1.length ≤ 20 := by rw [fa]; simpa using htl
          have fb' : G.2.length ≤ 40 * st + 40 := by have : G.2.length ≤ S.2.length + 2 * (cr.take i).length := fb; lia
          have hGr : ∀ j ∈ G.1, IsRow V' (ra j) (R j) := fun j hj => by
            rcases fd j hj with h | h
            · cases h
            · exact (hcm2 j (List.mem_of_mem_take h)).mono (le6.trans leV)
          refine PyProof.Rows.assign_Name (r_storeC D' 5 rfl fun t2 D2 => ?_)
          have D2 : Bd g s [] V' ((I2, o2) :: (kp, lst (vref ra G.1) n3) :: (I, o') :: (ak, lst items' n1') :: (rw, lst (vref ra S.1) n2) :: (L + 1 + 1 + 1 + 1, cel (some (.ref (ra (cr.getD i 0))))) :: mc) L m1 t2 := D2
          try refine kq _ ?_
          refine seqK fun KQ kq => (wpAny_Expr (wpAny_Call_Name_kw (r_glob D2 B B.g_insort_right (callWith_function_kw (o := ⟨.type "function", none, .func F23, #[]⟩) (fd := F23) (evalArgs_kw2 (by kernel_rfl) ?_)))))
          refine args_cons (r_name D2 k5 (args_cons (r_cell D2 (.tail _ (.tail _ (.tail _ (.tail _ (.tail _ (.head _)))))) (args_cons ?_ (by kernel_rfl))) (by kernel_rfl))) (by kernel_rfl)
          refine Call_ (r_built D2 B B.n_max B.b_max (callWith_builtin1 ?_ (by kernel_rfl)))
          refine args_cons (wpAny_BinOp ?_) (by kernel_rfl)
          refine Call_ (r_built D2 B B.n_len B.b_len (callWith_builtin1 (args_cons (r_name D2 k5 (args_nil ?_)))))
          refine call_len_list ⟨_, (D2.mus (kp, _) (.tail _ (.head _))).1, rfl, _, rfl⟩ (by rw [List.size_toArray]; lia) ?_
          have D4 := D2.tok (t2.toks + 1 + 1)
          refine r_int D4 fun tk1 t5 D5 => sub_int ?_
          have D5' := D5.tok (t5.toks + 1)
          refine args_cons (r_int D5' fun tk3 t5' D5'' => args_nil (max_int hA1.h D5'' fun tk2 t6 D6 => args_nil ?_))
          rw [List.size_toArray, hgl]
          have emax : max ((G.1.length : Int) - 1) 0 = ((G.1.length - 1 : Nat) : Int) := by lia
          rw [emax]
          refine kwAll_cons (r_lambda (q := qP) D6 B (c := 125) (P := 123) (by decide) (by decide) rfl (by show (F126.qualname ++ ".<locals>.") ++ "<lambda>" = qP; decide) rfl rfl rfl fun f c' pm ctv V3 t7 le3 hf hc' hsf D7 => kwAll_nil ⟨⟨D7.keepG _ _ (B.K 23 _ (pack23.2 w.params)), rfl⟩, ?_⟩)
          have leX := (le6.trans leV).trans le3
          subst hc
          refine lay_passR (R := R) (K := K) B (hA1.le (by decide)) D7 1 3 rfl rfl hne hf hc' (.tail _ (.tail _ (.tail _ (.tail _ (.tail _ (.tail _ hma)))))) (.tail _ (.tail _ (.tail _ (.tail _ (.tail _ (.tail _ hmx)))))) (.tail _ (.tail _ (.tail _ (.tail _ (.tail _ (.head _))))))
            (hx7.mono leX) (hk7.mono leX) hK ((hcm2 _ hjm).mono leX) (fun j hj => (hGr j hj).mono le3) (by (exact Nat.lt_of_le_of_lt (by assumption) (by decide))) (hask'.mono (cut_le le3)) (by lia) fun n' n1'' items'' V4 t8 le4 hask4 D8 => kq _ <| wpAny_execs_nil ?_
          refine hKK _ (in_EEEA V4 (((kp, lst (vref ra (stepR (fun i j => cmpK K (R i) (R j)) G (cr.getD i 0)).1) n') :: (I, o') :: (ak, lst items'' n1'') :: (rw, lst (vref ra S.1) n2) :: (L + 1 + 1 + 1 + 1, cel (some (.ref (ra (cr.getD i 0))))) :: mc)) m1 ((in_AAAAAA ((leV.trans le3).trans le4) ((in_EEEEA items'' n1'' n' _ (by rw [hstep]) ?_)) k1 k2 k3 k4 k5)) D8)
          rw [hstep]; exact hask4
        · intro V' mu' m1 t' hQ5; refine el_AAAAAA (hQ5) fun leV hN5 k1 k2 k3 k4 k5 => ?_; try clear hQ5; refine el_EEEEA (hN5) fun items' n1' n3 rv' hR8 hask' => ?_; try clear hN5; subst hR8; intro D'
          rw [hvl2, List.take_of_length_le (Nat.le_refl _), hCP2] at D' hask'
          exact kq _ (wpAny_execs_nil (in_AEEEEEEAAAAAAA rfl V' items' n1' n3 rv' m1 (le6.trans leV) hask' k1 k2 k3 k4 k5 D'))
    · refine el_AEEEEEEAAAAAAA (h) fun hR9 V1 items' n1' n3 rv' m1 leV1 hask1 k1 k2 k3 k4 k5 D10 => ?_; try clear h; subst hR9
      have hchV := leV1 _ _ hch
      have hpl := vref_len ra CP.1
      try refine kq _ ?_
      refine wpAny_execs_cons (wpAny_If (wpAny_isTrue_Compare1 (Call_ (r_built D10 B B.n_len B.b_len (callWith_builtin1 (args_cons (r_name D10 k5 (args_nil ?_))))))))
      refine call_len_list ⟨_, (D10.mus _ (.head _)).1, rfl, _, rfl⟩ (by rw [List.size_toArray]; lia) ?_
      have D11 := D10.tok (t1.toks + 1 + 1)
      refine Call_ (r_built D11 B B.n_len B.b_len (callWith_builtin1 (args_cons (r_name D11 k4 (args_nil ?_)))))
      refine call_len_list ⟨_, D11.see _ _ hchV, rfl, _, rfl⟩ (by rw [List.size_toArray]; lia) ?_
      have D12 := D11.tok (t1.toks + 1 + 1 + 1 + 1)
      refine ne_int (wpAny_truthy_bool ?_)
      rw [List.size_toArray, List.size_toArray, hpl, hvc, hfacts.1, bne_self_eq_false, if_neg Bool.false_ne_true]
      try refine kq _ ?_
      refine wpAny_execs_nil ?_
      try refine kq _ ?_
      refine seqK fun KQ kq => (wpAny_For (Call_ (r_built D12 B B.n_range B.b_range (callWith_type1 (args_cons (Call_ (r_built D12 B B.n_len B.b_len (callWith_builtin1 (args_cons (r_name D12 k5 (args_nil ?_)))))) (by kernel_rfl)) (by kernel_rfl) (by kernel_rfl)))))
      refine call_len_list ⟨_, (D12.mus _ (.head _)).1, rfl, _, rfl⟩ (by rw [List.size_toArray]; lia) ?_
      have D13 := D12.tok (t1.toks + 1 + 1 + 1 + 1 + 1 + 1)
      refine args_nil (range1_ D13 fun rg3 w4 w5 w6 t2 D14 hrg3 => ?_)
      rw [List.size_toArray, hpl] at hrg3
      refine for_range hA1.h D14 hrg3 (small_pos (by decide) (by omega) (by decide)) (n := CP.1.length) (by rw [rangeSize_one]; split <;> lia)
        (fun k V' mu' m2 => V1.le V' ∧ (∃ n4, mu' = ((kp, lst (vref ra CP.1) n3) :: (I, o') :: (ak, lst items' n1') :: (rw, lst (vref ra (putChain S.1 st step CP.1 k)) n4) :: (L + 1 + 1 + 1 + 1, cel rv') :: mc)) ∧
          m2 "start" = some (.int st tk) ∧ m2 "step" = some (.int step ts) ∧ m2 "back" = some (.bool back) ∧ m2 "kept" = some (.ref kp))
        (in_AAAAA .rfl (⟨n2, rfl⟩) k1 k2 k3 k5) ?_ ?_
      · intro k Ik tkk V' mu' m2 ok t' KK hKK hRR hk' hQ6; refine el_AAAAA (hQ6) fun leK hN6 k1 k2 k3 k5 => ?_; try clear hQ6; refine el_E (hN6) fun n4 hR10 => ?_; try clear hN6; subst hR10; intro D'
        have ek : (0 : Int) + (k : Int) * 1 = (k : Int) := by lia
        rw [ek]
        have hkc : k < cnt st S.1.length step := by rw [← hcl, ← hfacts.1]; exact hk'
        have hlt := cnt_lt hkc hst0
        have hpc := putChain_len S.1 st step CP.1 k
        have hpv := vref_len ra (putChain S.1 st step CP.1 k)
        refine PyProof.Rows.assign_Name (r_store D' fun t3 D15 => ?_)
        have hge : (vref ra CP.1)[k]? = some (.ref (ra (CP.1.getD k 0))) := by
          unfold vref
          rw [List.getElem?_map, List.getD_eq_getElem?_getD, List.getElem?_eq_getElem hk']; rfl
        try refine kq _ ?_
        refine seqK fun KQ kq => (wpAny_Assign_Subscript (Subscript_ (r_name D15 k5 (r_name D15 rfl (item_list (k := k) ⟨_, (D15.mus (kp, _) (.tail _ (.head _))).1, rfl, _, rfl⟩ rfl (by lia) hge ?_)))))
        refine r_cell D15 (.tail _ (.tail _ (.tail _ (.tail _ (.tail _ (.tail _ hmr)))))) (wpAny_BinOp (r_name D15 k1 (wpAny_BinOp (r_name D15 rfl (r_name D15 k2 (mul_int (add_int ?_) (IntMulOk.of_left (intBits_le_64 (by (exact Int.natCast_nonneg _)) (by lia)))))))))
        refine list_set_ (D15.tok _) 4 (k := st + k * step) rfl (by push_cast; rfl) (by lia) (by lia) fun n5 t4 D16 => kq _ <| wpAny_execs_nil ?_
        refine hKK _ (in_EEEA V' (((kp, lst (vref ra CP.1) n3) :: (I, o') :: (ak, lst items' n1') :: (rw, lst (vref ra (putChain S.1 st step CP.1 (k + 1))) n5) :: (L + 1 + 1 + 1 + 1, cel rv') :: mc)) (upd m2 "k" (.int k tkk)) ((in_AAAAA leK (⟨n5, rfl⟩) k1 k2 k3 k5)) ?_)
        have eput : vref ra (putChain S.1 st step CP.1 (k + 1)) = (vref ra (putChain S.1 st step CP.1 k)).set (st + k * step) (.ref (ra (CP.1.getD k 0))) := by
          unfold putChain vref
          rw [List.range_succ, List.foldl_append, List.foldl_cons, List.foldl_nil, List.map_set]
        rw [eput]
        exact D16
      · intro V' mu' m2 t' hQ7; refine el_AAAAA (hQ7) fun leK hN7 k1 k2 k3 k5 => ?_; try clear hQ7; refine el_E (hN7) fun n4 hR11 => ?_; try clear hN7; subst hR11; intro D'
        have D17 := D'.drop (n := t'.toks) (h' := t'.heap) (fun b o _ e => e) (fun h => nomatch h)
        have hpass : passOf c back step js (st + 1) = (putChain S.1 st step CP.1 CP.1.length, CP.2) := by
          unfold passOf
          rw [List.range_succ, List.foldl_append, List.foldl_cons, List.foldl_nil]
          have hS' := hS
          unfold passOf at hS'
          rw [hS']
          unfold passStep
          rw [hCP]
        try refine kq _ ?_
        refine wpAny_execs_nil (hKK _ (in_EEEA V' (((ak, lst items' n1') :: (rw, lst (vref ra (putChain S.1 st step CP.1 CP.1.length)) n4) :: (L + 1 + 1 + 1 + 1, cel rv') :: mc)) m2 ?_ ?_))
        · rw [hpass]
          refine (in_AAAAAA (((le.trans leT).trans leV1).trans leK) ((in_EEEEA items' n1' n4 rv' rfl (hask1.mono (cut_le leK)))) ?_ ?_ ?_ k2 k3)
          · rw [putChain_len]; exact hl1
          · intro j hj
            rcases putChain_mem hj (Nat.le_refl _) with h | h
            · exact hl2 j h
            · exact hl2 j (chainOf_mem hst0 (hfacts.2.2 j h))
          · show CP.2.length ≤ _
            have := hfacts.2.1; lia
        · exact D17
  · intro V' mu' m' t' hQ8; refine el_AAAAAA (hQ8) fun le hN8 hl1 hl2 hl3 ms mb => ?_; try clear hQ8; refine el_EEEEA (hN8) fun items n1 n2 rv hR12 hask => ?_; try clear hN8; subst hR12; intro D'
    try refine kq _ ?_
    refine wpAny_execs_cons (wpAny_Return_some (r_tuple (args_cons (r_cell D' (.tail _ (.tail _ (.tail _ hmr))) (args_cons (r_cell D' (.tail _ (.tail _ (.tail _ hma))) (args_nil (in_EEEAA _ _ _ D' (Nat.le_of_ble_eq_true rfl) (fun tr V1 t1 le1 htr hVn hsn D1 => ?_)))))))))
    have z0 := D1.mus _ (.head _)
    have z1 := D1.mus _ (.tail _ (.head _))
    have hh := hQ tr rw ak items n2 n1 t1 D1.st (fun V'' fr => (in_AAA (fr _ _ (D1.see _ _ htr) hsn) (fr _ _ z1.1 (z1.2.2.2.2.resolve_left (fun h => nomatch h))) (fr _ _ z0.1 (z0.2.2.2.2.resolve_left (fun h => nomatch h))) (hask.mono fun b o e => ?_)))
    · exact hh
    unfold cut at e
    split at e
    · rename_i q; exact fr _ _ (D1.see _ _ (le1 _ _ e)) q
    · cases e
end
end Mine
end

section
open PySem PySem.W PyProof.Rows PySem.Calls
set_option Elab.async false
set_option linter.unusedVariables false
namespace Mine
set_option maxRecDepth 100000

noncomputable def ev (lt : Nat → Nat → Bool) {α : Type} : KasT α → α
  | .ret a => a
  | .ask i j k => ev lt (k (lt i j))
theorem ev_bind {lt : Nat → Nat → Bool} {α β : Type} {f : α → KasT β} : ∀ (t : KasT α), ev lt (t.bind f) = ev lt (f (ev lt t))
  | .ret _ => rfl
  | .ask i j k => ev_bind (k (lt i j))
theorem ev_wp {lt : Nat → Nat → Bool} {cmp : Nat → Nat → (Bool → Shared → Prop) → Shared → Prop} {s : Shared} (hc : ∀ i j C, C (lt i j) s → cmp i j C s) {α : Type} {Q : α → Shared → Prop} : ∀ (t : KasT α), Q (ev lt t) s → t.kasWp cmp Q s
  | .ret a, h => h
  | .ask i j k, h => hc i j _ (ev_wp hc (k (lt i j)) h)

section
variable (κ : Nat → Int)
noncomputable def lx (a b : Nat) : Prop := κ a < κ b ∨ (κ a = κ b ∧ a < b)
noncomputable def klt (a b : Nat) : Bool := decide (κ a < κ b)
noncomputable abbrev gt (p : Array Nat) (k : Nat) : Nat := p.getD k 0
noncomputable def Asc (p : Array Nat) (n : Nat) : Prop := ∀ k, k + 1 < n → lx κ (gt p k) (gt p (k + 1))
noncomputable def Dsc (p : Array Nat) (n : Nat) : Prop := ∀ k, k + 1 < n → lx κ (gt p (k + 1)) (gt p k)
noncomputable def Idf (p : Array Nat) (n N : Nat) : Prop := ∀ k, n ≤ k → k < N → gt p k = k
noncomputable def Bel (p : Array Nat) (n : Nat) : Prop := ∀ k, k < n → gt p k < n
variable {κ}
theorem lx_trans {a b c : Nat} (h1 : lx κ a b) (h2 : lx κ b c) : lx κ a c := by
  rcases h1 with h1 | ⟨e1, h1⟩
  · rcases h2 with h2 | ⟨e2, _⟩
    · exact .inl (Int.lt_trans h1 h2)
    · exact .inl (e2 ▸ h1)
  · rcases h2 with h2 | ⟨e2, h2⟩
    · exact .inl (e1 ▸ h2)
    · exact .inr ⟨e1.trans e2, Nat.lt_trans h1 h2⟩
theorem lx_le {a b : Nat} (h1 : lx κ a b) : κ a ≤ κ b := by unfold lx at *; lia
theorem asc_lt {p : Array Nat} {n : Nat} (h : Asc κ p n) {i j : Nat} (hij : i < j) (hj : j < n) : lx κ (gt p i) (gt p j) := by
  induction j with
  | zero => (exact absurd (by assumption) (Nat.not_lt_zero _))
  | succ j ih =>
    rcases Nat.lt_or_ge i j with h1 | h1
    · exact lx_trans (ih h1 (by (exact Nat.le_of_lt (by assumption)))) (h j hj)
    · have : i = j := by lia
      subst this; exact h _ hj

theorem gt_rev {p : Array Nat} {i j : Nat} (hj : j ≤ p.size) (k : Nat) : gt (kas_rev p i j) k = if i ≤ k ∧ k < j then gt p (i + j - 1 - k) else gt p k := by
  have h := getElem?_mirror_all (xs := p) (i := i) hj k
  unfold gt kas_rev
  simp only [Array.getD_eq_getD_getElem?]
  rw [h]
  split <;> rfl
theorem gt_bubble {p : Array Nat} {k l : Nat} (hk : k < p.size) (hl : l ≤ k) (j : Nat) : gt (bubble p k (k - l)) j = if j = l then gt p k else if l < j ∧ j ≤ k then gt p (j - 1) else gt p j := by
  have h := getElem?_bubble (xs := p) hk (k - l) (by lia) j
  have e : k - (k - l) = l := by lia
  rw [e] at h
  unfold gt
  simp only [Array.getD_eq_getD_getElem?]
  rw [h]
  split
  · rfl
  · split <;> rfl

theorem asc_spec {p : Array Nat} : ∀ (f n : Nat), n ≤ ev (klt κ) (kas_asc p f n) ∧ ev (klt κ) (kas_asc p f n) ≤ n + f ∧ (∀ k, n ≤ k → k < ev (klt κ) (kas_asc p f n) → κ (gt p (k - 1)) ≤ κ (gt p k)) ∧
    (ev (klt κ) (kas_asc p f n) < n + f → κ (gt p (ev (klt κ) (kas_asc p f n))) < κ (gt p (ev (klt κ) (kas_asc p f n) - 1)))
  | 0, n => (in_AAA (Nat.le_refl _) (Nat.le_refl _) (fun k h1 h2 => absurd h2 (Nat.not_lt.mpr h1)) (fun h => absurd h (Nat.lt_irrefl _)))
  | f + 1, n => by
    have e : ev (klt κ) (kas_asc p (f + 1) n) = ev (klt κ) (if klt κ (gt p n) (gt p (n - 1)) = true then .ret n else kas_asc p f (n + 1)) := rfl
    rw [e]
    by_cases hc : klt κ (gt p n) (gt p (n - 1)) = true
    · rw [if_pos hc]
      refine (in_AAA (Nat.le_refl _) (by show n ≤ _; (exact Nat.le_add_right _ _)) (fun k h1 h2 => absurd h2 (Nat.not_lt.mpr h1)) (fun _ => ?_))
      exact of_decide_eq_true hc
    · rw [if_neg hc]
      refine el_AAA (asc_spec (p := p) f (n + 1)) fun a b c d => ?_
      refine (in_AAA (by (exact Nat.le_of_lt (by assumption))) (by lia) (fun k h1 h2 => ?_) (fun h => d (by lia)))
      rcases Nat.lt_or_ge n k with h3 | h3
      · exact c k h3 h2
      · have : k = n := by lia
        subst this
        exact Int.not_lt.mp fun q => hc (decide_eq_true q)

/-- the state of the descending walk -/
structure Dn (κ : Nat → Int) (N : Nat) (p : Array Nat) (n q : Nat) : Prop where
  sz : p.size = N
  pm : p.Perm (List.range N).toArray
  hq : q + 1 ≤ n
  hn : n ≤ N
  dn : Dsc κ p (n - q)
  eq : ∀ k, n - (q + 1) ≤ k → k + 1 < n → κ (gt p k) = κ (gt p (k + 1))
  idf : Idf p (n - (q + 1)) N
  bel : Bel p (n - (q + 1))

theorem Dn.flip {N : Nat} {p : Array Nat} {n q : Nat} (h : Dn κ N p n q) : Dsc κ (kas_rev p (n - (q + 1)) n) n ∧ Idf (kas_rev p (n - (q + 1)) n) n N ∧ Bel (kas_rev p (n - (q + 1)) n) n ∧ κ (gt (kas_rev p (n - (q + 1)) n) (n - 1)) = κ (gt p (n - 1)) := by
  obtain ⟨sz, -, hq, hn, dn, eq, idf, bel⟩ := h
  obtain ⟨a, rfl⟩ : ∃ a, n = a + (q + 1) := ⟨n - (q + 1), (Nat.sub_add_cancel hq).symm⟩
  have s1 : a + (q + 1) - (q + 1) = a := by lia
  have s2 : a + (q + 1) - q = a + 1 := by lia
  have s3 : a + (q + 1) - 1 = a + q := rfl
  rw [s1] at eq idf bel ⊢
  rw [s2] at dn
  rw [s3]
  clear s1 s2 s3 hq
  have id' : ∀ j, j ≤ q → gt p (a + j) = a + j := fun j hj => idf (a + j) (Nat.le_add_right _ _) (Nat.lt_of_lt_of_le (Nat.add_lt_add_left (Nat.lt_succ_of_le hj) a) hn)
  have hall : ∀ d j, j + d = q → κ (a + j) = κ (a + q) := by
    intro d
    induction d with
    | zero => intro j e; rw [← e]; rfl
    | succ d ih =>
      intro j e
      have h1 : j + 1 + d = q := by lia
      rw [← ih (j + 1) h1]
      have := eq (a + j) (Nat.le_add_right _ _) (by lia)
      rw [id' j (by lia), Nat.add_assoc, id' (j + 1) (by lia)] at this
      exact this
  have gr := fun k => gt_rev (p := p) (i := a) (j := a + (q + 1)) (by lia) k
  have gj : ∀ j d, j + d = q → gt (kas_rev p a (a + (q + 1))) (a + j) = a + d := fun j d e => by
    rw [gr, if_pos ⟨Nat.le_add_right _ _, by lia⟩, show a + (a + (q + 1)) - 1 - (a + j) = a + d by omega]
    exact id' d (by lia)
  have gl : ∀ k, k < a → gt (kas_rev p a (a + (q + 1))) k = gt p k := fun k hk => by rw [gr, if_neg (fun h => Nat.not_lt_of_le h.1 hk)]
  have split : ∀ k, k < a + (q + 1) → k < a ∨ ∃ j d, k = a + j ∧ j + d = q := fun k hk => by
    by_cases h : k < a
    · exact .inl h
    · exact .inr (in_EEA (k - a) (q - (k - a)) (by lia) (by lia))
  clear gr
  refine (in_AAA (fun k hk => ?_) (fun k h1 h2 => ?_) (fun k hk => ?_) ?_)
  · rcases split k (Nat.lt_of_succ_lt hk) with h | ⟨j, d, rfl, e⟩
    · rw [gl k h]
      have d := dn k (Nat.succ_lt_succ h)
      by_cases h2 : k + 1 < a
      · rw [gl _ h2]; exact d
      · have hk2 : k + 1 = a + 0 := by lia
        rw [hk2] at d ⊢
        rw [gj 0 q (Nat.zero_add q)]
        rw [id' 0 (Nat.zero_le _)] at d
        have b := bel k h
        left
        rw [← hall q 0 (Nat.zero_add q)]
        rcases d with d | d
        · exact d
        · lia
    · cases d with
      | zero => lia
      | succ d =>
        rw [gj j (d + 1) e, Nat.add_assoc, gj (j + 1) d (by lia)]
        right
        exact ⟨by rw [hall (j + 1) d (by lia), hall j (d + 1) (by lia)], Nat.lt_succ_self _⟩
  · have : gt (kas_rev p a (a + (q + 1))) k = gt p k := by rw [gt_rev (p := p) (i := a) (j := a + (q + 1)) (by lia) k, if_neg (by lia)]
    rw [this]; exact idf k (by lia) h2
  · rcases split k hk with h | ⟨j, d, rfl, e⟩
    · rw [gl k h]; exact Nat.lt_of_lt_of_le (bel k h) (Nat.le_add_right _ _)
    · rw [gj j d e]; lia
  · rw [gj q 0 rfl, id' q (Nat.le_refl _)]
    exact hall q 0 (Nat.zero_add q)

theorem rev_perm {p : Array Nat} {i j : Nat} : (kas_rev p i j).Perm p := mirror_perm _ _ _ _
theorem desc_spec {N : Nat} : ∀ (f : Nat) (p : Array Nat) (n q : Nat), Dn κ N p n q → n + f ≤ N → Dn κ N (ev (klt κ) (kas_desc f p n q)).1 (ev (klt κ) (kas_desc f p n q)).2.1 (ev (klt κ) (kas_desc f p n q)).2.2
  | 0, p, n, q, h, _ => h
  | f + 1, p, n, q, h, hf => by
    have e : ev (klt κ) (kas_desc (f + 1) p n q) = ev (klt κ) (if klt κ (gt p n) (gt p (n - 1)) = true then (if q > 0 then kas_desc f (kas_rev p (n - (q + 1)) n) (n + 1) 0 else kas_desc f p (n + 1) 0)
        else .ask (gt p (n - 1)) (gt p n) fun d => if d = true then .ret (p, n, q) else kas_desc f p (n + 1) (q + 1)) := rfl
    rw [e]
    obtain ⟨sz, pm, hq, hn, dn, eq, idf, bel⟩ := id h
    by_cases hc : klt κ (gt p n) (gt p (n - 1)) = true
    · rw [if_pos hc]
      have hc' : κ (gt p n) < κ (gt p (n - 1)) := of_decide_eq_true hc
      by_cases hq0 : q > 0
      · rw [if_pos hq0]
        refine el_AAA (h.flip) fun a b c d => ?_
        refine desc_spec f _ _ _ ⟨(kas_rev_size _ _).trans sz, rev_perm.trans pm, by (exact Nat.succ_pos _), by lia, fun k hk => ?_, fun k h1 h2 => absurd h2 (by lia), b, c⟩ (by lia)
        by_cases hk2 : k + 1 < n
        · exact a k hk2
        · have hk3 : k + 1 = n := by lia
          left
          rw [hk3, b n (Nat.le_refl _) (by lia), show k = n - 1 by omega, d]
          rw [idf n (by omega) (by lia)] at hc'
          exact hc'
      · rw [if_neg hq0]
        have q0 : q = 0 := by lia
        subst q0
        refine desc_spec f _ _ _ ⟨sz, pm, by (exact Nat.succ_pos _), by lia, fun k hk => ?_, fun k h1 h2 => absurd h2 (by lia), fun k h1 h2 => idf k (by lia) h2, fun k hk => ?_⟩ (by lia)
        · by_cases hk2 : k + 1 < n
          · exact dn k hk2
          · have hk3 : k + 1 = n := by lia
            left
            rw [hk3, show k = n - 1 by lia]; exact hc'
        · by_cases hk2 : k < n - 1
          · have := bel k (by omega); lia
          · have := idf k (by (exact Nat.not_lt.mp (by assumption))) (by (exact Nat.lt_of_lt_of_le (by assumption) (by assumption))); omega
    · rw [if_neg hc]
      have e2 : ev (klt κ) (.ask (gt p (n - 1)) (gt p n) fun d => if d = true then KasT.ret (p, n, q) else kas_desc f p (n + 1) (q + 1)) = ev (klt κ) (if klt κ (gt p (n - 1)) (gt p n) = true then KasT.ret (p, n, q) else kas_desc f p (n + 1) (q + 1)) := rfl
      rw [e2]
      by_cases hd : klt κ (gt p (n - 1)) (gt p n) = true
      · rw [if_pos hd]; exact h
      · rw [if_neg hd]
        have hc' := Int.not_lt.mp fun q => hc (decide_eq_true q)
        have hd' := Int.not_lt.mp fun q => hd (decide_eq_true q)
        refine desc_spec f _ _ _ ⟨sz, pm, by lia, by lia, fun k hk => dn k (by lia), fun k h1 h2 => ?_, fun k h1 h2 => idf k (by lia) h2, ?_⟩ (by lia)
        · by_cases hk2 : k + 1 < n
          · exact eq k (by lia) hk2
          · have hk3 : k + 1 = n := by lia
            rw [hk3, show k = n - 1 by lia]; omega
        · rw [show n + 1 - (q + 1 + 1) = n - (q + 1) by lia]; exact bel

/-- an ascending run -/
structure Up (κ : Nat → Int) (N : Nat) (n : Nat) (p : Array Nat) : Prop where
  sz : p.size = N
  pm : p.Perm (List.range N).toArray
  h1 : 1 ≤ n
  hn : n ≤ N
  up : Asc κ p n
  idf : Idf p n N
  bel : Bel p n

theorem Up.more {N n : Nat} {p : Array Nat} (h : Up κ N n p) : Up κ N (ev (klt κ) (kas_asc p (N - n) n)) p := by
  obtain ⟨sz, pm, h1, hn, up, idf, bel⟩ := h
  refine el_AAA (asc_spec (κ := κ) (p := p) (N - n) n) fun a b c d => ?_
  refine ⟨sz, pm, by (exact Nat.lt_of_lt_of_le (by assumption) (by assumption)), by omega, fun k hk => ?_, fun k h1 h2 => idf k (by (exact Nat.le_trans (by assumption) (by assumption))) h2, fun k hk => ?_⟩
  · by_cases hk2 : k + 1 < n
    · exact up k hk2
    · have h2 := c (k + 1) (by (exact Nat.not_lt.mp (by assumption))) hk
      rw [show k + 1 - 1 = k by rfl] at h2
      have h3 := idf (k + 1) (by (exact Nat.not_lt.mp (by assumption))) (by omega)
      have h4 : gt p k < k + 1 := by
        by_cases hkn : k < n
        · have := bel k hkn; lia
        · have := idf k (by (exact Nat.not_lt.mp (by assumption))) (by lia); lia
      rcases Int.lt_or_eq_of_le h2 with h2 | h2
      · exact .inl h2
      · exact .inr ⟨h2, by omega⟩
  · by_cases hkn : k < n
    · have := bel k hkn; (exact Nat.lt_of_lt_of_le (by assumption) (by assumption))
    · have := idf k (by (exact Nat.not_lt.mp (by assumption))) (by omega); omega

theorem tail3_spec {N n : Nat} {p : Array Nat} (sz : p.size = N) (pm : p.Perm (List.range N).toArray) (h1 : 1 ≤ n) (hn : n ≤ N) (dn : Dsc κ p n) (idf : Idf p n N) (bel : Bel p n) : Up κ N (ev (klt κ) (kas_tail3 n N p)).1 (ev (klt κ) (kas_tail3 n N p)).2 := by
  unfold kas_tail3
  rw [ev_bind]
  have gr := fun k => gt_rev (p := p) (i := 0) (j := n) (by lia) k
  refine Up.more ⟨(kas_rev_size _ _).trans sz, rev_perm.trans pm, h1, hn, fun k hk => ?_, fun k h1 h2 => ?_, fun k hk => ?_⟩
  · rw [gr k, gr (k + 1), if_pos (by lia), if_pos (by lia)]
    have := dn (0 + n - 1 - (k + 1)) (by omega)
    rw [show 0 + n - 1 - (k + 1) + 1 = 0 + n - 1 - k by lia] at this
    exact this
  · rw [gr, if_neg (by lia)]; exact idf k h1 h2
  · rw [gr, if_pos (by lia)]; exact bel _ (by omega)

theorem descPart_spec {N n : Nat} {p : Array Nat} (h : Dn κ N p (n + 1) 0) : Up κ N (ev (klt κ) (kas_descPart n N p)).1 (ev (klt κ) (kas_descPart n N p)).2 := by
  unfold kas_descPart
  rw [ev_bind]
  have hn := h.hn
  have h' := desc_spec (N - (n + 1)) p (n + 1) 0 h (by omega)
  generalize ev (klt κ) (kas_desc (N - (n + 1)) p (n + 1) 0) = r at h'
  refine el_AAA (h'.flip) fun a b c d => ?_
  obtain ⟨sz, pm, hq, hn, dn, eq, idf, bel⟩ := h'
  by_cases hr : r.2.2 > 0
  · rw [if_pos hr]
    exact tail3_spec ((kas_rev_size _ _).trans sz) (rev_perm.trans pm) (by lia) hn a b c
  · rw [if_neg hr]
    have q0 : r.2.2 = 0 := by lia
    rw [q0] at dn idf bel
    refine tail3_spec sz pm (by lia) hn dn (fun k h1 h2 => idf k (by omega) h2) fun k hk => ?_
    by_cases hk2 : k < r.2.1 - (0 + 1)
    · have := bel k hk2; omega
    · have := idf k (by (exact Nat.not_lt.mp (by assumption))) (by (exact Nat.lt_of_lt_of_le (by assumption) (by assumption))); lia

theorem range_gt {N k : Nat} (h : k < N) : gt (List.range N).toArray k = k := by simp [gt, h]
theorem count_spec {N : Nat} (hN : 2 ≤ N) : Up κ N (ev (klt κ) (kas_count N (List.range N).toArray)).1 (ev (klt κ) (kas_count N (List.range N).toArray)).2 := by
  have u0 : Up κ N 1 (List.range N).toArray := ⟨by simp, .refl _, Nat.le_refl _, by (exact Nat.le_of_lt (by assumption)), fun k hk => absurd hk (by lia), fun k _ h => range_gt h, fun k hk => by rw [range_gt (by lia)]; assumption⟩
  unfold kas_count
  rw [ev_bind]
  have u := u0.more
  refine el_AAA (asc_spec (κ := κ) (p := (List.range N).toArray) (N - 1) 1) fun a b c d => ?_
  generalize hm : ev (klt κ) (kas_asc (List.range N).toArray (N - 1) 1) = m at u a b c d
  by_cases h1 : (m == N) = true
  · rw [if_pos h1]; exact u
  · rw [if_neg h1]
    have hmN : m < N := by
      have : m ≠ N := fun q => h1 (by rw [q]; exact beq_self_eq_true _)
      lia
    have d' := d (by lia)
    by_cases h2 : m > 1
    · rw [if_pos h2]
      have e2 : ∀ X : KasT (Nat × Array Nat), ev (klt κ) (.ask (gt (List.range N).toArray 0) (gt (List.range N).toArray (m - 1)) fun c => if c = true then KasT.ret (m, (List.range N).toArray) else X) = ev (klt κ) (if klt κ (gt (List.range N).toArray 0) (gt (List.range N).toArray (m - 1)) = true then KasT.ret (m, (List.range N).toArray) else X) := fun _ => rfl
      rw [e2]
      by_cases h3 : klt κ (gt (List.range N).toArray 0) (gt (List.range N).toArray (m - 1)) = true
      · rw [if_pos h3]; exact u
      · rw [if_neg h3]
        have h3' := Int.not_lt.mp fun q => h3 (decide_eq_true q)
        have hle : ∀ i j, i ≤ j → j < m → κ (gt (List.range N).toArray i) ≤ κ (gt (List.range N).toArray j) := fun i j h1 h2 => by
          rcases Nat.lt_or_eq_of_le h1 with h1 | rfl
          · exact lx_le (asc_lt u.up h1 h2)
          · exact Int.le_refl _
        have hall : ∀ k, k < m → κ k = κ (m - 1) := fun k hk => by
          have x1 := hle 0 k (Nat.zero_le _) hk
          have x2 := hle k (m - 1) (by lia) (by lia)
          rw [range_gt (show 0 < N by (exact Nat.le_of_lt (by assumption)))] at x1 h3'
          rw [range_gt (show k < N by lia)] at x1 x2
          rw [range_gt (show m - 1 < N by lia)] at x2 h3'
          lia
        have gr := fun k => gt_rev (p := (List.range N).toArray) (i := 0) (j := m) (by simp; (exact Nat.le_of_lt (by assumption))) k
        have gr1 : ∀ k, k < m → gt (kas_rev (List.range N).toArray 0 m) k = m - 1 - k := fun k hk => by rw [gr, if_pos (by lia), range_gt (by omega)]; lia
        have gr2 : ∀ k, m ≤ k → k < N → gt (kas_rev (List.range N).toArray 0 m) k = k := fun k hk hk' => by rw [gr, if_neg (by lia), range_gt (by omega)]
        refine descPart_spec ⟨(kas_rev_size _ _).trans (by simp), rev_perm, by (exact Nat.succ_pos _), by assumption, fun k hk => ?_, fun k h1 h2 => absurd h2 (by lia), fun k h1 h2 => gr2 k (by assumption) h2, fun k hk => ?_⟩
        · by_cases hk2 : k + 1 < m
          · rw [gr1 _ hk2, gr1 k (by (exact Nat.le_of_lt (by assumption)))]
            right
            exact ⟨by rw [hall _ (by omega), hall (m - 1 - k) (by omega)], by omega⟩
          · have hk3 : k + 1 = m := by lia
            rw [gr1 k (by lia), hk3, gr2 m (Nat.le_refl _) hmN]
            left
            rw [hall (m - 1 - k) (by omega)]
            rw [range_gt hmN, range_gt (show m - 1 < N by lia)] at d'
            exact d'
        · rw [gr1 k (by assumption)]; lia
    · rw [if_neg h2]
      have hm1 : m = 1 := by lia
      subst hm1
      refine descPart_spec ⟨by simp, .refl _, by (exact Nat.succ_pos _), by omega, fun k hk => ?_, fun k h1 h2 => absurd h2 (by lia), fun k _ h => range_gt h, fun k hk => by rw [range_gt (by lia)]; omega⟩
      have : k = 0 := by lia
      subst this
      exact .inl d'

theorem place_spec {p : Array Nat} {k : Nat} (up : Asc κ p k) : ∀ (f l r : Nat), r - l ≤ f → l ≤ r → r ≤ k → (∀ j, j < l → κ (gt p j) ≤ κ (gt p k)) → (∀ j, r ≤ j → j < k → κ (gt p k) < κ (gt p j)) →
    ev (klt κ) (kas_place p k f l r) ≤ k ∧ (∀ j, j < ev (klt κ) (kas_place p k f l r) → κ (gt p j) ≤ κ (gt p k)) ∧ (∀ j, ev (klt κ) (kas_place p k f l r) ≤ j → j < k → κ (gt p k) < κ (gt p j))
  | 0, l, r, h0, h1, h2, h3, h4 => by
    have : l = r := by lia
    subst this
    exact (in_AA h2 h3 h4)
  | f + 1, l, r, h0, h1, h2, h3, h4 => by
    by_cases hl : l ≥ r
    · have : l = r := by lia
      subst this
      have e : ev (klt κ) (kas_place p k (f + 1) l l) = l := by unfold kas_place; rw [if_pos hl]; rfl
      rw [e]
      exact (in_AA h2 h3 h4)
    · have e : ev (klt κ) (kas_place p k (f + 1) l r) = ev (klt κ) (if klt κ (gt p k) (gt p ((l + r) / 2)) = true then kas_place p k f l ((l + r) / 2) else kas_place p k f ((l + r) / 2 + 1) r) := by
        rw [kas_place, if_neg hl]; rfl
      rw [e]
      have hle : ∀ i j, i ≤ j → j < k → κ (gt p i) ≤ κ (gt p j) := fun i j h1 h2 => by
        rcases Nat.lt_or_eq_of_le h1 with h1 | rfl
        · exact lx_le (asc_lt up h1 h2)
        · exact Int.le_refl _
      by_cases hc : klt κ (gt p k) (gt p ((l + r) / 2)) = true
      · rw [if_pos hc]
        refine place_spec up f l _ (Nat.le_of_lt_succ (Nat.lt_of_lt_of_le (mid_l (Nat.lt_of_not_le hl)) h0)) (mid_bd (Nat.lt_of_not_le hl)).1 (Nat.le_trans (Nat.le_of_lt (mid_bd (Nat.lt_of_not_le hl)).2) h2) h3 fun j h5 h6 => Int.lt_of_lt_of_le (of_decide_eq_true hc) (hle _ _ h5 h6)
      · rw [if_neg hc]
        refine place_spec up f _ r (Nat.le_of_lt_succ (Nat.lt_of_lt_of_le (mid_r (Nat.lt_of_not_le hl)) h0)) (Nat.succ_le_of_lt (mid_bd (Nat.lt_of_not_le hl)).2) h2 (fun j h5 => Int.le_trans (hle j ((l + r) / 2) (Nat.le_of_lt_succ h5) (Nat.lt_of_lt_of_le (mid_bd (Nat.lt_of_not_le hl)).2 h2)) (Int.not_lt.mp fun q => hc (decide_eq_true q))) h4

theorem bin_spec {N : Nat} : ∀ (f : Nat) (p : Array Nat) (k : Nat), Up κ N k p → k + f = N → Up κ N N (ev (klt κ) (kas_bin f p k))
  | 0, p, k, h, e => by
    have : k = N := by omega
    subst this; exact h
  | f + 1, p, k, h, e => by
    obtain ⟨sz, pm, h1, hn, up, idf, bel⟩ := h
    rw [kas_bin, ev_bind]
    refine el_AA (place_spec up k 0 k (by (exact Nat.le_refl _)) (by (exact Nat.zero_le _)) (Nat.le_refl _) (fun j h => absurd h (by (exact absurd (by assumption) (Nat.not_lt_zero _)))) (fun j h1 h2 => absurd h2 (by (exact Nat.not_lt.mpr (by assumption))))) fun a b c => ?_
    generalize ev (klt κ) (kas_place p k k 0 k) = l at a b c
    have gb := fun j => gt_bubble (p := p) (k := k) (l := l) (by lia) a j
    have ik := idf k (Nat.le_refl _) (by lia)
    refine bin_spec f _ (k + 1) ⟨(bubble_size _ _ _).trans sz, (bubble_perm _ _ _).trans pm, by (exact Nat.succ_pos _), by lia, fun j hj => ?_, fun j h1 h2 => ?_, fun j hj => ?_⟩ (by lia)
    · have g0 := gb j
      have g1 := gb (j + 1)
      by_cases c1 : j + 1 < l
      · rw [if_neg (by lia), if_neg (by lia)] at g0 g1
        rw [g0, g1]; exact up j (by (exact Nat.lt_of_lt_of_le (by assumption) (by assumption)))
      · by_cases c2 : j + 1 = l
        · rw [if_neg (by lia), if_neg (by lia)] at g0
          rw [if_pos c2] at g1
          rw [g0, g1]
          have x := b j (by lia)
          have y := bel j (by lia)
          rcases Int.lt_or_eq_of_le x with x | x
          · exact .inl x
          · exact .inr ⟨x, by lia⟩
        · by_cases c3 : j = l
          · rw [if_pos c3] at g0
            rw [if_neg (by omega), if_pos (by lia), show j + 1 - 1 = j by rfl] at g1
            rw [g0, g1]
            exact .inl (c j (by lia) (by lia))
          · rw [if_neg c3, if_pos (by lia)] at g0
            rw [if_neg (by omega), if_pos (by lia)] at g1
            rw [g0, g1]
            have := up (j - 1) (by lia)
            rw [show j - 1 + 1 = j by lia] at this
            rw [show j + 1 - 1 = j by rfl]
            exact this
    · rw [gb, if_neg (by lia), if_neg (by lia)]; exact idf j (by (exact Nat.le_of_lt (by assumption))) h2
    · rw [gb]
      split
      · lia
      · split
        · have := bel (j - 1) (by lia); lia
        · have := bel j (by lia); lia

theorem sort_spec {N : Nat} (hN : 2 ≤ N) : Up κ N N (ev (klt κ) (kas_sort N)) := by
  unfold kas_sort
  rw [ev_bind]
  have u := count_spec (κ := κ) hN
  generalize ev (klt κ) (kas_count N (List.range N).toArray) = r at u
  have h1 := u.h1
  have hn := u.hn
  by_cases h : r.1 < N
  · rw [if_pos h, show max r.1 1 = r.1 by lia]
    exact bin_spec _ _ _ u (by lia)
  · rw [if_neg h]
    have : r.1 = N := by lia
    rw [this] at u; exact u

theorem sort_list {N : Nat} (hN : 2 ≤ N) : (ev (klt κ) (kas_sort N)).toList.Perm (List.range N) ∧ (ev (klt κ) (kas_sort N)).toList.Pairwise (lx κ) := by
  have u := sort_spec (κ := κ) hN
  refine ⟨by simpa using Array.perm_iff_toList_perm.mp u.pm, ?_⟩
  rw [List.pairwise_iff_getElem]
  intro i j hi hj hij
  have hj' : j < (ev (klt κ) (kas_sort N)).size := by simpa using hj
  have := asc_lt u.up hij (by rw [← u.sz]; exact hj')
  have e : ∀ k (h : k < (ev (klt κ) (kas_sort N)).size), gt (ev (klt κ) (kas_sort N)) k = (ev (klt κ) (kas_sort N))[k] := fun k h => by simp [gt, h]
  rw [e i (by omega), e j hj'] at this
  simpa using this
end
end Mine
end

section
open PySem PySem.W PyProof.Rows PySem.Calls
set_option Elab.async false
set_option linter.unusedVariables false
namespace Mine
set_option maxRecDepth 100000

noncomputable def Bnd (N : Nat) {α : Type} (R : α → Prop) : KasT α → Prop
  | .ret a => R a
  | .ask i j k => i < N ∧ j < N ∧ ∀ b, Bnd N R (k b)
theorem Bnd.bind {N : Nat} {α β : Type} {R : α → Prop} {R' : β → Prop} {f : α → KasT β} (hf : ∀ a, R a → Bnd N R' (f a)) : ∀ (t : KasT α), Bnd N R t → Bnd N R' (t.bind f)
  | .ret a, h => hf a h
  | .ask i j k, h => ⟨h.1, h.2.1, fun b => Bnd.bind hf (k b) (h.2.2 b)⟩
theorem Bnd.wp {N : Nat} {lt : Nat → Nat → Bool} {cmp : Nat → Nat → (Bool → Shared → Prop) → Shared → Prop} {s : Shared} (hc : ∀ i j C, i < N → j < N → C (lt i j) s → cmp i j C s) {α : Type} {R : α → Prop} {Q : α → Shared → Prop} : ∀ (t : KasT α), Bnd N R t → Q (ev lt t) s → t.kasWp cmp Q s
  | .ret a, _, h => h
  | .ask i j k, hb, h => hc i j _ hb.1 hb.2.1 (Bnd.wp hc (k (lt i j)) (hb.2.2 _) h)
noncomputable def Sml (N : Nat) (p : Array Nat) : Prop := ∀ k, p.getD k 0 < N
theorem Sml.perm {N : Nat} {p q : Array Nat} (h : Sml N q) (pm : p.Perm q) : Sml N p := fun k => by
  rw [Array.getD_eq_getD_getElem?]
  cases e : p[k]? with
  | none => have := h q.size; simp only [Array.getD_eq_getD_getElem?] at this; simpa using this
  | some x =>
    have hx : x ∈ p := Array.mem_of_getElem? e
    have hx2 := pm.mem_iff.mp hx
    obtain ⟨i, hi, e2⟩ := Array.getElem_of_mem hx2
    have := h i
    rw [Array.getD_eq_getD_getElem?, Array.getElem?_eq_getElem hi, e2] at this
    exact this
theorem Sml.rev {N : Nat} {p : Array Nat} (h : Sml N p) (i j : Nat) : Sml N (kas_rev p i j) := h.perm rev_perm
theorem bnd_asc {N : Nat} {p : Array Nat} (h : Sml N p) : ∀ f n, Bnd N (fun _ => True) (kas_asc p f n)
  | 0, n => trivial
  | f + 1, n => ⟨h _, h _, fun c => by
    dsimp only
    split
    · exact trivial
    · exact bnd_asc h f _⟩
theorem bnd_desc {N : Nat} : ∀ f (p : Array Nat) n q, Sml N p → Bnd N (fun r => Sml N r.1) (kas_desc f p n q)
  | 0, p, n, q, h => h
  | f + 1, p, n, q, h => ⟨h _, h _, fun c => by
    dsimp only
    split
    · split
      · exact bnd_desc f _ _ _ (h.rev _ _)
      · exact bnd_desc f _ _ _ h
    · refine ⟨h _, h _, fun d => ?_⟩
      dsimp only
      split
      · exact h
      · exact bnd_desc f _ _ _ h⟩
theorem bnd_tail3 {N n nrem : Nat} {p : Array Nat} (h : Sml N p) : Bnd N (fun r => Sml N r.2) (kas_tail3 n nrem p) := by
  unfold kas_tail3
  refine Bnd.bind (R := fun _ => True) (fun a _ => ?_) _ (bnd_asc (h.rev _ _) _ _)
  exact h.rev 0 n
theorem bnd_descPart {N n nrem : Nat} {p : Array Nat} (h : Sml N p) : Bnd N (fun r => Sml N r.2) (kas_descPart n nrem p) := by
  unfold kas_descPart
  refine Bnd.bind (R := fun r => Sml N r.1) (fun a ha => ?_) _ (bnd_desc _ _ _ _ h)
  split
  · exact bnd_tail3 (Sml.rev ha _ _)
  · exact bnd_tail3 ha
theorem bnd_count {N nrem : Nat} {p : Array Nat} (h : Sml N p) : Bnd N (fun r => Sml N r.2) (kas_count nrem p) := by
  unfold kas_count
  refine Bnd.bind (R := fun _ => True) (fun a _ => ?_) _ (bnd_asc h _ _)
  split
  · exact h
  · split
    · refine ⟨h _, h _, fun c => ?_⟩
      dsimp only
      split
      · exact h
      · exact bnd_descPart (h.rev _ _)
    · exact bnd_descPart h
theorem bnd_place {N k : Nat} {p : Array Nat} (h : Sml N p) : ∀ f l r, Bnd N (fun _ => True) (kas_place p k f l r)
  | 0, l, r => trivial
  | f + 1, l, r => by
    rw [kas_place]
    split
    · exact trivial
    · refine ⟨h _, h _, fun c => ?_⟩
      dsimp only
      split
      · exact bnd_place h f _ _
      · exact bnd_place h f _ _
theorem bnd_bin {N : Nat} : ∀ f (p : Array Nat) k, Sml N p → Bnd N (fun _ => True) (kas_bin f p k)
  | 0, p, k, h => trivial
  | f + 1, p, k, h => Bnd.bind (R := fun _ => True) (fun a _ => bnd_bin f _ _ (h.perm (bubble_perm _ _ _))) _ (bnd_place h _ _ _)
theorem bnd_sort {N : Nat} (hN : 0 < N) : Bnd N (fun _ => True) (kas_sort N) :=
  by
  unfold kas_sort
  refine Bnd.bind (R := fun r => Sml N r.2) (fun a ha => ?_) _ (bnd_count fun k => ?_)
  · split
    · exact bnd_bin _ _ _ ha
    · exact trivial
  · by_cases hk : k < N
    · have := range_gt hk; unfold gt at this; omega
    · rw [Array.getD_eq_getD_getElem?, Array.getElem?_eq_none (by simpa using hk)]; exact hN

/-- the places in the order of their keys, equal keys as they stood -/
noncomputable def ordI (κ : Nat → Int) (n : Nat) : List Nat := if n < 2 then List.range n else (ev (klt κ) (kas_sort n)).toList
theorem ordI_perm (κ : Nat → Int) (n : Nat) : (ordI κ n).Perm (List.range n) := by
  unfold ordI
  split
  · exact .refl _
  · exact (sort_list (by (exact Nat.not_lt.mp (by assumption)))).1
theorem ordI_sorted (κ : Nat → Int) (n : Nat) : (ordI κ n).Pairwise (lx κ) := by
  unfold ordI
  split
  · rename_i h
    match n, h with
    | 0, _ => exact .nil
    | 1, _ => exact List.pairwise_singleton _ _
  · exact (sort_list (by (exact Nat.not_lt.mp (by assumption)))).2
theorem ordI_len (κ : Nat → Int) (n : Nat) : (ordI κ n).length = n := by rw [(ordI_perm κ n).length_eq, List.length_range]

section
variable {g : Heap} {s₀ t : Shared} {W : List Addr} {V : View} {mu : List (Addr × Obj)} {L a b : Addr} {m : Str → Option Value}
theorem Bd.stay (D : Bd g s₀ W V mu L m t) {t' : Shared} (st : Stp [] t t') : Bd g s₀ W V mu L m t' := by
  have kp : ∀ b o, b ∉ TT → t.heap.get? b = some o → t'.heap.get? b = some o := fun b o h e => st.keep b o (fun h => nomatch h) h e
  refine D.move .rfl (fun b o e => kp b o (fun h => by rw [D.offT b h] at e; cases e) (D.see b o e)) ?_ D.offL D.offT (fun p hp => ?_) D.nd D.wmu st.tab st.gens st.os
  · refine el_EEEAA (D.ns) fun o es ep e hd x => ?_
    exact ⟨o, es, ep, kp _ _ (fun h => (D.neT h).1 rfl) e, hd, x⟩
  · have z := D.mus p hp
    exact ⟨kp _ _ (fun h => (D.neT h).2 (List.mem_map_of_mem hp)) z.1, z.2⟩
end

section
variable {prog : Program} {w : World} {A : Around} {E : Value → Shared → Prop} {g : Heap} {s₀ t : Shared} {W : List Addr} {V : View} {mu : List (Addr × Obj)} {L : Addr} {m : Str → Option Value}

theorem lst_upd (D : Bd g s₀ W V mu L m t) (i : Nat) {a : Addr} {xs ys : List Value} {n : Nat} (hi : mu[i]? = some (a, lst xs n)) {f : Array Value → Array Value} (hf : f xs.toArray = ys.toArray) :
    ∃ n', Bd g s₀ W V (mu.set i (a, lst ys n')) L m { t with heap := t.heap.update a (Obj.mapSeq f) } := by
  have z := D.mus _ (List.mem_of_getElem? hi)
  refine ⟨_, D.upd (n := t.toks) i hi (o' := lst ys (if (f xs.toArray).size == xs.toArray.size then n else n + 1)) ?_ (Heap.SameBut.update ..).extBut rfl⟩
  have := get?_update_seq (h := t.heap) (a := a) (c := "list") (xs := xs.toArray) (n := n) z.1 f
  rw [this, hf]

theorem keys_ints {κ : Nat → Int} : ∀ {ks : List Value}, (∀ (i : Nat) (v : Value), ks[i]? = some v → ∃ tk, v = .int (κ i) tk) → IntsAre ks ((List.range ks.length).map κ) := by
  intro ks h
  have : IntsAre ks (ks.map numOf) := intsAre_map ks fun v hv => by
    obtain ⟨i, hi, e⟩ := List.getElem_of_mem hv
    refine el_E (h i v (by rw [← e]; exact List.getElem?_eq_getElem hi)) fun tk e' => ?_
    exact (in_EE _ tk e')
  have e : ks.map numOf = (List.range ks.length).map κ := by
    apply List.ext_getElem?
    intro i
    rw [List.getElem?_map, List.getElem?_map]
    by_cases hi : i < ks.length
    · rw [List.getElem?_eq_getElem hi, List.getElem?_range hi]
      refine el_E (h i _ (List.getElem?_eq_getElem hi)) fun tk e' => ?_
      rw [e']; rfl
    · rw [List.getElem?_eq_none (by (exact Nat.not_lt.mp (by assumption))), List.getElem?_eq_none (by simpa using hi)]; rfl
  rw [e] at this
  exact this

theorem sort_end {D' kS : Addr} {vs ks : List Value} {κ : Nat → Int} {e e1 : Nat} {P : PySem.Fin → Shared → Prop} (D : Bd g s₀ W V ((kS, lst ks e) :: (D', lst [] e1) :: mu) L m t) (hw : kS ∉ W) (hl : ks.length = vs.length) (h64 : vs.length < 64) (hk : ∀ (i : Nat) (v : Value), ks[i]? = some v → ∃ tk, v = .int (κ i) tk)
    (h : ∀ n t', Bd g s₀ W V ((D', lst ((ordI κ vs.length).map fun i => vs.getD i .none) n) :: mu) L m t' → P (.done (.ret .none)) t') :
    wpAny (model prog w) A (ksk_end D' false vs.toArray e1 (.ref kS) ks.toArray) P E t := by
  have tail : ∀ (st : SortSt) (out : List Value), (arrOf st).map (·.2) = out.toArray → out.length < 64 → failedOf st = none → (∀ n t', Bd g s₀ W V ((D', lst out n) :: mu) L m t' → P (.done (.ret .none)) t') → wpAny (model prog w) A (ksk_tail D' false e1 (.ref kS) st) P E t := by
    intro st out hout hz hf h
    refine el_E (lst_upd D 0 (f := fun _ => (#[] : Array Value)) (ys := []) rfl rfl) fun n1 D1 => ?_
    refine el_E (lst_upd D1 1 (f := fun _ => out.toArray) (ys := out) rfl rfl) fun n2 D2 => ?_
    unfold ksk_tail
    try dsimp only
    rw [hout]
    refine wpAny_bind (listUpdate_at (D.mus _ (.head _)).1 rfl ?_ (by rw [List.size_toArray, sizeLine_eq]; lia) (Nat.zero_le _))
    refine wpAny_bind (wpAny_letGo ?_)
    refine wpAny_bind (seqEpoch_at (D1.mus (D', lst [] e1) (.tail _ (.head _))).1 rfl ?_)
    refine wpAny_bind (listUpdate_at (D1.mus (D', lst [] e1) (.tail _ (.head _))).1 rfl ?_ (Nat.zero_le _) (by show out.toArray.size ≤ _; rw [List.size_toArray, sizeLine_eq]; (exact Nat.le_of_lt (Nat.lt_of_lt_of_le (by assumption) (by decide)))))
    rw [hf]
    simp only [bne_self_eq_false, Bool.false_eq_true, if_false]
    exact wpAny_pure (h n2 _ (D2.drop (n := t.toks) (h' := _) (fun b o _ e => e) hw))
  unfold ksk_end
  try dsimp only
  rw [if_neg Bool.false_ne_true]
  by_cases h2 : vs.length < 2
  · rw [if_pos (by rw [List.size_toArray]; exact h2), if_pos (by rw [List.size_toArray]; exact h2), if_neg Bool.false_ne_true]
    refine wpAny_bind (wpAny_pure (wpAny_bind ?_))
    rw [StateT.run_pure]
    refine wpAny_pure (tail _ vs ?_ h64 rfl fun n t' D' => h n t' ?_)
    · show (ks.toArray.zip vs.toArray).map (·.2) = vs.toArray
      apply Array.toList_inj.mp
      rw [Array.toList_map, ksk_zip]
      exact List.map_snd_zip (by rw [List.toList_toArray] <;> lia)
    · have e : (ordI κ vs.length).map (fun i => vs.getD i .none) = vs := by
        unfold ordI
        rw [if_pos h2]
        apply List.ext_getElem?
        intro i
        rw [List.getElem?_map]
        by_cases hi : i < vs.length
        · rw [List.getElem?_range hi, List.getElem?_eq_getElem hi]
          simp [hi]
        · rw [List.getElem?_eq_none (by simpa using hi), List.getElem?_eq_none (by (exact Nat.not_lt.mp (by assumption)))]; rfl
      rw [e]; exact D'
  · have h2' : 2 ≤ vs.length := by (exact Nat.not_lt.mp (by assumption))
    rw [if_neg (by rw [List.size_toArray]; exact h2), if_neg (by rw [List.size_toArray]; exact h2), if_neg Bool.false_ne_true]
    have hI := keys_ints (κ := κ) hk
    rw [ksk_kind (keys := ks.toArray) (kz := (List.range ks.length).map κ) (by rw [List.toList_toArray]; exact hI) (by rw [List.size_toArray]; lia)]
    refine wpAny_bind (wpAny_pure ?_)
    have hask : (kas_sort vs.length).kasWp (kas_ask prog w A oneType' ks) (fun p s' => s' = t ∧ p = ev (klt κ) (kas_sort vs.length)) t := by
      refine Bnd.wp (N := vs.length) (fun i j C hi hj hC => ?_) _ (bnd_sort (by (exact Nat.le_of_lt (by assumption)))) ⟨rfl, rfl⟩
      have hi' : i < ks.length := by lia
      have hj' : j < ks.length := by lia
      refine el_E (hk i _ (List.getElem?_eq_getElem hi')) fun t1 e1 => ?_
      refine el_E (hk j _ (List.getElem?_eq_getElem hj')) fun t2 e2 => ?_
      unfold kas_ask
      rw [show ks.getD i Value.none = ks[i] by simp [hi'], show ks.getD j Value.none = ks[j] by simp [hj'], e1, e2]
      exact kat_lt_int hC
    refine wpAny_bind (wpAny_mono (kat_run (Q := fun st' s' => s' = t ∧ arrOf st' = (ev (klt κ) (kas_sort vs.length)).map (kas_item (ks.toArray.zip vs.toArray)) ∧ failedOf st' = none) hl h2' h64 (fun p st' s' a1 a2 a3 a4 => (in_AA a4.1 (by rw [a2, a4.2]) a3)) hask) ?_ fun _ _ x => x)
    rintro ⟨⟨⟩, st'⟩ s' ⟨rfl, har, hf⟩
    refine tail _ _ (kat_snds hl har) ?_ hf fun n t' D' => h n t' ?_
    · rw [List.length_map, (sort_list h2').1.length_eq, List.length_range]; exact h64
    · unfold ordI; rw [if_neg h2]; exact D'
end
end Mine
end

section
open PySem PySem.W PyProof.Rows PySem.Calls
set_option Elab.async false
set_option linter.unusedVariables false
namespace Mine
set_option maxRecDepth 100000

section
variable {prog : Program} {w : World} {A : Around} {E : Value → Shared → Prop} {g : Heap} {s₀ t : Shared} {W : List Addr} {V : View} {mu : List (Addr × Obj)} {L : Addr} {m : Str → Option Value}

/-- what a key function gives -/
noncomputable def KeyGives (prog : Program) (w : World) (A : Around) (g : Heap) (s₀ : Shared) (W : List Addr) (V : View) (L : Addr) (m : Str → Option Value) (f : Value) (vs : List Value) (κ : Nat → Int) : Prop :=
  ∀ (i : Nat) (v : Value) mu' t' (Q' : Value → Shared → Prop), vs[i]? = some v → Bd g s₀ W V mu' L m t' → (∀ tk t'', Stp [] t' t'' → Q' (.int (κ i) tk) t'') → wpAny (model prog w) A (call f [v]) Q' (fun _ _ => False) t'

theorem sort_rest {D' kS : Addr} {f : Value} {vs : List Value} {κ : Nat → Int} {e e1 : Nat} {P : PySem.Fin → Shared → Prop} (D : Bd g s₀ W V ((kS, lst [] e) :: (D', lst [] e1) :: mu) L m t) (hw : kS ∉ W) (h64 : vs.length < 64) (hf : KeyGives prog w A g s₀ W V L m f vs κ)
    (h : ∀ n t', Bd g s₀ W V ((D', lst ((ordI κ vs.length).map fun i => vs.getD i .none) n) :: mu) L m t' → P (.done (.ret .none)) t') :
    wpAny (model prog w) A (ksk_rest D' f false vs.toArray e1 (.ref kS)) P E t := by
  unfold ksk_rest
  refine wpAny_bind (wpAny_rule ?_)
  first
    | rw [List.forIn_toArray]
    | (rw [← Array.forIn_toList]; simp only [List.toList_toArray])
    | rw [← Array.forIn_toList]
  refine wpAny_bind (ksk_fold (fun i s' => ∃ ks e, ks.length = i ∧ (∀ (j : Nat) (v : Value), ks[j]? = some v → ∃ tk, v = .int (κ j) tk) ∧ Bd g s₀ W V ((kS, lst ks e) :: (D', lst [] e1) :: mu) L m s') vs 0 t (in_EEAA [] e rfl (fun j v q => (nomatch q)) D) ?_ ?_)
  · intro j x s' hx hQ1; refine el_EEAA (hQ1) fun ks e hl hk D1 => ?_; try clear hQ1
    have hj : j < vs.length := (List.getElem?_eq_some_iff.mp hx).1
    refine wpAny_bind (wpAny_attempt (wpAny_mono (hf j x _ s' (fun v t'' => ∃ tk, v = .int (κ j) tk ∧ Stp [] s' t'') hx D1 fun tk t'' st => (in_EA tk rfl st)) (fun v t'' hv => ?_) fun _ _ hF => hF.elim))
    refine el_EA (hv) fun tk hR1 st => ?_; try clear hv; subst hR1
    have D2 := D1.stay st
    have ea : (List.toArray ks).push (.int (κ j) tk) = List.toArray (ks ++ [.int (κ j) tk]) := by simp
    refine el_E (lst_upd D2 0 (f := (·.push (.int (κ j) tk))) (ys := ks ++ [.int (κ j) tk]) rfl ea) fun n' D3 => ?_
    try dsimp only
    refine wpAny_bind (listUpdate_at (D2.mus _ (.head _)).1 rfl ?_ (by rw [List.size_toArray, sizeLine_eq]; lia) (Nat.le_trans (Nat.le_of_eq (Array.size_push ..)) (by rw [List.size_toArray, sizeLine_eq]; lia)))
    refine wpAny_pure (in_AEEAA rfl (ks ++ [Value.int (κ j) tk]) n' (by rw [List.length_append, hl]; rfl) (fun i v hv => ?_) D3)
    by_cases hi : i < ks.length
    · rw [List.getElem?_append_left hi] at hv; exact hk i v hv
    · have hlt : i < (ks ++ [Value.int (κ j) tk]).length := (List.getElem?_eq_some_iff.mp hv).1
      rw [List.length_append, List.length_singleton] at hlt
      have hij : i = ks.length := by lia
      subst hij
      rw [List.getElem?_append_right (Nat.le_refl _), Nat.sub_self] at hv
      cases hv
      exact ⟨tk, by congr 2; lia⟩
  · intro s' hQ2; refine el_EEAA (hQ2) fun ks e hl hk D1 => ?_; try clear hQ2
    refine wpAny_bind (listItems_at (D1.mus _ (.head _)).1 rfl ?_)
    exact sort_end D1 hw (by lia) h64 hk h

theorem sorted_key {l f : Addr} {vs : List Value} {n0 : Nat} {κ : Nat → Int} {Q : Value → Shared → Prop} (D : Bd g s₀ W V mu L m t) (hl : t.heap.IsList l vs.toArray) (h64 : vs.length < 64) (hf : KeyGives prog w A.in1.in1 g s₀ W V L m (.ref f) vs κ)
    (h : ∀ D' n t', V D' = none → s₀.heap.get? D' = none → Bd g s₀ W V ((D', lst ((ordI κ vs.length).map fun i => vs.getD i .none) n) :: mu) L m t' → Q (.ref D') t') :
    wpAny (model prog w) A (call (.builtin "sorted") [.ref l] [("key", .ref f)]) Q E t := by
  refine call_function_entry_kw kind_sorted plain_sorted entry_sorted (ksk_s1 _ _) ?_
  unfold Builtin.«sorted»
  refine wpAny_bind (m := checkCount "sorted" 1 1 _) (wpAny_pure ?_)
  refine wpAny_bind (collect_list hl ?_ (by rw [sizeLine_eq]; (exact Nat.le_of_lt (Nat.lt_of_lt_of_le (by assumption) (by decide)))))
  refine wpAny_bind (wpAny_newList ?_ (by rw [sizeLine_eq]; (exact Nat.le_of_lt (Nat.lt_of_lt_of_le (by assumption) (by decide)))))
  have hsz : ((t.heap.push (seqObj "list" #[] 0)).update t.heap.objs.size (Obj.mapSeq (· ++ vs.toArray))).objs.size = t.heap.objs.size + 1 := by
    rw [Heap.size_update, size_push']
  have hoL : (((t.heap.push (seqObj "list" #[] 0)).update t.heap.objs.size (Obj.mapSeq (· ++ vs.toArray))).push (seqObj "list" vs.toArray 0)).get? (t.heap.objs.size + 1) = some (seqObj "list" vs.toArray 0) := by
    rw [← hsz]; exact Heap.get?_push_size _ rfl
  have keep : ∀ b o, t.heap.get? b = some o → (((t.heap.push (seqObj "list" #[] 0)).update t.heap.objs.size (Obj.mapSeq (· ++ vs.toArray))).push (seqObj "list" vs.toArray 0)).get? b = some o := fun b o q => by
    have hlt : b < t.heap.objs.size := Heap.lt_size q
    rw [Heap.get?_push_ne _ _ _ (by rw [hsz]; exact Nat.ne_of_lt (Nat.lt_succ_of_lt hlt)), Heap.get?_update_ne _ _ _ _ (Nat.ne_of_lt hlt), Heap.get?_push_ne _ _ _ (Nat.ne_of_lt hlt)]
    exact q
  have hnone : t.heap.get? (t.heap.objs.size + 1) = none := Heap.get?_none_of_le (Nat.le_succ _)
  show wpAny _ _ _ _ _ { t with heap := ((t.heap.push (seqObj "list" #[] 0)).update t.heap.objs.size (Obj.mapSeq (· ++ vs.toArray))).push (seqObj "list" vs.toArray 0) }
  rw [hsz]
  have D1 := D.newMu (n := t.toks) (o := lst vs 0) hnone hoL keep rfl
  have z := D1.mus _ (.head _)
  generalize hD' : t.heap.objs.size + 1 = D' at D1 z hnone
  generalize ht1 : ({ t with heap := ((t.heap.push (seqObj "list" #[] 0)).update t.heap.objs.size (Obj.mapSeq (· ++ vs.toArray))).push (seqObj "list" vs.toArray 0) } : Shared) = t1
  replace D1 : Bd g s₀ W V ((D', lst vs 0) :: mu) L m t1 := by rw [← ht1]; exact D1
  have hDs : s₀.heap.get? D' = none := D.fresh hnone
  have hVD : V D' = none := z.2.1
  clear ht1 hoL keep hsz z
  refine wpAny_bind (wpAny_holding (wpAny_call_entry_kw slot_list_sort ⟨_, (D1.mus _ (.head _)).1, rfl⟩ entry_list_sort ?body (ksk_l1 _ _)))
  case body =>
    show wpAny (model prog w) A.in1.in1 (Builtin.«list.sort» ⟨[.ref D'], [(Str.ofString "key", .ref f)]⟩) _ _ _
    rw [ksk_t1]
    unfold ksk_tree
    refine el_E (lst_upd D1 0 (f := fun _ => (#[] : Array Value)) (ys := []) rfl rfl) fun e1 D2 => ?_
    refine wpAny_bind (listItems_at (D1.mus _ (.head _)).1 rfl ?_)
    refine wpAny_bind (listUpdate_at (D1.mus _ (.head _)).1 rfl ?_ (by rw [List.size_toArray, sizeLine_eq]; (exact Nat.le_of_lt (Nat.lt_of_lt_of_le (by assumption) (by decide)))) (Nat.zero_le _))
    refine wpAny_bind (seqEpoch_at (D2.mus _ (.head _)).1 rfl ?_)
    refine wpAny_bind (wpAny_newTuple ?_ (by show vs.length ≤ _; rw [sizeLine_eq]; (exact Nat.le_of_lt (Nat.lt_of_lt_of_le (by assumption) (by decide)))))
    have D3 := D2.grow (n := t1.toks) (h' := (t1.heap.update D' (Obj.mapSeq fun _ => (#[] : Array Value))).push { cls := .type "tuple", data := .seq vs.toArray }) fun b o e => Heap.get?_push_of_some _ e
    refine wpAny_bind (wpAny_newList ?_ (Nat.zero_le _))
    have hz := get_size ((t1.heap.update D' (Obj.mapSeq fun _ => (#[] : Array Value))).push { cls := .type "tuple", data := .seq vs.toArray })
    have D4 := D3.newMu (n := t1.toks) (o := lst [] 0) (h' := ((t1.heap.update D' (Obj.mapSeq fun _ => (#[] : Array Value))).push { cls := .type "tuple", data := .seq vs.toArray }).push { cls := .type "list", data := .seq (List.toArray []) }) hz (Heap.get?_push_size _ rfl) (fun b o e => Heap.get?_push_of_some _ e) rfl
    refine wpAny_holding ?_
    refine sort_rest (κ := κ) (t := { t1 with heap := ((t1.heap.update D' (Obj.mapSeq fun _ => (#[] : Array Value))).push { cls := .type "tuple", data := .seq vs.toArray }).push { cls := .type "list", data := .seq (List.toArray []) } }) (mu := mu) D4 (fun hh => ?_) h64 hf fun n t' D5 => ?_
    · refine el_E (D3.mu_lt (D3.wmu _ hh)) fun o' e' => ?_
      rw [hz] at e'; cases e'
    · exact (in_EA _ rfl (wpAny_pure (in_EA _ rfl (h D' n t' hVD hDs D5))))
end
end Mine
end

section
open PySem PySem.W PyProof.Rows PySem.Calls
set_option Elab.async false
set_option linter.unusedVariables false
namespace Mine
set_option maxRecDepth 100000

/-- the values are these natural numbers -/
noncomputable def NatsAre (vals : List Value) (js : List Nat) : Prop := vals.length = js.length ∧ ∀ i, i < js.length → ∃ tk, vals[i]? = some (.int ((js.getD i 0 : Nat) : Int) tk)
theorem NatsAre.nil : NatsAre [] [] := ⟨rfl, fun i h => nomatch h⟩
theorem NatsAre.get {vals : List Value} {js : List Nat} (h : NatsAre vals js) {i : Nat} {v : Value} (e : vals[i]? = some v) : i < js.length ∧ ∃ tk, v = .int ((js.getD i 0 : Nat) : Int) tk := by
  have hi : i < js.length := by rw [← h.1]; exact (List.getElem?_eq_some_iff.mp e).1
  refine el_E (h.2 i hi) fun tk e2 => ?_
  rw [e] at e2
  exact (in_AE hi tk (Option.some.inj e2))
theorem NatsAre.snoc {vals : List Value} {js : List Nat} (h : NatsAre vals js) (j : Nat) (tk : Tok) : NatsAre (vals ++ [.int (j : Int) tk]) (js ++ [j]) := by
  refine ⟨by simp [h.1], fun i hi => ?_⟩
  rw [List.length_append, List.length_singleton] at hi
  by_cases hl : i < js.length
  · refine el_E (h.2 i hl) fun tk' e => ?_
    refine ⟨tk', ?_⟩
    rw [List.getElem?_append_left (by rw [h.1]; exact hl), e, List.getD_eq_getElem?_getD, List.getD_eq_getElem?_getD, List.getElem?_append_left hl]
  · have : i = js.length := by lia
    subst this
    refine ⟨tk, ?_⟩
    rw [List.getElem?_append_right (by rw [h.1]; exact Nat.le_refl _), h.1, Nat.sub_self, List.getD_eq_getElem?_getD, List.getElem?_append_right (Nat.le_refl _), Nat.sub_self]
    rfl
theorem NatsAre.rev {vals : List Value} {js : List Nat} (h : NatsAre vals js) : NatsAre vals.reverse js.reverse := by
  refine ⟨by simp [h.1], fun i hi => ?_⟩
  rw [List.length_reverse] at hi
  refine el_E (h.2 (js.length - 1 - i) (by omega)) fun tk e => ?_
  refine ⟨tk, ?_⟩
  rw [List.getElem?_reverse (by rw [h.1]; exact hi), h.1, e, List.getD_eq_getElem?_getD, List.getD_eq_getElem?_getD, List.getElem?_reverse hi]
theorem NatsAre.set {vals : List Value} {js : List Nat} (h : NatsAre vals js) (k j : Nat) (tk : Tok) : NatsAre (vals.set k (.int (j : Int) tk)) (js.set k j) := by
  refine ⟨by simp [h.1], fun i hi => ?_⟩
  rw [List.length_set] at hi
  by_cases hk : k = i
  · subst hk
    refine ⟨tk, ?_⟩
    rw [List.getElem?_set_self (by rw [h.1]; exact hi), List.getD_eq_getElem?_getD, List.getElem?_set_self hi]; rfl
  · refine el_E (h.2 i hi) fun tk' e => ?_
    refine ⟨tk', ?_⟩
    rw [List.getElem?_set_ne hk, e, List.getD_eq_getElem?_getD, List.getD_eq_getElem?_getD, List.getElem?_set_ne hk]
theorem NatsAre.pick {vals : List Value} {js : List Nat} (h : NatsAre vals js) {is : List Nat} (hi : ∀ i ∈ is, i < js.length) : NatsAre (is.map fun i => vals.getD i .none) (is.map fun i => js.getD i 0) := by
  refine ⟨by simp, fun k hk => ?_⟩
  rw [List.length_map] at hk
  refine el_E (h.2 is[k] (hi _ (List.getElem_mem hk))) fun tk e => ?_
  refine ⟨tk, ?_⟩
  rw [List.getElem?_map, List.getElem?_eq_getElem hk, List.getD_eq_getElem?_getD (l := List.map _ is), List.getElem?_map, List.getElem?_eq_getElem hk]
  simp only [Option.map_some, Option.getD_some]
  rw [List.getD_eq_getElem?_getD (l := vals), e]; rfl

/-- the pairs of numbers noted so far -/
noncomputable def AskI (V : View) (items : List Value) (ps : List (Nat × Nat)) : Prop := items.length = ps.length ∧ ∀ (i : Nat) v p, items[i]? = some v → ps[i]? = some p → ∃ a t1 t2 n, v = .ref a ∧ V a = some (tup [.int ((p.1 : Nat) : Int) t1, .int ((p.2 : Nat) : Int) t2] n)
theorem AskI.mono {V V' : View} {items : List Value} {ps : List (Nat × Nat)} (h : AskI V items ps) (le : V.le V') : AskI V' items ps := ⟨h.1, fun i v p e1 e2 => let ⟨t, a, b, n, c, d⟩ := h.2 i v p e1 e2; (in_EEEEA t a b n c (le _ _ d))⟩
theorem AskI.snoc {V : View} {items : List Value} {ps : List (Nat × Nat)} (h : AskI V items ps) {t : Addr} {n : Nat} {x y : Nat} {t1 t2 : Tok} (e : V t = some (tup [.int ((x : Nat) : Int) t1, .int ((y : Nat) : Int) t2] n)) : AskI V (items ++ [.ref t]) (ps ++ [(x, y)]) := by
  refine ⟨by simp [h.1], fun i v p' e1 e2 => ?_⟩
  by_cases hi : i < items.length
  · rw [List.getElem?_append_left hi] at e1
    rw [List.getElem?_append_left (h.1 ▸ hi)] at e2
    exact h.2 i v p' e1 e2
  · have hlt : i < (items ++ [Value.ref t]).length := (List.getElem?_eq_some_iff.mp e1).1
    rw [List.length_append, List.length_singleton] at hlt
    have : i = items.length := by lia
    subst this
    rw [List.getElem?_append_right (Nat.le_refl _), Nat.sub_self] at e1
    rw [h.1, List.getElem?_append_right (Nat.le_refl _), Nat.sub_self] at e2
    cases e1; cases e2
    exact (in_EEEEA t t1 t2 n rfl e)

noncomputable def bz : Option Nat → Int
  | none => -1
  | some y => (y : Int)
noncomputable def dueOne (r : Nat → Int) (back : Bool) (st : Option Nat × List (Nat × Nat)) (x : Nat) : Option Nat × List (Nat × Nat) :=
  match st.1 with
  | none => (some x, st.2 ++ [(x, x)])
  | some y => (if (if back then r x ≤ r y else r y ≤ r x) then some x else some y, st.2 ++ [(x, x)] ++ [(y, x)])
noncomputable def dueScan (r : Nat → Int) (back : Bool) (ch : List Nat) (asks : List (Nat × Nat)) : Option Nat × List (Nat × Nat) := (if back then ch.reverse else ch).foldl (dueOne r back) (none, asks)
noncomputable def dueSort (r : Nat → Int) (ch : List Nat) : List Nat := (ordI (fun i => r (ch.getD i 0)) ch.length).map fun i => ch.getD i 0
noncomputable def dueStep (r : Nat → Int) (back : Bool) (step : Nat) (st : List Nat × List (Nat × Nat)) (start : Nat) : List Nat × List (Nat × Nat) :=
  (putChain st.1 start step (dueSort r (chainOf st.1 start step)) (dueSort r (chainOf st.1 start step)).length, (dueScan r back (chainOf st.1 start step) st.2).2)
noncomputable def dueOf (r : Nat → Int) (back : Bool) (step : Nat) (js : List Nat) (k : Nat) : List Nat × List (Nat × Nat) := (List.range k).foldl (dueStep r back step) (js, [])
theorem dueSort_len (r : Nat → Int) (ch : List Nat) : (dueSort r ch).length = ch.length := by unfold dueSort; rw [List.length_map, ordI_len]
theorem dueSort_mem {r : Nat → Int} {ch : List Nat} {j : Nat} (h : j ∈ dueSort r ch) : j ∈ ch := by
  unfold dueSort at h
  refine el_EA (List.mem_map.mp h) fun i hi hR1 => ?_; subst hR1
  have := List.mem_range.mp ((ordI_perm _ _).mem_iff.mp hi)
  rw [List.getD_eq_getElem?_getD, List.getElem?_eq_getElem this]; exact List.getElem_mem _
theorem dueOne_facts (r : Nat → Int) (back : Bool) (st : Option Nat × List (Nat × Nat)) (x : Nat) : (dueOne r back st x).2.length ≤ st.2.length + 2 ∧ ∀ y, (dueOne r back st x).1 = some y → y = x ∨ st.1 = some y := by
  obtain ⟨b, a⟩ := st
  cases b with
  | none => refine ⟨?_, fun y h => ?_⟩
            · show (a ++ [(x, x)]).length ≤ _; simp
            · cases h; exact .inl rfl
  | some z =>
    refine ⟨?_, fun y h => ?_⟩
    · show (a ++ [(x, x)] ++ [(z, x)]).length ≤ _; simp
    · have h' : (if (if back then r x ≤ r z else r z ≤ r x) then some x else some z) = some y := h
      by_cases hc : (if back then r x ≤ r z else r z ≤ r x)
      · rw [if_pos hc] at h'; cases h'; exact .inl rfl
      · rw [if_neg hc] at h'; cases h'; exact .inr rfl
theorem scan_facts (r : Nat → Int) (back : Bool) : ∀ (ch : List Nat) (st : Option Nat × List (Nat × Nat)), (ch.foldl (dueOne r back) st).2.length ≤ st.2.length + 2 * ch.length ∧ ∀ y, (ch.foldl (dueOne r back) st).1 = some y → y ∈ ch ∨ st.1 = some y
  | [], st => ⟨Nat.le_refl _, fun y h => .inr h⟩
  | x :: ch, st => by
    refine el_A (scan_facts r back ch (dueOne r back st x)) fun a b => ?_
    refine el_A (dueOne_facts r back st x) fun c d => ?_
    rw [List.foldl_cons, List.length_cons]
    refine ⟨by lia, fun y h => ?_⟩
    rcases b y h with h | h
    · exact .inl (.tail _ h)
    · rcases d y h with hq0 | h
      · subst y; exact .inl (.head _)
      · exact .inr h

noncomputable def pack131 : { b : FuncData // ∀ P, (hd.heap_39 P).lookup 131 = some ⟨.type "function", none, .func b, #[]⟩ } := ⟨_, fun P => rfl⟩
noncomputable def F131 : FuncData := pack131.1
noncomputable def b131 : List Stmt := match F131.body with | .stmts b => b | _ => []
end Mine
end

section
open PySem PySem.W PyProof.Rows PySem.Calls
set_option Elab.async false
set_option linter.unusedVariables false
namespace Mine
set_option maxRecDepth 100000

noncomputable def lamD : PySem.Expr := match b131 with | [_, _, .For _ _ [_, _, _, .Assign _ (.Call _ _ [k1] _) _, _] _ _, _] => k1.value | _ => default
noncomputable def qD : Str := "_law_due.<locals>.<lambda>"

section
variable {prog : Program} {w : World} {mg mb : Str → Option Value} {g : Heap} {A : Around} {E : Value → Shared → Prop} {s : Shared}

/-- the key function of _law_due -/
theorem due_key (B : Bs w mg mb g) {d : Nat} (hA : Ok A (d + 1)) {s₀ : Shared} {W : List Addr} {V : View} {L : Addr} {m : Str → Option Value} {f c1 c' rl : Addr} {pm ctv : Value} {vals rvals : List Value} {ch rks : List Nat} {nr : Nat}
    (hf : V f = some (lamObj lamD qD [("ranks", c1)] pm c' ctv)) (hc : IsCodeV V c' qD) (h1 : V c1 = some (cel (some (.ref rl)))) (hrl : V rl = some (lst rvals nr)) (hr : NatsAre rvals rks) (hv : NatsAre vals ch) (hj : ∀ j ∈ ch, j < rks.length) (hrk : rks.length ≤ 20) :
    KeyGives prog w A g s₀ W V L m (.ref f) vals (fun i => ((rks.getD (ch.getD i 0) 0 : Nat) : Int)) := by
  intro i v mu' t' Q' hvi D hQ
  refine el_AE (hv.get hvi) fun hi tk hR1 => ?_; subst hR1
  have hm : ch.getD i 0 ∈ ch := by rw [List.getD_eq_getElem?_getD, List.getElem?_eq_getElem hi]; exact List.getElem_mem _
  have hlt := hj _ hm
  refine el_E (hr.2 _ hlt) fun tk2 hge => ?_
  have sub : Sub V t' [] := D.sub (fun _ h => nomatch h)
  refine call_lam (mu := []) (binds := [("place", .int ((ch.getD i 0 : Nat) : Int) tk)]) B hA D.wd (D.see _ _ hf) rfl (hc.rec D.see) rfl rfl (fun _ h => nomatch h) List.nodup_nil (fun L2 t1 hL D1 => ?_) (show ∀ x ∈ (lamParts lamD).2.2.1.names, x.2 ≠ .cell from by decide) (locs rfl)
  have le : V.le (fullV t' (List.map (fun x => x.1) ([] : List (Addr × Obj)))) := sub.leFull
  refine Subscript_ (r_free D1 (le _ _ h1) (r_name D1 rfl (item_list (k := ch.getD i 0) ⟨_, D1.see _ _ (le _ _ hrl), rfl, _, rfl⟩ rfl (by (first | decide | lia)) hge ?_)))
  exact hQ tk2 t1 D1.st

set_option maxHeartbeats 2000000 in
theorem due_spec (B : Bs w mg mb g) (hA : Ok A 14) (hw : Wd g s) {U : View} (hU : Sub U s []) {ll rl : Addr} {vals rvals : List Value} {js rks : List Nat} {n nr step : Nat} {ts : Tok} {back : Bool} {Q : Value → Shared → Prop}
    (hll : U ll = some (lst vals n)) (hv : NatsAre vals js) (hrl : U rl = some (lst rvals nr)) (hr : NatsAre rvals rks) (hjs : ∀ j ∈ js, j < rks.length) (hlen : js.length ≤ 20) (hrk : rks.length ≤ 20) (hst0 : 0 < step) (hst : step ≤ 20)
    (hQ : ∀ tr ll' al vals' items n1 n2 s', Stp [] s s' → NatsAre vals' (dueOf (fun j => ((rks.getD j 0 : Nat) : Int)) back step js step).1 → (∀ V'', Fresh s s' V'' → V'' tr = some (tup [.ref ll', .ref al] 0) ∧ V'' ll' = some (lst vals' n1) ∧
      V'' al = some (lst items n2) ∧ AskI V'' items (dueOf (fun j => ((rks.getD j 0 : Nat) : Int)) back step js step).2) → Q (.ref tr) s') :
    wpAny (model prog w) A (call (.ref 131) [.ref ll, .ref rl, .int step ts, .bool back]) Q E s := by
  refine call_defC (mu := []) (body := b131) (binds := [("line", .ref ll), ("ranks", .ref rl), ("step", .int step ts), ("back", .bool back)]) B hA hw (hw.base _ _ (B.K 131 _ (pack131.2 w.params))) rfl (codeRec_g hw (codeRec_of B.K rfl)) rfl (BindsTo.of_eq rfl) rfl (fun _ h => nomatch h) List.nodup_nil (fun L t hL D => ?_)
    (fun n => by show List.Nodup [("ranks" : Str), "line"]; decide) (fun n y hy => ?_)
  case refine_2 =>
    simp only [List.mem_cons, List.not_mem_nil, or_false] at hy
    rcases hy with rfl | rfl | rfl | rfl
    · exact .inr (in_AEE rfl 1 n rfl)
    · exact .inr (in_AEE rfl 0 (n + 1) rfl)
    · exact .inl rfl
    · exact .inl rfl
  have D : Bd g s [] (fullV s []) [(L + 1 + 1, cel (some (.ref rl))), (L + 1, cel (some (.ref ll)))] L (upd (upd (fun _ => none) "step" (.int step ts)) "back" (.bool back)) t := D
  refine el_EAAA (D.fix (fun h => nomatch h)) fun V0 le0 hcr _ D0 => ?_
  have le' : U.le V0 := hU.leFull.trans le0
  replace hll := le' _ _ hll
  replace hrl := le' _ _ hrl
  clear le' hU le0 D
  have hA1 := hA.deeper (callEnvC pack131.1 L 131)
  generalize A.deeper (callEnvC pack131.1 L 131) = A1 at hA1 ⊢
  revert A1
  refine noBeta ?_
  intro A1 hA1
  have hvl := hv.1
  try refine kq _ ?_
  refine seqK fun KQ kq => (wpAny_Assign_Name (Call_ (r_built D0 B B.n_list B.b_list (callWith_type1 (args_cons (r_cell D0 (.head _) (args_nil (list_copy_ D0 ⟨_, D0.see _ _ hll, rfl, _, rfl⟩ (by (first | decide | lia)) fun ln nln t1 hV1 hs1 D1 => r_storeC D1 1 rfl fun t2 D2 => ?_))))))))
  try refine kq _ ?_
  refine seqK fun KQ kq => (wpAny_Assign_Name (r_list (args_nil (in_EEEAA _ _ _ D2 (Nat.le_of_ble_eq_true rfl) (fun ak t3 hV3 hs3 D3 => r_store D3 fun t4 D4 => ?_)))))
  have D4 : Bd g s [] V0 [(ak, lst [] 0), (ln, lst vals nln), (L + 1, cel (some (.ref ln)))] L (upd (upd (upd (fun _ => none) "step" (.int step ts)) "back" (.bool back)) "asked" (.ref ak)) t4 := D4
  generalize hc : (fun j => ((rks.getD j 0 : Nat) : Int)) = r at hQ
  revert r
  refine noBeta ?_
  intro r hc hQ
  try refine kq _ ?_
  refine seqK fun KQ kq => (wpAny_For (Call_ (r_built D4 B B.n_range B.b_range (callWith_type1 (args_cons (r_name D4 rfl (args_nil (range1_ D4 fun rg u1 u2 u3 t5 D5 hrg => ?_))))))))
  refine for_range hA1.h D5 hrg (small_pos (by (first | decide | lia)) (by (first | decide | lia)) (by (first | decide | lia))) (n := step) (by rw [rangeSize_one]; split <;> (first | decide | lia))
    (fun st V' mu' m' => V0.le V' ∧ (∃ items vals' n1 n2, mu' = [(ak, lst items n1), (ln, lst vals' n2), (L + 1, cel (some (.ref ln)))] ∧ NatsAre vals' (dueOf r back step js st).1 ∧ AskI (cut s noV V') items (dueOf r back step js st).2) ∧
      (dueOf r back step js st).1.length = js.length ∧ (∀ j ∈ (dueOf r back step js st).1, j ∈ js) ∧ (dueOf r back step js st).2.length ≤ 40 * st ∧ m' "step" = some (.int step ts) ∧ m' "back" = some (.bool back) ∧ m' "asked" = some (.ref ak))
    (in_AAAAAAA .rfl ((in_EEEEAAA [] vals 0 nln rfl hv rfl (fun i v p e => nomatch e))) rfl (fun j hj => hj) (Nat.le_refl _) rfl rfl rfl) ?_ ?_
  · intro st I tk V' mu' m' o' t' KK hKK hRR hst' hQ1; refine el_AAAAAAA (hQ1) fun le hN1 hl1 hl2 hl3 ms mb ma => ?_; try clear hQ1; refine el_EEEEAA (hN1) fun items vals' n1 n2 hR2 hnv hask => ?_; try clear hN1; subst hR2; intro D'
    have e0 : (0 : Int) + (st : Int) * 1 = (st : Int) := by (first | decide | lia)
    rw [e0]
    generalize hS : dueOf r back step js st = S at hnv hask hl1 hl2 hl3 D'
    revert S
    refine noBeta ?_
    intro S hS hnv hask hl1 hl2 hl3
    have hSl := hnv.1
    refine PyProof.Rows.assign_Name (r_store D' fun t1 D1 => ?_)
    -- the chain
    try refine kq _ ?_
    refine seqK fun KQ kq => ?_
    refine comp_assign (cl := [("line", L + 1)]) ?hsw ?hcl ?hkd ?hnm ?hmain
    case hsw => exact rfl
    case hcl => exact rfl
    case hkd => exact rfl
    case hnm => decide
    refine Call_ (r_built D1 B B.n_range B.b_range (callWith_type1 ?_ (by kernel_rfl) (by kernel_rfl)))
    refine args_cons (r_name D1 rfl (args_cons ?_ (by kernel_rfl))) (by kernel_rfl)
    refine Call_ (r_built D1 B B.n_len B.b_len (callWith_builtin1 (args_cons (r_cell D1 (.tail _ (.tail _ (.tail _ (.head _)))) (args_nil ?_)))))
    refine call_len_list ⟨_, (D1.mus (ln, _) (.tail _ (.tail _ (.head _)))).1, rfl, _, rfl⟩ (by rw [List.size_toArray]; (first | decide | lia)) ?_
    have D2 := D1.tok (t1.toks + 1 + 1)
    refine args_cons (r_name D2 ms (args_nil ?_))
    rw [List.size_toArray, hSl]
    refine range3_ D2 (by (first | decide | lia)) (by (first | decide | lia)) (by (first | decide | lia)) fun rg2 w1 w2 w3 t3 D3 hrg2 => ?_
    refine blk_range B hA1.h D3 hrg2 (small_pos (by (first | decide | lia)) (by (first | decide | lia)) (by (first | decide | lia))) (rangeSize_cnt st S.1.length step hst0) rfl (fun k => by show List.Nodup ([] : List Str); exact List.nodup_nil) (by have := cnt_le (start := st) (n := S.1.length) hst0; (first | decide | lia))
      (fun i _ ys => NatsAre ys ((List.range i).map fun k => S.1.getD (st + k * step) 0)) (fun i V V' ys h _ => h) .nil ?_ ?_
    · intro tt1 s3 I2 acc C i tk2 V2 cm m2 t2 ys nn oI2 K3Dc K4Dc hkk hi hyl hle hJi Dc hK3Dc hK4Dc
      have Dc : Bd g s3 [acc, I2] V2 [(acc, lst ys nn), (I2, oI2)] C m2 t2 := Dc
      have hcell := hle _ _ (D3.muFull (W' := []) (a := L + 1) (.tail _ (.tail _ (.tail _ (.head _)))) List.not_mem_nil)
      have hrw := hle _ _ (D3.muFull (W' := []) (a := ln) (.tail _ (.tail _ (.head _))) List.not_mem_nil)
      have hlt := cnt_lt hi hst0
      refine el_E (hnv.2 _ hlt) fun tk3 hge => ?_
      refine PyProof.Rows.assign_Name (r_store Dc fun t4 D4 => wpAny_tests_nil ?_)
      rw [if_pos rfl]
      refine Subscript_ (r_cellV D4 hcell (r_name D4 rfl (item_list (k := st + i * step) ⟨_, D4.see _ _ hrw, rfl, _, rfl⟩ (by simp) (by (first | decide | lia)) hge ?_)))
      refine hK3Dc _ _ (in_EEEAA V2 cm _ .rfl ?_ D4)
      rw [List.range_succ, List.map_append]
      exact hJi.snoc _ _
    intro ch C ys nch Vf mC tf hJ leF hyl2 hsch hns hVC hCL hCm Df
    refine post_local hns hVC hCL hCm Df rfl rfl fun t6 D6 => ?_
    have hys : NatsAre ys (chainOf S.1 st step) := hJ
    clear hJ
    refine el_EAAA (D6.fix (fun h => nomatch h)) fun V7 le7 hch _ D7 => ?_
    have leT : V'.le V7 := leF.trans le7
    have hcl := chainOf_len S.1 st step
    have hcl2 : (chainOf S.1 st step).length ≤ 20 := by have := cnt_le (start := st) (n := S.1.length) hst0; (first | decide | lia)
    have hcm : ∀ j ∈ chainOf S.1 st step, j < rks.length := fun j hj => hjs j (hl2 j (chainOf_mem hst0 hj))
    have hyl := hys.1
    -- best = -1
    try refine kq _ ?_
    refine seqK fun KQ kq => (wpAny_Assign_Name (wpAny_UnaryOp (r_int D7 fun tkb t7 D7' => neg_int (r_store (D7'.tok (t7.toks + 1)) fun t8 D8 => ?_))))
    have D8 : Bd g s [] V7 [(I, o'), (ak, lst items n1), (ln, lst vals' n2), (L + 1, cel (some (.ref ln)))] L (upd (upd (upd m' "start" (.int st tk)) "chain" (.ref ch)) "best" (.int (-1) t7.toks)) t8 := D8
    -- the list that the scan runs over
    try refine kq _ ?_
    refine seqK fun KQ kq => (wpAny_For (wpAny_mono (Q := fun v t1 => ∃ a zs k V1, v = .ref a ∧ V7.le V1 ∧ V1 a = some (lst zs k) ∧ NatsAre zs (if back then (chainOf S.1 st step).reverse else chainOf S.1 st step) ∧ Bd g s [] V1 [(I, o'), (ak, lst items n1), (ln, lst vals' n2), (L + 1, cel (some (.ref ln)))] L (upd (upd (upd m' "start" (.int st tk)) "chain" (.ref ch)) "best" (.int (-1) t7.toks)) t1) (E := NoE) ?_ (fun v t1 hv1 => ?_) (fun _ _ q => q)))
    · refine wpAny_IfExp (wpAny_isTrue_value (r_name D8 mb (wpAny_truthy_bool ?_)))
      by_cases hb : back = true
      · rw [if_pos hb]
        refine r_rev D8 (fun Q' h => r_name D8 rfl h) (fun t'' D'' => ⟨_, D''.see _ _ hch, rfl, _, rfl⟩) (by (first | decide | lia)) fun rv2 t5 hVr hsr D5 => ?_
        refine el_EAAA (D5.fix (fun h => nomatch h)) fun V6 le6 hrv hsv D6 => ?_
        exact (in_EEEEAAAA rv2 ys.reverse 0 V6 rfl le6 hrv (by rw [if_pos hb]; exact hys.rev) D6)
      · rw [if_neg hb]
        exact r_name D8 rfl (in_EEEEAAAA ch ys nch V7 rfl .rfl hch (by rw [if_neg hb]; exact hys) D8)
    refine el_EEEEAAAA (hv1) fun a zs kz V1 hR3 le8 ha hzs D9 => ?_; try clear hv1; subst hR3
    have hcrm : ∀ j ∈ (if back then (chainOf S.1 st step).reverse else chainOf S.1 st step), j < rks.length := fun j hj => by
      by_cases hb : back = true
      · rw [if_pos hb] at hj; exact hcm j (List.mem_reverse.mp hj)
      · rw [if_neg hb] at hj; exact hcm j hj
    have hcrl : (if back then (chainOf S.1 st step).reverse else chainOf S.1 st step).length = (chainOf S.1 st step).length := by
      by_cases hb : back = true
      · rw [if_pos hb]; exact List.length_reverse
      · rw [if_neg hb]
    have hscan : dueScan r back (chainOf S.1 st step) S.2 = (if back then (chainOf S.1 st step).reverse else chainOf S.1 st step).foldl (dueOne r back) (none, S.2) := rfl
    generalize (if back then (chainOf S.1 st step).reverse else chainOf S.1 st step) = cr at hzs hcrm hcrl hscan
    revert cr
    refine noBeta ?_
    intro cr hzs hcrm hcrl hscan
    have hzl := hzs.1
    refine for_list hA1.h D9 ⟨_, D9.see _ _ ha, rfl, _, rfl⟩ (fun i V' mu' m1 => V1.le V' ∧ (∃ items' n1', mu' = [(I, o'), (ak, lst items' n1'), (ln, lst vals' n2), (L + 1, cel (some (.ref ln)))] ∧ AskI (cut s noV V') items' ((cr.take i).foldl (dueOne r back) (none, S.2)).2) ∧
        (∃ tb, m1 "best" = some (.int (bz ((cr.take i).foldl (dueOne r back) (none, S.2)).1) tb)) ∧ m1 "start" = some (.int st tk) ∧ m1 "step" = some (.int step ts) ∧ m1 "back" = some (.bool back) ∧ m1 "chain" = some (.ref ch) ∧ m1 "asked" = some (.ref ak))
      (in_AAAAAAA .rfl ((in_EEA items n1 rfl (hask.mono (cut_le (leT.trans le8))))) (⟨_, rfl⟩) rfl ms mb rfl ma) (fun i I V' mu' m' o' t' hJ D' => ⟨_, D'.see _ _ (hJ.1 _ _ ha), rfl, _, rfl⟩) ?_ ?_
    · intro i I2 v V' mu' m1 o2 t' KK hKK hRR hv hQ2; refine el_AAAAAAA (hQ2) fun leV hN2 hN3 k1 k2 k3 k4 k5 => ?_; try clear hQ2; refine el_EEA (hN2) fun items' n1' hR4 hask' => ?_; try clear hN2; subst hR4; refine el_E (hN3) fun tb kb => ?_; try clear hN3; intro D'
      refine el_AE (hzs.get hv) fun hi tkp hR5 => ?_; subst hR5
      have hxm : cr.getD i 0 ∈ cr := by rw [List.getD_eq_getElem?_getD, List.getElem?_eq_getElem hi]; exact List.getElem_mem _
      have hxl := hcrm _ hxm
      have hstep : (cr.take (i + 1)).foldl (dueOne r back) (none, S.2) = dueOne r back ((cr.take i).foldl (dueOne r back) (none, S.2)) (cr.getD i 0) := by
        rw [List.take_add_one, List.getElem?_eq_getElem hi, List.foldl_append, List.getD_eq_getElem?_getD, List.getElem?_eq_getElem hi]; rfl
      refine el_A (scan_facts r back (cr.take i) (none, S.2)) fun fa fb => ?_
      have htl : (cr.take i).length ≤ 20 := by rw [List.length_take]; (first | decide | lia)
      generalize hG : (cr.take i).foldl (dueOne r back) (none, S.2) = G at hstep fa fb hask' kb D'
      revert G
      refine noBeta ?_
      intro G hG hstep fa fb hask' kb
      generalize cr.getD i 0 = x at hxm hxl hstep
      revert x
      refine noBeta ?_
      intro x hxm hxl hstep
      have fa' : G.2.length ≤ 1000 := by have : G.2.length ≤ S.2.length + 2 * (cr.take i).length := fa; (first | decide | lia)
      have hial := hask'.1
      refine PyProof.Rows.assign_Name (r_store D' fun t2 D2 => ?_)
      try refine kq _ ?_
      refine seqK fun KQ kq => (wpAny_Expr (methodCall_KW (r_name D2 k5 (getMethod_list_of PySem.F.slot_list_append PySem.F.type_list_append ⟨_, (D2.mus (ak, _) (.tail _ (.tail _ (.head _)))).1, rfl, _, rfl⟩ ⟨_, (D2.mus (ak, _) (.tail _ (.tail _ (.head _)))).1, rfl⟩
        (callWith_builtin rfl (evalArgs_plain (args_cons (r_tuple (args_cons (r_name D2 rfl (args_cons (r_name D2 rfl (args_nil (in_EEEAA _ _ _ D2 (Nat.le_of_ble_eq_true rfl) (fun tr V3 t3 le3 ht3 hV3 hs3 D3 => args_nil ?_)))))))))))))))
      refine list_append_ D3 2 rfl (by (first | decide | lia)) fun n' t4 D4 => ?_
      have hask3 : AskI (cut s noV V3) (items' ++ [.ref tr]) (G.2 ++ [(x, x)]) := (hask'.mono (cut_le le3)).snoc (cut_new hs3 ht3)
      have D4 : Bd g s [] V3 [(I2, o2), (I, o'), (ak, lst (items' ++ [.ref tr]) n'), (ln, lst vals' n2), (L + 1, cel (some (.ref ln)))] L (upd m1 "place" (.int x tkp)) t4 := D4
      cases hb : G.1 with
      | none =>
        rw [hb] at kb
        have hd1 : dueOne r back G x = (some x, G.2 ++ [(x, x)]) := by unfold dueOne; rw [hb]
        try refine kq _ ?_
        refine wpAny_execs_cons (wpAny_If (wpAny_isTrue_Compare1 (r_name D4 kb (r_int D4 fun tk4 t5 D5 => ge_int (wpAny_truthy_bool ?_)))))
        rw [if_neg (by decide)]
        try refine kq _ ?_
        refine wpAny_execs_nil ?_
        try refine kq _ ?_
        refine wpAny_execs_cons (wpAny_If (wpAny_isTrue_BoolOp (wpAny_allTrue_Or_cons (wpAny_isTrue_Compare1 (r_name D5 kb (r_int D5 fun tk5 t6 D6 => lt_int (wpAny_truthy_bool ?_)))))))
        rw [if_pos (by decide)]
        try refine kq _ ?_
        refine seqK fun KQ kq => (wpAny_Assign_Name (r_name D6 rfl (r_store D6 fun t7 D7 => kq _ <| wpAny_execs_nil (wpAny_execs_nil ?_))))
        refine hKK _ (in_EEEA V3 ([(I, o'), (ak, lst (items' ++ [.ref tr]) n'), (ln, lst vals' n2), (L + 1, cel (some (.ref ln)))]) (upd (upd m1 "place" (.int x tkp)) "best" (.int x tkp)) ((in_AAAAAAA (leV.trans le3) ((in_EEA _ n' rfl ?_)) (⟨tkp, ?_⟩) k1 k2 k3 k4 k5)) D7)
        · rw [hstep, hd1]; exact hask3
        · rw [hstep, hd1]; rfl
      | some y =>
        rw [hb] at kb
        have hyl : y < rks.length := by
          rcases fb y hb with h | h
          · exact hcrm _ (List.mem_of_mem_take h)
          · cases h
        have kb4 : upd m1 "place" (.int x tkp) "best" = some (.int (y : Int) tb) := kb
        have k54 : upd m1 "place" (.int x tkp) "asked" = some (.ref ak) := k5
        have k34 : upd m1 "place" (.int x tkp) "back" = some (.bool back) := k3
        have kp4 : upd m1 "place" (.int x tkp) "place" = some (.int x tkp) := rfl
        have leX := (((le.trans leT).trans le8).trans leV).trans le3
        have hrV := leX _ _ hrl
        have hcV := leX _ _ hcr
        have hd1 : dueOne r back G x = (if (if back then r x ≤ r y else r y ≤ r x) then some x else some y, G.2 ++ [(x, x)] ++ [(y, x)]) := by unfold dueOne; rw [hb]
        refine el_E (hr.2 _ hxl) fun tx hgx => ?_
        refine el_E (hr.2 _ hyl) fun ty hgy => ?_
        have erx : ((rks.getD x 0 : Nat) : Int) = r x := by rw [← hc]
        have ery : ((rks.getD y 0 : Nat) : Int) = r y := by rw [← hc]
        rw [erx] at hgx
        rw [ery] at hgy
        try refine kq _ ?_
        refine wpAny_execs_cons (wpAny_If (wpAny_isTrue_Compare1 (r_name D4 kb4 (r_int D4 fun tk4 t5 D5 => ge_int (wpAny_truthy_bool ?_)))))
        rw [if_pos (by simp [bz])]
        try refine kq _ ?_
        refine seqK fun KQ kq => (wpAny_Expr (methodCall_KW (r_name D5 k54 (getMethod_list_of PySem.F.slot_list_append PySem.F.type_list_append ⟨_, (D5.mus (ak, _) (.tail _ (.tail _ (.head _)))).1, rfl, _, rfl⟩ ⟨_, (D5.mus (ak, _) (.tail _ (.tail _ (.head _)))).1, rfl⟩
          (callWith_builtin rfl (evalArgs_plain (args_cons (r_tuple (args_cons (r_name D5 kb4 (args_cons (r_name D5 kp4 (args_nil (in_EEEAA _ _ _ D5 (Nat.le_of_ble_eq_true rfl) (fun tr2 V6 t6 le6 ht6 hV6 hs6 D6 => args_nil ?_)))))))))))))))
        refine list_append_ D6 2 rfl (by rw [List.length_append, List.length_singleton]; (first | decide | lia)) fun n'' t7 D7 => kq _ <| wpAny_execs_nil ?_
        have hask6 : AskI (cut s noV V6) (items' ++ [.ref tr] ++ [.ref tr2]) (G.2 ++ [(x, x)] ++ [(y, x)]) := (hask3.mono (cut_le le6)).snoc (cut_new hs6 ht6)
        have D7 : Bd g s [] V6 [(I2, o2), (I, o'), (ak, lst (items' ++ [.ref tr] ++ [.ref tr2]) n''), (ln, lst vals' n2), (L + 1, cel (some (.ref ln)))] L (upd m1 "place" (.int x tkp)) t7 := D7
        have hrV6 := le6 _ _ hrV
        have hcV6 := le6 _ _ hcV
        have fin : ∀ (b : Bool) t8, Bd g s [] V6 [(I2, o2), (I, o'), (ak, lst (items' ++ [.ref tr] ++ [.ref tr2]) n''), (ln, lst vals' n2), (L + 1, cel (some (.ref ln)))] L (upd m1 "place" (.int x tkp)) t8 → (b = true ↔ (if back then r x ≤ r y else r y ≤ r x)) → ∃ V'' mu'' m'', (V1.le V'' ∧ (∃ items' n1', mu'' = [(I, o'), (ak, lst items' n1'), (ln, lst vals' n2), (L + 1, cel (some (.ref ln)))] ∧ AskI (cut s noV V'') items' ((cr.take (i + 1)).foldl (dueOne r back) (none, S.2)).2) ∧
            (∃ tb, m'' "best" = some (.int (bz ((cr.take (i + 1)).foldl (dueOne r back) (none, S.2)).1) tb)) ∧ m'' "start" = some (.int st tk) ∧ m'' "step" = some (.int step ts) ∧ m'' "back" = some (.bool back) ∧ m'' "chain" = some (.ref ch) ∧ m'' "asked" = some (.ref ak)) ∧ (∀ t9, (b = true → Bd g s [] V6 [(I2, o2), (I, o'), (ak, lst (items' ++ [.ref tr] ++ [.ref tr2]) n''), (ln, lst vals' n2), (L + 1, cel (some (.ref ln)))] L (upd (upd m1 "place" (.int x tkp)) "best" (.int x tkp)) t9) → (b = false → Bd g s [] V6 [(I2, o2), (I, o'), (ak, lst (items' ++ [.ref tr] ++ [.ref tr2]) n''), (ln, lst vals' n2), (L + 1, cel (some (.ref ln)))] L (upd m1 "place" (.int x tkp)) t9) → Bd g s [] V'' ((I2, o2) :: mu'') L m'' t9) := by
          intro b t8 D8 hbc
          cases b with
          | true =>
            refine (in_EEEA V6 ([(I, o'), (ak, lst (items' ++ [.ref tr] ++ [.ref tr2]) n''), (ln, lst vals' n2), (L + 1, cel (some (.ref ln)))]) (upd (upd m1 "place" (.int x tkp)) "best" (.int x tkp)) ((in_AAAAAAA ((leV.trans le3).trans le6) ((in_EEA _ n'' rfl ?_)) (⟨tkp, ?_⟩) k1 k2 k3 k4 k5)) (fun t9 h1 _ => h1 rfl))
            · rw [hstep, hd1]; exact hask6
            · rw [hstep, hd1, if_pos (hbc.mp rfl)]; rfl
          | false =>
            refine (in_EEEA V6 ([(I, o'), (ak, lst (items' ++ [.ref tr] ++ [.ref tr2]) n''), (ln, lst vals' n2), (L + 1, cel (some (.ref ln)))]) (upd m1 "place" (.int x tkp)) ((in_AAAAAAA ((leV.trans le3).trans le6) ((in_EEA _ n'' rfl ?_)) (⟨tb, ?_⟩) k1 k2 k3 k4 k5)) (fun t9 _ h1 => h1 rfl))
            · rw [hstep, hd1]; exact hask6
            · rw [hstep, hd1, if_neg (fun h => Bool.false_ne_true (hbc.mpr h))]; exact kb
        try refine kq _ ?_
        refine wpAny_execs_cons (wpAny_If (wpAny_isTrue_BoolOp (wpAny_allTrue_Or_cons (wpAny_isTrue_Compare1 (r_name D7 kb4 (r_int D7 fun tk5 t8 D8 => lt_int (wpAny_truthy_bool ?_)))))))
        rw [if_neg (by simp [bz])]
        refine wpAny_allTrue_Or_cons (isTrue_IfExp (wpAny_isTrue_value (r_name D8 k34 (wpAny_truthy_bool ?_))))
        by_cases hbk : back = true
        · rw [if_pos hbk]
          refine wpAny_isTrue_Compare1 (Subscript_ (r_cellV D8 hcV6 (r_name D8 kp4 (item_list (k := x) ⟨_, D8.see _ _ hrV6, rfl, _, rfl⟩ rfl (by (first | decide | lia)) hgx ?_))))
          refine Subscript_ (r_cellV D8 hcV6 (r_name D8 kb4 (item_list (k := y) ⟨_, D8.see _ _ hrV6, rfl, _, rfl⟩ rfl (by (first | decide | lia)) hgy (le_int (wpAny_truthy_bool ?_)))))
          refine el_EEEA (fin (decide (r x ≤ r y)) t8 D8 (by simp [hbk])) fun V9 mu9 m9 hJ9 hD9 => ?_
          by_cases hcmp : r x ≤ r y
          · rw [if_pos (by simpa using hcmp)]
            try refine kq _ ?_
            refine seqK fun KQ kq => (wpAny_Assign_Name (r_name D8 kp4 (r_store D8 fun t9 D9 => kq _ <| wpAny_execs_nil (wpAny_execs_nil ?_))))
            exact hKK _ (in_EEEA V9 mu9 m9 hJ9 (hD9 t9 (fun _ => D9) (fun h => absurd hcmp (by simpa using h))))
          · rw [if_neg (by simpa using hcmp)]
            refine wpAny_allTrue_Or_nil (wpAny_execs_nil (wpAny_execs_nil ?_))
            exact hKK _ (in_EEEA V9 mu9 m9 hJ9 (hD9 t8 (fun h => absurd (by simpa using h) hcmp) (fun _ => D8)))
        · rw [if_neg hbk]
          refine wpAny_isTrue_Compare1 (Subscript_ (r_cellV D8 hcV6 (r_name D8 kp4 (item_list (k := x) ⟨_, D8.see _ _ hrV6, rfl, _, rfl⟩ rfl (by (first | decide | lia)) hgx ?_))))
          refine Subscript_ (r_cellV D8 hcV6 (r_name D8 kb4 (item_list (k := y) ⟨_, D8.see _ _ hrV6, rfl, _, rfl⟩ rfl (by (first | decide | lia)) hgy (ge_int (wpAny_truthy_bool ?_)))))
          refine el_EEEA (fin (decide (r y ≤ r x)) t8 D8 (by simp [hbk])) fun V9 mu9 m9 hJ9 hD9 => ?_
          by_cases hcmp : r y ≤ r x
          · rw [if_pos (by simpa using hcmp)]
            try refine kq _ ?_
            refine seqK fun KQ kq => (wpAny_Assign_Name (r_name D8 kp4 (r_store D8 fun t9 D9 => kq _ <| wpAny_execs_nil (wpAny_execs_nil ?_))))
            exact hKK _ (in_EEEA V9 mu9 m9 hJ9 (hD9 t9 (fun _ => D9) (fun h => absurd hcmp (by simpa using h))))
          · rw [if_neg (by simpa using hcmp)]
            refine wpAny_allTrue_Or_nil (wpAny_execs_nil (wpAny_execs_nil ?_))
            exact hKK _ (in_EEEA V9 mu9 m9 hJ9 (hD9 t8 (fun h => absurd (by simpa using h) hcmp) (fun _ => D8)))
    · intro V' mu' m1 t' hQ3; refine el_AAAAAAA (hQ3) fun leV hN4 hN5 k1 k2 k3 k4 k5 => ?_; try clear hQ3; refine el_EEA (hN4) fun items' n1' hR6 hask' => ?_; try clear hN4; subst hR6; refine el_E (hN5) fun tb kb => ?_; try clear hN5; intro D'
      rw [hzl, List.take_of_length_le (Nat.le_refl _), ← hscan] at hask'
      have leX := ((le.trans leT).trans le8).trans leV
      have hchV := (le8.trans leV) _ _ hch
      have hrV := leX _ _ hrl
      have hcV := leX _ _ hcr
      have hsl := dueSort_len r (chainOf S.1 st step)
      try refine kq _ ?_
      refine seqK fun KQ kq => (wpAny_Assign_Name (wpAny_Call_Name_kw (r_built D' B B.n_sorted B.b_sorted (callWith_kw (args_cons (r_name D' k4 (args_nil ?_)))))))
      refine kwAll_cons (r_lambda (q := qD) D' B (c := 130) (P := 128) (by decide) (by decide) rfl (by show (F131.qualname ++ ".<locals>.") ++ "<lambda>" = qD; decide) rfl rfl rfl fun f c' pm ctv V3 t7 le3 hf hc' hsf D7 => kwAll_nil ?_)
      refine sorted_key (n0 := 0) (κ := fun i => r ((chainOf S.1 st step).getD i 0)) D7 ⟨_, D7.see _ _ (le3 _ _ hchV), rfl, _, rfl⟩ (by (first | decide | lia)) ?_ ?_
      · have := due_key (prog := prog) (A := A1.in1.in1) (s₀ := s) (W := []) (L := L) (m := m1) B (d := 0) ((hA1.le (show 3 ≤ 13 by (first | decide | lia))).in1.in1) hf hc' (le3 _ _ hcV) (le3 _ _ hrV) hr hys hcm hrk
        rw [← hc]
        exact this
      intro so nso t8 hVso hsso D8
      have hso : NatsAre ((ordI (fun i => r ((chainOf S.1 st step).getD i 0)) ys.length).map fun i => ys.getD i .none) (dueSort r (chainOf S.1 st step)) := by
        rw [hyl]
        exact hys.pick (fun i hi => List.mem_range.mp ((ordI_perm _ _).mem_iff.mp hi))
      have hsm : ∀ j ∈ dueSort r (chainOf S.1 st step), j ∈ chainOf S.1 st step := fun j hj => dueSort_mem hj
      generalize ((ordI (fun i => r ((chainOf S.1 st step).getD i 0)) ys.length).map fun i => ys.getD i .none) = svals at hso D8
      revert svals
      refine noBeta ?_
      intro svals hso D8
      have hscl : (dueScan r back (chainOf S.1 st step) S.2).2.length ≤ S.2.length + 2 * (chainOf S.1 st step).length := by
        have := (scan_facts r back cr (none, S.2)).1
        rw [← hscan, hcrl] at this
        exact this
      generalize hSO : dueSort r (chainOf S.1 st step) = SO at hso hsm hsl
      revert SO
      refine noBeta ?_
      intro SO hSO hso hsm hsl
      have hsvl := hso.1
      refine r_store D8 fun t9 D9 => ?_
      try refine kq _ ?_
      refine seqK fun KQ kq => (wpAny_For (Call_ (r_built D9 B B.n_range B.b_range (callWith_type1 (args_cons (Call_ (r_built D9 B B.n_len B.b_len (callWith_builtin1 (args_cons (r_name D9 rfl (args_nil ?_)))))) (by kernel_rfl)) (by kernel_rfl) (by kernel_rfl)))))
      refine call_len_list ⟨_, (D9.mus _ (.head _)).1, rfl, _, rfl⟩ (by rw [List.size_toArray]; (first | decide | lia)) ?_
      have D10 := D9.tok (t9.toks + 1 + 1)
      refine args_nil (range1_ D10 fun rg3 w4 w5 w6 t2 D11 hrg3 => ?_)
      rw [List.size_toArray, hsvl] at hrg3
      refine for_range hA1.h D11 hrg3 (small_pos (by (first | decide | lia)) (by (first | decide | lia)) (by (first | decide | lia))) (n := SO.length) (by rw [rangeSize_one]; split <;> (first | decide | lia))
        (fun k V' mu' m2 => V3.le V' ∧ (∃ n4 vals2, mu' = [(so, lst svals nso), (I, o'), (ak, lst items' n1'), (ln, lst vals2 n4), (L + 1, cel (some (.ref ln)))] ∧ NatsAre vals2 (putChain S.1 st step SO k)) ∧
          m2 "start" = some (.int st tk) ∧ m2 "step" = some (.int step ts) ∧ m2 "back" = some (.bool back) ∧ m2 "chain" = some (.ref so) ∧ m2 "asked" = some (.ref ak))
        (in_AAAAAA .rfl ((in_EEA n2 vals' rfl hnv)) k1 k2 k3 rfl k5) ?_ ?_
      · intro k Ik tkk V' mu' m2 ok t' KK hKK hRR hk' hQ4; refine el_AAAAAA (hQ4) fun leK hN6 k1 k2 k3 k4 k5 => ?_; try clear hQ4; refine el_EEA (hN6) fun n4 vals2 hR7 hn2 => ?_; try clear hN6; subst hR7; intro D'
        have ek : (0 : Int) + (k : Int) * 1 = (k : Int) := by (first | decide | lia)
        rw [ek]
        have hkc : k < cnt st S.1.length step := by rw [← hcl, ← hsl]; exact hk'
        have hlt := cnt_lt hkc hst0
        have hpc := putChain_len S.1 st step SO k
        have hpv := hn2.1
        refine PyProof.Rows.assign_Name (r_store D' fun t3 D15 => ?_)
        refine el_E (hso.2 k hk') fun tks hge => ?_
        try refine kq _ ?_
        refine seqK fun KQ kq => (wpAny_Assign_Subscript (Subscript_ (r_name D15 k4 (r_name D15 rfl (item_list (k := k) ⟨_, (D15.mus (so, _) (.tail _ (.head _))).1, rfl, _, rfl⟩ rfl (by (first | decide | lia)) hge ?_)))))
        refine r_cell D15 (.tail _ (.tail _ (.tail _ (.tail _ (.tail _ (.head _)))))) (wpAny_BinOp (r_name D15 k1 (wpAny_BinOp (r_name D15 rfl (r_name D15 k2 (mul_int (add_int ?_) (IntMulOk.of_left (intBits_le_64 (by (first | decide | lia)) (by (first | decide | lia))))))))))
        refine list_set_ (D15.tok _) 4 (k := st + k * step) rfl (by push_cast; rfl) (by (first | decide | lia)) (by (first | decide | lia)) fun n5 t4 D16 => kq _ <| wpAny_execs_nil ?_
        refine hKK _ (in_EEEA V' ([(so, lst svals nso), (I, o'), (ak, lst items' n1'), (ln, lst (vals2.set (st + k * step) (.int ((SO.getD k 0 : Nat) : Int) tks)) n5), (L + 1, cel (some (.ref ln)))]) (upd m2 "k" (.int k tkk)) ((in_AAAAAA leK ((in_EEA n5 _ rfl ?_)) k1 k2 k3 k4 k5)) D16)
        have eput : putChain S.1 st step SO (k + 1) = (putChain S.1 st step SO k).set (st + k * step) (SO.getD k 0) := by
          unfold putChain
          rw [List.range_succ, List.foldl_append, List.foldl_cons, List.foldl_nil]
        rw [eput]
        exact hn2.set _ _ _
      · intro V' mu' m2 t' hQ5; refine el_AAAAAA (hQ5) fun leK hN7 k1 k2 k3 k4 k5 => ?_; try clear hQ5; refine el_EEA (hN7) fun n4 vals2 hR8 hn2 => ?_; try clear hN7; subst hR8; intro D'
        have D17 := D'.drop (n := t'.toks) (h' := t'.heap) (fun b o _ e => e) (fun h => nomatch h)
        have hdue : dueOf r back step js (st + 1) = (putChain S.1 st step SO SO.length, (dueScan r back (chainOf S.1 st step) S.2).2) := by
          unfold dueOf
          rw [List.range_succ, List.foldl_append, List.foldl_cons, List.foldl_nil]
          have hS' := hS
          unfold dueOf at hS'
          rw [hS']
          unfold dueStep
          rw [hSO]
        try refine kq _ ?_
        refine wpAny_execs_nil (hKK _ (in_EEEA V' ([(ak, lst items' n1'), (ln, lst vals2 n4), (L + 1, cel (some (.ref ln)))]) m2 ?_ ?_))
        · rw [hdue]
          refine (in_AAAAAAA ((leX.trans le3).trans leK) ((in_EEEEAA items' vals2 n1' n4 rfl hn2 (hask'.mono (cut_le (le3.trans leK))))) ?_ ?_ ?_ k2 k3 k5)
          · rw [putChain_len]; exact hl1
          · intro j hj
            rcases putChain_mem hj (Nat.le_refl _) with h | h
            · exact hl2 j h
            · exact hl2 j (chainOf_mem hst0 (hsm j h))
          · show (dueScan r back (chainOf S.1 st step) S.2).2.length ≤ _
            (first | decide | lia)
        · exact D17
  · intro V' mu' m' t' hQ6; refine el_AAAAAAA (hQ6) fun le hN8 hl1 hl2 hl3 ms mb ma => ?_; try clear hQ6; refine el_EEEEAA (hN8) fun items vals' n1 n2 hR9 hnv hask => ?_; try clear hN8; subst hR9; intro D'
    try refine kq _ ?_
    refine wpAny_execs_cons (wpAny_Return_some (r_tuple (args_cons (r_cell D' (.tail _ (.tail _ (.head _))) (args_cons (r_name D' ma (args_nil (in_EEEAA _ _ _ D' (Nat.le_of_ble_eq_true rfl) (fun tr V1 t1 le1 htr hVn hsn D1 => ?_)))))))))
    have z0 := D1.mus _ (.head _)
    have z1 := D1.mus _ (.tail _ (.head _))
    have hh := hQ tr ln ak vals' items n2 n1 t1 D1.st hnv (fun V'' fr => (in_AAA (fr _ _ (D1.see _ _ htr) hsn) (fr _ _ z1.1 (z1.2.2.2.2.resolve_left (fun h => nomatch h))) (fr _ _ z0.1 (z0.2.2.2.2.resolve_left (fun h => nomatch h))) (hask.mono fun b o e => ?_)))
    · exact hh
    unfold cut at e
    split at e
    · rename_i q; exact fr _ _ (D1.see _ _ (le1 _ _ e)) q
    · cases e
end
end Mine
end

section
open PySem PySem.W PyProof.Rows PySem.Calls
set_option Elab.async false
set_option linter.unusedVariables false
namespace Mine
set_option maxRecDepth 100000

theorem tri_at0 {α : Type} (l : List α) (a b c : α) : (l ++ [a, b, c])[l.length]? = some a := by simp
theorem tri_at1 {α : Type} (l : List α) (a b c : α) : (l ++ [a, b, c])[l.length + 1]? = some b := by simp
theorem tri_at2 {α : Type} (l : List α) (a b c : α) : (l ++ [a, b, c])[l.length + 2]? = some c := by simp
theorem tri_set0 {α : Type} (l : List α) (a b c d : α) : (l ++ [a, b, c]).set l.length d = l ++ [d, b, c] := by simp
theorem tri_set1 {α : Type} (l : List α) (a b c d : α) : (l ++ [a, b, c]).set (l.length + 1) d = l ++ [a, d, c] := by
  rw [List.set_append_right _ _ (by (exact Nat.le_add_right _ _))]; congr 1; rw [Nat.add_sub_cancel_left]; rfl
theorem tri_set2 {α : Type} (l : List α) (a b c d : α) : (l ++ [a, b, c]).set (l.length + 2) d = l ++ [a, b, d] := by
  rw [List.set_append_right _ _ (by (exact Nat.le_add_right _ _))]; congr 1; rw [Nat.add_sub_cancel_left]; rfl

noncomputable abbrev enO (it : Addr) (i : Int) (old : Value) : Obj := { cls := .type "enumerate", dict := none, data := .fields #[.none, .bool false, .ref it, rawInt i, .none, old], slots := #[] }

section
variable {prog : Program} {w : World} {mg mb : Str → Option Value} {A : Around} {E : Value → Shared → Prop} {g : Heap} {s₀ t : Shared} {W : List Addr} {V : View} {mu : List (Addr × Obj)} {m : Str → Option Value} {env : Env}

theorem enum_block {e it l : Addr} {oI : Obj} {xs : List Value} {elt iter : PySem.Expr} {tes : List PySem.Expr} {tk0 : Nat} {tp : Pos} {ifs : List PySem.Expr} {scope : Scope} {cl : List (Str × Addr)} {pos : Pos} {use : Option (Value → Sem Unit)} {Q : Value → Shared → Prop}
    (B : Bs w mg mb g) (hh : A.handled = none) (D : Bd g s₀ W V ((e, enO it 0 .none) :: (it, oI) :: mu) env.locals m t) (hI : litSt l 0 oI) (heW : e ∉ W) (hiW : it ∉ W) (hl : ∃ nl, t.heap.get? l = some (lst xs nl)) (hle : l ≠ e) (hli : l ≠ it) (hkind : scope.kind = .function) (hown : ∀ k, ((cellsFrom k scope.names []).map (·.1)).Nodup)
    (hn : xs.length < 100000)
    (J : Nat → View → List Value → Prop) (hJ : ∀ i V V' ys, J i V ys → V.le V' → J i V' ys) (h0 : J 0 V [])
    (turn : ∀ (s3 : Shared) (acc C : Addr) i v T tk V' cm m' t' ys n' oE oI' (K : Value → Shared → Prop) (K2 : Shared → Prop), i < xs.length → xs[i]? = some v → ys.length ≤ i → (∀ b o, t.heap.get? b = some o → s3.heap.get? b = some o) → (fullV t [e, it]).le V' → V' T = some (tup [.int (i : Int) tk, v] 0) → J i (cut t V V') ys →
      Bd g s3 [acc, e, it] V' (celMu (cellsFrom (C + 1) scope.names []) cm ++ [(acc, lst ys n'), (e, oE), (it, oI')]) C m' t' →
      (∀ y t4, (∃ V'' cm' m'', V'.le V'' ∧ J (i + 1) (cut t V V'') (ys ++ [y]) ∧ Bd g s3 [acc, e, it] V'' (celMu (cellsFrom (C + 1) scope.names []) cm' ++ [(acc, lst ys n'), (e, oE), (it, oI')]) C m'' t4) → K y t4) →
      (∀ t3, (∃ V'' cm' m'', V'.le V'' ∧ J (i + 1) (cut t V V'') ys ∧ Bd g s3 [acc, e, it] V'' (celMu (cellsFrom (C + 1) scope.names []) cm' ++ [(acc, lst ys n'), (e, oE), (it, oI')]) C m'' t3) → K2 t3) →
      wpAny (model prog w) A (assign (.Tuple tes tk0 tp) (cEnv scope (cellsFrom (C + 1) scope.names cl) C env) (.ref T)) (fun _ t2 => wpAny (model prog w) A (cTests ifs (cEnv scope (cellsFrom (C + 1) scope.names cl) C env)) (fun ok t3 =>
        if ok = true then wpAny (model prog w) A (eval elt (cEnv scope (cellsFrom (C + 1) scope.names cl) C env)) K NoE t3 else K2 t3) NoE t2) NoE t')
    (fin : ∀ acc C ys n' V' mC t', J xs.length V' ys → V.le V' → ys.length ≤ xs.length → s₀.heap.get? acc = none → t'.heap.Ns C mC → V' C = none → C ≠ env.locals → C ∉ acc :: mu.map (·.1) → Bd g s₀ W V' ((acc, lst ys n') :: mu) env.locals m t' → compPost (model prog w) A E use Q (.ref acc) C (.ok .next) t') :
    Blk prog w A E elt (.Tuple tes tk0 tp) iter ifs scope cl pos env use Q (.ref e) t := by
  unfold Blk
  refine wpAny_newObj_type ?_ (by size_fits)
  generalize hacc : t.heap.objs.size = acc
  revert acc
  refine noBeta ?_
  intro acc hacc
  have hzt : t.heap.get? acc = none := by rw [← hacc]; exact get_size t.heap
  have D3 := D.newMu (a := acc) (n := t.toks) (o := lst [] 0) hzt (by rw [← hacc]; exact Heap.get?_push_size _ rfl) (fun b o e => Heap.get?_push_of_some _ e) rfl
  generalize hs3 : ({ t with heap := t.heap.push (lst [] 0) } : Shared) = s3 at D3
  revert s3
  refine noBeta ?_
  intro s3 hs3 D3
  have s3t : ∀ b o, t.heap.get? b = some o → s3.heap.get? b = some o := fun b o e => by rw [← hs3]; exact Heap.get?_push_of_some _ e
  have zA := D3.mus _ (.head _)
  have zE := D3.mus _ (.tail _ (.head _))
  have zI := D3.mus _ (.tail _ (.tail _ (.head _)))
  have nd3 := D3.nd
  have nd3' := nd3
  rw [List.map_cons, List.map_cons, List.map_cons, List.nodup_cons, List.nodup_cons, List.nodup_cons] at nd3'
  refine el_AAA (nd3') fun n1 n2 n3 _ => ?_; try clear nd3'
  have haE : acc ≠ e := fun q => n1 (by rw [q]; exact .head _)
  have haI : acc ≠ it := fun q => n1 (by rw [q]; exact .tail _ (.head _))
  have hei : e ≠ it := fun q => n2 (by show e ∈ it :: _; rw [q]; exact .head _)
  have hnd2 : (List.map (fun x => x.1) [(acc, lst [] 0), (e, enO it 0 .none), (it, oI)]).Nodup := by
    simp only [List.map_cons, List.map_nil, List.nodup_cons, List.mem_cons, List.not_mem_nil, not_false_iff, List.nodup_nil, and_true, or_false, not_or]
    exact ⟨⟨haE, haI⟩, hei⟩
  have gO : ∀ {p : Addr × Obj}, p ∈ (acc, lst [] 0) :: (e, enO it 0 .none) :: (it, oI) :: mu → g.get? p.1 = none := fun hp => D3.notG hp
  refine newEnv_bd (mu := [(acc, lst [] 0), (e, enO it 0 .none), (it, oI)]) D3.wd B.noT (fun p hp => ?_) hnd2 hkind hown (fun _ _ h => nomatch h) fun C t4 hC hlt D4 => ?_
  · rcases List.mem_cons.mp hp with rfl | hp
    · exact (in_AA zA.1 zA.2.2.2.1 (gO (.head _)))
    · rcases List.mem_cons.mp hp with rfl | hp
      · exact (in_AA zE.1 zE.2.2.2.1 (gO (.tail _ (.head _))))
      · obtain rfl := List.mem_singleton.mp hp
        exact (in_AA zI.1 zI.2.2.2.1 (gO (.tail _ (.tail _ (.head _)))))
  have D4 : Bd g s3 [acc, e, it] (fullV s3 [acc, e, it]) (celMu (cellsFrom (C + 1) scope.names []) (bindC (fun y => scope.names.lookup y) [] fun _ => none) ++ [(acc, lst [] 0), (e, enO it 0 .none), (it, oI)]) C (bindL (fun y => scope.names.lookup y) [] fun _ => none) t4 := D4
  have s3b : ∀ b, b ≠ acc → t.heap.get? b = none → s3.heap.get? b = none := fun b hb e => by
    rw [← hs3]; show (t.heap.push (lst [] 0)).get? b = none; rw [get_push_ne _ _ (by rw [hacc]; exact hb)]; exact e
  have hV0 : cut t V (fullV s3 [acc, e, it]) = V := by
    funext b
    unfold cut
    split
    · rename_i q
      have e1 : V b = none := by
        cases e : V b with
        | none => rfl
        | some o => rw [D.see _ _ e] at q; cases q
      rw [e1]
      by_cases hb : b = acc
      · exact (fullV_sub s3 _).offW b (by rw [hb]; exact .head _)
      · cases ee : fullV s3 [acc, e, it] b with
        | none => rfl
        | some o => have := (fullV_sub s3 _).see _ _ ee; rw [s3b b hb q] at this; cases this
    · rfl
  have hle0 : (fullV t [e, it]).le (fullV s3 [acc, e, it]) := fun b o e => by
    have e1 := (fullV_sub t _).see _ _ e
    refine fullV_get (s3t _ _ e1) (fun h => ?_) (fun h => by rw [(fullV_sub t _).offT b h] at e; cases e)
    rcases List.mem_cons.mp h with q | h
    · rw [q, hzt] at e1; cases e1
    · rw [(fullV_sub t _).offW b h] at e; cases e
  have hCt : t.heap.get? C = none := by
    cases e : t.heap.get? C with
    | none => rfl
    | some o => rw [s3t _ _ e] at hC; cases hC
  refine el_E (hl) fun nl hl => ?_
  have hlT : l ∉ TT := fun h => by
    refine el_E (D.st.tab.get h) fun ps e => ?_
    rw [hl] at e; cases e
  have hlV : fullV t [e, it] l = some (lst xs nl) := fullV_get hl (fun h => by
    rcases List.mem_cons.mp h with q | h
    · exact hle q
    · exact hli (List.mem_singleton.mp h)) hlT
  have loop : codeAny (model prog w) A (.compLoop (.ListComp elt [⟨.Tuple tes tk0 tp, iter, ifs, 0⟩] scope pos) 0 (.ref e) (.ref acc) (cEnv scope (cellsFrom (C + 1) scope.names cl) C env)) (compPost (model prog w) A E use Q (.ref acc) C) t4 := by
    refine el_EA (hide2 (fun k t' => ∃ i V' cm m' ys n' old oI', k = xs.length - i ∧ i ≤ xs.length ∧ ys.length ≤ i ∧ (fullV t [e, it]).le V' ∧ J i (cut t V V') ys ∧ litSt l i oI' ∧
      Bd g s3 [acc, e, it] V' (celMu (cellsFrom (C + 1) scope.names []) cm ++ [(acc, lst ys n'), (e, enO it (i : Int) old), (it, oI')]) C m' t')) fun J9 Ji Je => ?_
    refine codeAny_compLoop_any J9 ?_ xs.length (Ji _ _ (in_EEEEEEEEAAAAAA 0 _ _ _ [] 0 .none oI rfl (Nat.zero_le _) (Nat.le_refl _) hle0 (by rw [hV0]; exact h0) hI D4))
    intro k t' K3 K4 hj hK3 hK4
    refine el_EEEEEEEEAAAAAA (Je _ _ hj) fun i V' cm m' ys n' old oI' hR1 hi hyl leV' hJi hS D' => ?_; subst hR1
    have zE' := D'.mus (e, enO it (i : Int) old) (List.mem_append_right _ (.tail _ (.head _)))
    have zI' := D'.mus (it, oI') (List.mem_append_right _ (.tail _ (.tail _ (.head _))))
    have zA' := D'.mus (acc, lst ys n') (List.mem_append_right _ (.head _))
    have hl' : t'.heap.IsList l xs.toArray := ⟨_, D'.see _ _ (leV' _ _ hlV), rfl, _, rfl⟩
    have hit' : t'.heap.IsListIter it l i := ⟨_, zI'.1, hS.1, hS.2⟩
    by_cases hlt : i < xs.length
    · refine wpAny_pyNext_enum_item (x := xs[i]) zE'.1 hit' hl' (by simp [hlt]) hei fun h1 heo hit1 hT1 hsz1 hk1 => ?_
      refine wpAny_letOwnedTupleGo_enum heo fun h2 he2 hs2 => ?_
      replace hs2 : Heap.SameBut e h1 h2 := hs2
      have zEl : e < t'.heap.objs.size := Heap.lt_size zE'.1
      refine el_EAA (hit1) fun o1 eo1 ec1 ed1 => ?_; try clear hit1
      have keep2 : ∀ b o, b ≠ e → b ≠ it → t'.heap.get? b = some o → h2.get? b = some o := fun b o h1 h3 e4 => (hs2.2 b h1).trans (hk1 b o h1 h3 e4)
      have st2 : Stp [e, it] t' { t' with heap := h2, toks := t'.toks + 1 } := by
        refine ⟨fun b o h1 _ e4 => keep2 b o (fun q => h1 (by rw [q]; exact .head _)) (fun q => h1 (by rw [q]; exact .tail _ (.head _))) e4, D'.st.tab.mono fun b o h1 e4 => keep2 b o (fun q => ?_) (fun q => ?_) e4, rfl, rfl⟩
        · rw [q, zE'.1] at e4; cases e4; cases h1
        · rw [q, zI'.1] at e4; cases e4; rw [zI'.2.2.2.1] at h1; cases h1
      have he2' : h2.get? e = some (enO it ((i + 1 : Nat) : Int) xs[i]) := by
        have : ((i + 1 : Nat) : Int) = (i : Int) + 1 := by push_cast; rfl
        rw [this]; exact he2
      refine el_EAA (D'.after2 ((celMu (cellsFrom (C + 1) scope.names []) cm).length + 1) ((celMu (cellsFrom (C + 1) scope.names []) cm).length + 2) (tri_at1 _ _ _ _) (tri_at2 _ _ _ _) hei st2 he2' ((hs2.2 it hei.symm).trans eo1) rfl (stab_fields ec1 ed1 (by intro q u h; cases h))) fun V1 le1 fr1 D1 => ?_
      rw [tri_set1, tri_set2] at D1
      have hTV : V1 t'.heap.objs.size = some (tup [.int (i : Int) t'.toks, xs[i]] 0) := fr1 _ _ ((hs2.2 _ (Nat.ne_of_gt zEl)).trans hT1) (get_size _)
      refine turn s3 acc C i xs[i] _ _ V1 cm m' _ ys n' _ _ K3 K4 hlt (by simp [hlt]) hyl s3t (leV'.trans le1) hTV (hJ _ _ _ _ hJi (cut_le le1)) D1 (fun y t5 h5 => ?_) (fun t3 h3 => ?_)
      · refine el_EEEAA (h5) fun V'' cm' m'' le'' hJ'' D'' => ?_; try clear h5
        refine hK3 _ _ (list_append_ D'' (celMu (cellsFrom (C + 1) scope.names []) cm').length (tri_at0 _ _ _ _) (by lia) fun n'' t6 D6 => ?_)
        rw [tri_set0] at D6
        exact (in_EA (xs.length - (i + 1)) (by omega) (Ji _ _ (in_EEEEEEEEAAAAAA (i + 1) V'' cm' m'' (ys ++ [y]) n'' _ _ rfl hlt (by rw [List.length_append, List.length_singleton]; lia) ((leV'.trans le1).trans le'') hJ'' (⟨ec1, ed1⟩) D6)))
      · refine el_EEEAA (h3) fun V'' cm' m'' le'' hJ'' D'' => ?_; try clear h3
        exact hK4 _ (in_EA (xs.length - (i + 1)) (by omega) (Ji _ _ (in_EEEEEEEEAAAAAA (i + 1) V'' cm' m'' ys n' _ _ rfl hlt (by lia) ((leV'.trans le1).trans le'') hJ'' (⟨ec1, ed1⟩) D'')))
    · have hin : i = xs.length := by lia
      subst hin
      refine wpAny_pyNext_enum_end hh zE'.1 hit' hl' (by simp) fun h' hk => ?_
      have hmap : List.map (fun x => x.1) ((acc, lst ys n') :: (e, enO it (xs.length : Int) old) :: (it, oI') :: mu) = List.map (fun x => x.1) ((acc, lst [] 0) :: (e, enO it 0 .none) :: (it, oI) :: mu) := rfl
      refine el_EAAA (D3.afterX (mu' := (acc, lst ys n') :: (e, enO it (xs.length : Int) old) :: (it, oI') :: mu) C D'.st hmap (fun b hb => by
        rcases List.mem_cons.mp hb with hq0 | hb
        · subst b; exact .head _
        · rcases List.mem_cons.mp hb with hq0 | hb
          · subst b; exact .tail _ (.head _)
          · rw [List.mem_singleton.mp hb]; exact .tail _ (.tail _ (.head _))) (fun p hp => by
        rcases List.mem_cons.mp hp with rfl | hp
        · exact ⟨zA'.1, rfl⟩
        · rcases List.mem_cons.mp hp with rfl | hp
          · exact ⟨zE'.1, rfl⟩
          · rcases List.mem_cons.mp hp with rfl | hp
            · exact ⟨zI'.1, zI'.2.2.2.1⟩
            · have z := D3.mus p (.tail _ (.tail _ (.tail _ hp)))
              refine ⟨D'.st.keep _ _ (fun h => ?_) (fun h => (D3.neT h).2 (List.mem_map_of_mem (.tail _ (.tail _ (.tail _ hp))))) z.1, z.2.2.2.1⟩
              rcases List.mem_cons.mp h with q | h
              · exact n1 (.tail _ (.tail _ (List.mem_map.mpr (in_EA p hp q))))
              · rcases List.mem_cons.mp h with q | h
                · exact n2 (.tail _ (List.mem_map.mpr (in_EA p hp q)))
                · exact n3 (List.mem_map.mpr (in_EA p hp (List.mem_singleton.mp h)))) hC) fun V5 le5 hV5C fr5 D5 => ?_
      have D6 := D5.drop1 (n := t'.toks) (h' := t'.heap) (fun b o _ e => e) heW
      have D7 := D6.drop1 (n := t'.toks) hk hiW
      have hCI : C ≠ it := fun q => by rw [q] at hC; rw [zI.1] at hC; cases hC
      have hCacc : C ≠ acc := fun q => by rw [q] at hC; rw [zA.1] at hC; cases hC
      refine fin acc C ys n' V5 m' _ (hJ _ _ _ _ hJi fun b o e => ?_) le5 hyl (D.fresh hzt) (D'.ns.extBut hk hCI) hV5C (fun q => ?_) (fun h => ?_) D7
      · unfold cut at e
        split at e
        · rename_i q
          have hbC : b ≠ C := fun q' => by rw [q', D'.offL] at e; cases e
          have hba : b ≠ acc := fun q' => by rw [q', zA'.2.1] at e; cases e
          exact fr5 b o hbC (D'.see _ _ e) (s3b b hba q)
        · exact le5 _ _ e
      · refine el_EEEA (D.ns) fun oL _ _ eL _ => ?_
        rw [← q, hCt] at eL; cases eL
      · rcases List.mem_cons.mp h with q | h
        · exact hCacc q
        · refine el_EA (List.mem_map.mp h) fun p hp q => ?_
          have := (D.mus p (.tail _ (.tail _ hp))).1
          rw [q, hCt] at this; cases this
  have zE4 := D4.mus (e, enO it 0 .none) (List.mem_append_right _ (.tail _ (.head _)))
  exact codeAny_compStart_list loop (wpAny_pyIter_enum zE4.1 loop)
end
end Mine
end

section
open PySem PySem.W PyProof.Rows PySem.Calls
set_option Elab.async false
set_option linter.unusedVariables false
namespace Mine
set_option maxRecDepth 100000

section
variable {g : Heap} {s₀ t : Shared} {W : List Addr} {V : View} {mu : List (Addr × Obj)} {L a : Addr} {o : Obj} {m : Str → Option Value}
/-- an object that stands and that nobody looks at becomes a mutable -/
theorem Bd.adopt (D : Bd g s₀ W V mu L m t) (e : t.heap.get? a = some o) (hV : V a = none) (hL : a ≠ L) (hm : a ∉ mu.map (·.1)) (hs : stab o = false) (h0 : s₀.heap.get? a = none) : Bd g s₀ W V ((a, o) :: mu) L m t := by
  refine D.move .rfl D.see D.ns D.offL D.offT (fun p hp => ?_) ?_ (fun b hb => .tail _ (D.wmu b hb)) D.st.tab rfl rfl
  · rcases List.mem_cons.mp hp with rfl | hp
    · exact (in_AAAA e hV hL hs (.inr h0))
    · exact D.mus p hp
  · rw [List.map_cons, List.nodup_cons]; exact ⟨hm, D.nd⟩
end

/-- the values are these numbers -/
noncomputable def IntsL (vals : List Value) (xs : List Int) : Prop := vals.length = xs.length ∧ ∀ i, i < xs.length → ∃ tk, vals[i]? = some (.int (xs.getD i 0) tk)
theorem IntsL.get {vals : List Value} {js : List Int} (h : IntsL vals js) {i : Nat} {v : Value} (e : vals[i]? = some v) : i < js.length ∧ ∃ tk, v = .int (js.getD i 0) tk := by
  have hi : i < js.length := by rw [← h.1]; exact (List.getElem?_eq_some_iff.mp e).1
  refine el_E (h.2 i hi) fun tk e2 => ?_
  rw [e] at e2
  exact (in_AE hi tk (Option.some.inj e2))
theorem IntsL.nil : IntsL [] [] := ⟨rfl, fun i h => nomatch h⟩
theorem IntsL.snoc {vals : List Value} {js : List Int} (h : IntsL vals js) (j : Int) (tk : Tok) : IntsL (vals ++ [.int j tk]) (js ++ [j]) := by
  refine ⟨by simp [h.1], fun i hi => ?_⟩
  rw [List.length_append, List.length_singleton] at hi
  by_cases hl : i < js.length
  · refine el_E (h.2 i hl) fun tk' e => ?_
    refine ⟨tk', ?_⟩
    rw [List.getElem?_append_left (by rw [h.1]; exact hl), e, List.getD_eq_getElem?_getD, List.getD_eq_getElem?_getD, List.getElem?_append_left hl]
  · have : i = js.length := by lia
    subst this
    refine ⟨tk, ?_⟩
    rw [List.getElem?_append_right (by rw [h.1]; exact Nat.le_refl _), h.1, Nat.sub_self, List.getD_eq_getElem?_getD, List.getElem?_append_right (Nat.le_refl _), Nat.sub_self]
    rfl

noncomputable def txts : List Str := ["", "a", "ab", "b"]
noncomputable def rowOf (xs : List Int) (i : Nat) : Row := ⟨(xs.getD i 0).fmod 3, txts.getD (((xs.getD i 0).fdiv 3).fmod 4).toNat "", (xs.getD i 0).fdiv 12, (i : Int)⟩

noncomputable def pack83 : { b : FuncData // ∀ P, (hd.heap_39 P).lookup 83 = some ⟨.type "function", none, .func b, #[]⟩ } := ⟨_, fun P => rfl⟩
noncomputable def F83 : FuncData := pack83.1
noncomputable def b83 : List Stmt := match F83.body with | .stmts b => b | _ => []

theorem vref_congr {ra ra' : Nat → Addr} {js : List Nat} (h : ∀ j ∈ js, ra j = ra' j) : vref ra js = vref ra' js := by
  unfold vref; exact List.map_congr_left fun j hj => by rw [h j hj]

section
variable {prog : Program} {w : World} {mg mb : Str → Option Value} {g : Heap} {A : Around} {E : Value → Shared → Prop} {s : Shared}

set_option maxHeartbeats 2000000 in
theorem rows_spec (B : Bs w mg mb g) (hA : Ok A 4) (hw : Wd g s) {U : View} (hU : Sub U s []) {nl : Addr} {vals : List Value} {xs : List Int} {n : Nat} {Q : Value → Shared → Prop}
    (hnl : U nl = some (lst vals n)) (hv : IntsL vals xs) (hlen : xs.length ≤ 20)
    (hQ : ∀ rl ra n' s', Stp [] s s' → (∀ V'', Fresh s s' V'' → V'' rl = some (lst (vref ra (List.range xs.length)) n') ∧ ∀ i, i < xs.length → IsRow V'' (ra i) (rowOf xs i)) → Q (.ref rl) s') :
    wpAny (model prog w) A (call (.ref 83) [.ref nl]) Q E s := by
  refine call_defC (mu := []) (body := b83) (binds := [("numbers", .ref nl)]) B hA hw (hw.base _ _ (B.K 83 _ (pack83.2 w.params))) rfl (codeRec_g hw (codeRec_of B.K rfl)) rfl (BindsTo.of_eq rfl) rfl (fun _ h => nomatch h) List.nodup_nil (fun L t hL D => ?_)
    (fun n => by show List.Nodup [("texts" : Str)]; decide) (fun n y hy => ?_)
  case refine_2 =>
    simp only [List.mem_cons, List.not_mem_nil, or_false] at hy
    subst hy
    exact .inl rfl
  have D : Bd g s [] (fullV s []) [(L + 1, cel none)] L (upd (fun _ => none) "numbers" (.ref nl)) t := D
  have le' : U.le (fullV s []) := hU.leFull
  replace hnl := le' _ _ hnl
  clear le' hU
  generalize hF : fullV s [] = V0 at D hnl
  revert V0
  refine noBeta ?_
  intro V0 hF D hnl
  have hA1 := hA.deeper (callEnvC pack83.1 L 83)
  generalize A.deeper (callEnvC pack83.1 L 83) = A1 at hA1 ⊢
  revert A1
  refine noBeta ?_
  intro A1 hA1
  have hvl := hv.1
  try refine kq _ ?_
  refine seqK fun KQ kq => (wpAny_Assign_Name (r_list (args_cons (r_str D fun q1 t1 D1 => args_cons (r_str D1 fun q2 t2 D2 => args_cons (r_str D2 fun q3 t3 D3 => args_cons (r_str D3 fun q4 t4 D4 => args_nil (in_EEEAA _ _ _ D4 (Nat.le_of_ble_eq_true rfl) (fun tx t5 hV5 hs5 D5 => r_storeC D5 1 rfl fun t6 D6 => ?_)))))))))
  have D6 : Bd g s [] V0 [(tx, lst [.str "" q1, .str "a" q2, .str "ab" q3, .str "b" q4] 0), (L + 1, cel (some (.ref tx)))] L (upd (fun _ => none) "numbers" (.ref nl)) t6 := D6
  refine el_EAAA (D6.fix (fun h => nomatch h)) fun V7 le7 htx _ D7 => ?_
  refine el_EAAA (D7.fix (fun h => nomatch h)) fun V8 le8 hcl _ D8 => ?_
  have htx8 := le8 _ _ htx
  have hnl8 := le8 _ _ (le7 _ _ hnl)
  try refine kq _ ?_
  refine wpAny_execs_cons (wpAny_Return_some ?_)
  refine comp_expr (cl := [("texts", L + 1)]) ?hcl ?hkd ?hnm ?hmain
  case hcl => exact rfl
  case hkd => exact rfl
  case hnm => decide
  refine Call_ (r_built D8 B B.n_enumerate B.b_enumerate (callWith_type1 (args_cons (r_name D8 rfl (args_nil ?_)))))
  refine call_enumerate_list ⟨_, D8.see _ _ hnl8, rfl, _, rfl⟩ fun h' he hit hsz hk => ?_
  refine wpAny_pyIter_enum he ?_
  refine el_EAA (hit) fun oI eI cI dI => ?_; try clear hit
  have hz := get_size t6.heap
  have hz1 : t6.heap.get? (t6.heap.objs.size + 1) = none := Heap.get?_none_of_le (Nat.le_succ _)
  have D9 := D8.newMu (n := t6.toks) hz eI hk (stab_fields cI dI (by intro q u h; cases h))
  have hVe : V8 (t6.heap.objs.size + 1) = none := by
    cases e : V8 (t6.heap.objs.size + 1) with
    | none => rfl
    | some o => rw [D8.see _ _ e] at hz1; cases hz1
  have D10 := D9.adopt he hVe (fun q => by refine el_EEEA (D8.ns) fun o' _ _ e' _ => ?_; rw [← q, hz1] at e'; cases e') (fun h => Nat.succ_ne_self _ (List.mem_singleton.mp h)) rfl (D8.fresh hz1)
  have hnlt : nl < t6.heap.objs.size := Heap.lt_size (D8.see _ _ hnl8)
  generalize t6.heap.objs.size = it at *
  have D10 : Bd g s [] V8 [(it + 1, enO it 0 .none), (it, oI)] L (upd (fun _ => none) "numbers" (.ref nl)) { t6 with heap := h' } := D10
  generalize ({ t6 with heap := h' } : Shared) = TT7 at D10
  revert TT7
  refine noBeta ?_
  intro TT7 D10
  refine enum_block B hA1.h D10 ⟨cI, dI⟩ (fun h => nomatch h) (fun h => nomatch h) ⟨_, D10.see _ _ hnl8⟩ (Nat.ne_of_lt (Nat.lt_succ_of_lt hnlt)) (Nat.ne_of_lt hnlt) rfl (fun k => by show List.Nodup ([] : List Str); exact List.nodup_nil) (by lia)
    (fun i V ys => ∃ ra, ys = vref ra (List.range i) ∧ ∀ k, k < i → s.heap.get? (ra k) = none ∧ IsRow V (ra k) (rowOf xs k)) (fun i V V' ys h le => let ⟨ra, a, b⟩ := h; (in_EA ra a (fun k hk => ⟨(b k hk).1, (b k hk).2.mono le⟩))) (in_EA (fun _ => 0) rfl (fun k h => absurd h (Nat.not_lt_zero _))) ?_ ?_
  · intro s3 acc C i v T tk V' cm m' t' ys n' oE oI' K3 K4 hi hvi hyl h3 hle hT hJi Dc hK3 hK4
    refine el_AE (hv.get hvi) fun _ tkv hR1 => ?_; subst hR1
    refine el_EA (hJi) fun ra hR2 hrows => ?_; try clear hJi; subst hR2
    have Dc : Bd g s3 [acc, it + 1, it] V' [(acc, lst (vref ra (List.range i)) n'), (it + 1, oE), (it, oI')] C m' t' := Dc
    refine wpAny_assign_Tuple hA1.h ⟨_, Dc.see _ _ hT, rfl, _, rfl⟩ rfl rfl fun h1 hext => ?_
    have D1 := Dc.grow (n := t'.toks) (h' := h1) fun b o e => hext b o (Nat.ne_of_lt (Heap.lt_size e)) e
    refine assignInOrder_cons (PyProof.Rows.assign_Name (r_store D1 fun t2 D2 => assignInOrder_cons (PyProof.Rows.assign_Name (r_store D2 fun t3 D3 => assignInOrder_nil (wpAny_tests_nil ?_)))))
    rw [if_pos rfl]
    have vT : ∀ b o, V8 b = some o → V' b = some o := fun b o e => by
      refine hle b o (fullV_get (D10.see _ _ e) (fun h => ?_) (fun h => by rw [D10.offT b h] at e; cases e))
      rcases List.mem_cons.mp h with q | h
      · have := (D10.mus (it + 1, enO it 0 .none) (.head _)).2.1
        rw [q, this] at e; cases e
      · have := (D10.mus (it, oI) (.tail _ (.head _))).2.1
        rw [List.mem_singleton.mp h, this] at e; cases e
    generalize hx : xs.getD i 0 = x at D3 D2
    revert x
    refine noBeta ?_
    intro x hx D3
    have hm0 : 0 ≤ (x.fdiv 3).fmod 4 := Int.fmod_nonneg_of_pos _ (by decide)
    have hm1 : (x.fdiv 3).fmod 4 < 4 := Int.fmod_lt_of_pos _ (by decide)
    obtain ⟨k, hk⟩ : ∃ k : Nat, (x.fdiv 3).fmod 4 = (k : Int) := ⟨_, (Int.toNat_of_nonneg hm0).symm⟩
    have hk4 : k < 4 := by omega
    obtain ⟨qk, hqk⟩ : ∃ qk, ([.str "" q1, .str "a" q2, .str "ab" q3, .str "b" q4] : List Value)[k]? = some (.str (txts.getD k "") qk) := by
      match k, hk4 with
      | 0, _ => exact ⟨q1, rfl⟩
      | 1, _ => exact ⟨q2, rfl⟩
      | 2, _ => exact ⟨q3, rfl⟩
      | 3, _ => exact ⟨q4, rfl⟩
    refine r_tuple (g := g) (s₀ := s3) (W := [acc, it + 1, it]) (args_cons (wpAny_BinOp (r_name D3 rfl (r_int D3 fun k1 t4 D4 => mod_int' (by decide) ?_))))
    have D4' := D4.tok (t4.toks + 1)
    refine args_cons (Subscript_ (r_cellV D4' (vT _ _ hcl) (wpAny_BinOp (wpAny_BinOp (r_name D4' rfl (r_int D4' fun k2 t5 D5 => floordiv_int (by decide) ?_))))))
    have D5' := D5.tok (t5.toks + 1)
    refine r_int D5' fun k3 t6 D6 => mod_int' (by decide) ?_
    have D6' := D6.tok (t6.toks + 1)
    refine item_list (k := k) ⟨_, D6'.see _ _ (vT _ _ htx8), rfl, _, rfl⟩ hk (by (exact Nat.lt_of_lt_of_le (by assumption) (by decide))) hqk ?_
    refine args_cons (wpAny_BinOp (r_name D6' rfl (r_int D6' fun k4 t7 D7 => floordiv_int (by decide) ?_)))
    have D7' := D7.tok (t7.toks + 1)
    refine args_cons (r_name D7' rfl (args_nil (in_EEEAA _ _ _ D7' (Nat.le_of_ble_eq_true rfl) (fun a V9 t9 le9 ha hVa hsa D9 => ?_))))
    have hat : TT7.heap.get? a = none := by
      cases e : TT7.heap.get? a with
      | none => rfl
      | some o => rw [h3 _ _ e] at hsa; cases hsa
    have hk2 : ((x.fdiv 3).fmod 4).toNat = k := by omega
    have hsn : s.heap.get? a = none := by
      cases e : s.heap.get? a with
      | none => rfl
      | some o =>
        refine el_E (D10.there e) fun o' e' => ?_
        rw [h3 _ _ e'] at hsa; cases hsa
    refine hK3 _ _ (in_EEEAA V9 cm _ le9 ((in_EA (fun k => if k = i then a else ra k) ?_ (fun k hk => ?_))) D9)
    · rw [List.range_succ]
      show vref ra (List.range i) ++ [Value.ref a] = vref (fun k => if k = i then a else ra k) (List.range i ++ [i])
      have : vref (fun k => if k = i then a else ra k) (List.range i ++ [i]) = vref (fun k => if k = i then a else ra k) (List.range i) ++ [.ref a] := by
        unfold vref; rw [List.map_append]; simp
      rw [this]
      congr 1
      exact vref_congr fun j hj => by rw [if_neg (Nat.ne_of_lt (List.mem_range.mp hj))]
    · by_cases hki : k = i
      · subst k
        simp only [if_true]
        refine ⟨hsn, ?_⟩
        unfold IsRow rowOf
        rw [hx, hk2]
        exact (in_EEEEE _ _ _ _ 0 (cut_new hat ha))
      · simp only [hki, if_false]
        exact ⟨(hrows k (by lia)).1, (hrows k (by lia)).2.mono (cut_le le9)⟩
  · intro acc C ys n' V' mC t' hJ leF hyl hsacc hns hVC hCL hCm Df
    refine el_EA (hJ) fun ra hR3 hrows => ?_; try clear hJ; subst hR3
    rw [hvl] at *
    refine post_none hns hVC hCL hCm Df fun t8 D8 => ?_
    have z := D8.mus _ (.head _)
    have hh := hQ acc ra n' t8 D8.st (fun V'' fr => ⟨fr _ _ z.1 hsacc, fun i hi => ?_⟩)
    · exact hh
    refine el_AEEEEE (hrows i hi) fun h1 a b c d e h2 => ?_
    exact ⟨a, b, c, d, e, fr _ _ (D8.see _ _ h2) h1⟩
end
end Mine
end

section
open PySem PySem.W PyProof.Rows PySem.Calls
set_option Elab.async false
set_option linter.unusedVariables false
namespace Mine
set_option maxRecDepth 100000

noncomputable def restAt (told : Int) : Nat → Int
  | 0 => told.fdiv 3
  | k + 1 => (restAt told k).fdiv 6
noncomputable def keyAt (told : Int) (k : Nat) : Int × Int := ((restAt told k).fmod 3, 1 - ((restAt told k).fdiv 3).fmod 2 * 2)
noncomputable def keysN (told : Int) : Nat := (1 + told.fmod 3).toNat
noncomputable def keysOf (told : Int) : List (Int × Int) := (List.range (keysN told)).map (keyAt told)

noncomputable def KeysL (V : View) (items : List Value) (K : List (Int × Int)) : Prop := items.length = K.length ∧ ∀ (i : Nat) v k, items[i]? = some v → K[i]? = some k → IsKey V v k
theorem KeysL.mono {V V' : View} {items : List Value} {K : List (Int × Int)} (h : KeysL V items K) (le : V.le V') : KeysL V' items K := ⟨h.1, fun i v p e1 e2 => (h.2 i v p e1 e2).mono le⟩
theorem KeysL.snoc {V : View} {items : List Value} {K : List (Int × Int)} (h : KeysL V items K) {v : Value} {k : Int × Int} (e : IsKey V v k) : KeysL V (items ++ [v]) (K ++ [k]) := by
  refine ⟨by simp [h.1], fun i v p' e1 e2 => ?_⟩
  by_cases hi : i < items.length
  · rw [List.getElem?_append_left hi] at e1
    rw [List.getElem?_append_left (h.1 ▸ hi)] at e2
    exact h.2 i v p' e1 e2
  · have hlt := (List.getElem?_eq_some_iff.mp e1).1
    rw [List.length_append, List.length_singleton] at hlt
    have : i = items.length := by lia
    subst this
    rw [List.getElem?_append_right (Nat.le_refl _), Nat.sub_self] at e1
    rw [h.1, List.getElem?_append_right (Nat.le_refl _), Nat.sub_self] at e2
    cases e1; cases e2
    exact e

noncomputable def pack90 : { b : FuncData // ∀ P, (hd.heap_39 P).lookup 90 = some ⟨.type "function", none, .func b, #[]⟩ } := ⟨_, fun P => rfl⟩
noncomputable def F90 : FuncData := pack90.1
noncomputable def b90 : List Stmt := match F90.body with | .stmts b => b | _ => []

section
variable {prog : Program} {w : World} {mg mb : Str → Option Value} {g : Heap} {A : Around} {E : Value → Shared → Prop} {s : Shared}

set_option maxHeartbeats 2000000 in
theorem keys_spec (B : Bs w mg mb g) (hA : Ok A 4) (hw : Wd g s) {told : Int} {tt : Tok} {Q : Value → Shared → Prop}
    (hQ : ∀ kl s', Stp [] s s' → (∀ V'', Fresh s s' V'' → IsKeys V'' kl (keysOf told)) → Q (.ref kl) s') :
    wpAny (model prog w) A (call (.ref 90) [.int told tt]) Q E s := by
  refine call_def (mu := []) (body := b90) (binds := [("told", .int told tt)]) B hA hw (hw.base _ _ (B.K 90 _ (pack90.2 w.params))) rfl (codeRec_g hw (codeRec_of B.K rfl)) rfl (BindsTo.of_eq rfl) (fun _ h => nomatch h) List.nodup_nil (fun L t hL D => ?_) (by decide) (locs rfl)
  generalize hF : fullV s (List.map (fun x => x.1) ([] : List (Addr × Obj))) = V0 at D
  have hA1 := hA.deeper (callEnv pack90.1 L 90)
  generalize A.deeper (callEnv pack90.1 L 90) = A1 at hA1 ⊢
  revert A1
  refine noBeta ?_
  intro A1 hA1
  have h0 : 0 ≤ told.fmod 3 := Int.fmod_nonneg_of_pos _ (by decide)
  have h1 : told.fmod 3 < 3 := Int.fmod_lt_of_pos _ (by decide)
  have hN : 1 + told.fmod 3 = (keysN told : Int) := by unfold keysN; lia
  have hN3 : keysN told ≤ 3 := by unfold keysN; lia
  try refine kq _ ?_
  refine seqK fun KQ kq => (wpAny_Assign_Name (r_list (args_nil (in_EEEAA _ _ _ D (Nat.le_of_ble_eq_true rfl) (fun kl t1 hV1 hs1 D1 => r_store D1 fun t2 D2 => ?_)))))
  try refine kq _ ?_
  refine seqK fun KQ kq => (wpAny_Assign_Name (wpAny_BinOp (r_name D2 rfl (r_int D2 fun k1 t3 D3 => floordiv_int (by decide) (r_store (D3.tok _) fun t4 D4 => ?_)))))
  try refine kq _ ?_
  refine seqK fun KQ kq => (wpAny_For (Call_ (r_built D4 B B.n_range B.b_range (callWith_type1 (args_cons (wpAny_BinOp (r_int D4 fun k2 t5 D5 => wpAny_BinOp (r_name D5 rfl (r_int D5 fun k3 t6 D6 => mod_int' (by decide) (add_int ?_)))))))))) 
  have D7 := D6.tok (t6.toks + 1 + 1)
  rw [hN]
  refine args_nil (range1_ D7 fun rg u1 u2 u3 t8 D8 hrg => ?_)
  refine for_range hA1.h D8 hrg (small_pos (by decide) (by omega) (by decide)) (n := keysN told) (by rw [rangeSize_one]; split <;> lia)
    (fun i V' mu' m' => V0.le V' ∧ (∃ items n1, mu' = [(kl, lst items n1)] ∧ KeysL (cut s noV V') items ((List.range i).map (keyAt told))) ∧ m' "keys" = some (.ref kl) ∧ ∃ tr, m' "rest" = some (.int (restAt told i) tr))
    (in_AAA .rfl ((in_EEAA [] 0 rfl rfl (fun i v p e => nomatch e))) rfl (⟨_, rfl⟩)) ?_ ?_
  · intro i I tk V' mu' m' o' t' KK hKK hRR hi hQ1; refine el_AAA (hQ1) fun le hN1 mk hN2 => ?_; try clear hQ1; refine el_EEA (hN1) fun items n1 hR1 hks => ?_; try clear hN1; subst hR1; refine el_E (hN2) fun tr mr => ?_; try clear hN2; intro D'
    refine PyProof.Rows.assign_Name (r_store D' fun t1 D1 => ?_)
    have hil := hks.1
    rw [List.length_map, List.length_range] at hil
    generalize hr : restAt told i = r at mr
    have b0 : 0 ≤ (r.fdiv 3).fmod 2 := Int.fmod_nonneg_of_pos _ (by decide)
    have b1 : (r.fdiv 3).fmod 2 < 2 := Int.fmod_lt_of_pos _ (by decide)
    try refine kq _ ?_
    refine seqK fun KQ kq => (wpAny_Expr (methodCall_KW (r_name D1 mk (getMethod_list_of PySem.F.slot_list_append PySem.F.type_list_append ⟨_, (D1.mus (kl, _) (.tail _ (.head _))).1, rfl, _, rfl⟩ ⟨_, (D1.mus (kl, _) (.tail _ (.head _))).1, rfl⟩
      (callWith_builtin rfl (evalArgs_plain (args_cons (r_tuple (g := g) (s₀ := s) (W := []) ?_))))))))
    refine (args_cons (wpAny_BinOp (r_name D1 mr (r_int D1 fun k1 t2 D2 => mod_int' (by decide) ?_))))
    have D2' := D2.tok (t2.toks + 1)
    refine args_cons (wpAny_BinOp (r_int D2' fun k2 t3 D3 => wpAny_BinOp (wpAny_BinOp (wpAny_BinOp (r_name D3 mr (r_int D3 fun k3 t4 D4 => floordiv_int (by decide) ?_))))))
    have D4' := D4.tok (t4.toks + 1)
    refine r_int D4' fun k4 t5 D5 => mod_int' (by decide) ?_
    have D5' := D5.tok (t5.toks + 1)
    refine r_int D5' fun k5 t6 D6 => mul_int (sub_int ?_) (IntMulOk.of_left (intBits_le_64 (by omega) (by omega)))
    have D6' := D6.tok (t6.toks + 1 + 1)
    refine args_nil (in_EEEAA _ _ _ D6' (Nat.le_of_ble_eq_true rfl) (fun a V9 t9 le9 ha hVa hsa D9 => args_nil ?_))
    refine list_append_ D9 1 rfl (by lia) fun n' t10 D10 => ?_
    try refine kq _ ?_
    refine seqK fun KQ kq => (wpAny_Assign_Name (wpAny_BinOp (r_name D10 mr (r_int D10 fun k6 t11 D11 => floordiv_int (by decide) (r_store (D11.tok _) fun t12 D12 => kq _ <| wpAny_execs_nil ?_)))))
    refine hKK _ (in_EEEA V9 ([(kl, lst (items ++ [Value.ref a]) n')]) (upd (upd m' "k" (.int (0 + (i : Int) * 1) tk)) "rest" (.int (r.fdiv 6) t11.toks)) ((in_AAA (le.trans le9) ((in_EEA _ n' rfl ?_)) mk (⟨_, by rw [restAt, hr]; rfl⟩))) D12)
    rw [List.range_succ, List.map_append]
    have hka : IsKey (cut s noV V9) (.ref a) (keyAt told i) := by
      unfold keyAt IsKey
      rw [hr]
      exact (in_EEEEA a _ _ 0 rfl (cut_new hsa ha))
    exact (hks.mono (cut_le le9)).snoc hka
  · intro V' mu' m' t' hQ2; refine el_AAA (hQ2) fun le hN3 mk hN4 => ?_; try clear hQ2; refine el_EEA (hN3) fun items n1 hR2 hks => ?_; try clear hN3; subst hR2; refine el_E (hN4) fun tr mr => ?_; try clear hN4; intro D'
    try refine kq _ ?_
    refine wpAny_execs_cons (wpAny_Return_some (r_name D' mk ?_))
    have z := D'.mus _ (.head _)
    have hh := hQ kl t' D'.st (fun V'' fr => ⟨items, n1, fr _ _ z.1 (z.2.2.2.2.resolve_left (fun h => nomatch h)), hks.1, fun i v k e1 e2 => (hks.2 i v k e1 e2).mono fun b o e => ?_⟩)
    · exact hh
    unfold cut at e
    split at e
    · rename_i q; exact fr _ _ (D'.see _ _ e) q
    · cases e
end
end Mine
end

section
open PySem PySem.W PyProof.Rows PySem.Calls PySem.SeqAt PySem.MeetsSeq PySem.MeetsSeq2 PySem.MeetsSeq3
open PySem.AutoSeq1 (wpAny_loadPart')
set_option Elab.async false
set_option linter.unusedVariables false
namespace Mine
set_option maxRecDepth 100000

noncomputable def lexlt : List Int → List Int → Bool
  | [], [] => false
  | [], _ :: _ => true
  | _ :: _, [] => false
  | x :: xs, y :: ys => if x = y then lexlt xs ys else decide (x < y)

theorem IntsAre.at' : ∀ {vs : List Value} {ns : List Int}, IntsAre vs ns → ∀ {i : Nat} (h1 : i < vs.length) (h2 : i < ns.length), ∃ t, vs[i] = .int ns[i] t
  | _, _, .cons n t _, 0, _, _ => ⟨t, rfl⟩
  | _, _, .cons n t r, j + 1, h1, h2 => IntsAre.at' r (Nat.lt_of_succ_lt_succ h1) (Nat.lt_of_succ_lt_succ h2)

theorem lt_loop (l b : Addr) (items items2 : List Value) (n n2 : Nat) (xs ys : List Int) (hx : IntsAre items xs) (hy : IntsAre items2 ys) (hsz : xs.length = ys.length) (k : Nat) :
    ∀ i : Nat, xs.length - i = k → Meets (Builtin.«list.__eq__.loop» ⟨[.ref l, .ref b, rawInt i, rawInt 0], []⟩)
      (fun A R s => s.heap.get? l = some (lst items n) ∧ s.heap.get? b = some (lst items2 n2) ∧ R (.ok (.ret (.bool (lexlt (xs.drop i) (ys.drop i))))) s) := by
  have l1 := hx.length
  have l2 := hy.length
  induction k with
  | zero =>
    intro i hk prog w A R s h
    obtain ⟨hp, g, d, tk, os⟩ := s; refine el_AA (h) fun hl hb h => ?_
    wp_walk using wpAny_loadPart' hl, wpAny_loadPart' hb
    have hi1 : items.toArray[((i : Nat) : Int).toNat]? = none := by simp; lia
    have hi2 : items2.toArray[((i : Nat) : Int).toNat]? = none := by simp; lia
    rw [List.drop_eq_nil_of_le (by lia), List.drop_eq_nil_of_le (by lia)] at h
    rw [hi1, hi2]
    wp_walk using wpAny_loadPart' hl, wpAny_loadPart' hb
    show R (.ok (.ret (.bool (decide (items.toArray.size < items2.toArray.size))))) _
    have e : decide (items.toArray.size < items2.toArray.size) = false := by simp; lia
    rw [e]
    exact h
  | succ k ih =>
    intro i hk prog w A R s h
    obtain ⟨hp, g, d, tk, os⟩ := s; refine el_AA (h) fun hl hb h => ?_
    wp_walk using wpAny_loadPart' hl, wpAny_loadPart' hb
    have hlt : i < xs.length := by lia
    have hlt2 : i < ys.length := by lia
    refine el_E (IntsAre.at' hx (i := i) (by lia) hlt) fun t1 e1 => ?_
    refine el_E (IntsAre.at' hy (i := i) (by lia) hlt2) fun t2 e2 => ?_
    have hi1 : items.toArray[((i : Nat) : Int).toNat]? = some (.int xs[i] t1) := by simp; rw [List.getElem?_eq_getElem (by lia), e1]
    have hi2 : items2.toArray[((i : Nat) : Int).toNat]? = some (.int ys[i] t2) := by simp; rw [List.getElem?_eq_getElem (by lia), e2]
    have hc : ((i : Int) + 1) = ((i + 1 : Nat) : Int) := by push_cast; rfl
    rw [List.drop_eq_getElem_cons hlt, List.drop_eq_getElem_cons hlt2] at h
    rw [hi1, hi2]
    refine wpAny_bind (MeetsSeq.EqGives.int xs[i] ys[i] t1 t2 prog w _ _ _ _ ?_)
    unfold lexlt at h
    by_cases hb' : xs[i] = ys[i]
    · rw [if_pos hb'] at h
      have : (xs[i] == ys[i]) = true := by simpa using hb'
      rw [this]
      wp_walk
      rw [hc]
      exact ⟨plainId_quiet plain_eq_loop _, codeAny_builtin entry_eq_loop (by
        rw [Around.under_plainId plain_eq_loop _]
        exact ih (i + 1) (by lia) prog w A R _ (in_AA hl hb h))⟩
    · rw [if_neg hb'] at h
      have : (xs[i] == ys[i]) = false := by simpa using hb'
      rw [this]
      wp_walk using wpAny_loadPart' hl, wpAny_loadPart' hb
      rw [hi1, hi2]
      refine wpAny_bind ?_
      refine lt_int ?_
      wp_walk
      exact h


theorem list_lt_ints (l b : Addr) (items items2 : List Value) (n n2 : Nat) (xs ys : List Int) (hx : IntsAre items xs) (hy : IntsAre items2 ys) (hsz : xs.length = ys.length) :
    Meets (Builtin.«list.__lt__» ⟨[.ref l, .ref b], []⟩)
      (fun A R s => s.heap.get? l = some (lst items n) ∧ s.heap.get? b = some (lst items2 n2) ∧ R (.ok (.ret (.bool (lexlt xs ys)))) s) := by
  intro prog w A R s h
  obtain ⟨hp, g, d, tk, os⟩ := s; refine el_AA (h) fun hl hb h => ?_
  have f3 := AutoSeq1.sub_list_list
  wp_walk using wpAny_loadPart' hl, wpAny_loadPart' hb
  exact ⟨plainId_quiet plain_eq_loop _, codeAny_builtin entry_eq_loop (by
    rw [Around.under_plainId plain_eq_loop _]
    exact lt_loop l b items items2 n n2 xs ys hx hy hsz _ 0 rfl prog w A R _ (in_AA hl hb h))⟩

section
variable {prog : Program} {w : World} {A : Around} {E : Value → Shared → Prop} {s : Shared}

theorem lt_lists {l b : Addr} {items items2 : List Value} {n n2 : Nat} {xs ys : List Int} {Q : Value → Shared → Prop} (hl : s.heap.get? l = some (lst items n)) (hb : s.heap.get? b = some (lst items2 n2)) (hx : IntsAre items xs) (hy : IntsAre items2 ys) (hsz : xs.length = ys.length) (hu : A.units < cLine)
    (h : Q (.bool (lexlt xs ys)) s) : wpAny (model prog w) A (compareOp .Lt (.ref l) (.ref b)) Q E s :=
  richCompare_meets_room (op := .Lt) ⟨_, hl, rfl⟩ ⟨_, hb, rfl⟩ F.slot_list_lt F.entry_list_lt (F.args_list_lt_2 _ _) (list_lt_ints l b items items2 n n2 xs ys hx hy hsz)
    (in_AA hl hb (show Value.bool (lexlt xs ys) ≠ Value.notImplemented ∧ Q (.bool (lexlt xs ys)) s from ⟨(fun x => nomatch x), h⟩)) hu

theorem index_strs {l : Addr} {vs : List Value} {n : Nat} {ns : List Str} {k : Str} {t : Tok} {Q : Value → Shared → Prop} (hl : s.heap.get? l = some (lst vs n)) (hi : StrsAre vs ns) (hn : ns.length < 1000)
    (hk : k ∈ ns) (h : Q (.int (ns.idxOf k : Nat) s.toks) { s with toks := s.toks + 1 }) :
    wpAny (model prog w) A (call (.builtin "list.index") [.ref l, .str k t]) Q E s := by
  have at' : ∀ {vs : List Value} {ns : List Str}, StrsAre vs ns → ∀ (j : Nat) (h1 : j < vs.length) (h2 : j < ns.length), isStrOf k vs[j] = (ns[j] == k) := by
    intro vs ns h
    induction h with
    | nil => intro j h1; cases h1
    | cons n t r ih => intro j h1 h2; cases j with
      | zero => rfl
      | succ j => exact ih j (Nat.lt_of_succ_lt_succ h1) (Nat.lt_of_succ_lt_succ h2)
  have hlen : vs.length = ns.length := by
    clear at' hl h hk hn
    induction hi with
    | nil => rfl
    | cons n t r ih => simp [ih]
  have hj : ns.idxOf k < ns.length := List.idxOf_lt_length_iff.mpr hk
  refine call_meets PySem.F.slot_list_index ⟨_, hl, rfl⟩ PySem.F.entry_list_index (PySem.F.args_list_index_2 _ _)
    (list_indexAt l vs.toArray n none #[] (.str k t) (isStrOf k) (ns.idxOf k) (by simpa [hlen] using hj) (by (first | decide | lia)) ?_ ?_) (in_AA hl (fun y hy => (eq_isStrOf k t hi y (by simpa using hy)).at _ _) h)
  · show isStrOf k vs[ns.idxOf k] = true
    rw [at' hi _ (by lia) hj]
    simpa using List.getElem_idxOf hj
  · intro j hjs hlt
    show isStrOf k vs[j] = false
    rw [at' hi j (by simpa using hjs) (by lia)]
    simpa using List.not_of_lt_findIdx (p := (· == k)) (xs := ns) (i := j) hlt

theorem ne_refs {l b : Addr} {items items2 : List Value} {n n2 : Nat} {e : Nat → Bool} {Q : Value → Shared → Prop} (hl : s.heap.get? l = some (lst items n)) (hb : s.heap.get? b = some (lst items2 n2)) (hsz : items.length = items2.length) (hu : A.units < cLine)
    (he : ∀ j (h1 : j < items.length) (h2 : j < items2.length), EqAt A.in1 s items[j] items2[j] (e j)) (h : Q (.bool (!(List.range items.length).all e)) s) : wpAny (model prog w) A (compareOp .NotEq (.ref l) (.ref b)) Q E s :=
  RcNeAt.lists (items := items.toArray) (items2 := items2.toArray) ⟨_, hl, rfl, _, rfl⟩ ⟨_, hb, rfl, _, rfl⟩ (by simpa using hsz) hu (e := e) (fun j h1 h2 => by simpa using he j (by simpa using h1) (by simpa using h2)) prog w E Q (by simpa using h)
theorem ne_lens {l b : Addr} {items items2 : List Value} {n n2 : Nat} {Q : Value → Shared → Prop} (hl : s.heap.get? l = some (lst items n)) (hb : s.heap.get? b = some (lst items2 n2)) (hsz : items.length ≠ items2.length) (hu : A.units < cLine)
    (h : Q (.bool true) s) : wpAny (model prog w) A (compareOp .NotEq (.ref l) (.ref b)) Q E s :=
  RcNeAt.lists_lengths (items := items.toArray) (items2 := items2.toArray) ⟨_, hl, rfl, _, rfl⟩ ⟨_, hb, rfl, _, rfl⟩ (by simpa using hsz) hu prog w E Q h
end

section
variable {prog : Program} {w : World} {g : Heap} {A : Around} {E : Value → Shared → Prop} {s₀ t : Shared} {W : List Addr} {V : View} {mu : List (Addr × Obj)} {L : Addr} {m : Str → Option Value}
theorem list_remove_ {a : Addr} {xs : List Value} {ns : List Int} {n : Nat} {k : Int} {tk : Tok} {Q : Value → Shared → Prop} (D : Bd g s₀ W V mu L m t) (i : Nat) (hi : mu[i]? = some (a, lst xs n)) (hx : IntsAre xs ns) (hk : k ∈ ns) (hz : xs.length ≤ 1000)
    (h : ∀ n' t', Bd g s₀ W V (mu.set i (a, lst (xs.eraseIdx (ns.idxOf k)) n')) L m t' → Q .none t') : wpAny (model prog w) A (call (.builtin "list.remove") [.ref a, .int k tk]) Q E t := by
  have z := D.mus _ (List.mem_of_getElem? hi)
  have hlen := hx.length
  have hj : ns.idxOf k < ns.length := List.idxOf_lt_length_iff.mpr hk
  refine call_meets PySem.F.slot_list_remove ⟨_, z.1, rfl⟩ PySem.F.entry_list_remove (PySem.F.args_list_remove_2 _ _)
    (MeetsSeq.list_remove a xs.toArray n (.int k tk) (isInt k) (fun y hy => eq_isInt k tk hx y (by simpa using hy)) (ns.idxOf k) (by simpa [hlen] using hj) ?_ ?_ (by rw [List.size_toArray, sizeLine_eq]; (exact Nat.le_trans (by assumption) (by decide)))) ⟨z.1, ?_⟩
  · show isInt k xs[ns.idxOf k] = true
    rw [isInt_at k hx _ (by lia) hj]
    simpa using List.getElem_idxOf hj
  · intro j hjs hlt
    show isInt k xs[j] = false
    rw [isInt_at k hx j (by simpa using hjs) (by lia)]
    exact ne_of_lt_idxOf hlt _
  · refine h (match (Obj.mapSeq (fun xs => xs.eraseIdxIfInBounds (ns.idxOf k)) (lst xs n)).data with | .seq _ m => m | _ => 0) _ (D.upd (n := t.toks) i hi (o' := lst (xs.eraseIdx (ns.idxOf k)) _) ?_ (Heap.SameBut.update ..).extBut rfl)
    refine (Heap.get?_update_self (h := t.heap) (a := a) _ z.1 rfl).trans ?_
    unfold Obj.mapSeq
    dsimp only
    rw [show xs.toArray.eraseIdxIfInBounds (ns.idxOf k) = (xs.eraseIdx (ns.idxOf k)).toArray by simp]
end
end Mine
end

section
open PySem PySem.W PyProof.Rows PySem.Calls
set_option Elab.async false
set_option linter.unusedVariables false
namespace Mine
set_option maxRecDepth 100000

theorem IntsL.intsAre : ∀ {vs : List Value} {xs : List Int}, IntsL vs xs → IntsAre vs xs
  | [], [], _ => .nil
  | [], _ :: _, h => by cases h.1
  | _ :: _, [], h => by cases h.1
  | v :: vs, x :: xs, h => by
    refine el_E (h.2 0 (Nat.zero_lt_succ _)) fun t e => ?_
    cases e
    refine .cons _ _ (IntsL.intsAre ⟨Nat.succ.inj h.1, fun i hi => ?_⟩)
    refine el_E (h.2 (i + 1) (Nat.succ_lt_succ hi)) fun t e => ?_
    exact ⟨t, e⟩

noncomputable def plainI (r : Row) (c : Int) : Int := if c = 0 then r.a else if c = 1 then ((txts.idxOf r.x : Nat) : Int) else r.c
noncomputable def wt (K : List (Int × Int)) (r : Row) : List Int := K.map fun k => k.2 * plainI r k.1
noncomputable def rankOf (K : List (Int × Int)) (R : Nat → Row) (N i : Nat) : Nat := ((List.range N).filter fun j => lexlt (wt K (R j)) (wt K (R i))).length
noncomputable def ranksOf (K : List (Int × Int)) (R : Nat → Row) (N : Nat) : List Nat := (List.range N).map (rankOf K R N)

noncomputable def WtsL (V : View) (items : List Value) (K : List (Int × Int)) (R : Nat → Row) (i : Nat) : Prop := items.length = i ∧ ∀ k, k < i → ∃ a vs n, items[k]? = some (.ref a) ∧ V a = some (lst vs n) ∧ IntsL vs (wt K (R k))
theorem WtsL.mono {V V' : View} {items : List Value} {K : List (Int × Int)} {R : Nat → Row} {i : Nat} (h : WtsL V items K R i) (le : V.le V') : WtsL V' items K R i := ⟨h.1, fun k hk => let ⟨a, vs, n, e1, e2, e3⟩ := h.2 k hk; (in_EEEAA a vs n e1 (le _ _ e2) e3)⟩
theorem WtsL.snoc {V : View} {items : List Value} {K : List (Int × Int)} {R : Nat → Row} {i : Nat} (h : WtsL V items K R i) {a : Addr} {vs : List Value} {n : Nat} (e : V a = some (lst vs n)) (hv : IntsL vs (wt K (R i))) : WtsL V (items ++ [.ref a]) K R (i + 1) := by
  refine ⟨by simp [h.1], fun k hk => ?_⟩
  by_cases hki : k < i
  · refine el_EEEAA (h.2 k hki) fun a vs n e1 e2 e3 => ?_
    exact (in_EEEAA a vs n (by rw [List.getElem?_append_left (by rw [h.1]; exact hki)]; exact e1) e2 e3)
  · have : k = i := by (first | decide | lia)
    subst this
    exact (in_EEEAA a vs n (by rw [List.getElem?_append_right (by rw [h.1]; exact Nat.le_refl _), h.1, Nat.sub_self]; rfl) e hv)

noncomputable def pack95 : { b : FuncData // ∀ P, (hd.heap_39 P).lookup 95 = some ⟨.type "function", none, .func b, #[]⟩ } := ⟨_, fun P => rfl⟩
noncomputable def F95 : FuncData := pack95.1
noncomputable def b95 : List Stmt := match F95.body with | .stmts b => b | _ => []

section
variable {prog : Program} {w : World} {mg mb : Str → Option Value} {g : Heap} {A : Around} {E : Value → Shared → Prop} {s : Shared}

set_option maxHeartbeats 2000000 in
theorem ranks_spec (B : Bs w mg mb g) (hA : Ok A 6) (hw : Wd g s) {U : View} (hU : Sub U s []) {rl kl : Addr} {K : List (Int × Int)} {ra : Nat → Addr} {R : Nat → Row} {N n : Nat} {Q : Value → Shared → Prop}
    (hk : IsKeys U kl K) (hK : ∀ p ∈ K, (p.1 = 0 ∨ p.1 = 1 ∨ p.1 = 2) ∧ (p.2 = 1 ∨ p.2 = -1)) (hK3 : K.length ≤ 10) (hrl : U rl = some (lst (vref ra (List.range N)) n)) (hjs : ∀ j, j < N → IsRow U (ra j) (R j)) (hx : ∀ j, j < N → (R j).x ∈ txts) (hlen : N ≤ 20)
    (hQ : ∀ al vals n' s', Stp [] s s' → NatsAre vals (ranksOf K R N) → (∀ V'', Fresh s s' V'' → V'' al = some (lst vals n')) → Q (.ref al) s') :
    wpAny (model prog w) A (call (.ref 95) [.ref rl, .ref kl]) Q E s := by
  refine call_defC (mu := []) (body := b95) (binds := [("rows", .ref rl), ("keys", .ref kl)]) B hA hw (hw.base _ _ (B.K 95 _ (pack95.2 w.params))) rfl (codeRec_g hw (codeRec_of B.K rfl)) rfl (BindsTo.of_eq rfl) rfl (fun _ h => nomatch h) List.nodup_nil (fun L t hL D => ?_)
    (fun n => by show List.Nodup [("plain" : Str), "weights"]; decide) (fun n y hy => ?_)
  case refine_2 =>
    simp only [List.mem_cons, List.not_mem_nil, or_false] at hy
    rcases hy with rfl | rfl
    · exact .inl rfl
    · exact .inl rfl
  have D : Bd g s [] (fullV s []) [(L + 1 + 1, cel none), (L + 1, cel none)] L (upd (upd (fun _ => none) "rows" (.ref rl)) "keys" (.ref kl)) t := D
  have le' : U.le (fullV s []) := hU.leFull
  replace hk := hk.mono le'
  replace hrl := le' _ _ hrl
  replace hjs := fun j hj => (hjs j hj).mono le'
  clear le' hU
  generalize hF : fullV s [] = V0 at D hk hrl hjs
  refine el_EEAA (hk) fun ks nk hk1 hk2 hk3 => ?_; try clear hk
  have hA1 := hA.deeper (callEnvC pack95.1 L 95)
  generalize A.deeper (callEnvC pack95.1 L 95) = A1 at hA1 ⊢
  revert A1
  refine noBeta ?_
  intro A1 hA1
  have hvl := vref_len ra (List.range N)
  rw [List.length_range] at hvl
  try refine kq _ ?_
  refine seqK fun KQ kq => (wpAny_Assign_Name (r_list (args_cons (r_str D fun q1 t1 D1 => args_cons (r_str D1 fun q2 t2 D2 => args_cons (r_str D2 fun q3 t3 D3 => args_cons (r_str D3 fun q4 t4 D4 => args_nil (in_EEEAA _ _ _ D4 (Nat.le_of_ble_eq_true rfl) (fun tx t5 hV5 hs5 D5 => ?_)))))))))
  refine el_EAAA (D5.fix (fun h => nomatch h)) fun V1 le1 htx _ D6 => ?_
  refine r_store D6 fun t7 D7 => ?_
  try refine kq _ ?_
  refine seqK fun KQ kq => (wpAny_Assign_Name (r_list (args_nil (in_EEEAA _ _ _ D7 (Nat.le_of_ble_eq_true rfl) (fun wl t8 hV8 hs8 D8 => r_storeC D8 2 rfl fun t9 D9 => ?_)))))
  have D9 : Bd g s [] V1 [(wl, lst [] 0), (L + 1 + 1, cel none), (L + 1, cel (some (.ref wl)))] L (upd (upd (upd (fun _ => none) "rows" (.ref rl)) "keys" (.ref kl)) "texts" (.ref tx)) t9 := D9
  have hT : StrsAre [.str "" q1, .str "a" q2, .str "ab" q3, .str "b" q4] txts := .cons _ _ (.cons _ _ (.cons _ _ (.cons _ _ .nil)))
  try refine kq _ ?_
  refine seqK fun KQ kq => (wpAny_For (r_name D9 rfl ?_))
  refine for_list hA1.h D9 ⟨_, D9.see _ _ (le1 _ _ hrl), rfl, _, rfl⟩ (fun i V' mu' m' => V1.le V' ∧ (∃ items n1 pv, mu' = [(wl, lst items n1), (L + 1 + 1, cel pv), (L + 1, cel (some (.ref wl)))] ∧ WtsL (cut s noV V') items K R i) ∧ m' "keys" = some (.ref kl) ∧ m' "texts" = some (.ref tx))
    (in_AAA .rfl ((in_EEEAA [] 0 none rfl rfl (fun k h => absurd h (Nat.not_lt_zero _)))) rfl rfl) (fun i I V' mu' m' o' t' hJ D' => ⟨_, D'.see _ _ (hJ.1 _ _ (le1 _ _ hrl)), rfl, _, rfl⟩) ?_ ?_
  · intro i I v V' mu' m' o' t' KK hKK hRR hv hQ1; refine el_AAA (hQ1) fun le hN1 mk mt => ?_; try clear hQ1; refine el_EEEA (hN1) fun items n1 pv hR1 hW => ?_; try clear hN1; subst hR1; intro D'
    have hi : i < N := by rw [← hvl]; exact (List.getElem?_eq_some_iff.mp hv).1
    refine el_A (vref_get hv) fun hR2 _ => ?_; subst hR2
    have hgi : (List.range N).getD i 0 = i := by rw [List.getD_eq_getElem?_getD, List.getElem?_range hi]; rfl
    rw [hgi]
    have leI := le1.trans le
    refine el_EEEEE ((hjs i hi).mono leI) fun a1 a2 a3 a4 an hrow => ?_
    have hxm := hx i hi
    have hil := hW.1
    refine PyProof.Rows.assign_Name (r_store D' fun t1 D1 => ?_)
    have mk1 : upd m' "row" (.ref (ra i)) "keys" = some (.ref kl) := mk
    have mt1 : upd m' "row" (.ref (ra i)) "texts" = some (.ref tx) := mt
    have htxV := le _ _ htx
    try refine kq _ ?_
    refine seqK fun KQ kq => (wpAny_Assign_Name (r_list (g := g) (s₀ := s) (W := []) (args_cons (Subscript_ (r_name D1 rfl (r_int D1 fun k1 t2 D2 => item_tupleT ⟨_, D2.see _ _ hrow, rfl, _, rfl⟩ (by decide) (by decide) rfl rfl ?_))))))
    refine args_cons (methodCall_KW (r_name D2 mt1 (getMethod_list_of PySem.F.slot_list_index PySem.F.type_list_index ⟨_, D2.see _ _ htxV, rfl, _, rfl⟩ ⟨_, D2.see _ _ htxV, rfl⟩
      (callWith_builtin rfl (evalArgs_plain (args_cons (Subscript_ (r_name D2 rfl (r_int D2 fun k2 t3 D3 => item_tupleT ⟨_, D3.see _ _ hrow, rfl, _, rfl⟩ (by decide) (by decide) rfl rfl (args_nil ?_))))))))))
    refine index_strs (D3.see _ _ htxV) hT (by decide) hxm ?_
    have D3' := D3.tok (t3.toks + 1)
    refine args_cons (Subscript_ (r_name D3' rfl (r_int D3' fun k3 t4 D4 => item_tupleT ⟨_, D4.see _ _ hrow, rfl, _, rfl⟩ (by decide) (by decide) rfl rfl (args_nil (in_EEEAA _ _ _ D4 (Nat.le_of_ble_eq_true rfl) (fun pl t5 hVp hsp D5 => ?_))))))
    refine el_EAAA (D5.fix (fun h => nomatch h)) fun V2 le2 hpl _ D6 => ?_
    refine r_storeC D6 2 rfl fun t7 D7 => ?_
    have D7 : Bd g s [] V2 [(I, o'), (wl, lst items n1), (L + 1 + 1, cel (some (.ref pl))), (L + 1, cel (some (.ref wl)))] L (upd m' "row" (.ref (ra i))) t7 := D7
    have mk2 : upd m' "row" (.ref (ra i)) "keys" = some (.ref kl) := mk
    have hplV : ∀ c : Int, (c = 0 ∨ c = 1 ∨ c = 2) → ∃ tk, ([.int (R i).a a1, .int ((txts.idxOf (R i).x : Nat) : Int) t3.toks, .int (R i).c a3] : List Value)[c.toNat]? = some (.int (plainI (R i) c) tk) := by
      rintro c (rfl | rfl | rfl)
      · exact ⟨_, rfl⟩
      · exact ⟨_, rfl⟩
      · exact ⟨_, rfl⟩
    replace hpl : V2 pl = some (lst [.int (R i).a a1, .int ((txts.idxOf (R i).x : Nat) : Int) t3.toks, .int (R i).c a3] 0) := hpl
    generalize ([.int (R i).a a1, .int ((txts.idxOf (R i).x : Nat) : Int) t3.toks, .int (R i).c a3] : List Value) = pvals at hpl hplV
    have leK := leI.trans le2
    try refine kq _ ?_
    refine seqK fun KQ kq => (wpAny_Expr (methodCall_KW (r_cell D7 (.tail _ (.tail _ (.tail _ (.head _)))) (getMethod_list_of PySem.F.slot_list_append PySem.F.type_list_append ⟨_, (D7.mus (wl, _) (.tail _ (.head _))).1, rfl, _, rfl⟩ ⟨_, (D7.mus (wl, _) (.tail _ (.head _))).1, rfl⟩
      (callWith_builtin rfl (evalArgs_plain (args_cons (comp_expr (cl := [("plain", L + 1 + 1)]) ?hcl ?hkd ?hnm ?hmain))))))))
    case hcl => exact rfl
    case hkd => exact rfl
    case hnm => decide
    refine r_name D7 mk2 ?_
    refine blk_list B hA1.h D7 ⟨_, D7.see _ _ (leK _ _ hk1), rfl, _, rfl⟩ rfl (fun k => by show List.Nodup ([] : List Str); exact List.nodup_nil) (by (first | decide | lia))
      (fun j _ ys => IntsL ys ((K.take j).map fun k => k.2 * plainI (R i) k.1)) (fun i V V' ys h _ => h) .nil ?_ ?_
    · intro tt1 s3 I2 acc C j v V4 cm m2 t2 ys nn oI2 K3Dc K4Dc hkk hj hv2 hyl hle hJi Dc hK3Dc hK4Dc
      have Dc : Bd g s3 [acc, I2] V4 [(acc, lst ys nn), (I2, oI2)] C m2 t2 := Dc
      have hjK : j < K.length := by rw [← hk2]; exact hj
      obtain ⟨⟨c, d⟩, hKj⟩ : ∃ k, K[j]? = some k := ⟨K[j], by simp [hjK]⟩
      refine el_EEEEA ((hk3 j v _ hv2 hKj).mono leK) fun a u1 u2 n2 hR3 ha => ?_; subst hR3
      refine el_A (hK _ (List.mem_of_getElem? hKj)) fun hc hd => ?_
      replace hc : c = 0 ∨ c = 1 ∨ c = 2 := hc
      replace hd : d = 1 ∨ d = -1 := hd
      have leV := (D7.leFull (W' := []) (fun _ h => nomatch h)).trans hle
      have hcell := hle _ _ (D7.muFull (W' := []) (a := L + 1 + 1) (.tail _ (.tail _ (.head _))) List.not_mem_nil)
      refine el_E (hplV c hc) fun tkp hpc => ?_
      refine wpAny_assign_Tuple hA1.h ⟨_, Dc.see _ _ (leV _ _ ha), rfl, _, rfl⟩ rfl rfl fun h1 hext => ?_
      have D8 := Dc.grow (n := t2.toks) (h' := h1) fun b o e => hext b o (Nat.ne_of_lt (Heap.lt_size e)) e
      refine assignInOrder_cons (PyProof.Rows.assign_Name (r_store D8 fun t4 D9 => assignInOrder_cons (PyProof.Rows.assign_Name (r_store D9 fun t5 D10 => assignInOrder_nil (wpAny_tests_nil ?_)))))
      rw [if_pos rfl]
      refine wpAny_BinOp (r_name D10 rfl (Subscript_ (r_cellV D10 hcell (r_name D10 rfl (item_list (k := c.toNat) ⟨_, D10.see _ _ (leV _ _ hpl), rfl, _, rfl⟩ (by (first | decide | lia)) (by (first | decide | lia)) hpc ?_)))))
      refine mul_int ?_ (IntMulOk.of_left (intBits_le_64 (by (first | decide | lia)) (by (first | decide | lia))))
      refine hK3Dc _ _ (in_EEEAA V4 cm _ .rfl ?_ (D10.tok _))
      have : K.take (j + 1) = K.take j ++ [(c, d)] := by rw [List.take_add_one, hKj]; rfl
      rw [this, List.map_append]
      exact hJi.snoc _ _
    intro acc C ys n' Vf mC tf hJ leF hyl2 hsch hns hVC hCL hCm Df
    refine post_none hns hVC hCL hCm Df fun t6 D6 => ?_
    rw [hk2, List.take_of_length_le (Nat.le_refl _)] at hJ
    refine el_EAAA (D6.fix (fun h => nomatch h)) fun V7 le7 hacc hsacc D7 => ?_
    refine args_nil (list_append_ D7 1 rfl (by (first | decide | lia)) fun n2 t8 D8 => kq _ <| wpAny_execs_nil ?_)
    have leT := (le2.trans leF).trans le7
    have D8 : Bd g s [] V7 [(I, o'), (wl, lst (items ++ [.ref acc]) n2), (L + 1 + 1, cel (some (.ref pl))), (L + 1, cel (some (.ref wl)))] L (upd m' "row" (.ref (ra i))) t8 := D8
    refine hKK _ (in_EEEA V7 ([(wl, lst (items ++ [.ref acc]) n2), (L + 1 + 1, cel (some (.ref pl))), (L + 1, cel (some (.ref wl)))]) (upd m' "row" (.ref (ra i))) ((in_AAA (le.trans leT) ((in_EEEA (items ++ [.ref acc]) n2 _ rfl ?_)) mk1 mt1)) D8)
    exact (hW.mono (cut_le leT)).snoc (cut_new hsacc hacc) hJ
  · intro V' mu' m' t' hQ2; refine el_AAA (hQ2) fun le hN2 mk mt => ?_; try clear hQ2; refine el_EEEA (hN2) fun items n1 pv hR4 hW => ?_; try clear hN2; subst hR4; intro D'
    rw [hvl] at hW
    have hil := hW.1
    try refine kq _ ?_
    refine wpAny_execs_cons (wpAny_Return_some ?_)
    refine comp_expr (cl := [("weights", L + 1)]) ?hcl2 ?hkd2 ?hnm2 ?hmain2
    case hcl2 => exact rfl
    case hkd2 => exact rfl
    case hnm2 => decide
    refine r_cell D' (.tail _ (.tail _ (.head _))) ?_
    have hWt : WtsL V' items K R N := hW.mono fun b o e => by
      unfold cut at e
      split at e
      · exact e
      · cases e
    refine blk_list B hA1.h D' ⟨_, (D'.mus (wl, _) (.head _)).1, rfl, _, rfl⟩ rfl (fun k => by show List.Nodup [("weight" : Str)]; decide) (by (first | decide | lia))
      (fun j _ ys => NatsAre ys ((List.range j).map (rankOf K R N))) (fun i V V' ys h _ => h) .nil ?_ ?_
    · intro tt1 s3 I2 acc C j v V4 cm m2 t2 ys nn oI2 K3Dc K4Dc hkk hj hv2 hyl hle hJi Dc hK3Dc hK4Dc
      have Dc : Bd g s3 [acc, I2] V4 [(C + 1, cel (cm "weight")), (acc, lst ys nn), (I2, oI2)] C m2 t2 := Dc
      have hcell := hle _ _ (D'.muFull (W' := []) (a := L + 1) (.tail _ (.tail _ (.head _))) List.not_mem_nil)
      have hwl := hle _ _ (D'.muFull (W' := []) (a := wl) (.head _) List.not_mem_nil)
      have leV := (D'.leFull (W' := []) (fun _ h => nomatch h)).trans hle
      refine el_EEEAA (hWt.2 j (by (first | decide | lia))) fun wa wvs wn ewa hwa hwv => ?_
      rw [hv2] at ewa
      cases ewa
      refine PyProof.Rows.assign_Name (r_storeC Dc 0 rfl fun t3 D3 => wpAny_tests_nil ?_)
      rw [if_pos rfl]
      have D3 : Bd g s3 [acc, I2] V4 [(C + 1, cel (some (.ref wa))), (acc, lst ys nn), (I2, oI2)] C m2 t3 := D3
      refine Call_ (r_built D3 B B.n_len B.b_len (callWith_builtin1 (args_cons (comp_expr (cl := [("weight", C + 1)]) ?hcl3 ?hkd3 ?hnm3 ?hmain3))))
      case hcl3 => exact rfl
      case hkd3 => exact rfl
      case hnm3 => decide
      refine r_cellV D3 hcell ?_
      refine blk_list B hA1.h D3 ⟨_, D3.see _ _ hwl, rfl, _, rfl⟩ rfl (fun k => by show List.Nodup ([] : List Str); exact List.nodup_nil) (by (first | decide | lia))
        (fun i _ ys => ys.length = ((List.range i).filter fun l => lexlt (wt K (R l)) (wt K (R j))).length) (fun i V V' ys h _ => h) rfl ?_ ?_
      · intro tt2 s5 I3 acc2 C2 i v3 V5 cm2 m3 t4 ys2 nn2 oI3 K3Dd K4Dd hkk2 hi hv3 hyl3 hle2 hJi2 Dd hK3Dd hK4Dd
        have Dd : Bd g s5 [acc2, I3] V5 [(acc2, lst ys2 nn2), (I3, oI3)] C2 m3 t4 := Dd
        have hcw := hle2 _ _ (D3.muFull (W' := []) (a := C + 1) (.head _) List.not_mem_nil)
        have leW := leV.trans ((D3.leFull (W' := []) (fun _ h => nomatch h)).trans hle2)
        refine el_EEEAA (hWt.2 i (by (first | decide | lia))) fun oa ovs on eoa hoa hov => ?_
        rw [hv3] at eoa
        cases eoa
        refine PyProof.Rows.assign_Name (r_store Dd fun t5 D5 => wpAny_tests_one ?_)
        refine wpAny_isTrue_Compare1 (r_name D5 rfl (r_cellV D5 hcw (lt_lists (D5.see _ _ (leW _ _ hoa)) (D5.see _ _ (leW _ _ hwa)) hov.intsAre hwv.intsAre (by unfold wt; simp) hA1.cl (wpAny_truthy_bool ?_))))
        cases hlt : lexlt (wt K (R i)) (wt K (R j)) with
        | true =>
          rw [if_pos rfl]
          refine r_int D5 fun k5 t6 D6 => hK3Dd _ _ (in_EEEAA V5 cm2 _ .rfl ?_ D6)
          rw [List.range_succ, List.filter_append, List.length_append, List.length_append, hJi2]
          simp [hlt]
        | false =>
          rw [if_neg Bool.false_ne_true]
          refine hK4Dd _ (in_EEEAA V5 cm2 _ .rfl ?_ D5)
          rw [List.range_succ, List.filter_append, List.length_append, hJi2]
          simp [hlt]
      intro acc2 C2 ys2 n2 Vf mC tf hJ leF hyl2 hsch hns hVC hCL hCm Df
      refine post_none hns hVC hCL hCm Df fun t6 D6 => ?_
      rw [hil] at hJ
      refine args_nil (call_len_list ⟨_, (D6.mus (acc2, _) (.head _)).1, rfl, _, rfl⟩ (by rw [List.size_toArray]; (first | decide | lia)) ?_)
      rw [List.size_toArray, hJ]
      have D7 := (D6.drop (n := t6.toks) (h' := t6.heap) (fun b o _ e => e) (fun h => by
        have nd := D6.nd
        rw [List.map_cons, List.nodup_cons] at nd
        exact nd.1 (.tail _ h))).tok (t6.toks + 1 + 1)
      refine hK3Dc _ _ (in_EEEAA Vf ((fun _ => some (.ref wa))) _ leF ?_ D7)
      rw [List.range_succ, List.map_append]
      exact hJi.snoc _ _
    intro acc C ys n' Vf mC tf hJ leF hyl2 hsch hns hVC hCL hCm Df
    refine post_none hns hVC hCL hCm Df fun t6 D6 => ?_
    rw [hil] at hJ
    have z0 := D6.mus _ (.head _)
    have hh := hQ acc ys n' t6 D6.st hJ (fun V'' fr => fr _ _ z0.1 hsch)
    exact hh
end
end Mine
end

section
open PySem PySem.W PyProof.Rows PySem.Calls
set_option Elab.async false
set_option linter.unusedVariables false
namespace Mine
set_option maxRecDepth 100000

noncomputable abbrev nats (js : List Nat) : List Int := js.map fun (j : Nat) => (j : Int)
theorem NatsAre.ints : ∀ {vs : List Value} {js : List Nat}, NatsAre vs js → IntsAre vs (nats js)
  | [], [], _ => .nil
  | [], _ :: _, h => by cases h.1
  | _ :: _, [], h => by cases h.1
  | v :: vs, x :: xs, h => by
    refine el_E (h.2 0 (Nat.zero_lt_succ _)) fun t e => ?_
    cases e
    refine .cons _ _ (NatsAre.ints ⟨Nat.succ.inj h.1, fun i hi => ?_⟩)
    refine el_E (h.2 (i + 1) (Nat.succ_lt_succ hi)) fun t e => ?_
    exact ⟨t, e⟩
theorem NatsAre.of_ints : ∀ {vs : List Value} {js : List Nat}, IntsAre vs (nats js) → NatsAre vs js
  | _, [], .nil => .nil
  | _, j :: js, .cons _ t r => by
    have h := NatsAre.of_ints r
    refine ⟨by simp [h.1], fun i hi => ?_⟩
    cases i with
    | zero => exact ⟨t, rfl⟩
    | succ i => refine el_E (h.2 i (Nat.lt_of_succ_lt_succ hi)) fun tk e => ?_; exact ⟨tk, e⟩
theorem nats_any (js : List Nat) (k : Nat) : (nats js).any (· == (k : Int)) = js.any (· == k) := by
  unfold nats
  rw [List.any_map]
  congr 1
  funext x
  show ((x : Int) == (k : Int)) = (x == k)
  by_cases h : x = k
  · subst h; simp
  · have : (x : Int) ≠ (k : Int) := fun q => h (by lia)
    rw [beq_eq_false_iff_ne.mpr this, beq_eq_false_iff_ne.mpr h]
theorem nats_idx : ∀ (js : List Nat) (k : Nat), (nats js).idxOf (k : Int) = js.idxOf k
  | [], _ => rfl
  | x :: js, k => by
    unfold nats
    rw [List.map_cons, List.idxOf_cons, List.idxOf_cons]
    have ih := nats_idx js k
    unfold nats at ih
    rw [ih]
    by_cases h : x = k
    · subst h; simp
    · have : (x : Int) ≠ (k : Int) := fun q => h (by lia)
      rw [beq_eq_false_iff_ne.mpr this, beq_eq_false_iff_ne.mpr h]
theorem IntsAre.erase : ∀ {vs : List Value} {ns : List Int} (i : Nat), IntsAre vs ns → IntsAre (vs.eraseIdx i) (ns.eraseIdx i)
  | _, _, _, .nil => .nil
  | _, _, 0, .cons _ _ r => r
  | _, _, i + 1, .cons n t r => .cons n t (IntsAre.erase i r)
theorem NatsAre.erase {vs : List Value} {js : List Nat} (h : NatsAre vs js) (k : Nat) : NatsAre (vs.eraseIdx ((nats js).idxOf (k : Int))) (js.erase k) := by
  refine NatsAre.of_ints ?_
  rw [nats_idx, List.erase_eq_eraseIdx_of_idxOf rfl]
  have := IntsAre.erase (js.idxOf k) h.ints
  have e : (nats js).eraseIdx (js.idxOf k) = nats (js.eraseIdx (js.idxOf k)) := by
    generalize js.idxOf k = i
    clear this h
    induction js generalizing i with
    | nil => rfl
    | cons x js ih => cases i with
      | zero => rfl
      | succ i => exact congrArg (_ :: ·) (ih i)
  rw [← e]
  exact this

noncomputable def freeS (js : List Nat) : List Nat := js.filter fun s => !(js.any (· == 2 * s)) && !(js.any (· == 3 * s))
noncomputable def pickS (js : List Nat) (told : Int) : Nat := (freeS js).getD (told.fmod ((freeS js).length : Nat)).toNat 0
noncomputable def stepsGo : Nat → List Nat → Int → List Nat → List Nat
  | 0, _, _, acc => acc
  | f + 1, js, told, acc => stepsGo f (js.erase (pickS js told)) (told.fdiv 2) (acc ++ [pickS js told])
noncomputable def left0 (N : Nat) : List Nat := [1, 2, 3, 4, 6, 8, 9].filter (· < N)
noncomputable def stepsOf (N : Nat) (told : Int) : List Nat := stepsGo (left0 N).length (left0 N) told []

theorem exists_max : ∀ (js : List Nat), js ≠ [] → ∃ m ∈ js, ∀ x ∈ js, x ≤ m
  | [], h => absurd rfl h
  | [a], _ => (in_EA a (.head _) (fun x hx => by rw [List.mem_singleton.mp hx]; exact Nat.le_refl _))
  | a :: b :: js, _ => by
    refine el_EA (exists_max (b :: js) (by simp)) fun m hm h => ?_
    by_cases ha : a ≤ m
    · exact (in_EA m (.tail _ hm) (fun x hx => by rcases List.mem_cons.mp hx with rfl | hx; exact ha; exact h x hx))
    · exact (in_EA a (.head _) (fun x hx => by
        rcases List.mem_cons.mp hx with hq0 | hx
        · subst x; exact Nat.le_refl _
        · exact Nat.le_trans (h x hx) (by lia)))
theorem free_ne {js : List Nat} (h : js ≠ []) (hp : ∀ j ∈ js, 0 < j) : freeS js ≠ [] := by
  refine el_EA (exists_max js h) fun m hm hmax => ?_
  have h0 := hp m hm
  have : m ∈ freeS js := by
    unfold freeS
    rw [List.mem_filter]
    refine ⟨hm, ?_⟩
    have h2 : ∀ c, m < c → js.any (· == c) = false := fun c hc => by
      rw [List.any_eq_false]
      intro x hx
      have := hmax x hx
      simp; lia
    rw [h2 _ (by lia), h2 _ (by lia)]
    rfl
  exact List.ne_nil_of_mem this
theorem pick_free {js : List Nat} (h : js ≠ []) (hp : ∀ j ∈ js, 0 < j) (told : Int) : ∃ k, told.fmod ((freeS js).length : Nat) = (k : Nat) ∧ k < (freeS js).length ∧ (freeS js)[k]? = some (pickS js told) ∧ pickS js told ∈ freeS js := by
  have hl : 0 < (freeS js).length := List.length_pos_iff.mpr (free_ne h hp)
  have h0 : 0 ≤ told.fmod ((freeS js).length : Nat) := Int.fmod_nonneg_of_pos _ (by (exact Int.ofNat_lt.mpr (by assumption)))
  have h1 : told.fmod ((freeS js).length : Nat) < (freeS js).length := Int.fmod_lt_of_pos _ (by (exact Int.ofNat_lt.mpr (by assumption)))
  refine (in_EAAA ((told.fmod ((freeS js).length : Nat)).toNat) (by omega) (by omega) ?_ ?_)
  · unfold pickS
    rw [List.getD_eq_getElem?_getD, List.getElem?_eq_getElem (by omega)]; rfl
  · unfold pickS
    rw [List.getD_eq_getElem?_getD, List.getElem?_eq_getElem (by omega)]; exact List.getElem_mem _

noncomputable def pack100 : { b : FuncData // ∀ P, (hd.heap_39 P).lookup 100 = some ⟨.type "function", none, .func b, #[]⟩ } := ⟨_, fun P => rfl⟩
noncomputable def F100 : FuncData := pack100.1
noncomputable def b100 : List Stmt := match F100.body with | .stmts b => b | _ => []

section
variable {prog : Program} {w : World} {mg mb : Str → Option Value} {g : Heap} {A : Around} {E : Value → Shared → Prop} {s : Shared}

set_option maxHeartbeats 2000000 in
theorem steps_spec (B : Bs w mg mb g) (hA : Ok A 6) (hw : Wd g s) {N : Nat} {told : Int} {tn tt : Tok} {Q : Value → Shared → Prop} (hN : N ≤ 100)
    (hQ : ∀ al vals n' s', Stp [] s s' → NatsAre vals (stepsOf N told) → (∀ V'', Fresh s s' V'' → V'' al = some (lst vals n')) → Q (.ref al) s') :
    wpAny (model prog w) A (call (.ref 100) [.int N tn, .int told tt]) Q E s := by
  refine call_defC (mu := []) (body := b100) (binds := [("size", .int N tn), ("told", .int told tt)]) B hA hw (hw.base _ _ (B.K 100 _ (pack100.2 w.params))) rfl (codeRec_g hw (codeRec_of B.K rfl)) rfl (BindsTo.of_eq rfl) rfl (fun _ h => nomatch h) List.nodup_nil (fun L t hL D => ?_)
    (fun n => by show List.Nodup [("left" : Str), "size"]; decide) (fun n y hy => ?_)
  case refine_2 =>
    simp only [List.mem_cons, List.not_mem_nil, or_false] at hy
    rcases hy with rfl | rfl
    · exact .inr (in_AEE rfl 1 n rfl)
    · exact .inl rfl
  have D : Bd g s [] (fullV s []) [(L + 1 + 1, cel none), (L + 1, cel (some (.int N tn)))] L (upd (fun _ => none) "told" (.int told tt)) t := D
  generalize hF : fullV s [] = V0 at D
  have hA1 := hA.deeper (callEnvC pack100.1 L 100)
  generalize A.deeper (callEnvC pack100.1 L 100) = A1 at hA1 ⊢
  revert A1
  refine noBeta ?_
  intro A1 hA1
  try refine kq _ ?_
  refine seqK fun KQ kq => (wpAny_Assign_Name (comp_expr (cl := [("size", L + 1)]) ?hcl ?hkd ?hnm ?hmain))
  case hcl => exact rfl
  case hkd => exact rfl
  case hnm => decide
  refine r_list (args_cons (r_int D fun q1 t1 D1 => args_cons (r_int D1 fun q2 t2 D2 => args_cons (r_int D2 fun q3 t3 D3 => args_cons (r_int D3 fun q4 t4 D4 => args_cons (r_int D4 fun q5 t5 D5 => args_cons (r_int D5 fun q6 t6 D6 => args_cons (r_int D6 fun q7 t7 D7 =>
    args_nil (in_EEEAA _ _ _ D7 (Nat.le_of_ble_eq_true rfl) (fun cl t8 hV8 hs8 D8 => ?_))))))))))
  have hZ : NatsAre [.int 1 q1, .int 2 q2, .int 3 q3, .int 4 q4, .int 6 q5, .int 8 q6, .int 9 q7] [1, 2, 3, 4, 6, 8, 9] := NatsAre.of_ints (.cons _ _ (.cons _ _ (.cons _ _ (.cons _ _ (.cons _ _ (.cons _ _ (.cons _ _ .nil)))))))
  refine blk_list B hA1.h D8 ⟨_, (D8.mus (cl, _) (.head _)).1, rfl, _, rfl⟩ rfl (fun k => by show List.Nodup ([] : List Str); exact List.nodup_nil) (by show 7 < 100000; decide)
    (fun j _ ys => NatsAre ys (([1, 2, 3, 4, 6, 8, 9].take j).filter (· < N))) (fun i V V' ys h _ => h) .nil ?_ ?_
  · intro tt1 s3 I2 acc C j v V4 cm m2 t2 ys nn oI2 K3Dc K4Dc hkk hj hv2 hyl hle hJi Dc hK3Dc hK4Dc
    have Dc : Bd g s3 [acc, I2] V4 [(acc, lst ys nn), (I2, oI2)] C m2 t2 := Dc
    refine el_AE (hZ.get hv2) fun hj7 tkv hR1 => ?_; subst hR1
    have hcell := hle _ _ (D8.muFull (W' := []) (a := L + 1) (.tail _ (.tail _ (.head _))) List.not_mem_nil)
    have htk : ([1, 2, 3, 4, 6, 8, 9] : List Nat).take (j + 1) = ([1, 2, 3, 4, 6, 8, 9] : List Nat).take j ++ [([1, 2, 3, 4, 6, 8, 9] : List Nat).getD j 0] := by
      rw [List.take_add_one, List.getD_eq_getElem?_getD, List.getElem?_eq_getElem hj7]; rfl
    generalize ([1, 2, 3, 4, 6, 8, 9] : List Nat).getD j 0 = x at htk
    refine PyProof.Rows.assign_Name (r_store Dc fun t5 D5 => wpAny_tests_one ?_)
    refine wpAny_isTrue_Compare1 (r_name D5 rfl (r_cellV D5 hcell (lt_int (wpAny_truthy_bool ?_))))
    by_cases hx : x < N
    · have hx' : (x : Int) < (N : Int) := by (exact Int.ofNat_lt.mpr (by assumption))
      rw [if_pos (by simpa using hx')]
      refine r_name D5 rfl (hK3Dc _ _ (in_EEEAA V4 cm _ .rfl ?_ D5))
      rw [htk, List.filter_append]
      simp only [List.filter_cons, hx, decide_true, if_true, List.filter_nil]
      exact hJi.snoc _ _
    · have hx' : ¬ (x : Int) < (N : Int) := by lia
      rw [if_neg (by simpa using hx')]
      refine hK4Dc _ (in_EEEAA V4 cm _ .rfl ?_ D5)
      rw [htk, List.filter_append]
      simp only [List.filter_cons, hx, decide_false, Bool.false_eq_true, if_false, List.filter_nil, List.append_nil]
      exact hJi
  intro ll C ys n1 Vf mC tf hJ leF hyl2 hsll hns hVC hCL hCm Df
  refine post_none hns hVC hCL hCm Df fun t9 D9 => ?_
  replace hJ : NatsAre ys (left0 N) := hJ
  have D10 := (D9.drop1 (n := t9.toks) (h' := t9.heap) (fun b o _ e => e) (fun h => nomatch h))
  refine r_storeC D10 1 rfl fun t11 D11 => ?_
  try refine kq _ ?_
  refine seqK fun KQ kq => (wpAny_Assign_Name (r_list (args_nil (in_EEEAA _ _ _ D11 (Nat.le_of_ble_eq_true rfl) (fun sl t12 hV12 hs12 D12 => r_store D12 fun t13 D13 => ?_)))))
  have D13 : Bd g s [] Vf [(sl, lst [] 0), (ll, lst ys n1), (L + 1 + 1, cel (some (.ref ll))), (L + 1, cel (some (.int N tn)))] L (upd (upd (fun _ => none) "told" (.int told tt)) "steps" (.ref sl)) t13 := D13
  have hlen0 : (left0 N).length ≤ 7 := List.length_filter_le _ _
  try refine kq _ ?_
  refine seqK fun KQ kq => (while_bd D13 (fun k V' mu' m' => Vf.le V' ∧ ∃ svals n2 lvals n3 sts js to tk, mu' = [(sl, lst svals n2), (ll, lst lvals n3), (L + 1 + 1, cel (some (.ref ll))), (L + 1, cel (some (.int N tn)))] ∧ NatsAre svals sts ∧ NatsAre lvals js ∧
      k = js.length ∧ k ≤ 7 ∧ sts.length + k ≤ 7 ∧ (∀ j ∈ js, 0 < j ∧ j < 10) ∧ m' "told" = some (.int to tk) ∧ m' "steps" = some (.ref sl) ∧ stepsGo k js to sts = stepsOf N told) (left0 N).length
    (in_AEEEEEEEEAAAAAAAAA .rfl [] 0 ys n1 [] (left0 N) told tt rfl .nil hJ rfl hlen0 (by simpa using hlen0) ((fun j hj => by
      have := (List.mem_filter.mp hj).1
      simp only [List.mem_cons, List.not_mem_nil, or_false] at this
      lia)) rfl rfl rfl) ?_)
  intro k V' mu' m' t' KK hKK hRR hQ1; refine el_AEEEEEEEEAAAAAAAAA (hQ1) fun le svals n2 lvals n3 sts js to tk hR2 hsv hlv hk hk7 hsk hpos mt ms hgo => ?_; try clear hQ1; subst hR2; intro D'
  have hll := hlv.1
  refine wpAny_isTrue_Compare1 (r_cell D' (.tail _ (.tail _ (.head _))) (r_list (args_nil (in_EEEAA _ _ _ D' (Nat.le_of_ble_eq_true rfl) (fun el t1 hV1 hs1 D1 => ?_)))))
  have D2 := (D1.drop (n := t1.toks) (h' := t1.heap) (fun b o _ e => e) (fun h => nomatch h))
  by_cases hjs : js = []
  · subst hjs
    have hl0 : lvals = [] := List.length_eq_zero_iff.mp hll
    subst hl0
    refine ne_refs (e := fun _ => true) (D2.mus (ll, _) (.tail _ (.head _))).1 (D1.mus (el, _) (.head _)).1 rfl hA1.cl (fun j h1 => absurd h1 (Nat.not_lt_zero _)) (wpAny_truthy_bool ?_)
    have hk0 : k = 0 := hk
    subst hk0
    try refine kq _ ?_
    refine wpAny_execs_cons (wpAny_Return_some (r_name D2 ms ?_))
    have z0 := D2.mus _ (.head _)
    have hst : sts = stepsOf N told := hgo
    rw [hst] at hsv
    have hh := hQ sl svals n2 _ D2.st hsv (fun V'' fr => fr _ _ z0.1 (z0.2.2.2.2.resolve_left (fun h => nomatch h)))
    exact hh
  · have hjl : 0 < js.length := List.length_pos_iff.mpr hjs
    refine ne_lens (D2.mus (ll, _) (.tail _ (.head _))).1 (D1.mus (el, _) (.head _)).1 (by rw [hll]; show js.length ≠ 0; lia) hA1.cl (wpAny_truthy_bool ?_)
    rw [if_pos rfl]
    have hkl : k - 1 + 1 = k := by lia
    refine el_EAAA (pick_free hjs (fun j hj => (hpos j hj).1) to) fun fk hfk hfl hfg hfm => ?_
    have hfj : pickS js to ∈ js := (List.mem_filter.mp hfm).1
    have hfll : (freeS js).length ≤ 7 := by have := List.length_filter_le (fun s => !(js.any (· == 2 * s)) && !(js.any (· == 3 * s))) js; unfold freeS; lia
    have hgo' : stepsGo (k - 1) (js.erase (pickS js to)) (to.fdiv 2) (sts ++ [pickS js to]) = stepsOf N told := by
      rw [← hgo]
      conv => rhs; rw [← hkl]
      rfl
    try refine kq _ ?_
    refine seqK fun KQ kq => (comp_assign (cl := [("left", L + 1 + 1)]) ?hsw ?hcl2 ?hkd2 ?hnm2 ?hmain2)
    case hsw => exact rfl
    case hcl2 => exact rfl
    case hkd2 => exact rfl
    case hnm2 => decide
    refine r_cell D2 (.tail _ (.tail _ (.head _))) ?_
    refine blk_list B hA1.h D2 ⟨_, (D2.mus (ll, _) (.tail _ (.head _))).1, rfl, _, rfl⟩ rfl (fun k => by show List.Nodup ([] : List Str); exact List.nodup_nil) (by lia)
      (fun j _ ys => NatsAre ys ((js.take j).filter fun s => !(js.any (· == 2 * s)) && !(js.any (· == 3 * s)))) (fun i V V' ys h _ => h) .nil ?_ ?_
    · intro tt1 s3 I2 acc C j v V4 cm m2 t2 ys nn oI2 K3Dc K4Dc hkk hj hv2 hyl hle hJi Dc hK3Dc hK4Dc
      have Dc : Bd g s3 [acc, I2] V4 [(acc, lst ys nn), (I2, oI2)] C m2 t2 := Dc
      refine el_AE (hlv.get hv2) fun hj7 tkv hR3 => ?_; subst hR3
      have hcell := hle _ _ (D2.muFull (W' := []) (a := L + 1 + 1) (.tail _ (.tail _ (.head _))) List.not_mem_nil)
      have hlst := hle _ _ (D2.muFull (W' := []) (a := ll) (.tail _ (.head _)) List.not_mem_nil)
      have htk : js.take (j + 1) = js.take j ++ [js.getD j 0] := by
        rw [List.take_add_one, List.getD_eq_getElem?_getD, List.getElem?_eq_getElem hj7]; rfl
      have hxm : js.getD j 0 ∈ js := by rw [List.getD_eq_getElem?_getD, List.getElem?_eq_getElem hj7]; exact List.getElem_mem _
      generalize js.getD j 0 = x at htk hxm
      have hx10 := hpos x hxm
      refine PyProof.Rows.assign_Name (r_store Dc fun t5 D5 => wpAny_tests_one ?_)
      have e2 : (2 : Int) * (x : Int) = ((2 * x : Nat) : Int) := by push_cast; rfl
      have e3 : (3 : Int) * (x : Int) = ((3 * x : Nat) : Int) := by push_cast; rfl
      refine wpAny_isTrue_BoolOp (wpAny_allTrue_And_cons (wpAny_isTrue_Compare1 (wpAny_BinOp (r_int D5 fun k1 t6 D6 => r_name D6 rfl (mul_int ?_ (IntMulOk.of_left (intBits_le_64 (by (exact Int.natCast_nonneg _)) (by (exact Int.natCast_nonneg _))))))))) 
      have D6' := D6.tok (t6.toks + 1)
      refine r_cellV D6' hcell (notin_list_ints ⟨_, D6'.see _ _ hlst, rfl, _, rfl⟩ hlv.ints (wpAny_truthy_bool ?_))
      rw [e2, nats_any]
      cases h2 : js.any (· == 2 * x) with
      | true =>
        rw [if_neg (by decide)]
        refine hK4Dc _ (in_EEEAA V4 cm _ .rfl ?_ D6')
        rw [htk, List.filter_append]
        simp only [List.filter_cons, h2, Bool.not_true, Bool.false_and, Bool.false_eq_true, if_false, List.filter_nil, List.append_nil]
        exact hJi
      | false =>
        rw [if_pos (by decide)]
        refine wpAny_allTrue_And_cons (wpAny_isTrue_Compare1 (wpAny_BinOp (r_int D6' fun k2 t7 D7 => r_name D7 rfl (mul_int ?_ (IntMulOk.of_left (intBits_le_64 (by (exact Int.natCast_nonneg _)) (by (exact Int.natCast_nonneg _)))))))) 
        have D7' := D7.tok (t7.toks + 1)
        refine r_cellV D7' hcell (notin_list_ints ⟨_, D7'.see _ _ hlst, rfl, _, rfl⟩ hlv.ints (wpAny_truthy_bool ?_))
        rw [e3, nats_any]
        cases h3 : js.any (· == 3 * x) with
        | true =>
          rw [if_neg (by decide)]
          refine hK4Dc _ (in_EEEAA V4 cm _ .rfl ?_ D7')
          rw [htk, List.filter_append]
          simp only [List.filter_cons, h2, h3, Bool.not_true, Bool.not_false, Bool.true_and, Bool.false_eq_true, if_false, List.filter_nil, List.append_nil]
          exact hJi
        | false =>
          rw [if_pos (by decide)]
          refine wpAny_allTrue_And_nil ?_
          rw [if_pos rfl]
          refine r_name D7' rfl (hK3Dc _ _ (in_EEEAA V4 cm _ .rfl ?_ D7'))
          rw [htk, List.filter_append]
          simp only [List.filter_cons, h2, h3, Bool.not_false, Bool.and_self, if_true, List.filter_nil]
          exact hJi.snoc _ _
    intro fl C ys2 n4 Vg mC2 tf2 hJ2 leG hyl3 hsfl hns hVC hCL hCm Df
    refine post_local hns hVC hCL hCm Df rfl rfl fun t3 D3 => ?_
    rw [hll, List.take_of_length_le (Nat.le_refl _)] at hJ2
    replace hJ2 : NatsAre ys2 (freeS js) := hJ2
    have hfl2 := hJ2.1
    have D3 : Bd g s [] Vg [(fl, lst ys2 n4), (sl, lst svals n2), (ll, lst lvals n3), (L + 1 + 1, cel (some (.ref ll))), (L + 1, cel (some (.int N tn)))] L (upd m' "free" (.ref fl)) t3 := D3
    refine el_E (hJ2.2 fk hfl) fun tks hge => ?_
    have hgd : (freeS js).getD fk 0 = pickS js to := by rw [List.getD_eq_getElem?_getD, hfg]; rfl
    rw [hgd] at hge
    generalize pickS js to = st at hge hgo' hfj hgd hfm
    try refine kq _ ?_
    refine seqK fun KQ kq => (wpAny_Assign_Name (Subscript_ (r_name D3 rfl (wpAny_BinOp (r_name D3 mt (Call_ (r_built D3 B B.n_len B.b_len (callWith_builtin1 (args_cons (r_name D3 rfl (args_nil ?_)))))))))))
    refine call_len_list ⟨_, (D3.mus (fl, _) (.head _)).1, rfl, _, rfl⟩ (by rw [List.size_toArray]; lia) ?_
    rw [List.size_toArray, hfl2]
    refine mod_int' (by lia) ?_
    have D4 := D3.tok (t3.toks + 1 + 1 + 1)
    rw [hfk]
    refine item_list (k := fk) ⟨_, (D4.mus (fl, _) (.head _)).1, rfl, _, rfl⟩ rfl (by lia) hge (r_store D4 fun t5 D5 => ?_)
    have D6 := (D5.drop (n := t5.toks) (h' := t5.heap) (fun b o _ e => e) (fun h => nomatch h))
    try refine kq _ ?_
    refine seqK fun KQ kq => (wpAny_Expr (methodCall_KW (r_cell D6 (.tail _ (.tail _ (.head _))) (getMethod_list_of PySem.F.slot_list_remove PySem.F.type_list_remove ⟨_, (D6.mus (ll, _) (.tail _ (.head _))).1, rfl, _, rfl⟩ ⟨_, (D6.mus (ll, _) (.tail _ (.head _))).1, rfl⟩
      (callWith_builtin rfl (evalArgs_plain (args_cons (r_name D6 rfl (args_nil ?_)))))))))
    refine list_remove_ D6 1 rfl hlv.ints (List.mem_map.mpr (in_EA st hfj rfl)) (by lia) fun n5 t7 D7 => ?_
    have D7 : Bd g s [] Vg [(sl, lst svals n2), (ll, lst (lvals.eraseIdx ((nats js).idxOf (st : Int))) n5), (L + 1 + 1, cel (some (.ref ll))), (L + 1, cel (some (.int N tn)))] L (upd (upd m' "free" (.ref fl)) "step" (.int st tks)) t7 := D7
    have ms7 : upd (upd m' "free" (.ref fl)) "step" (.int st tks) "steps" = some (.ref sl) := ms
    have mt7 : upd (upd m' "free" (.ref fl)) "step" (.int st tks) "told" = some (.int to tk) := mt
    have hsl := hsv.1
    try refine kq _ ?_
    refine seqK fun KQ kq => (wpAny_Expr (methodCall_KW (r_name D7 ms7 (getMethod_list_of PySem.F.slot_list_append PySem.F.type_list_append ⟨_, (D7.mus (sl, _) (.head _)).1, rfl, _, rfl⟩ ⟨_, (D7.mus (sl, _) (.head _)).1, rfl⟩
      (callWith_builtin rfl (evalArgs_plain (args_cons (r_name D7 rfl (args_nil ?_)))))))))
    refine list_append_ D7 0 rfl (by lia) fun n6 t8 D8 => ?_
    try refine kq _ ?_
    refine seqK fun KQ kq => (wpAny_Assign_Name (wpAny_BinOp (r_name D8 mt7 (r_int D8 fun k3 t9 D9 => floordiv_int (by decide) (r_store (D9.tok _) fun t10 D10 => kq _ <| wpAny_execs_nil ?_)))))
    have hel : (js.erase st).length = js.length - 1 := List.length_erase_of_mem hfj
    have D10 : Bd g s [] Vg [(sl, lst (svals ++ [Value.int (st : Int) tks]) n6), (ll, lst (lvals.eraseIdx ((nats js).idxOf (st : Int))) n5), (L + 1 + 1, cel (some (.ref ll))), (L + 1, cel (some (.int N tn)))] L (upd (upd (upd m' "free" (.ref fl)) "step" (.int st tks)) "told" (.int (to.fdiv 2) t9.toks)) t10 := D10
    refine hKK _ (in_EEEEAA (k - 1) Vg ([(sl, lst (svals ++ [Value.int (st : Int) tks]) n6), (ll, lst (lvals.eraseIdx ((nats js).idxOf (st : Int))) n5), (L + 1 + 1, cel (some (.ref ll))), (L + 1, cel (some (.int N tn)))]) (upd (upd (upd m' "free" (.ref fl)) "step" (.int st tks)) "told" (.int (to.fdiv 2) t9.toks)) (by lia)
      ((in_AEEEEEEEEAAAAAAAAA (le.trans leG) (svals ++ [Value.int (st : Int) tks]) n6 (lvals.eraseIdx ((nats js).idxOf (st : Int))) n5 (sts ++ [st]) (js.erase st) (to.fdiv 2) _ rfl (hsv.snoc _ _) (hlv.erase st) (by lia) (by lia) (by rw [List.length_append, List.length_singleton]; lia)
        ((fun j hj => hpos j (List.mem_of_mem_erase hj))) rfl ms7 hgo')) D10)
end
end Mine
end

section
open PySem PySem.W PyProof.Rows PySem.Calls
set_option Elab.async false
set_option linter.unusedVariables false
namespace Mine
set_option maxRecDepth 100000

noncomputable def pack64 : { b : FuncData // ∀ P, (hd.heap_39 P).lookup 64 = some ⟨.type "function", none, .func b, #[]⟩ } := ⟨_, fun P => rfl⟩
noncomputable def F64 : FuncData := pack64.1
noncomputable def b64 : List Stmt := match F64.body with | .stmts b => b | _ => []

section
variable {prog : Program} {w : World} {mg mb : Str → Option Value} {g : Heap} {A : Around} {E : Value → Shared → Prop} {s₀ t : Shared} {W : List Addr} {V : View} {mu : List (Addr × Obj)} {L : Addr} {m : Str → Option Value}

theorem make_order (B : Bs w mg mb g) (hA : Ok A 3) (D : Bd g s₀ W V mu L m t) {kl : Addr} {Q : Value → Shared → Prop}
    (h : ∀ x V' t', V.le V' → IsOrd V' x kl → Bd g s₀ W V' mu L m t' → Q (.ref x) t') :
    wpAny (model prog w) A (call (.ref 74) [.ref kl]) Q E t := by
  have X : (hd.heap_39 w.params).In t.heap := B.K.keeps D.keepG
  refine wpAny_call ?_
  obtain ⟨hh, gg, dd, tt, oo⟩ := t
  refine make_core (makes_of X rfl) (looks_findIn X rfl) (fun self => bind_fn X self rfl) (.inl rfl) ?_
  have k2 : ∀ b o, hh.get? b = some o → ((hh.push emptyDict).push (instObj 74 hh.objs.size)).get? b = some o := fun b o e => Heap.get?_push_of_some _ (Heap.get?_push_of_some _ e)
  have hx0 : ((hh.push emptyDict).push (instObj 74 hh.objs.size)).get? (hh.objs.size + 1) = some (instObj 74 hh.objs.size) := by heap_get
  have hd0 : ((hh.push emptyDict).push (instObj 74 hh.objs.size)).get? hh.objs.size = some emptyDict := Heap.get?_push_of_some _ (Heap.get?_push_size _ rfl)
  have hsz : ((hh.push emptyDict).push (instObj 74 hh.objs.size)).objs.size = hh.objs.size + 2 := by rw [Heap.size_push, Heap.size_push]
  generalize hh2 : (hh.push emptyDict).push (instObj 74 hh.objs.size) = h2 at k2 hx0 hd0 hsz
  have X2 := X.keeps k2
  have hroom : (A.under (.builtin "type.__call__" ⟨[.ref 74, .ref kl], []⟩)).depth < recursionLimit := by
    rw [depth_under_make]; have := hA.depth; lia
  refine codeAny_call_def (body := b64) (binds := [("self", .ref (hh.objs.size + 1)), ("comp_select_list", .ref kl)]) hroom (X2 64 _ (pack64.2 w.params)) rfl (B.nolimit.keeps fun b o e => k2 _ _ (D.keepG _ _ e)) (codeRec_of X2 rfl) rfl (BindsTo.of_eq rfl) (by decide) (locs rfl) (fun h3 hns k3 => ?_)
  have hns' : h3.Ns (hh.objs.size + 2) (fun x => ([("self", .ref (hh.objs.size + 1)), ("comp_select_list", .ref kl)] : List (Str × Value)).reverse.lookup x) := by rw [← hsz]; exact hns
  replace k3 : ∀ b o, h2.get? b = some o → h3.get? b = some o := k3
  have F : Fr hh (hh.objs.size + 2) h3 (fun x => ([("self", .ref (hh.objs.size + 1)), ("comp_select_list", .ref kl)] : List (Str × Value)).reverse.lookup x) := ⟨hns', fun b o e => k3 _ _ (k2 _ _ e), by (exact Nat.le_add_right _ _)⟩
  have N : News hh (hh.objs.size + 2) h3 [(hh.objs.size, dictOf [] 0), (hh.objs.size + 1, instObj 74 hh.objs.size)] := by
    intro p hp
    rcases List.mem_cons.mp hp with rfl | hp
    · exact (in_AA (k3 _ _ hd0) (by simp) (get_size _))
    · obtain rfl := List.mem_singleton.mp hp
      exact (in_AA (k3 _ _ hx0) (by simp) (Heap.get?_none_of_le (Nat.le_succ _)))
  have I : InstAt h3 (hh.objs.size + 1) (instObj 74 hh.objs.size) 74 (some (dictOf [] 0)) := InstAt.mk (k3 _ _ hx0) rfl rfl (k3 _ _ hd0)
  generalize hL' : hh.objs.size + 2 = L' at *
  rw [hsz]
  refine wpAny_execs_cons (plainObj_wpAny_Assign_Attribute (wpAny_Name (wpAny_loadName_local rfl rfl (s := ⟨h3, gg, dd, tt + 2, oo⟩) hns' rfl (wpAny_Name (wpAny_loadName_local rfl rfl (s := ⟨h3, gg, dd, tt + 2, oo⟩) hns' rfl ?_))) (by decide)))
  refine set_dict (s := ⟨h3, gg, dd, tt + 2, oo⟩) (K := hd.heap_39 w.params) F X N I rfl rfl rfl rfl rfl rfl rfl (.head ?_) ?_ fun h4 F4 N4 => wpAny_execs_nil ?_
  · intro p hp
    obtain rfl := List.mem_singleton.mp hp
    exact Nat.succ_ne_self _
  · exact Nat.le_of_ble_eq_true rfl
  refine ⟨rfl, ?_⟩
  have st : Stp [] ⟨hh, gg, dd, tt, oo⟩ ⟨h4, gg, dd, tt + 2 + 2, oo⟩ := ⟨fun b o _ _ e => F4.keep b o e, D.st.tab.mono fun b o _ e => F4.keep b o e, rfl, rfl⟩
  refine el_EAA (D.pure st) fun V' le fr D' => ?_
  have n0 := N4 _ (.head _)
  have n1 := N4 _ (.tail _ (.head _))
  exact h _ V' _ le ⟨hh.objs.size, PyData.keyHash w.params "comp_select_list", _, _, (fr _ _ n1.1 n1.2.2).1, (fr _ _ n0.1 n0.2.2).1⟩ D'
end
end Mine
end

section
open PySem PySem.W PyProof.Rows PySem.Calls
set_option Elab.async false
set_option linter.unusedVariables false
namespace Mine
set_option maxRecDepth 100000

theorem slice5 (items : Array Value) : slicePick items none (some 5) none = (items.toList.take 5).toArray := slicePick_upto' items 5

section
variable {prog : Program} {w : World} {g : Heap} {A : Around} {E : Value → Shared → Prop} {s₀ t : Shared} {W : List Addr} {V : View} {mu : List (Addr × Obj)} {L : Addr} {m : Str → Option Value}

theorem add_lists_ {l b : Addr} {vs ws : List Value} {Q : Value → Shared → Prop} (D : Bd g s₀ W V mu L m t) (hl : t.heap.IsList l vs.toArray) (hb : t.heap.IsList b ws.toArray) (hsz : vs.length + ws.length ≤ 1000)
    (h : ∀ a t', V a = none → s₀.heap.get? a = none → Bd g s₀ W V ((a, lst (vs ++ ws) 0) :: mu) L m t' → Q (.ref a) t') : wpAny (model prog w) A (binaryOp .Add (.ref l) (.ref b)) Q E t := by
  refine el_EAAE (id hl) fun hN1 ho hc n hd => ?_; obtain ⟨cls, dd, data, sl⟩ := hN1
  refine el_EAAE (id hb) fun hN2 ho2 hc2 n2 hd2 => ?_; obtain ⟨cls2, dd2, data2, sl2⟩ := hN2
  simp only at hc hd hc2 hd2
  subst hc hd hc2 hd2
  have e : vs.toArray ++ ws.toArray = (vs ++ ws).toArray := by simp
  refine concat_meets ⟨_, ho, rfl⟩ ⟨_, ho2, rfl⟩ noFill_list_add seq_list_add PySem.F.slot_list_add PySem.F.entry_list_add (PySem.F.args_list_add_2 _ _) (list_addW l b vs.toArray ws.toArray n n2 dd dd2 sl sl2 (by rw [List.size_toArray, List.size_toArray, sizeLine_eq]; (exact Nat.le_trans (by assumption) (by decide)))) (in_AA ho ho2 ?_)
  rw [e]
  have D2 := D.newMu (n := t.toks) (o := lst (vs ++ ws) 0) (get_size t.heap) (Heap.get?_push_size _ rfl) (fun b o e => Heap.get?_push_of_some _ e) rfl
  have z := D2.mus _ (.head _)
  exact h _ _ z.2.1 (D.fresh (get_size t.heap)) D2

theorem sum_ {l : Addr} {vs : List Value} {ns : List Int} {Q : Value → Shared → Prop} (hh : A.handled = none) (D : Bd g s₀ W V mu L m t) (hl : t.heap.IsList l vs.toArray) (hi : IntsAre vs ns)
    (h : ∀ i tk t', Bd g s₀ W V mu L m t' → Q (.int i tk) t') : wpAny (model prog w) A (call (.builtin "sum") [.ref l]) Q E t := by
  refine el_E (hi.allInts.items) fun xs e => ?_
  rw [e] at hl
  exact sum_intListG hh hl fun h' tk t' hk => h _ _ _ (D.grow hk)

theorem list_range_ {r : Addr} {b : Int} {u1 u2 u3 : Tok} {n : Nat} {Q : Value → Shared → Prop} (hh : A.handled = none) (D : Bd g s₀ W V mu L m t) (hr : IsRange t.heap r 0 b 1 u1 u2 u3) (hb : b = (n : Int)) (hn : n < 1000)
    (h : ∀ a vals n' t', V a = none → s₀.heap.get? a = none → NatsAre vals (List.range n) → Bd g s₀ W V ((a, lst vals n') :: mu) L m t' → Q (.ref a) t') : wpAny (model prog w) A (call (.type "list") [.ref r]) Q E t := by
  subst hb
  refine call_list_range hh hr (small_pos (by decide) (by lia) (by decide)) (n := n) (by rw [rangeSize_one]; split <;> lia) (by (exact Nat.le_of_lt (Nat.lt_of_lt_of_le (by assumption) (by decide)))) fun h' tk acc' c' hk hS' hacc => ?_
  have D2 := D.newMu (n := tk) (o := lst acc'.toList c') (get_size t.heap) (by rw [hS']) hk rfl
  have z := D2.mus _ (.head _)
  refine h _ _ c' _ z.2.1 (D.fresh (get_size t.heap)) ⟨by rw [List.length_range, Array.length_toList]; exact hacc.1, fun i hi => ?_⟩ D2
  rw [List.length_range] at hi
  have hi' : i < acc'.size := by rw [hacc.1]; exact hi
  refine el_E (hacc.2 i acc'[i] (by simp [hi'])) fun tk e => ?_
  refine ⟨tk, ?_⟩
  rw [Array.getElem?_toList, Array.getElem?_eq_getElem hi', e]
  rw [List.getD_eq_getElem?_getD, List.getElem?_range hi]
  show some (Value.int _ tk) = some (Value.int _ tk)
  congr 2
  simp

end
end Mine
end

section
open PySem PySem.W PyProof.Rows PySem.Calls
set_option Elab.async false
set_option linter.unusedVariables false
namespace Mine
set_option maxRecDepth 100000

section
variable {prog : Program} {w : World} {mg mb : Str → Option Value} {g : Heap} {A : Around} {E : Value → Shared → Prop} {s : Shared} {d : Nat}

/-- the run of a def with cells of its own -/
theorem code_defR {a : Addr} {o : Obj} {fd : FuncData} {body : List Stmt} {pos : List Value} {kw : List (Str × Value)} {binds : List (Str × Value)} {mu : List (Addr × Obj)} {R : Result → Shared → Prop}
    (B : Bs w mg mb g) (hA : Ok A d) (hw : Wd g s) (ho : s.heap.get? a = some o) (hdata : o.data = .func fd) (hcd : s.heap.CodeRec fd.code fd.qualname) (hbody : fd.body = .stmts body) (hbind : BindsTo s fd ⟨pos, kw⟩ binds) (hclo : fd.closure = [])
    (hmu : ∀ p ∈ mu, s.heap.get? p.1 = some p.2 ∧ stab p.2 = false ∧ g.get? p.1 = none) (hnd : (mu.map (·.1)).Nodup)
    (h : ∀ L t, s.heap.get? L = none → Bd g s (mu.map (·.1)) (fullV s (mu.map (·.1))) (celMu (cellsFrom (L + 1) fd.scope.names []) (bindC (fun y => fd.scope.names.lookup y) binds fun _ => none) ++ mu) L (bindL (fun y => fd.scope.names.lookup y) binds fun _ => none) t →
      wpAny (model prog w) (A.deeper (callEnvC fd L a)) (execs body (callEnvC fd L a)) (fun f t' => R (.ok (.ret (flowV f))) t') NoE t)
    (hown : ∀ n, ((cellsFrom n fd.scope.names []).map (·.1)).Nodup)
    (hkind : ∀ n, ∀ x ∈ binds, fd.scope.names.lookup x.1 = some .local ∨ (fd.scope.names.lookup x.1 = some .cell ∧ ∃ (i : Nat) (c : Addr), (cellsFrom n fd.scope.names [])[i]? = some (x.1, c)))
    (hco : fd.scope.isCoroutine = false := by rfl) (hgen : fd.scope.isGenerator = false := by rfl) (hk : fd.scope.kind = .function := by rfl) :
    codeAny (model prog w) A (.call (.ref a) ⟨pos, kw⟩) R s := by
  refine codeAny_call_function hA.room ho hdata hco hgen hbody hcd (hbind _ _ _ _ ?_)
  rw [hclo]
  refine newEnv_bd hw B.noT hmu hnd hk hown hkind fun L t hL hlt D => ⟨B.nolimit.keeps D.keepG, codeAny_func (wpAny_mono (h L t hL D) (fun f t' q => ?_) fun _ _ q => q.elim)⟩
  cases f <;> exact q

variable {s₀ t : Shared} {W : List Addr} {V : View} {mu : List (Addr × Obj)} {L : Addr} {m : Str → Option Value} {env : Env}
/-- xs[:5] -/
theorem r_five {x : Str} {xp p1 p3 pos : Pos} {k : Nat} {l : Addr} {xs : List Value} {Q : Value → Shared → Prop} (D : Bd g s₀ W V mu env.locals m t)
    (hx : ∀ (Q' : Value → Shared → Prop), Q' (.ref l) t → wpAny (model prog w) A (eval (.Name x xp) env) Q' E t) (hl : ∀ t', Bd g s₀ W V mu env.locals m t' → t'.heap.IsList l xs.toArray) (hlen : xs.length < 100000)
    (h : ∀ a t', V a = none → s₀.heap.get? a = none → Bd g s₀ W V ((a, lst (xs.take 5) 0) :: mu) env.locals m t' → Q (.ref a) t') :
    wpAny (model prog w) A (eval (.Subscript (.Name x xp) (.Slice none (some (.Constant (.int 5) k p1)) none p3) pos) env) Q E t := by
  refine Subscript_ (hx _ (wpAny_Slice ?_))
  rw [evalPart_none, evalPart_some]
  refine wpAny_pure (r_int D fun tk t1 D1 => wpAny_pure ?_)
  refine slice_tail D1 (hl _ D1) .none (.int 5 _) .none (by decide) hlen (fun a t' h1 h2 D' => h a t' h1 h2 ?_)
  rw [slice5] at D'
  exact D'
end

theorem IntsAre.intsL : ∀ {vs : List Value} {xs : List Int}, IntsAre vs xs → IntsL vs xs
  | _, _, .nil => .nil
  | _, _, .cons x t r => by
    have h := IntsAre.intsL r
    refine ⟨by simp [h.1], fun i hi => ?_⟩
    cases i with
    | zero => exact ⟨t, rfl⟩
    | succ i => refine el_E (h.2 i (Nat.lt_of_succ_lt_succ hi)) fun tk e => ?_; exact ⟨tk, e⟩
theorem IntsAre.take : ∀ {vs : List Value} {xs : List Int} (k : Nat), IntsAre vs xs → IntsAre (vs.take k) (xs.take k)
  | _, _, 0, _ => by rw [List.take_zero, List.take_zero]; exact .nil
  | _, _, _ + 1, .nil => .nil
  | _, _, k + 1, .cons x t r => .cons x t (IntsAre.take k r)
theorem keysOf_ok (told : Int) : (∀ p ∈ keysOf told, (p.1 = 0 ∨ p.1 = 1 ∨ p.1 = 2) ∧ (p.2 = 1 ∨ p.2 = -1)) ∧ (keysOf told).length ≤ 10 := by
  constructor
  · intro p hp
    refine el_EA (List.mem_map.mp hp) fun k _ hR1 => ?_; subst hR1
    unfold keyAt
    generalize restAt told k = r
    revert r
    refine noBeta ?_
    intro r
    have h0 : 0 ≤ r.fmod 3 := Int.fmod_nonneg_of_pos _ (by decide)
    have h1 : r.fmod 3 < 3 := Int.fmod_lt_of_pos _ (by decide)
    have b0 : 0 ≤ (r.fdiv 3).fmod 2 := Int.fmod_nonneg_of_pos _ (by decide)
    have b1 : (r.fdiv 3).fmod 2 < 2 := Int.fmod_lt_of_pos _ (by decide)
    exact ⟨by dsimp only; lia, by dsimp only; lia⟩
  · unfold keysOf
    rw [List.length_map, List.length_range]
    have h1 : told.fmod 3 < 3 := Int.fmod_lt_of_pos _ (by decide)
    unfold keysN; omega
theorem rowOf_txt (xs : List Int) (j : Nat) : (rowOf xs j).x ∈ txts := by
  unfold rowOf
  dsimp only
  have h0 : 0 ≤ ((xs.getD j 0).fdiv 3).fmod 4 := Int.fmod_nonneg_of_pos _ (by decide)
  have h1 : ((xs.getD j 0).fdiv 3).fmod 4 < 4 := Int.fmod_lt_of_pos _ (by decide)
  rw [List.getD_eq_getElem?_getD, List.getElem?_eq_getElem (by show _ < 4; omega)]
  exact List.getElem_mem _
theorem ranksOf_len (K : List (Int × Int)) (R : Nat → Row) (N : Nat) : (ranksOf K R N).length = N := by unfold ranksOf; simp

noncomputable def pack136 : { b : FuncData // ∀ P, (hd.heap_39 P).lookup 136 = some ⟨.type "function", none, .func b, #[]⟩ } := ⟨_, fun P => rfl⟩
noncomputable def F136 : FuncData := pack136.1
noncomputable def b136 : List Stmt := match F136.body with | .stmts b => b | _ => []

noncomputable def lamW : PySem.Expr := match b136 with | [_, _, _, _, _, _, _, _, _, _, _, .Assign _ (.Call _ _ [k1] _) _, _] => k1.value | _ => default
noncomputable def qW : Str := "law.<locals>.<lambda>"

section
variable {prog : Program} {w : World} {mg mb : Str → Option Value} {g : Heap} {A : Around} {E : Value → Shared → Prop} {s : Shared}
/-- the key function of law -/
theorem law_key (B : Bs w mg mb g) {d : Nat} (hA : Ok A (d + 1)) {s₀ : Shared} {W : List Addr} {V : View} {L : Addr} {m : Str → Option Value} {f c1 c' rkl : Addr} {pm ctv : Value} {rvals : List Value} {rks : List Nat} {nr N : Nat} {ra : Nat → Addr} {xs : List Int}
    (hf : V f = some (lamObj lamW qW [("ranks", c1)] pm c' ctv)) (hc : IsCodeV V c' qW) (h1 : V c1 = some (cel (some (.ref rkl)))) (hrl : V rkl = some (lst rvals nr)) (hr : NatsAre rvals rks) (hrk : rks.length = N) (hN : N ≤ 20) (hro : ∀ i, i < N → IsRow V (ra i) (rowOf xs i)) :
    KeyGives prog w A g s₀ W V L m (.ref f) (vref ra (List.range N)) (fun i => ((rks.getD i 0 : Nat) : Int)) := by
  intro i v mu' t' Q' hvi D hQ
  refine el_A (vref_get hvi) fun hR2 hjm => ?_; subst hR2
  have hi : i < N := by have := (List.getElem?_eq_some_iff.mp hvi).1; rw [vref_len, List.length_range] at this; exact this
  have hgi : (List.range N).getD i 0 = i := by rw [List.getD_eq_getElem?_getD, List.getElem?_range hi]; rfl
  rw [hgi]
  refine el_E (hr.2 i (by lia)) fun tk2 hge => ?_
  have sub : Sub V t' [] := D.sub (fun _ h => nomatch h)
  refine call_lam (mu := []) (binds := [("row", .ref (ra i))]) B hA D.wd (D.see _ _ hf) rfl (hc.rec D.see) rfl rfl (fun _ h => nomatch h) List.nodup_nil (fun L2 t1 hL D1 => ?_) (show ∀ x ∈ (lamParts lamW).2.2.1.names, x.2 ≠ .cell from by decide) (locs rfl)
  have le : V.le (fullV t' (List.map (fun x => x.1) ([] : List (Addr × Obj)))) := sub.leFull
  refine el_EEEEE ((hro i hi).mono le) fun a1 a2 a3 a4 an hrow => ?_
  refine Subscript_ (r_free D1 (le _ _ h1) (Subscript_ (r_name D1 rfl (r_int D1 fun k1 t2 D2 => item_tupleT ⟨_, D2.see _ _ hrow, rfl, _, rfl⟩ (by decide) (by decide) rfl rfl ?_))))
  refine item_list (k := i) ⟨_, D2.see _ _ (le _ _ hrl), rfl, _, rfl⟩ rfl (by lia) hge ?_
  exact hQ tk2 t2 D2.st
end

structure Pure (N : Nat) (c : Nat → Nat → Int) (rks : List Nat) (sts : List Nat) (Inv : Nat → List Nat → Prop) : Prop where
  slen : sts.length ≤ 7
  rlen : rks.length = N
  inv0 : Inv 0 (List.range N)
  ok : ∀ i js, Inv i js → js.length = N ∧ ∀ j ∈ js, j < N
  step : ∀ i js, i < sts.length → Inv i js → 0 < sts.getD i 0 ∧ sts.getD i 0 ≤ 20 ∧ js.length = N ∧ (∀ j ∈ js, j < N) ∧ ∀ back, passOf c back (sts.getD i 0) js (sts.getD i 0) = dueOf (fun j => ((rks.getD j 0 : Nat) : Int)) back (sts.getD i 0) js (sts.getD i 0) ∧
    Inv (i + 1) (dueOf (fun j => ((rks.getD j 0 : Nat) : Int)) back (sts.getD i 0) js (sts.getD i 0)).1 ∧ (∀ p ∈ (dueOf (fun j => ((rks.getD j 0 : Nat) : Int)) back (sts.getD i 0) js (sts.getD i 0)).2, p.1 < N ∧ p.2 < N) ∧
    (dueOf (fun j => ((rks.getD j 0 : Nat) : Int)) back (sts.getD i 0) js (sts.getD i 0)).2.length ≤ 1000
  fin : ∀ js, Inv sts.length js → js.length = N ∧ (∀ j ∈ js, j < N) ∧ ∀ i, i + 1 < N → c (js.getD i 0) (js.getD (i + 1) 0) = (if rks.getD (js.getD i 0) 0 < rks.getD (js.getD (i + 1) 0) 0 then -1 else 0) ∧
    c (js.getD (i + 1) 0) (js.getD i 0) = -(if rks.getD (js.getD i 0) 0 < rks.getD (js.getD (i + 1) 0) 0 then -1 else 0)
  both : (List.range N).foldl (insRi c) [] = ordI (fun j => ((rks.getD j 0 : Nat) : Int)) N ∧ (List.range N).reverse.foldl (insLi c) [] = ordI (fun j => ((rks.getD j 0 : Nat) : Int)) N

section
variable {prog : Program} {w : World} {mg mb : Str → Option Value} {g : Heap} {A : Around} {E : Value → Shared → Prop} {s : Shared}

set_option maxHeartbeats 2000000 in
theorem law_walk (B : Bs w mg mb g) (hA : Ok A 18) (hw : Wd g s) {sl : Addr} {vals : List Value} {ns : List Int} (hsl : s.heap.IsList sl vals.toArray) (hns : IntsAre vals ns) (h63 : ns.length ≤ 63)
    (pl : ∀ xs told, 5 ≤ xs.length → xs.length ≤ 10 → ∃ Inv, Pure xs.length (fun i j => cmpK (keysOf told) (rowOf xs i) (rowOf xs j)) (ranksOf (keysOf told) (rowOf xs) xs.length) (stepsOf xs.length (told.fdiv 5)) Inv) :
    codeAny (model prog w) A (.call (.ref 136) ⟨[.ref sl], []⟩) (fun r s' => r = .ok (.ret (.bool true)) ∧ Stp [] s s') s := by
  refine code_defR (mu := []) (body := b136) (binds := [("script", .ref sl)]) B hA hw (hw.base _ _ (B.K 136 _ (pack136.2 w.params))) rfl (codeRec_g hw (codeRec_of B.K rfl)) rfl (BindsTo.of_eq rfl) rfl (fun _ h => nomatch h) List.nodup_nil (fun L t hL D => ?_)
    (fun n => by show List.Nodup [("ranks" : Str), "first"]; decide) (fun n y hy => ?_)
  case refine_2 =>
    simp only [List.mem_cons, List.not_mem_nil, or_false] at hy
    subst hy
    exact .inl rfl
  have D : Bd g s [] (fullV s []) [(L + 1 + 1, cel none), (L + 1, cel none)] L (upd (fun _ => none) "script" (.ref sl)) t := D
  have hA1 := hA.deeper (callEnvC pack136.1 L 136)
  generalize A.deeper (callEnvC pack136.1 L 136) = A1 at hA1 ⊢
  revert A1
  refine noBeta ?_
  intro A1 hA1
  have hvlen := hns.length
  refine el_EAAE (hsl) fun slo hslo hslc sln hsld => ?_; try clear hsl
  have hslT : sl ∉ TT := fun h => by
    refine el_E (hw.tab.get h) fun ps e => ?_
    rw [hslo] at e; cases e; cases hslc
  have hslV : fullV s [] sl = some slo := fullV_get hslo (fun h => nomatch h) hslT
  generalize hF : fullV s [] = V0 at D hslV
  revert V0
  refine noBeta ?_
  intro V0 hF D hslV
  try refine kq _ ?_
  refine seqK fun KQ kq => (wpAny_Assign_Name (wpAny_BinOp (Call_ (r_built D B B.n_list B.b_list (callWith_type1 (args_cons (r_five D (fun Q' h => r_name D rfl h) (fun t'' D'' => ⟨_, D''.see _ _ hslV, hslc, sln, hsld⟩) (by lia) fun fv t1 hV1 hs1 D1 => args_nil ?_)))))))
  refine list_copy_ D1 ⟨_, (D1.mus (fv, _) (.head _)).1, rfl, _, rfl⟩ (by rw [List.length_take]; lia) fun cv nc t2 hV2 hs2 D2 => ?_
  refine r_list (args_cons (r_int D2 fun q1 t3 D3 => args_cons (r_int D3 fun q2 t4 D4 => args_cons (r_int D4 fun q3 t5 D5 => args_cons (r_int D5 fun q4 t6 D6 => args_cons (r_int D6 fun q5 t7 D7 => args_nil (in_EEEAA _ _ _ D7 (Nat.le_of_ble_eq_true rfl) (fun tv t8 hV8 hs8 D8 => ?_))))))))
  refine add_lists_ D8 ⟨_, (D8.mus (cv, _) (.tail _ (.head _))).1, rfl, _, rfl⟩ ⟨_, (D8.mus (tv, _) (.head _)).1, rfl, _, rfl⟩ (by rw [List.length_take]; simp; lia) fun nl t9 hV9 hs9 D9 => ?_
  have hnum : IntsAre (vals.take 5 ++ [.int 7 q1, .int 59 q2, .int 0 q3, .int 31 q4, .int 10 q5]) (ns.take 5 ++ [7, 59, 0, 31, 10]) := (hns.take 5).append (.cons _ _ (.cons _ _ (.cons _ _ (.cons _ _ (.cons _ _ .nil)))))
  have hxl : 5 ≤ (ns.take 5 ++ [7, 59, 0, 31, 10]).length ∧ (ns.take 5 ++ [7, 59, 0, 31, 10]).length ≤ 10 := by rw [List.length_append, List.length_take]; simp; lia
  generalize (ns.take 5 ++ [7, 59, 0, 31, 10]) = xs at hnum hxl
  revert xs
  refine noBeta ?_
  intro xs hnum hxl
  generalize (vals.take 5 ++ [.int 7 q1, .int 59 q2, .int 0 q3, .int 31 q4, .int 10 q5]) = xvals at hnum D9
  revert xvals
  refine noBeta ?_
  intro xvals hnum D9
  refine el_A (hxl) fun hx5 hx10 => ?_; try clear hxl
  refine el_EAAA (D9.fix (fun h => nomatch h)) fun V1 le1 hnl _ D10 => ?_
  have D11 := D10.drop (n := t9.toks) (h' := t9.heap) (fun b o _ e => e) (fun h => nomatch h)
  have D12 := D11.drop (n := t9.toks) (h' := t9.heap) (fun b o _ e => e) (fun h => nomatch h)
  have D13 := D12.drop (n := t9.toks) (h' := t9.heap) (fun b o _ e => e) (fun h => nomatch h)
  refine r_store D13 fun t10 D14 => ?_
  clear D9 D10 D11 D12 D13
  try refine kq _ ?_
  refine seqK fun KQ kq => (wpAny_Assign_Name (Call_ (r_built D14 B B.n_sum B.b_sum (callWith_builtin1 (args_cons (r_name D14 rfl (args_nil (sum_ hA1.h D14 ⟨_, D14.see _ _ hnl, rfl, _, rfl⟩ hnum fun told tkt t11 D15 => r_store D15 fun t12 D16 => ?_))))))))
  refine el_A (keysOf_ok told) fun hKok hK10 => ?_
  refine el_E (pl xs told hx5 hx10) fun Inv P => ?_
  have hRl := ranksOf_len (keysOf told) (rowOf xs) xs.length
  generalize hK : keysOf told = K at P hKok hK10 hRl
  revert K
  refine noBeta ?_
  intro K hK P hKok hK10 hRl
  have hKc : ∀ p ∈ K, p.1 = 0 ∨ p.1 = 1 ∨ p.1 = 2 := fun p hp => (hKok p hp).1
  -- first
  try refine kq _ ?_
  refine seqK fun KQ kq => (wpAny_Assign_Name (Call_ (r_glob D16 B B.g_law_rows (callWith_def (o := ⟨.type "function", none, .func F83, #[]⟩) (fd := F83) rfl (args_cons (r_name D16 rfl (args_nil ⟨D16.keepG _ _ (B.K 83 _ (pack83.2 w.params)), ?_⟩)))))))
  refine rows_spec B (hA1.le (by decide)) D16.wd (D16.sub (fun _ h => nomatch h)) hnl (IntsAre.intsL hnum) (by (exact Nat.le_trans (by assumption) (by decide))) fun rl ra nrl t13 st13 hrows => ?_
  refine el_EAA (D16.pure st13) fun V2 le2 fr2 D17 => ?_
  refine el_A (hrows V2 (fun b o e1 e2 => (fr2 b o e1 e2).1)) fun hrl hro => ?_
  refine r_storeC D17 1 rfl fun t14 D18 => ?_
  -- keys
  try refine kq _ ?_
  refine seqK fun KQ kq => (wpAny_Assign_Name (Call_ (r_glob D18 B B.g_law_keys (callWith_def (o := ⟨.type "function", none, .func F90, #[]⟩) (fd := F90) rfl (args_cons (r_name D18 rfl (args_nil ⟨D18.keepG _ _ (B.K 90 _ (pack90.2 w.params)), ?_⟩)))))))
  refine keys_spec B (hA1.le (by decide)) D18.wd fun kl t15 st15 hkeys => ?_
  refine el_EAA (D18.pure st15) fun V3 le3 fr3 D19 => ?_
  have hkl := hkeys V3 (fun b o e1 e2 => (fr3 b o e1 e2).1)
  rw [hK] at hkl
  refine r_store D19 fun t16 D20 => ?_
  have D20 : Bd g s [] V3 [(L + 1 + 1, cel none), (L + 1, cel (some (.ref rl)))] L (upd (upd (upd (upd (fun _ => none) "script" (.ref sl)) "numbers" (.ref nl)) "told" (.int told tkt)) "keys" (.ref kl)) t16 := D20
  generalize hm20 : (upd (upd (upd (upd (fun _ => none) "script" (.ref sl)) "numbers" (.ref nl)) "told" (.int told tkt)) "keys" (.ref kl)) = m20 at D20
  have mk20 : m20 "keys" = some (.ref kl) := by rw [← hm20]; rfl
  have mto20 : m20 "told" = some (.int told tkt) := by rw [← hm20]; rfl
  clear hm20
  revert m20
  refine noBeta ?_
  intro m20 D20 mk20 mto20
  -- ranks
  replace hrl := le3 _ _ hrl
  replace hro := fun i hi => (hro i hi).mono le3
  try refine kq _ ?_
  refine seqK fun KQ kq => (wpAny_Assign_Name (Call_ (r_glob D20 B B.g_law_ranks (callWith_def (o := ⟨.type "function", none, .func F95, #[]⟩) (fd := F95) rfl (args_cons (r_cell D20 (.tail _ (.head _)) (args_cons (r_name D20 mk20 (args_nil ⟨D20.keepG _ _ (B.K 95 _ (pack95.2 w.params)), ?_⟩)))))))))
  refine ranks_spec B (hA1.le (by decide)) D20.wd (D20.sub (fun _ h => nomatch h)) hkl hKok hK10 hrl hro (fun j _ => rowOf_txt xs j) (by (exact Nat.le_trans (by assumption) (by decide))) fun rkl rvals nrk t17 st17 hrv hranks => ?_
  refine el_EAA (D20.pure st17) fun V4 le4 fr4 D21 => ?_
  have hrkl := hranks V4 (fun b o e1 e2 => (fr4 b o e1 e2).1)
  refine r_storeC D21 0 rfl fun t18 D22 => ?_
  -- order
  try refine kq _ ?_
  refine seqK fun KQ kq => (wpAny_Assign_Name (Call_ (r_glob D22 B B.g_TupleComp (callWith_K (K := hd.heap_39 w.params) B.K rfl (args_cons (r_name D22 mk20 (args_nil ⟨B.K.keeps D22.keepG, ?_⟩)))))))
  refine make_order B (hA1.le (by decide)) D22 fun ox V5 t19 le5 hord D23 => r_store D23 fun t20 D24 => ?_
  -- rows
  try refine kq _ ?_
  refine seqK fun KQ kq => (wpAny_Assign_Name (r_cell D24 (.tail _ (.head _)) (r_store D24 fun t21 D25 => ?_)))
  -- line
  try refine kq _ ?_
  refine seqK fun KQ kq => (wpAny_Assign_Name (Call_ (r_built D25 B B.n_list B.b_list (callWith_type1 ?_ (by kernel_rfl) (by kernel_rfl)))))
  refine args_cons (Call_ (r_built D25 B B.n_range B.b_range (callWith_type1 ?_ (by kernel_rfl) (by kernel_rfl)))) (by kernel_rfl)
  refine args_cons (Call_ (r_built D25 B B.n_len B.b_len (callWith_builtin1 (args_cons (r_cell D25 (.tail _ (.head _)) (args_nil ?_)))))) (by kernel_rfl)
  replace hrl := le5 _ _ (le4 _ _ hrl)
  have hvl := vref_len ra (List.range xs.length)
  rw [List.length_range] at hvl
  refine call_len_list ⟨_, D25.see _ _ hrl, rfl, _, rfl⟩ (by rw [List.size_toArray]; lia) ?_
  have D26 := D25.tok (t21.toks + 1 + 1)
  refine args_nil (range1_ D26 fun rg u1 u2 u3 t22 D27 hrg => args_nil ?_)
  rw [List.size_toArray, hvl] at hrg
  refine list_range_ hA1.h D27 hrg rfl (by (exact Nat.lt_of_le_of_lt (by assumption) (by decide))) fun ll lvals nll t23 hVll hsll hlv D28 => ?_
  refine el_EAAA (D28.fix (fun h => nomatch h)) fun V6 le6 hll _ D29 => ?_
  refine r_store D29 fun t24 D30 => ?_
  -- turn
  try refine kq _ ?_
  refine seqK fun KQ kq => (wpAny_Assign_Name (r_name D30 mto20 (r_store D30 fun t25 D31 => ?_)))
  replace hkl := hkl.mono ((le4.trans le5).trans le6)
  replace hro := fun i hi => (hro i hi).mono ((le4.trans le5).trans le6)
  replace hrl := le6 _ _ hrl
  replace hrkl := le6 _ _ (le5 _ _ hrkl)
  replace hord := hord.mono le6
  have D31 : Bd g s [] V6 [(L + 1 + 1, cel (some (.ref rkl))), (L + 1, cel (some (.ref rl)))] L (upd (upd (upd (upd m20 "order" (.ref ox)) "rows" (.ref rl)) "line" (.ref ll)) "turn" (.int told tkt)) t25 := D31
  generalize hm31 : (upd (upd (upd (upd m20 "order" (.ref ox)) "rows" (.ref rl)) "line" (.ref ll)) "turn" (.int told tkt)) = m31 at D31
  have mr31 : m31 "rows" = some (.ref rl) := by rw [← hm31]; rfl
  have ml31 : m31 "line" = some (.ref ll) := by rw [← hm31]; rfl
  have mo31 : m31 "order" = some (.ref ox) := by rw [← hm31]; rfl
  have mt31 : m31 "turn" = some (.int told tkt) := by rw [← hm31]; rfl
  have mto31 : m31 "told" = some (.int told tkt) := by rw [← hm31]; exact mto20
  clear hm31
  revert m31
  refine noBeta ?_
  intro m31 D31 mr31 ml31 mo31 mt31 mto31
  clear D14 D15 D16 D17 D18 D19 D20 D21 D22 D23 D24 D25 D26 D27 D28 D29 D30
  -- the loop over the steps
  try refine kq _ ?_
  refine seqK fun KQ kq => (wpAny_For ?_)
  refine Call_ (r_glob D31 B B.g_law_steps (callWith_def (o := ⟨.type "function", none, .func F100, #[]⟩) (fd := F100) rfl ?_ (by kernel_rfl)))
  refine args_cons (Call_ (r_built D31 B B.n_len B.b_len (callWith_builtin1 (args_cons (r_cell D31 (.tail _ (.head _)) (args_nil ?_)))))) (by kernel_rfl)
  refine call_len_list ⟨_, D31.see _ _ hrl, rfl, _, rfl⟩ (by rw [List.size_toArray]; lia) ?_
  have D32 := D31.tok (t25.toks + 1 + 1)
  rw [List.size_toArray, hvl]
  refine args_cons (wpAny_BinOp (r_name D32 mto31 (r_int D32 fun k1 t26 D33 => floordiv_int (by decide) ?_))) (by kernel_rfl)
  have D34 := D33.tok (t26.toks + 1)
  refine args_nil ⟨D34.keepG _ _ (B.K 100 _ (pack100.2 w.params)), ?_⟩
  refine steps_spec B (hA1.le (by decide)) D34.wd (by (exact Nat.le_trans (by assumption) (by decide))) fun stl svals nst t27 st27 hsv hsteps => ?_
  refine el_EAA (D34.pure st27) fun V7 le7 fr7 D35 => ?_
  have hstl := hsteps V7 (fun b o e1 e2 => (fr7 b o e1 e2).1)
  generalize hsts : stepsOf xs.length (told.fdiv 5) = sts at P hsv
  revert sts
  refine noBeta ?_
  intro sts hsts P hsv
  generalize hrks : ranksOf K (rowOf xs) xs.length = rks at P hrv hRl
  revert rks
  refine noBeta ?_
  intro rks hrks P hrv hRl
  have leA := le7
  refine for_list hA1.h D35 ⟨_, D35.see _ _ hstl, rfl, _, rfl⟩ (fun i V' mu' m' => V7.le V' ∧ mu' = [(L + 1 + 1, cel (some (.ref rkl))), (L + 1, cel (some (.ref rl)))] ∧ ∃ js rwl ll lv n1 n2 tn tkn, m' "rows" = some (.ref rwl) ∧ m' "line" = some (.ref ll) ∧ m' "order" = some (.ref ox) ∧ m' "turn" = some (.int tn tkn) ∧
      V' rwl = some (lst (vref ra js) n1) ∧ V' ll = some (lst lv n2) ∧ NatsAre lv js ∧ Inv i js)
    (in_AAEEEEEEEEAAAAAAA .rfl rfl (List.range xs.length) rl ll lvals nrl nll told tkt mr31 ml31 mo31 mt31 (le7 _ _ hrl) (le7 _ _ hll) hlv P.inv0) (fun i I V' mu' m' o' t' hJ D' => ⟨_, D'.see _ _ (hJ.1 _ _ hstl), rfl, _, rfl⟩) ?_ ?_
  · intro i I v V' mu' m' o' t' KK hKK hRR hv hQ1; refine el_AAEEEEEEEEAAAAAAA (hQ1) fun le hR3 js rwl ll lv n1 n2 tn tkn mr ml mo mt hrw hll' hlv' hI => ?_; try clear hQ1; subst hR3; intro D'
    refine el_AE (hsv.get hv) fun hi tks hR4 => ?_; subst hR4
    refine el_AAAA (P.step i js hi hI) fun hs0 hs20 hjl hjm hpass => ?_
    generalize sts.getD i 0 = st at hs0 hs20 hpass
    revert st
    refine noBeta ?_
    intro st hs0 hs20 hpass
    refine PyProof.Rows.assign_Name (r_store D' fun t1 D1 => ?_)
    have leX := leA.trans le
    have mr1 : upd m' "step" (.int st tks) "rows" = some (.ref rwl) := mr
    have ml1 : upd m' "step" (.int st tks) "line" = some (.ref ll) := ml
    have mo1 : upd m' "step" (.int st tks) "order" = some (.ref ox) := mo
    have mt1 : upd m' "step" (.int st tks) "turn" = some (.int tn tkn) := mt
    try refine kq _ ?_
    refine seqK fun KQ kq => (Assign_Tuple (Call_ (r_glob D1 B B.g_law_pass (callWith_def (o := ⟨.type "function", none, .func F126, #[]⟩) (fd := F126) rfl ?_ (by kernel_rfl)))))
    refine args_cons (r_name D1 mr1 (args_cons (r_name D1 mo1 (args_cons (r_name D1 rfl (args_cons (wpAny_Compare1 (wpAny_BinOp (r_name D1 mt1 (r_int D1 fun k1 t2 D2 => mod_int' (by decide) ?_)))) (by kernel_rfl))) (by kernel_rfl))) (by kernel_rfl))) (by kernel_rfl)
    have D2' := D2.tok (t2.toks + 1)
    refine r_int D2' fun k2 t3 D3 => eq_int (args_nil ⟨D3.keepG _ _ (B.K 126 _ (pack126.2 w.params)), ?_⟩)
    generalize hback : (tn.fmod 2 == 1) = back
    revert back
    refine noBeta ?_
    intro back hback
    refine pass_spec (js := js) (R := rowOf xs) B (hA1.le (by decide)) D3.wd (D3.sub (fun _ h => nomatch h)) (hord.mono leX) (hkl.mono leX) hKc hrw (fun j hj => (hro j (hjm j hj)).mono leX) (by lia) hs0 hs20 fun tr rwl' al aitems n3 n4 t4 st4 hp => ?_
    refine el_EAA (D3.pure st4) fun V1 le1 fr1 D4 => ?_
    refine el_AAA (hp V1 (fun b o e1 e2 => (fr1 b o e1 e2).1)) fun htr hrw' hal hask => ?_
    refine el_AAA (hpass back) fun hpe hI' hab hal1 => ?_
    rw [hpe] at hrw' hask
    refine wpAny_assign_Tuple hA1.h ⟨_, D4.see _ _ htr, rfl, _, rfl⟩ rfl rfl fun h1 hext => ?_
    have D5 := D4.grow (n := t4.toks) (h' := h1) fun b o e => hext b o (Nat.ne_of_lt (Heap.lt_size e)) e
    refine assignInOrder_cons (PyProof.Rows.assign_Name (r_store D5 fun t6 D6 => assignInOrder_cons (PyProof.Rows.assign_Name (r_store D6 fun t7 D7 => assignInOrder_nil ?_))))
    have leY := leX.trans le1
    have D7 : Bd g s [] V1 [(I, o'), (L + 1 + 1, cel (some (.ref rkl))), (L + 1, cel (some (.ref rl)))] L (upd (upd (upd m' "step" (.int st tks)) "rows" (.ref rwl')) "asked" (.ref al)) t7 := D7
    generalize hm7 : (upd (upd (upd m' "step" (.int st tks)) "rows" (.ref rwl')) "asked" (.ref al)) = m7 at D7
    have mr7 : m7 "rows" = some (.ref rwl') := by rw [← hm7]; rfl
    have ma7 : m7 "asked" = some (.ref al) := by rw [← hm7]; rfl
    have ms7 : m7 "step" = some (.int st tks) := by rw [← hm7]; rfl
    have ml7 : m7 "line" = some (.ref ll) := by rw [← hm7]; exact ml
    have mo7 : m7 "order" = some (.ref ox) := by rw [← hm7]; exact mo
    have mt7 : m7 "turn" = some (.int tn tkn) := by rw [← hm7]; exact mt
    clear hm7
    revert m7
    refine noBeta ?_
    intro m7 D7 mr7 ma7 ms7 ml7 mo7 mt7
    try refine kq _ ?_
    refine seqK fun KQ kq => (Assign_Tuple (Call_ (r_glob D7 B B.g_law_due (callWith_def (o := ⟨.type "function", none, .func F131, #[]⟩) (fd := F131) rfl ?_ (by kernel_rfl)))))
    refine args_cons (r_name D7 ml7 (args_cons (r_cell D7 (.tail _ (.head _)) (args_cons (r_name D7 ms7 (args_cons (wpAny_Compare1 (wpAny_BinOp (r_name D7 mt7 (r_int D7 fun k1 t2 D2 => mod_int' (by decide) ?_)))) (by kernel_rfl))) (by kernel_rfl))) (by kernel_rfl))) (by kernel_rfl)
    have D8 := D2.tok (t2.toks + 1)
    refine r_int D8 fun k2 t3 D9 => eq_int (args_nil ⟨D9.keepG _ _ (B.K 131 _ (pack131.2 w.params)), ?_⟩)
    rw [hback]
    refine due_spec (js := js) B (hA1.le (by decide)) D9.wd (D9.sub (fun _ h => nomatch h)) (le1 _ _ hll') hlv' (leY _ _ hrkl) hrv (fun j hj => by rw [hRl]; exact hjm j hj) (by lia) (by lia) hs0 hs20 fun tr2 ll2 al2 lv2 items2 n5 n6 t10 st10 hnv2 hp2 => ?_
    refine el_EAA (D9.pure st10) fun V2 le2 fr2 D10 => ?_
    refine el_AAA (hp2 V2 (fun b o e1 e2 => (fr2 b o e1 e2).1)) fun htr2 hll2 hal2 hask2 => ?_
    refine wpAny_assign_Tuple hA1.h ⟨_, D10.see _ _ htr2, rfl, _, rfl⟩ rfl rfl fun h2 hext2 => ?_
    have D11 := D10.grow (n := t10.toks) (h' := h2) fun b o e => hext2 b o (Nat.ne_of_lt (Heap.lt_size e)) e
    refine assignInOrder_cons (PyProof.Rows.assign_Name (r_store D11 fun t12 D12 => assignInOrder_cons (PyProof.Rows.assign_Name (r_store D12 fun t13 D13 => assignInOrder_nil ?_))))
    have leZ := leY.trans le2
    have D13 : Bd g s [] V2 [(I, o'), (L + 1 + 1, cel (some (.ref rkl))), (L + 1, cel (some (.ref rl)))] L (upd (upd m7 "line" (.ref ll2)) "due" (.ref al2)) t13 := D13
    have mr13 : upd (upd m7 "line" (.ref ll2)) "due" (.ref al2) "rows" = some (.ref rwl') := mr7
    have ma13 : upd (upd m7 "line" (.ref ll2)) "due" (.ref al2) "asked" = some (.ref al) := ma7
    have ml13 : upd (upd m7 "line" (.ref ll2)) "due" (.ref al2) "line" = some (.ref ll2) := rfl
    have md13 : upd (upd m7 "line" (.ref ll2)) "due" (.ref al2) "due" = some (.ref al2) := rfl
    have mo13 : upd (upd m7 "line" (.ref ll2)) "due" (.ref al2) "order" = some (.ref ox) := mo7
    have mt13 : upd (upd m7 "line" (.ref ll2)) "due" (.ref al2) "turn" = some (.int tn tkn) := mt7
    generalize upd (upd m7 "line" (.ref ll2)) "due" (.ref al2) = m13 at D13 mr13 ma13 ml13 md13 mo13 mt13
    revert m13
    refine noBeta ?_
    intro m13 D13 mr13 ma13 ml13 md13 mo13 mt13
    replace hrw' := le2 _ _ hrw'
    replace hal := le2 _ _ hal
    replace hask := hask.mono le2
    generalize hG : dueOf (fun j => ((rks.getD j 0 : Nat) : Int)) back st js st = G at *
    refine el_A (P.ok _ _ hI') fun hGl hGm => ?_
    have hlv2l := hnv2.1
    -- rows != [first[place] for place in line]
    try refine kq _ ?_
    refine wpAny_execs_cons (wpAny_If (wpAny_isTrue_Compare1 (r_name D13 mr13 (comp_expr (cl := [("first", L + 1)]) ?hcl ?hkd ?hnm ?hmain))))
    case hcl => exact rfl
    case hkd => exact rfl
    case hnm => decide
    refine r_name D13 ml13 ?_
    refine blk_list B hA1.h D13 ⟨_, D13.see _ _ hll2, rfl, _, rfl⟩ rfl (fun k => by show List.Nodup ([] : List Str); exact List.nodup_nil) (by lia)
      (fun j _ ys => ys = vref ra (G.1.take j)) (fun i V V' ys h _ => h) rfl ?_ ?_
    · intro tt1 s3 I2 acc C j v V4 cm m2 t2 ys nn oI2 K3Dc K4Dc hkk hj hv2 hyl hle hJi Dc hK3Dc hK4Dc
      have Dc : Bd g s3 [acc, I2] V4 [(acc, lst ys nn), (I2, oI2)] C m2 t2 := Dc
      refine el_AE (hnv2.get hv2) fun hjG tkv hR5 => ?_; subst hR5
      have hcell := hle _ _ (D13.muFull (W' := []) (a := L + 1) (.tail _ (.tail _ (.head _))) List.not_mem_nil)
      have leV := (D13.leFull (W' := []) (fun _ h => nomatch h)).trans hle
      have htk : G.1.take (j + 1) = G.1.take j ++ [G.1.getD j 0] := by
        rw [List.take_add_one, List.getD_eq_getElem?_getD, List.getElem?_eq_getElem hjG]; rfl
      have hxm : G.1.getD j 0 ∈ G.1 := by rw [List.getD_eq_getElem?_getD, List.getElem?_eq_getElem hjG]; exact List.getElem_mem _
      have hxl := hGm _ hxm
      generalize G.1.getD j 0 = x at htk hxl
      revert x
      refine noBeta ?_
      intro x htk hxl
      have hgx : (vref ra (List.range xs.length))[x]? = some (.ref (ra x)) := by
        unfold vref; rw [List.getElem?_map, List.getElem?_range hxl]; rfl
      refine PyProof.Rows.assign_Name (r_store Dc fun t5 D5 => wpAny_tests_nil ?_)
      rw [if_pos rfl]
      refine Subscript_ (r_cellV D5 hcell (r_name D5 rfl (item_list (k := x) ⟨_, D5.see _ _ (leV _ _ (leZ _ _ hrl)), rfl, _, rfl⟩ rfl (by lia) hgx ?_)))
      refine hK3Dc _ _ (in_EEEAA V4 cm _ .rfl ?_ D5)
      rw [hJi, htk]
      unfold vref
      rw [List.map_append]; rfl
    intro acc C ys n' Vf mC tf hJ leF hyl2 hsch hns hVC hCL hCm Df
    refine post_none hns hVC hCL hCm Df fun t14 D14 => ?_
    rw [hlv2l, List.take_of_length_le (Nat.le_refl _)] at hJ
    subst hJ
    have hGvl := vref_len ra G.1
    refine ne_refs (e := fun _ => true) (D14.see _ _ (leF _ _ hrw')) (D14.mus (acc, _) (.head _)).1 rfl hA1.cl (fun j h1 h2 => SeqAt.EqAt.same _) (wpAny_truthy_bool ?_)
    rw [if_neg (by simp)]
    try refine kq _ ?_
    refine wpAny_execs_nil ?_
    have D15 := (D14.drop (n := t14.toks) (h' := t14.heap) (fun b o _ e => e) (fun h => nomatch h))
    clear D14
    -- [(other[3], row[3]) for other, row in asked] != due
    have hail : aitems.length = G.2.length := by rw [hask.1, List.length_map]
    have leW := leZ.trans leF
    have hask' := hask.mono leF
    try refine kq _ ?_
    refine wpAny_execs_cons (wpAny_If (wpAny_isTrue_Compare1 (comp_expr (cl := []) ?hcl3 ?hkd3 ?hnm3 ?hmain3)))
    case hcl3 => exact rfl
    case hkd3 => exact rfl
    case hnm3 => decide
    refine r_name D15 ma13 ?_
    refine blk_list B hA1.h D15 ⟨_, D15.see _ _ (leF _ _ hal), rfl, _, rfl⟩ rfl (fun k => by show List.Nodup ([] : List Str); exact List.nodup_nil) (by lia)
      (fun j V ys => AskI V ys (G.2.take j)) (fun i V V' ys h le => h.mono le) ⟨rfl, fun i v p e => nomatch e⟩ ?_ ?_
    · intro tt1 s3 I2 acc2 C2 j v V4 cm m2 t2 ys nn oI2 K3Dc K4Dc hkk hj hv2 hyl hle hJi Dc hK3Dc hK4Dc
      have Dc : Bd g s3 [acc2, I2] V4 [(acc2, lst ys nn), (I2, oI2)] C2 m2 t2 := Dc
      have hjG : j < G.2.length := by rw [← hail]; exact hj
      obtain ⟨p, hpj⟩ : ∃ p, G.2[j]? = some p := ⟨_, List.getElem?_eq_getElem hjG⟩
      have hab' := hab p (List.mem_of_getElem? hpj)
      have htk : G.2.take (j + 1) = G.2.take j ++ [p] := by rw [List.take_add_one, hpj]; rfl
      obtain ⟨p1, p2⟩ := p
      refine el_EEA (hask'.2 j v (ra p1, ra p2) hv2 (by rw [List.getElem?_map, hpj]; rfl)) fun ta tn' hR6 hta => ?_; subst hR6
      have leV := (D15.leFull (W' := []) (fun _ h => nomatch h)).trans hle
      refine el_A (hab') fun hp1 hp2 => ?_; try clear hab'
      refine el_EEEEE ((hro p1 hp1).mono (leW.trans leV)) fun a1 a2 a3 a4 an hrow1 => ?_
      refine el_EEEEE ((hro p2 hp2).mono (leW.trans leV)) fun b1 b2 b3 b4 bn hrow2 => ?_
      refine wpAny_assign_Tuple hA1.h ⟨_, Dc.see _ _ (leV _ _ hta), rfl, _, rfl⟩ rfl rfl fun h1 hext => ?_
      have D16 := Dc.grow (n := t2.toks) (h' := h1) fun b o e => hext b o (Nat.ne_of_lt (Heap.lt_size e)) e
      refine assignInOrder_cons (PyProof.Rows.assign_Name (r_store D16 fun t4 D17 => assignInOrder_cons (PyProof.Rows.assign_Name (r_store D17 fun t5 D18 => assignInOrder_nil (wpAny_tests_nil ?_)))))
      rw [if_pos rfl]
      refine r_tuple (g := g) (s₀ := s3) (W := [acc2, I2]) (args_cons (Subscript_ (r_name D18 rfl (r_int D18 fun k3 t6 D19 => item_tupleT ⟨_, D19.see _ _ hrow1, rfl, _, rfl⟩ (by decide) (by decide) rfl rfl ?_))))
      refine args_cons (Subscript_ (r_name D19 rfl (r_int D19 fun k4 t7 D20 => item_tupleT ⟨_, D20.see _ _ hrow2, rfl, _, rfl⟩ (by decide) (by decide) rfl rfl ?_)))
      refine args_nil (in_EEEAA _ _ _ D20 (Nat.le_of_ble_eq_true rfl) (fun a V9 t9 le9 ha hVa hsa D9 => ?_))
      have hat : tt1.heap.get? a = none := by
        cases e : tt1.heap.get? a with
        | none => rfl
        | some o => rw [hkk _ _ e] at hsa; cases hsa
      refine hK3Dc _ _ (in_EEEAA V9 cm _ le9 ?_ D9)
      rw [htk]
      exact (hJi.mono (cut_le le9)).snoc (x := p1) (y := p2) (cut_new hat ha)
    intro acc2 C2 ys2 n2' Vg mC2 tf2 hJ2 leG hyl3 hsch2 hns2 hVC2 hCL2 hCm2 Dg
    refine post_none hns2 hVC2 hCL2 hCm2 Dg fun t16 D16 => ?_
    rw [hail, List.take_of_length_le (Nat.le_refl _)] at hJ2
    refine r_name D16 md13 ?_
    have hask3 := hask2.mono (leF.trans leG)
    refine ne_refs (e := fun _ => true) (D16.mus (acc2, _) (.head _)).1 (D16.see _ _ (leG _ _ (leF _ _ hal2))) (by rw [hJ2.1, hask3.1]) hA1.cl (fun j h1 h2 => ?_) (wpAny_truthy_bool ?_)
    · have hjG : j < G.2.length := by rw [← hJ2.1]; exact h1
      refine el_EEEEA (hJ2.2 j ys2[j] G.2[j] (List.getElem?_eq_getElem h1) (List.getElem?_eq_getElem hjG)) fun a u1 u2 un ea ha => ?_
      refine el_EEEEA (hask3.2 j items2[j] G.2[j] (List.getElem?_eq_getElem h2) (List.getElem?_eq_getElem hjG)) fun b w1 w2 wn eb hb => ?_
      rw [ea, eb]
      by_cases hne : a = b
      · subst hne; exact SeqAt.EqAt.same _
      · refine SeqAt.EqAt.of_refs hne ?_
        refine SeqAt.RcAt.tuples (e := fun _ => true) ⟨_, D16.see _ _ ha, rfl, _, rfl⟩ ⟨_, D16.see _ _ hb, rfl, _, rfl⟩ hA1.in1.cl (fun i h1 h2 => ?_)
        have h1' : i < 2 := h1
        have eqi : ∀ (x : Int) (t u : Tok), SeqAt.EqAt A1.in1.in1 t16 (.int x t) (.int x u) true := fun x t u => by
          have := (MeetsSeq.EqGives.int x x t u).at A1.in1.in1 t16
          rwa [beq_self_eq_true] at this
        match i, h1' with
        | 0, _ => exact eqi _ _ _
        | 1, _ => exact eqi _ _ _
    rw [if_neg (by simp)]
    try refine kq _ ?_
    refine wpAny_execs_nil ?_
    have D17 := (D16.drop (n := t16.toks) (h' := t16.heap) (fun b o _ e => e) (fun h => nomatch h))
    try refine kq _ ?_
    refine seqK fun KQ kq => (wpAny_AugAssign_Name (wpAny_loadName_local rfl rfl D17.ns mt13 (r_int D17 fun k5 t18 D18 => iadd_int (r_store (D18.tok (t18.toks + 1)) fun t19 D19 => kq _ <| wpAny_execs_nil ?_))))
    refine hKK _ (in_EEEA Vg ([(L + 1 + 1, cel (some (.ref rkl))), (L + 1, cel (some (.ref rl)))]) (upd m13 "turn" (.int (tn + 1) t18.toks)) ((in_AAEEEEEEEEAAAAAAA (((((le.trans le1).trans le2).trans leF).trans leG)) rfl G.1 rwl' ll2 lv2 n3 n5 (tn + 1) t18.toks mr13 ml13 mo13 rfl (leG _ _ (leF _ _ hrw')) (leG _ _ (leF _ _ hll2)) hnv2 hI')) D19)
  · intro V' mu' m' t' hQ2; refine el_AAEEEEEEEEAAAAAAA (hQ2) fun le hR7 js rwl ll lv n1 n2 tn tkn mr ml mo mt hrw hll' hlv' hI => ?_; try clear hQ2; subst hR7; intro D'
    rw [hsv.1] at hI
    refine el_AA (P.fin js hI) fun hjl hjm hfin => ?_
    have leX := leA.trans le
    have hjv := vref_len ra js
    try refine kq _ ?_
    refine seqK fun KQ kq => (wpAny_For (Call_ (r_built D' B B.n_range B.b_range (callWith_type1 ?_ (by kernel_rfl) (by kernel_rfl)))))
    refine args_cons (wpAny_BinOp (Call_ (r_built D' B B.n_len B.b_len (callWith_builtin1 (args_cons (r_name D' mr (args_nil ?_))))))) (by kernel_rfl)
    refine call_len_list ⟨_, D'.see _ _ hrw, rfl, _, rfl⟩ (by rw [List.size_toArray]; lia) ?_
    have D1 := D'.tok (t'.toks + 1 + 1)
    rw [List.size_toArray, hjv, hjl]
    refine r_int D1 fun k1 t2 D2 => sub_int ?_
    have D3 := D2.tok (t2.toks + 1)
    have hNe : ((xs.length : Nat) : Int) - 1 = ((xs.length - 1 : Nat) : Int) := by lia
    rw [hNe]
    refine args_nil (range1_ D3 fun rg u1 u2 u3 t4 D4 hrg => ?_)
    refine for_range hA1.h D4 hrg (small_pos (by decide) (by lia) (by decide)) (n := xs.length - 1) (by rw [rangeSize_one]; split <;> lia)
      (fun i V'' mu'' m'' => V'.le V'' ∧ mu'' = [(L + 1 + 1, cel (some (.ref rkl))), (L + 1, cel (some (.ref rl)))] ∧ m'' "rows" = some (.ref rwl) ∧ m'' "line" = some (.ref ll) ∧ m'' "order" = some (.ref ox)) (in_AAAA .rfl rfl mr ml mo) ?_ ?_
    · intro i I tk V2 mu2 m2 o2 t5 KK hKK hRR hi hQ3; refine el_AAAA (hQ3) fun le2 hR8 mr2 ml2 mo2 => ?_; try clear hQ3; subst hR8; intro D5
      have e0 : (0 : Int) + (i : Int) * 1 = (i : Int) := by lia
      have e1 : (i : Int) + 1 = ((i + 1 : Nat) : Int) := by push_cast; rfl
      rw [e0]
      refine PyProof.Rows.assign_Name (r_store D5 fun t6 D6 => ?_)
      refine el_A (hfin i (by lia)) fun hc1 hc2 => ?_
      refine el_E (hlv'.2 i (by lia)) fun ta hga => ?_
      refine el_E (hlv'.2 (i + 1) (by lia)) fun tb hgb => ?_
      have hra : (vref ra js)[i]? = some (.ref (ra (js.getD i 0))) := by
        unfold vref; rw [List.getElem?_map, List.getD_eq_getElem?_getD, List.getElem?_eq_getElem (by lia)]; rfl
      have hrb : (vref ra js)[i + 1]? = some (.ref (ra (js.getD (i + 1) 0))) := by
        unfold vref; rw [List.getElem?_map, List.getD_eq_getElem?_getD, List.getElem?_eq_getElem (by lia)]; rfl
      have haN : js.getD i 0 < xs.length := hjm _ (by rw [List.getD_eq_getElem?_getD, List.getElem?_eq_getElem (by lia)]; exact List.getElem_mem _)
      have hbN : js.getD (i + 1) 0 < xs.length := hjm _ (by rw [List.getD_eq_getElem?_getD, List.getElem?_eq_getElem (by lia)]; exact List.getElem_mem _)
      generalize js.getD i 0 = a at hga hra haN hc1 hc2
      revert a
      refine noBeta ?_
      intro a hga hra haN hc1 hc2
      generalize js.getD (i + 1) 0 = b at hgb hrb hbN hc1 hc2
      revert b
      refine noBeta ?_
      intro b hgb hrb hbN hc1 hc2
      refine el_E (hrv.2 a (by lia)) fun tra hrka => ?_
      refine el_E (hrv.2 b (by lia)) fun trb hrkb => ?_
      have mr6 : upd m2 "i" (.int (i : Int) tk) "rows" = some (.ref rwl) := mr2
      have ml6 : upd m2 "i" (.int (i : Int) tk) "line" = some (.ref ll) := ml2
      have mo6 : upd m2 "i" (.int (i : Int) tk) "order" = some (.ref ox) := mo2
      have leY := leX.trans le2
      have hrk2 := leY _ _ hrkl
      have hll2 := le2 _ _ hll'
      have hrw2 := le2 _ _ hrw
      generalize hap : (if rks.getD a 0 < rks.getD b 0 then (-1 : Int) else 0) = ap at hc1 hc2
      revert ap
      refine noBeta ?_
      intro ap hap hc1 hc2
      try refine kq _ ?_
      refine seqK fun KQ kq => (wpAny_Assign_Name (wpAny_mono (Q := fun v t1 => ∃ tp, v = .int ap tp ∧ Bd g s [] V2 [(I, o2), (L + 1 + 1, cel (some (.ref rkl))), (L + 1, cel (some (.ref rl)))] L (upd m2 "i" (.int (i : Int) tk)) t1) (E := NoE) ?_ (fun v t7 hv7 => ?_) (fun _ _ q => q)))
      · refine wpAny_IfExp (wpAny_isTrue_Compare1 (Subscript_ (r_cell D6 (.tail _ (.head _)) (Subscript_ (r_name D6 ml6 (r_name D6 rfl (item_list (k := i) ⟨_, D6.see _ _ hll2, rfl, _, rfl⟩ rfl (by lia) hga (item_list (k := a) ⟨_, D6.see _ _ hrk2, rfl, _, rfl⟩ rfl (by lia) hrka ?_))))))))
        refine Subscript_ (r_cell D6 (.tail _ (.head _)) (Subscript_ (r_name D6 ml6 (wpAny_BinOp (r_name D6 rfl (r_int D6 fun k2 t7 D7 => add_int ?_))))))
        have D8 := D7.tok (t7.toks + 1)
        rw [e1]
        refine item_list (k := i + 1) ⟨_, D8.see _ _ hll2, rfl, _, rfl⟩ rfl (by lia) hgb (item_list (k := b) ⟨_, D8.see _ _ hrk2, rfl, _, rfl⟩ rfl (by lia) hrkb (lt_int (wpAny_truthy_bool ?_)))
        by_cases hlt : rks.getD a 0 < rks.getD b 0
        · rw [if_pos (by simpa using hlt)]
          rw [if_pos hlt] at hap
          subst hap
          exact wpAny_UnaryOp (r_int D8 fun k3 t9 D9 => neg_int (in_EA _ rfl (D9.tok _)))
        · rw [if_neg (by simpa using hlt)]
          rw [if_neg hlt] at hap
          subst hap
          exact r_int D8 fun k3 t9 D9 => (in_EA _ rfl D9)
      refine el_EA (hv7) fun tp hR9 D7 => ?_; try clear hv7; subst hR9
      refine r_store D7 fun t8 D8 => ?_
      have mr8 : upd (upd m2 "i" (.int (i : Int) tk)) "apart" (.int ap tp) "rows" = some (.ref rwl) := mr2
      have ml8 : upd (upd m2 "i" (.int (i : Int) tk)) "apart" (.int ap tp) "line" = some (.ref ll) := ml2
      have mo8 : upd (upd m2 "i" (.int (i : Int) tk)) "apart" (.int ap tp) "order" = some (.ref ox) := mo2
      have mi8 : upd (upd m2 "i" (.int (i : Int) tk)) "apart" (.int ap tp) "i" = some (.int (i : Int) tk) := rfl
      have ma8 : upd (upd m2 "i" (.int (i : Int) tk)) "apart" (.int ap tp) "apart" = some (.int ap tp) := rfl
      generalize upd (upd m2 "i" (.int (i : Int) tk)) "apart" (.int ap tp) = m8 at D8 mr8 ml8 mo8 mi8 ma8
      revert m8
      refine noBeta ?_
      intro m8 D8 mr8 ml8 mo8 mi8 ma8
      try refine kq _ ?_
      refine wpAny_execs_cons (wpAny_If (wpAny_isTrue_BoolOp (wpAny_allTrue_Or_cons (wpAny_isTrue_Compare1 (methodCall_KW (r_name D8 mo8 (m_compare B D8 (hord.mono leY) (callWith_function (o := ⟨.type "function", none, .func F71, #[]⟩) (fd := F71) (evalArgs_plain ?_)))))))))
      refine args_cons (Subscript_ (r_name D8 mr8 (r_name D8 mi8 (item_list (k := i) ⟨_, D8.see _ _ hrw2, rfl, _, rfl⟩ rfl (by lia) hra ?_)))) (by kernel_rfl)
      refine args_cons (Subscript_ (r_name D8 mr8 (wpAny_BinOp (r_name D8 mi8 (r_int D8 fun k4 t9 D9 => add_int ?_))))) (by kernel_rfl)
      have D10 := D9.tok (t9.toks + 1)
      rw [e1]
      refine item_list (k := i + 1) ⟨_, D10.see _ _ hrw2, rfl, _, rfl⟩ rfl (by lia) hrb (args_nil ⟨⟨D10.keepG _ _ (B.K 71 _ (pack71.2 w.params)), rfl⟩, ?_⟩)
      refine compare_spec B (hA1.le (by decide)) D10.wd (D10.sub (fun _ h => nomatch h)) (hord.mono leY) (hkl.mono leY) hKc ((hro a haN).mono leY) ((hro b hbN).mono leY) fun tk1 t11 st11 => ?_
      refine el_EAA (D10.pure st11) fun V3 le3 fr3 D11 => ?_
      refine r_name D11 ma8 (ne_int (wpAny_truthy_bool ?_))
      rw [hc1]
      rw [if_neg (by simp)]
      refine wpAny_allTrue_Or_cons (wpAny_isTrue_Compare1 (methodCall_KW (r_name D11 mo8 (m_compare B D11 (hord.mono (leY.trans le3)) (callWith_function (o := ⟨.type "function", none, .func F71, #[]⟩) (fd := F71) (evalArgs_plain ?_))))))
      refine args_cons (Subscript_ (r_name D11 mr8 (wpAny_BinOp (r_name D11 mi8 (r_int D11 fun k5 t12 D12 => add_int ?_))))) (by kernel_rfl)
      have D13 := D12.tok (t12.toks + 1)
      rw [e1]
      refine item_list (k := i + 1) ⟨_, D13.see _ _ (le3 _ _ hrw2), rfl, _, rfl⟩ rfl (by lia) hrb ?_
      refine args_cons (Subscript_ (r_name D13 mr8 (r_name D13 mi8 (item_list (k := i) ⟨_, D13.see _ _ (le3 _ _ hrw2), rfl, _, rfl⟩ rfl (by lia) hra (args_nil ⟨⟨D13.keepG _ _ (B.K 71 _ (pack71.2 w.params)), rfl⟩, ?_⟩))))) (by kernel_rfl)
      refine compare_spec B (hA1.le (by decide)) D13.wd (D13.sub (fun _ h => nomatch h)) (hord.mono (leY.trans le3)) (hkl.mono (leY.trans le3)) hKc ((hro b hbN).mono (leY.trans le3)) ((hro a haN).mono (leY.trans le3)) fun tk2 t14 st14 => ?_
      refine el_EAA (D13.pure st14) fun V4 le4' fr4' D14 => ?_
      refine wpAny_UnaryOp (r_name D14 ma8 (neg_int (ne_int (wpAny_truthy_bool ?_))))
      rw [hc2]
      rw [if_neg (by simp)]
      refine wpAny_allTrue_Or_nil ?_
      rw [if_neg Bool.false_ne_true]
      try refine kq _ ?_
      refine wpAny_execs_nil (wpAny_execs_nil ?_)
      exact hKK _ (in_EEEA V4 ([(L + 1 + 1, cel (some (.ref rkl))), (L + 1, cel (some (.ref rl)))]) m8 ((in_AAAA ((le2.trans le3).trans le4') rfl mr8 ml8 mo8)) (D14.tok (t14.toks + 1)))
    · intro V2 mu2 m2 t5 hQ4; refine el_AAAA (hQ4) fun le2 hR10 mr2 ml2 mo2 => ?_; try clear hQ4; subst hR10; intro D5
      have leY := leX.trans le2
      refine el_EAAA (D5.fix (fun h => nomatch h)) fun V3 le3 hcr _ D6 => ?_
      have leZ := leY.trans le3
      try refine kq _ ?_
      refine seqK fun KQ kq => (wpAny_Assign_Name (wpAny_Call_Name_kw (r_built D6 B B.n_sorted B.b_sorted (callWith_kw (args_cons (r_cell D6 (.head _) (args_nil ?_)))))))
      refine kwAll_cons (r_lambda (q := qW) D6 B (c := 135) (P := 133) (by decide) (by decide) rfl (by show (F136.qualname ++ ".<locals>.") ++ "<lambda>" = qW; decide) rfl rfl rfl fun f c' pm ctv V4 t7 le4' hf hc' hsf D7 => kwAll_nil ?_)
      have leU := leZ.trans le4'
      refine sorted_key (n0 := 0) (κ := fun i => ((rks.getD i 0 : Nat) : Int)) D7 ⟨_, D7.see _ _ (leU _ _ hrl), rfl, _, rfl⟩ (by lia) ?_ ?_
      · exact law_key (prog := prog) (A := A1.in1.in1) (s₀ := s) (W := []) (L := L) (m := m2) (xs := xs) B (d := 0) ((hA1.le (show 3 ≤ 17 by decide)).in1.in1) hf hc' (le4' _ _ hcr) (leU _ _ hrkl) hrv hRl (by (exact Nat.le_trans (by assumption) (by decide))) (fun i hi => (hro i hi).mono leU)
      intro so nso t8 hVso hsso D8
      have hso : ((ordI (fun i => ((rks.getD i 0 : Nat) : Int)) (vref ra (List.range xs.length)).length).map fun i => (vref ra (List.range xs.length)).getD i .none) = vref ra (ordI (fun i => ((rks.getD i 0 : Nat) : Int)) xs.length) := by
        rw [hvl]
        unfold vref
        refine List.map_congr_left fun i hi => ?_
        have := List.mem_range.mp ((ordI_perm _ _).mem_iff.mp hi)
        rw [List.getD_eq_getElem?_getD, List.getElem?_map, List.getElem?_range this]; rfl
      rw [hso] at D8
      refine r_store D8 fun t9 D9 => ?_
      refine el_A (P.both) fun hb1 hb2 => ?_
      generalize ordI (fun i => ((rks.getD i 0 : Nat) : Int)) xs.length = OO at D8 D9 hb1 hb2
      revert OO
      refine noBeta ?_
      intro OO D8 D9 hb1 hb2
      have mo9 : upd m2 "whole" (.ref so) "order" = some (.ref ox) := mo2
      have mw9 : upd m2 "whole" (.ref so) "whole" = some (.ref so) := rfl
      generalize upd m2 "whole" (.ref so) = m9 at D9 mo9 mw9
      revert m9
      refine noBeta ?_
      intro m9 D9 mo9 mw9
      try refine kq _ ?_
      refine wpAny_execs_cons (wpAny_Return_some (wpAny_Compare1 (Call_ (r_glob D9 B B.g_law_both (callWith_def (o := ⟨.type "function", none, .func F121, #[]⟩) (fd := F121) rfl (args_cons (r_cell D9 (.tail _ (.head _)) (args_cons (r_name D9 mo9 (args_nil ⟨D9.keepG _ _ (B.K 121 _ (pack121.2 w.params)), ?_⟩))))))))))
      refine both_spec (js := List.range xs.length) (R := rowOf xs) B (hA1.le (by decide)) D9.wd (D9.sub (fun _ h => nomatch h)) (hord.mono leU) (hkl.mono leU) hKc (leU _ _ hrl) (fun j hj => (hro j (List.mem_range.mp hj)).mono leU) (by rw [List.length_range]; (exact Nat.lt_of_le_of_lt (by assumption) (by decide))) fun bb ah bh na nb nbl t10 st10 hp => ?_
      refine el_EAA (D9.pure st10) fun V5 le5' fr5 D10 => ?_
      refine el_AA (hp V5 (fun b o e1 e2 => (fr5 b o e1 e2).1)) fun hbb hah hbh => ?_
      rw [hb1] at hah
      rw [hb2] at hbh
      refine r_list (args_cons (r_name D10 mw9 (args_cons (r_name D10 mw9 (args_nil (in_EEEAA _ _ _ D10 (Nat.le_of_ble_eq_true rfl) (fun el t11 hVel hsel D11 => ?_)))))))
      have zso := (D11.mus (so, _) (.tail _ (.head _))).1
      have eqW : ∀ (x : Addr) (n : Nat), V5 x = some (lst (vref ra OO) n) → SeqAt.EqAt A1.in1 t11 (.ref x) (.ref so) true := fun x n hx => by
        by_cases hne : x = so
        · subst hne; exact SeqAt.EqAt.same _
        · refine SeqAt.EqAt.of_refs hne ?_
          have := SeqAt.RcAt.lists (A := A1.in1) (e := fun _ => true) (items := (vref ra OO).toArray) (items2 := (vref ra OO).toArray) ⟨_, D11.see _ _ hx, rfl, _, rfl⟩ ⟨_, zso, rfl, _, rfl⟩ rfl hA1.in1.cl (fun j h1 h2 => SeqAt.EqAt.same _)
          have e : ((List.range (vref ra OO).toArray.size).all fun _ => true) = true := by simp
          rw [e] at this
          exact this
      refine SeqAt.eq_listAt (e := fun _ => true) (items := #[.ref ah, .ref bh]) (items2 := #[.ref so, .ref so]) ⟨_, D11.see _ _ hbb, rfl, _, rfl⟩ ⟨_, (D11.mus (el, _) (.head _)).1, rfl, _, rfl⟩ rfl hA1.cl (fun j h1 h2 => ?_) ?_
      · have h1' : j < 2 := h1
        match j, h1' with
        | 0, _ => exact eqW _ _ hah
        | 1, _ => exact eqW _ _ hbh
      · exact ⟨rfl, D11.st⟩
end
end Mine
end

section
open PySem PySem.W PyProof.Rows PySem.Calls
set_option Elab.async false
set_option linter.unusedVariables false
namespace Mine
set_option maxRecDepth 100000

section
variable {κ : Nat → Int}
theorem lx_asymm {a b : Nat} (h1 : lx κ a b) (h2 : lx κ b a) : a = b := by unfold lx at *; lia
theorem lx_ne {a b : Nat} (h1 : lx κ a b) : a ≠ b := by
  rintro rfl
  unfold lx at h1; lia
theorem ord_unique {P : List Nat} {n : Nat} (pm : P.Perm (List.range n)) (pw : P.Pairwise (lx κ)) : P = ordI κ n :=
  List.Perm.eq_of_pairwise (le := lx κ) (fun a b _ _ h1 h2 => lx_asymm h1 h2) pw (ordI_sorted κ n) (pm.trans (ordI_perm κ n).symm)
end

/-- c tells the ranks apart -/
noncomputable def Tells (c : Nat → Nat → Int) (r : Nat → Int) (N : Nat) : Prop := ∀ a b, a < N → b < N → c a b = if r a < r b then -1 else if r b < r a then 1 else 0
theorem Tells.pos {c : Nat → Nat → Int} {r : Nat → Int} {N a b : Nat} (h : Tells c r N) (ha : a < N) (hb : b < N) : 0 < c a b ↔ r b < r a := by
  rw [h a b ha hb]; split
  · constructor <;> intro _ <;> lia
  · split <;> constructor <;> intro _ <;> omega
theorem Tells.neg {c : Nat → Nat → Int} {r : Nat → Int} {N a b : Nat} (h : Tells c r N) (ha : a < N) (hb : b < N) : c a b < 0 ↔ r a < r b := by
  rw [h a b ha hb]; split
  · constructor <;> intro _ <;> omega
  · split <;> constructor <;> intro _ <;> lia
theorem Tells.self {c : Nat → Nat → Int} {r : Nat → Int} {N a : Nat} (h : Tells c r N) (ha : a < N) : c a a = 0 := by
  rw [h a a ha ha, if_neg (by lia), if_neg (by lia)]

theorem stepR_nil (c : Nat → Nat → Int) (a : List (Nat × Nat)) (x : Nat) : stepR c ([], a) x = ([x], a ++ [(x, x)]) := by
  unfold stepR
  rw [bisR]
  simp
theorem stepR_snoc (c : Nat → Nat → Int) (k : List Nat) (y : Nat) (a : List (Nat × Nat)) (x : Nat) (h0 : c x x = 0) : stepR c (k ++ [y], a) x = (if 0 < c y x then k ++ [x, y] else k ++ [y, x], a ++ [(x, x), (y, x)]) := by
  have e0 : (k ++ [y] ++ [x]).getD (k ++ [y]).length 0 = x := by simp
  have e1 : (k ++ [y] ++ [x]).getD k.length 0 = y := by simp
  have em : ((k ++ [y]).length - 1 + (k ++ [y]).length) / 2 = k.length := by rw [List.length_append, List.length_singleton]; lia
  unfold stepR
  dsimp only
  rw [e0, h0, bisR, dif_pos (by rw [List.length_append, List.length_singleton]; (exact Nat.lt_succ_self _)), em, e1]
  by_cases hc : 0 < c y x
  · rw [if_pos hc, bisR, dif_neg (by rw [List.length_append, List.length_singleton]; lia), if_pos hc]
    dsimp only
    rw [List.map_append, List.map_cons, List.map_nil, List.map_cons, List.map_nil, e0, e1]
    have : (k ++ [y]).length - 1 = k.length := by rw [List.length_append, List.length_singleton]; rfl
    rw [this]
    simp
  · rw [if_neg hc, bisR, dif_neg (by rw [List.length_append, List.length_singleton]; lia), if_neg hc]
    dsimp only
    rw [List.map_append, List.map_cons, List.map_nil, List.map_cons, List.map_nil, e0, e1]
    have e2 : (k ++ [y]).take ((k ++ [y]).length - 1 + 1) = k ++ [y] := List.take_of_length_le (by rw [List.length_append, List.length_singleton]; (exact Nat.lt_succ_self _))
    have e3 : (k ++ [y]).drop ((k ++ [y]).length - 1 + 1) = [] := List.drop_eq_nil_of_le (by rw [List.length_append, List.length_singleton]; (exact Nat.lt_succ_self _))
    have e4 : (k ++ [y]).length - 1 + 1 = k.length + 1 := by rw [List.length_append, List.length_singleton]; rfl
    rw [e4] at e2 e3
    rw [e2, e3]
    simp
theorem stepL_nil (c : Nat → Nat → Int) (a : List (Nat × Nat)) (x : Nat) : stepL c ([], a) x = ([x], a ++ [(x, x)]) := by
  unfold stepL
  rw [bisL]
  simp
theorem stepL_cons (c : Nat → Nat → Int) (k : List Nat) (y : Nat) (a : List (Nat × Nat)) (x : Nat) (h0 : c x x = 0) : stepL c (y :: k, a) x = (if c y x < 0 then y :: x :: k else x :: y :: k, a ++ [(x, x), (y, x)]) := by
  have e0 : (y :: k ++ [x]).getD (y :: k).length 0 = x := by simp
  have e1 : (y :: k ++ [x]).getD 0 0 = y := by simp
  have em : (0 + min (y :: k).length 1) / 2 = 0 := by rw [List.length_cons]; lia
  unfold stepL
  dsimp only
  rw [e0, h0, bisL, dif_pos (by rw [List.length_cons]; lia), em, e1]
  by_cases hc : c y x < 0
  · rw [if_pos hc, bisL, dif_neg (by rw [List.length_cons]; lia), if_pos hc]
    dsimp only
    rw [List.map_append, List.map_cons, List.map_nil, List.map_cons, List.map_nil, e0, e1]
    simp
  · rw [if_neg hc, bisL, dif_neg (by decide), if_neg hc]
    dsimp only
    rw [List.map_append, List.map_cons, List.map_nil, List.map_cons, List.map_nil, e0, e1]
    simp

section
variable {c : Nat → Nat → Int} {r : Nat → Int} {N : Nat}

/-- nothing of the chain is wrong by more than one place -/
noncomputable def Near (κ : Nat → Int) (n : Nat) : Prop := ∀ i j, i + 2 ≤ j → j < n → κ i ≤ κ j

noncomputable def RInv (κ : Nat → Int) (g : Nat → Nat) (i : Nat) (st : List Nat × List (Nat × Nat)) (du : Option Nat × List (Nat × Nat)) : Prop :=
  st.2 = du.2 ∧ ∃ P : List Nat, st.1 = P.map g ∧ P.Perm (List.range i) ∧ P.Pairwise (lx κ) ∧ du.1 = P.getLast?.map g

theorem right_step (T : Tells c r N) {g : Nat → Nat} {n i : Nat} (hg : ∀ i, i < n → g i < N) (hn : Near (fun i => r (g i)) n) (hi : i < n) {st : List Nat × List (Nat × Nat)} {du : Option Nat × List (Nat × Nat)} (h : RInv (fun i => r (g i)) g i st du) :
    RInv (fun i => r (g i)) g (i + 1) (stepR c st (g i)) (dueOne r false du (g i)) := by
  refine el_AEAAA (h) fun ha P hk pm pw hb => ?_; try clear h
  obtain ⟨kept, a⟩ := st
  obtain ⟨best, a'⟩ := du
  dsimp only at ha hk hb
  subst ha hk hb
  have hx := hg i hi
  have h0 := T.self hx
  rcases List.eq_nil_or_concat P with rfl | ⟨P', p, rfl⟩
  · have : i = 0 := by have := pm.length_eq; simp at this; exact this.symm
    subst this
    rw [List.map_nil, stepR_nil]
    exact ⟨rfl, [0], rfl, .refl _, List.pairwise_singleton _ _, rfl⟩
  · rw [List.concat_eq_append] at pm pw ⊢
    have hpm : p < i := List.mem_range.mp (pm.mem_iff.mp (by simp))
    have hp := hg p (by lia)
    have pm' : ∀ q ∈ P', q < i := fun q hq => List.mem_range.mp (pm.mem_iff.mp (by simp [hq]))
    rw [List.pairwise_append] at pw
    refine el_AA (pw) fun pw1 _ pw2 => ?_; try clear pw
    have hqp : ∀ q ∈ P', lx (fun i => r (g i)) q p := fun q hq => pw2 q hq p (.head _)
    rw [List.map_append, List.map_cons, List.map_nil, stepR_snoc c _ _ _ _ h0]
    have hbest : (P' ++ [p]).getLast?.map g = some (g p) := by simp
    have hdue : dueOne r false ((P' ++ [p]).getLast?.map g, a) (g i) = (if r (g p) ≤ r (g i) then some (g i) else some (g p), a ++ [(g i, g i)] ++ [(g p, g i)]) := by
      unfold dueOne; rw [hbest]; rfl
    rw [hdue]
    by_cases hc : r (g i) < r (g p)
    · rw [if_pos ((T.pos hp hx).mpr hc), if_neg (by lia)]
      have hpi : p + 1 = i := by
        by_cases q : p + 2 ≤ i
        · have := hn p i q hi; dsimp only at this; lia
        · lia
      refine ⟨by simp, P' ++ [i, p], by simp, ?_, ?_, by simp⟩
      · rw [List.range_succ]
        have : (P' ++ [i, p]).Perm ((P' ++ [p]) ++ [i]) := by
          rw [List.append_assoc]
          exact List.Perm.append_left _ (List.Perm.swap _ _ _)
        exact this.trans (pm.append_right _)
      · rw [List.pairwise_append]
        refine (in_AA pw1 ?_ (fun q hq z hz => ?_))
        · rw [List.pairwise_cons]
          exact ⟨fun z hz => by rw [List.mem_singleton.mp hz]; exact .inl hc, List.pairwise_singleton _ _⟩
        · have hql := pm' q hq
          have hne := lx_ne (hqp q hq)
          rcases List.mem_cons.mp hz with hq0 | hz
          · subst z; have := hn q i (by lia) hi
            dsimp only at this
            unfold lx; dsimp only; lia
          · rw [List.mem_singleton.mp hz]; exact hqp q hq
    · rw [if_neg (fun q => hc ((T.pos hp hx).mp q)), if_pos (by lia)]
      refine ⟨by simp, P' ++ [p, i], by simp, ?_, ?_, by simp⟩
      · rw [List.range_succ]
        have : P' ++ [p, i] = (P' ++ [p]) ++ [i] := by simp
        rw [this]
        exact pm.append_right _
      · rw [List.pairwise_append]
        refine (in_AA pw1 ?_ (fun q hq z hz => ?_))
        · rw [List.pairwise_cons]
          exact ⟨fun z hz => by rw [List.mem_singleton.mp hz]; unfold lx; dsimp only; lia, List.pairwise_singleton _ _⟩
        · have hql := pm' q hq
          have := lx_le (hqp q hq)
          rcases List.mem_cons.mp hz with hq0 | hz
          · subst z; exact hqp q hq
          · rw [List.mem_singleton.mp hz]; unfold lx; dsimp only; lia

noncomputable def LInv (κ : Nat → Int) (g : Nat → Nat) (n k : Nat) (st : List Nat × List (Nat × Nat)) (du : Option Nat × List (Nat × Nat)) : Prop :=
  st.2 = du.2 ∧ ∃ P : List Nat, st.1 = P.map g ∧ P.Perm ((List.range n).drop k) ∧ P.Pairwise (lx κ) ∧ du.1 = P.head?.map g

theorem mem_dropR {n k q : Nat} : q ∈ (List.range n).drop k ↔ k ≤ q ∧ q < n := by
  rw [List.mem_iff_getElem?]
  constructor
  · intro hQ1; refine el_E (hQ1) fun i h => ?_; try clear hQ1
    rw [List.getElem?_drop] at h
    refine el_E (List.getElem?_eq_some_iff.mp h) fun h1 h2 => ?_
    rw [List.length_range] at h1
    rw [List.getElem_range] at h2
    lia
  · intro hQ2; refine el_A (hQ2) fun h1 h2 => ?_; try clear hQ2
    exact ⟨q - k, by rw [List.getElem?_drop, List.getElem?_range (by lia)]; congr 1; lia⟩
theorem dropR_cons {n k : Nat} (h : k < n) : (List.range n).drop k = k :: (List.range n).drop (k + 1) := by
  rw [List.drop_eq_getElem_cons (by rw [List.length_range]; exact h), List.getElem_range]

theorem left_step (T : Tells c r N) {g : Nat → Nat} {n k : Nat} (hg : ∀ i, i < n → g i < N) (hn : Near (fun i => r (g i)) n) (hk : k < n) {st : List Nat × List (Nat × Nat)} {du : Option Nat × List (Nat × Nat)} (h : LInv (fun i => r (g i)) g n (k + 1) st du) :
    LInv (fun i => r (g i)) g n k (stepL c st (g k)) (dueOne r true du (g k)) := by
  refine el_AEAAA (h) fun ha P hkp pm pw hb => ?_; try clear h
  obtain ⟨kept, a⟩ := st
  obtain ⟨best, a'⟩ := du
  dsimp only at ha hkp hb
  subst ha hkp hb
  have hx := hg k hk
  have h0 := T.self hx
  cases P with
  | nil =>
    rw [List.map_nil, stepL_nil]
    refine ⟨rfl, [k], rfl, ?_, List.pairwise_singleton _ _, rfl⟩
    rw [dropR_cons hk]
    exact List.Perm.cons k pm
  | cons p P' =>
    refine el_A (mem_dropR.mp (pm.mem_iff.mp (.head _))) fun hkp hpn => ?_
    have hp := hg p hpn
    have pm' : ∀ q ∈ P', k + 1 ≤ q ∧ q < n := fun q hq => mem_dropR.mp (pm.mem_iff.mp (.tail _ hq))
    rw [List.pairwise_cons] at pw
    refine el_A (pw) fun pw2 pw1 => ?_; try clear pw
    rw [List.map_cons, stepL_cons c _ _ _ _ h0]
    have hdue : dueOne r true ((p :: P').head?.map g, a) (g k) = (if r (g k) ≤ r (g p) then some (g k) else some (g p), a ++ [(g k, g k)] ++ [(g p, g k)]) := rfl
    rw [hdue]
    by_cases hc : r (g p) < r (g k)
    · rw [if_pos ((T.neg hp hx).mpr hc), if_neg (by lia)]
      have hpi : p = k + 1 := by
        by_cases q : k + 2 ≤ p
        · have := hn k p q hpn; dsimp only at this; lia
        · lia
      refine ⟨by simp, p :: k :: P', by simp, ?_, ?_, by simp⟩
      · rw [dropR_cons hk]
        exact (List.Perm.swap _ _ _).trans (pm.cons k)
      · rw [List.pairwise_cons, List.pairwise_cons]
        refine (in_AA (fun z hz => ?_) (fun z hz => ?_) pw1)
        · rcases List.mem_cons.mp hz with hq0 | hz
          · subst z; exact .inl hc
          · exact pw2 z hz
        · have h1 := pm' z hz
          have h2 := lx_ne (pw2 z hz)
          have := hn k z (by lia) h1.2
          dsimp only at this
          unfold lx; dsimp only; lia
    · rw [if_neg (fun q => hc ((T.neg hp hx).mp q)), if_pos (by lia)]
      refine ⟨by simp, k :: p :: P', by simp, ?_, ?_, by simp⟩
      · rw [dropR_cons hk]
        exact pm.cons k
      · rw [List.pairwise_cons, List.pairwise_cons]
        refine (in_AA (fun z hz => ?_) pw2 pw1)
        rcases List.mem_cons.mp hz with hq0 | hz
        · subst z; unfold lx; dsimp only; lia
        · have h1 := pm' z hz
          have h2 := lx_le (pw2 z hz)
          unfold lx; dsimp only; lia

/-- a chain that is wrong by no more than one place is laid as it is sorted, and what is asked is due -/
theorem chain_eq (T : Tells c r N) {ch : List Nat} (hch : ∀ j ∈ ch, j < N) (hn : Near (fun i => r (ch.getD i 0)) ch.length) (back : Bool) (a : List (Nat × Nat)) : chainPass c back ch a = (dueSort r ch, (dueScan r back ch a).2) := by
  have hg : ∀ i, i < ch.length → ch.getD i 0 < N := fun i hi => by
    rw [List.getD_eq_getElem?_getD, List.getElem?_eq_getElem hi]; exact hch _ (List.getElem_mem _)
  cases back with
  | false =>
    have go : ∀ i, i ≤ ch.length → RInv (fun i => r (ch.getD i 0)) (fun i => ch.getD i 0) i ((ch.take i).foldl (stepR c) ([], a)) ((ch.take i).foldl (dueOne r false) (none, a)) := by
      intro i
      induction i with
      | zero => intro _; exact ⟨rfl, [], rfl, .refl _, .nil, rfl⟩
      | succ i ih =>
        intro hi
        have := right_step T hg hn (show i < ch.length by assumption) (ih (by (exact Nat.le_of_lt (by assumption))))
        rw [List.take_add_one, List.getElem?_eq_getElem (by assumption), List.foldl_append, List.foldl_append]
        have e : ch[i] = ch.getD i 0 := by rw [List.getD_eq_getElem?_getD, List.getElem?_eq_getElem (by assumption)]; rfl
        rw [e]
        exact this
    refine el_AEAAA (go ch.length (Nat.le_refl _)) fun h2 P h1 pm pw _ => ?_
    rw [List.take_length] at h1 h2
    have hP := ord_unique pm pw
    unfold chainPass dueScan dueSort
    rw [if_neg Bool.false_ne_true, if_neg Bool.false_ne_true, ← h2, ← hP, ← h1]
  | true =>
    have go : ∀ i, i ≤ ch.length → LInv (fun i => r (ch.getD i 0)) (fun i => ch.getD i 0) ch.length (ch.length - i) ((ch.reverse.take i).foldl (stepL c) ([], a)) ((ch.reverse.take i).foldl (dueOne r true) (none, a)) := by
      intro i
      induction i with
      | zero => intro _; exact ⟨rfl, [], rfl, by rw [Nat.sub_zero, List.drop_eq_nil_of_le (by simp)], .nil, rfl⟩
      | succ i ih =>
        intro hi
        have e1 : ch.length - i = ch.length - (i + 1) + 1 := by lia
        have hh := ih (by (exact Nat.le_of_lt (by assumption)))
        rw [e1] at hh
        have := left_step T hg hn (show ch.length - (i + 1) < ch.length by omega) hh
        rw [List.take_add_one, List.getElem?_eq_getElem (by rw [List.length_reverse]; assumption), List.foldl_append, List.foldl_append]
        have e : ch.reverse[i]'(by rw [List.length_reverse]; assumption) = ch.getD (ch.length - (i + 1)) 0 := by
          rw [List.getElem_reverse, List.getD_eq_getElem?_getD, List.getElem?_eq_getElem (by omega), Option.getD_some]
          congr 1
          lia
        rw [e]
        exact this
    refine el_AEAAA (go ch.length (Nat.le_refl _)) fun h2 P h1 pm pw _ => ?_
    rw [← List.length_reverse, List.take_length] at h1 h2
    rw [Nat.sub_self, List.drop_zero] at pm
    have hP := ord_unique pm pw
    unfold chainPass dueScan dueSort
    rw [if_pos rfl, if_pos rfl, ← h2, ← hP, ← h1]
end
end Mine
end

section
open PySem PySem.W PyProof.Rows PySem.Calls
set_option Elab.async false
set_option linter.unusedVariables false
namespace Mine
set_option maxRecDepth 100000

theorem getD_set (l : List Nat) (i p v : Nat) (hp : p < l.length) : (l.set i v).getD p 0 = if p = i then v else l.getD p 0 := by
  rw [List.getD_eq_getElem?_getD, List.getD_eq_getElem?_getD]
  by_cases h : p = i
  · subst h; rw [if_pos rfl, List.getElem?_set_self hp]; rfl
  · rw [if_neg h, List.getElem?_set_ne (Ne.symm h)]
theorem mod_place {s st i : Nat} (h : st < s) : (st + i * s) % s = st ∧ (st + i * s) / s = i := by
  constructor
  · rw [Nat.add_mul_mod_self_right, Nat.mod_eq_of_lt h]
  · rw [Nat.add_mul_div_right _ _ (by lia), Nat.div_eq_of_lt h, Nat.zero_add]
theorem place_mod (s p : Nat) : p % s + p / s * s = p := by rw [Nat.mul_comm]; exact Nat.mod_add_div p s
theorem cnt_iff {start n step i : Nat} (hs : 0 < step) : i < cnt start n step ↔ start + i * step < n := by
  refine ⟨fun h => cnt_lt h hs, fun h => ?_⟩
  unfold cnt
  have h0 : start < n := by have := Nat.zero_le (i * step); lia
  rw [if_pos h0]
  have : i ≤ (n - start - 1) / step := (Nat.le_div_iff_mul_le hs).mpr (by omega)
  lia

theorem put_get {js : List Nat} {start s : Nat} {kept : List Nat} (hs : start < s) : ∀ (m : Nat), m ≤ cnt start js.length s → ∀ p, p < js.length → (putChain js start s kept m).getD p 0 = if p % s = start ∧ p / s < m then kept.getD (p / s) 0 else js.getD p 0 := by
  intro m
  induction m with
  | zero => intro _ p hp; rw [if_neg (fun q => Nat.not_lt_zero _ q.2)]; rfl
  | succ m ih =>
    intro hm p hp
    have e : putChain js start s kept (m + 1) = (putChain js start s kept m).set (start + m * s) (kept.getD m 0) := by
      unfold putChain; rw [List.range_succ, List.foldl_append, List.foldl_cons, List.foldl_nil]
    rw [e, getD_set _ _ _ _ (by rw [putChain_len]; exact hp), ih (by (exact Nat.le_of_lt (by assumption))) p hp]
    refine el_A (mod_place (i := m) hs) fun e1 e2 => ?_
    by_cases hpe : p = start + m * s
    · rw [if_pos hpe, if_pos ⟨by rw [hpe]; exact e1, by rw [hpe, e2]; (exact Nat.lt_succ_self _)⟩, hpe, e2]
    · rw [if_neg hpe]
      by_cases hc : p % s = start ∧ p / s < m
      · rw [if_pos hc, if_pos ⟨hc.1, by lia⟩]
      · rw [if_neg hc, if_neg]
        intro hQ1; refine el_A (hQ1) fun h1 h2 => ?_; try clear hQ1
        have : p / s = m := by
          by_cases q : p / s < m
          · exact absurd ⟨h1, q⟩ hc
          · lia
        have := place_mod s p
        rw [h1] at this
        apply hpe
        rw [← this]; congr 2

section
variable (r : Nat → Int)

theorem chain_getD {js : List Nat} {start s i : Nat} (h : i < cnt start js.length s) : (chainOf js start s).getD i 0 = js.getD (start + i * s) 0 := by
  unfold chainOf
  rw [List.getD_eq_getElem?_getD, List.getElem?_map, List.getElem?_range h]; rfl

theorem due_len (back : Bool) (s : Nat) (js : List Nat) : ∀ k, (dueOf r back s js k).1.length = js.length := by
  intro k
  induction k with
  | zero => rfl
  | succ k ih =>
    unfold dueOf at ih ⊢
    rw [List.range_succ, List.foldl_append, List.foldl_cons, List.foldl_nil]
    show (putChain _ _ _ _ _).length = _
    rw [putChain_len]; exact ih

theorem due_get (back : Bool) {s : Nat} (js : List Nat) : ∀ k, k ≤ s → (∀ p, p < js.length → (dueOf r back s js k).1.getD p 0 = if p % s < k then (dueSort r (chainOf js (p % s) s)).getD (p / s) 0 else js.getD p 0) ∧ (k < s → chainOf (dueOf r back s js k).1 k s = chainOf js k s) := by
  intro k
  induction k with
  | zero => intro _; exact ⟨fun p hp => by rw [if_neg (Nat.not_lt_zero _)]; rfl, fun _ => rfl⟩
  | succ k ih =>
    intro hk
    refine el_A (ih (by (exact Nat.le_of_lt (by assumption)))) fun ih1 ih2 => ?_
    replace ih2 := ih2 (by assumption)
    have hl := due_len r back s js k
    have e : (dueOf r back s js (k + 1)).1 = putChain (dueOf r back s js k).1 k s (dueSort r (chainOf js k s)) (dueSort r (chainOf js k s)).length := by
      have : dueOf r back s js (k + 1) = dueStep r back s (dueOf r back s js k) k := by
        unfold dueOf
        rw [List.range_succ, List.foldl_append, List.foldl_cons, List.foldl_nil]
      rw [this]
      unfold dueStep
      rw [ih2]
    have hsl : (dueSort r (chainOf js k s)).length = cnt k js.length s := by rw [dueSort_len, chainOf_len]
    have main : ∀ p, p < js.length → (dueOf r back s js (k + 1)).1.getD p 0 = if p % s < k + 1 then (dueSort r (chainOf js (p % s) s)).getD (p / s) 0 else js.getD p 0 := by
      intro p hp
      rw [e, put_get (by assumption) _ (by rw [hsl, hl]; exact Nat.le_refl _) p (by rw [hl]; exact hp), ih1 p hp]
      have hpm := place_mod s p
      by_cases hc : p % s = k
      · rw [if_pos ⟨hc, by rw [hsl, cnt_iff (by lia), ← hc, hpm]; exact hp⟩, if_pos (by lia), hc]
      · rw [if_neg (fun q => hc q.1)]
        by_cases h2 : p % s < k
        · rw [if_pos h2, if_pos (by lia)]
        · rw [if_neg h2, if_neg (by lia)]
    refine ⟨main, fun hk1 => ?_⟩
    have hl1 := due_len r back s js (k + 1)
    unfold chainOf
    rw [hl1]
    refine List.map_congr_left fun i hi => ?_
    have hi' := cnt_lt (List.mem_range.mp hi) (by lia)
    rw [main _ hi', (mod_place hk1).1, if_neg (Nat.lt_irrefl _)]

theorem sort_mono {ch : List Nat} {q q' : Nat} (h : q ≤ q') (h' : q' < ch.length) : r ((dueSort r ch).getD q 0) ≤ r ((dueSort r ch).getD q' 0) := by
  by_cases he : q = q'
  · subst he; exact Int.le_refl _
  · have hl := ordI_len (fun i => r (ch.getD i 0)) ch.length
    have hp := List.pairwise_iff_getElem.mp (ordI_sorted (fun i => r (ch.getD i 0)) ch.length) q q' (by lia) (by lia) (by lia)
    have := lx_le hp
    unfold dueSort
    rw [List.getD_eq_getElem?_getD, List.getD_eq_getElem?_getD, List.getElem?_map, List.getElem?_map, List.getElem?_eq_getElem (by lia), List.getElem?_eq_getElem (by lia)]
    exact this
theorem sort_perm (ch : List Nat) : (dueSort r ch).Perm ch := by
  unfold dueSort
  have h := (ordI_perm (fun i => r (ch.getD i 0)) ch.length).map (fun i => ch.getD i 0)
  have e : (List.range ch.length).map (fun i => ch.getD i 0) = ch := by
    apply List.ext_getElem
    · simp
    · intro i h1 h2
      simp [h2]
  rw [e] at h
  exact h

/-- ordered by the step d -/
noncomputable def Srt (d : Nat) (js : List Nat) : Prop := ∀ p, p + d < js.length → r (js.getD p 0) ≤ r (js.getD (p + d) 0)

theorem pass_srt (back : Bool) {s : Nat} (hs : 0 < s) (js : List Nat) : Srt r s (dueOf r back s js s).1 := by
  intro p hp
  have hl := due_len r back s js s
  rw [hl] at hp
  refine el_A (due_get r back js s (Nat.le_refl _)) fun h _ => ?_
  have hm : p % s < s := Nat.mod_lt _ hs
  rw [h p (by lia), h (p + s) hp, Nat.add_mod_right, if_pos hm, if_pos hm, Nat.add_div_right _ hs]
  refine sort_mono r (by (exact Nat.le_add_right _ _)) ?_
  rw [chainOf_len, cnt_iff hs]
  have := place_mod s p
  rw [Nat.succ_mul]; lia

theorem countP_pointwise (P : Nat → Bool) : ∀ (A B : List Nat), A.length ≤ B.length → (∀ k, k < A.length → P (A.getD k 0) = true → P (B.getD k 0) = true) → A.countP P ≤ B.countP P
  | [], B, _, _ => Nat.zero_le _
  | a :: A, [], h, _ => by simp at h
  | a :: A, b :: B, h, hp => by
    have ih := countP_pointwise P A B (by simpa using h) (fun k hk => by have := hp (k + 1) (by simpa using hk); simpa using this)
    have h0 := hp 0 (by simp)
    simp only [List.getD_cons_zero] at h0
    rw [List.countP_cons, List.countP_cons]
    by_cases ha : P a = true
    · rw [if_pos ha, if_pos (h0 ha)]; lia
    · rw [if_neg ha]; lia

theorem count_of_sorted {ch : List Nat} {q : Nat} {v : Int} (hq : q < ch.length) : q < ch.countP (fun x => decide (r x ≤ v)) ↔ r ((dueSort r ch).getD q 0) ≤ v := by
  have hl := dueSort_len r ch
  rw [← (sort_perm r ch).countP_eq]
  have hsplit := List.take_append_drop (q + 1) (dueSort r ch)
  constructor
  · intro h
    apply Decidable.byContradiction
    intro hn
    have e : (dueSort r ch).countP (fun x => decide (r x ≤ v)) = ((dueSort r ch).take q).countP (fun x => decide (r x ≤ v)) + ((dueSort r ch).drop q).countP (fun x => decide (r x ≤ v)) := by
      rw [← List.countP_append, List.take_append_drop]
    have h0 : ((dueSort r ch).drop q).countP (fun x => decide (r x ≤ v)) = 0 := by
      rw [List.countP_eq_zero]
      intro x hx
      refine el_E (List.mem_iff_getElem?.mp hx) fun i hi => ?_
      rw [List.getElem?_drop] at hi
      have hlt := (List.getElem?_eq_some_iff.mp hi).1
      have := sort_mono r (ch := ch) (q := q) (q' := q + i) (by (exact Nat.le_add_right _ _)) (by lia)
      have ex : (dueSort r ch).getD (q + i) 0 = x := by rw [List.getD_eq_getElem?_getD, hi]; rfl
      rw [ex] at this
      simp; lia
    have h1 : ((dueSort r ch).take q).countP (fun x => decide (r x ≤ v)) ≤ q := by
      refine Nat.le_trans List.countP_le_length ?_
      rw [List.length_take]; lia
    lia
  · intro h
    have e : (dueSort r ch).countP (fun x => decide (r x ≤ v)) = ((dueSort r ch).take (q + 1)).countP (fun x => decide (r x ≤ v)) + ((dueSort r ch).drop (q + 1)).countP (fun x => decide (r x ≤ v)) := by
      rw [← List.countP_append, List.take_append_drop]
    have h1 : ((dueSort r ch).take (q + 1)).countP (fun x => decide (r x ≤ v)) = q + 1 := by
      have : ((dueSort r ch).take (q + 1)).countP (fun x => decide (r x ≤ v)) = ((dueSort r ch).take (q + 1)).length := by
        rw [List.countP_eq_length]
        intro x hx
        refine el_E (List.mem_iff_getElem?.mp hx) fun i hi => ?_
        have hlt := (List.getElem?_eq_some_iff.mp hi).1
        rw [List.length_take] at hlt
        rw [List.getElem?_take_of_lt (by lia)] at hi
        have := sort_mono r (ch := ch) (q := i) (q' := q) (by lia) (by omega)
        have ex : (dueSort r ch).getD i 0 = x := by rw [List.getD_eq_getElem?_getD, hi]; rfl
        rw [ex] at this
        simp; lia
      rw [this, List.length_take]; lia
    lia

/-- Gale and Karp: what is ordered by d stays so under a pass -/
theorem gale_karp (back : Bool) {s d : Nat} (hs : 0 < s) {js : List Nat} (h : Srt r d js) : Srt r d (dueOf r back s js s).1 := by
  by_cases hd0 : d = 0
  · subst hd0; intro p hp; exact Int.le_refl _
  intro p hp
  have hl := due_len r back s js s
  rw [hl] at hp
  refine el_A (due_get r back js s (Nat.le_refl _)) fun hg _ => ?_
  have hm : ∀ x : Nat, x % s < s := fun x => Nat.mod_lt _ hs
  rw [hg p (by lia), hg (p + d) hp, if_pos (hm _), if_pos (hm _)]
  have e1 := place_mod s p
  have e2 := place_mod s (p + d)
  have m1 := hm p
  have m2 := hm (p + d)
  generalize p % s = a at *
  generalize (p + d) % s = b at *
  generalize hq : p / s = q at *
  generalize hq' : (p + d) / s = q' at *
  have hqq : q ≤ q' := by
    rw [← hq, ← hq']; exact Nat.div_le_div_right (by (exact Nat.le_add_right _ _))
  obtain ⟨δ, rfl⟩ : ∃ δ, q' = q + δ := ⟨q' - q, (Nat.add_sub_cancel' hqq).symm⟩
  have hqs : (q + δ) * s = q * s + δ * s := Nat.add_mul _ _ _
  clear hq hq' hqq m1 m2 hg hl
  have hc1 : q < (chainOf js a s).length := by rw [chainOf_len, cnt_iff hs]; lia
  have hc2 : (q + δ) < (chainOf js b s).length := by rw [chainOf_len, cnt_iff hs]; omega
  rw [← count_of_sorted r hc1]
  have hy := (count_of_sorted r hc2 (v := r ((dueSort r (chainOf js b s)).getD (q + δ) 0))).mpr (Int.le_refl _)
  generalize r ((dueSort r (chainOf js b s)).getD (q + δ) 0) = v at hy
  have hsplit : (chainOf js b s).countP (fun x => decide (r x ≤ v)) = ((chainOf js b s).take δ).countP (fun x => decide (r x ≤ v)) + ((chainOf js b s).drop δ).countP (fun x => decide (r x ≤ v)) := by
    rw [← List.countP_append, List.take_append_drop]
  have hfirst : ((chainOf js b s).take δ).countP (fun x => decide (r x ≤ v)) ≤ δ := by
    refine Nat.le_trans List.countP_le_length ?_
    rw [List.length_take]; lia
  have hpt : ((chainOf js b s).drop δ).countP (fun x => decide (r x ≤ v)) ≤ (chainOf js a s).countP (fun x => decide (r x ≤ v)) := by
    have pl : ∀ k, k < (chainOf js b s).length - δ → a + k * s + d = b + (δ + k) * s ∧ b + (δ + k) * s < js.length := by
      intro k hk
      rw [chainOf_len] at hk
      have hk' : δ + k < cnt b js.length s := by lia
      have hk2 := (cnt_iff hs).mp hk'
      refine ⟨?_, hk2⟩
      have e3 : (δ + k) * s = δ * s + k * s := Nat.add_mul _ _ _
      lia
    refine countP_pointwise _ _ _ ?_ ?_
    · rw [List.length_drop]
      by_cases hz : (chainOf js b s).length - δ = 0
      · lia
      · refine el_A (pl ((chainOf js b s).length - δ - 1) (by lia)) fun f1 f2 => ?_
        have : (chainOf js b s).length - δ - 1 < cnt a js.length s := (cnt_iff hs).mpr (by lia)
        rw [chainOf_len js a s]; lia
    · intro k hk hP
      rw [List.length_drop] at hk
      refine el_A (pl k hk) fun f1 f2 => ?_
      have hka : k < cnt a js.length s := (cnt_iff hs).mpr (by lia)
      have hkb : δ + k < cnt b js.length s := (cnt_iff hs).mpr f2
      have g1 : ((chainOf js b s).drop δ).getD k 0 = js.getD (b + (δ + k) * s) 0 := by
        rw [List.getD_eq_getElem?_getD, List.getElem?_drop, ← List.getD_eq_getElem?_getD, chain_getD hkb]
      rw [g1] at hP
      rw [chain_getD hka]
      have := h (a + k * s) (by lia)
      rw [f1] at this
      exact decide_eq_true (Int.le_trans this (of_decide_eq_true hP))
  lia

theorem near_of {s : Nat} (hs : 0 < s) {js : List Nat} (h2 : Srt r (2 * s) js) (h3 : Srt r (3 * s) js) (start : Nat) : Near (fun i => r ((chainOf js start s).getD i 0)) (chainOf js start s).length := by
  have base : ∀ i m, m = 2 ∨ m = 3 → i + m < (chainOf js start s).length → r ((chainOf js start s).getD i 0) ≤ r ((chainOf js start s).getD (i + m) 0) := by
    intro i m hm hlt
    rw [chainOf_len] at hlt
    have h' := (cnt_iff hs).mp hlt
    rw [chain_getD (show i < cnt start js.length s by lia), chain_getD hlt]
    have e : start + (i + m) * s = start + i * s + m * s := by rw [Nat.add_mul]; lia
    rw [e] at h' ⊢
    rcases hm with rfl | rfl
    · exact h2 _ h'
    · exact h3 _ h'
  intro i j hij hj
  dsimp only
  obtain ⟨d, rfl⟩ : ∃ d, j = i + d := ⟨j - i, by lia⟩
  have hd : 2 ≤ d := by lia
  clear hij
  induction d using Nat.strongRecOn generalizing i with
  | _ d ih =>
    by_cases h4 : d < 4
    · exact base i d (by lia) hj
    · have a1 := base i 2 (.inl rfl) (by lia)
      have a2 := ih (d - 2) (by lia) (i + 2) (by rw [show i + 2 + (d - 2) = i + d by lia]; exact hj) (by omega)
      rw [show i + 2 + (d - 2) = i + d by lia] at a2
      exact Int.le_trans a1 a2

theorem pass_due {c : Nat → Nat → Int} {N : Nat} (T : Tells c r N) (back : Bool) {s : Nat} (hs : 0 < s) {js : List Nat} (hjs : ∀ j ∈ js, j < N) (h2 : Srt r (2 * s) js) (h3 : Srt r (3 * s) js) : ∀ k, k ≤ s → passOf c back s js k = dueOf r back s js k := by
  intro k
  induction k with
  | zero => intro _; rfl
  | succ k ih =>
    intro hk
    have e1 : passOf c back s js (k + 1) = passStep c back s (passOf c back s js k) k := by
      unfold passOf; rw [List.range_succ, List.foldl_append, List.foldl_cons, List.foldl_nil]
    have e2 : dueOf r back s js (k + 1) = dueStep r back s (dueOf r back s js k) k := by
      unfold dueOf; rw [List.range_succ, List.foldl_append, List.foldl_cons, List.foldl_nil]
    rw [e1, e2, ih (by (exact Nat.le_of_lt (by assumption)))]
    have hch := (due_get r back (s := s) js k (by (exact Nat.le_of_lt (by assumption)))).2 (by assumption)
    unfold passStep dueStep
    rw [hch, chain_eq T (fun j hj => hjs j (chainOf_mem hs hj)) (near_of r hs h2 h3 k) back]
end
end Mine
end

section
open PySem PySem.W PyProof.Rows PySem.Calls
set_option Elab.async false
set_option linter.unusedVariables false
namespace Mine
set_option maxRecDepth 100000

/-! the order of the steps -/
noncomputable def StepsGood (N : Nat) (acc : List Nat) : Prop := ∀ i, i < acc.length → (0 < acc.getD i 0 ∧ acc.getD i 0 < 10) ∧ (2 * acc.getD i 0 < N → 2 * acc.getD i 0 ∈ acc.take i) ∧ (3 * acc.getD i 0 < N → 3 * acc.getD i 0 ∈ acc.take i)

theorem left0_mem {N x : Nat} : x ∈ left0 N ↔ (x = 1 ∨ x = 2 ∨ x = 3 ∨ x = 4 ∨ x = 6 ∨ x = 8 ∨ x = 9) ∧ x < N := by
  unfold left0
  rw [List.mem_filter]
  simp

theorem two_of {N x : Nat} (hN : N ≤ 10) (hx : x = 1 ∨ x = 2 ∨ x = 3 ∨ x = 4 ∨ x = 6 ∨ x = 8 ∨ x = 9) (h : 2 * x < N) : 2 * x = 1 ∨ 2 * x = 2 ∨ 2 * x = 3 ∨ 2 * x = 4 ∨ 2 * x = 6 ∨ 2 * x = 8 ∨ 2 * x = 9 := by
  have h' : 2 * x < 10 := Nat.lt_of_lt_of_le h hN
  clear h hN
  rcases hx with rfl | rfl | rfl | rfl | rfl | rfl | rfl <;> revert h' <;> decide
theorem three_of {N x : Nat} (hN : N ≤ 10) (hx : x = 1 ∨ x = 2 ∨ x = 3 ∨ x = 4 ∨ x = 6 ∨ x = 8 ∨ x = 9) (h : 3 * x < N) : 3 * x = 1 ∨ 3 * x = 2 ∨ 3 * x = 3 ∨ 3 * x = 4 ∨ 3 * x = 6 ∨ 3 * x = 8 ∨ 3 * x = 9 := by
  have h' : 3 * x < 10 := Nat.lt_of_lt_of_le h hN
  clear h hN
  rcases hx with rfl | rfl | rfl | rfl | rfl | rfl | rfl <;> revert h' <;> decide

theorem stepsGo_good {N : Nat} (hN : N ≤ 10) : ∀ (f : Nat) (js : List Nat) (told : Int) (acc : List Nat), js.length = f → (∀ x ∈ js, x ∈ left0 N) → (∀ x ∈ left0 N, x ∈ acc ∨ x ∈ js) → StepsGood N acc →
    StepsGood N (stepsGo f js told acc) ∧ (∀ x ∈ left0 N, x ∈ stepsGo f js told acc) ∧ (stepsGo f js told acc).length = acc.length + f
  | 0, js, told, acc, hf, hj, ha, hg => by
    have : js = [] := List.length_eq_zero_iff.mp hf
    subst this
    exact (in_AA hg (fun x hx => (ha x hx).resolve_right (fun h => nomatch h)) rfl)
  | f + 1, js, told, acc, hf, hj, ha, hg => by
    have hne : js ≠ [] := by rintro rfl; cases hf
    refine el_EAAA (pick_free hne (fun j hj' => by have := left0_mem.mp (hj j hj'); lia) told) fun k _ _ _ hm => ?_
    show StepsGood N (stepsGo f (js.erase (pickS js told)) (told.fdiv 2) (acc ++ [pickS js told])) ∧ _
    have hgo : stepsGo (f + 1) js told acc = stepsGo f (js.erase (pickS js told)) (told.fdiv 2) (acc ++ [pickS js told]) := rfl
    rw [hgo]
    generalize pickS js told = st at hm
    unfold freeS at hm
    rw [List.mem_filter] at hm
    refine el_A (hm) fun hmj hfree => ?_; try clear hm
    rw [Bool.and_eq_true, Bool.not_eq_true', Bool.not_eq_true', List.any_eq_false, List.any_eq_false] at hfree
    have n2 : 2 * st ∉ js := fun h => hfree.1 _ h (by simp)
    have n3 : 3 * st ∉ js := fun h => hfree.2 _ h (by simp)
    have hs := left0_mem.mp (hj st hmj)
    have hacc : StepsGood N (acc ++ [st]) := by
      intro i hi
      rw [List.length_append, List.length_singleton] at hi
      by_cases hlt : i < acc.length
      · have e1 : (acc ++ [st]).getD i 0 = acc.getD i 0 := by rw [List.getD_eq_getElem?_getD, List.getD_eq_getElem?_getD, List.getElem?_append_left hlt]
        have e2 : (acc ++ [st]).take i = acc.take i := List.take_append_of_le_length (by (exact Nat.le_of_lt (by assumption)))
        rw [e1, e2]
        exact hg i hlt
      · have : i = acc.length := by lia
        subst this
        have e1 : (acc ++ [st]).getD acc.length 0 = st := by simp
        have e2 : (acc ++ [st]).take acc.length = acc := by simp
        rw [e1, e2]
        refine (in_AA (by lia) (fun h => ?_) (fun h => ?_))
        · exact (ha _ (left0_mem.mpr ⟨two_of hN hs.1 h, h⟩)).resolve_right n2
        · exact (ha _ (left0_mem.mpr ⟨three_of hN hs.1 h, h⟩)).resolve_right n3
    have hel : (js.erase st).length = f := by rw [List.length_erase_of_mem hmj]; lia
    refine el_AA (stepsGo_good hN f (js.erase st) (told.fdiv 2) (acc ++ [st]) hel (fun x hx => hj x (List.mem_of_mem_erase hx)) (fun x hx => by
      by_cases hxs : x = st
      · exact .inl (by rw [hxs]; simp)
      · rcases ha x hx with h | h
        · exact .inl (by simp [h])
        · exact .inr ((List.mem_erase_of_ne hxs).mpr h)) hacc) fun a b c => ?_
    exact (in_AA a b (by rw [c, List.length_append, List.length_singleton]; lia))
theorem steps_good {N : Nat} (hN : N ≤ 10) (told : Int) : StepsGood N (stepsOf N told) ∧ (∀ x ∈ left0 N, x ∈ stepsOf N told) ∧ (stepsOf N told).length ≤ 7 := by
  refine el_AA (stepsGo_good hN (left0 N).length (left0 N) told [] rfl (fun x h => h) (fun x h => .inr h) (fun i hi => absurd hi (Nat.not_lt_zero _))) fun a b c => ?_
  refine (in_AA a b ?_)
  have : (left0 N).length ≤ 7 := List.length_filter_le _ _
  unfold stepsOf
  rw [c, List.length_nil]; lia

/-! the ranks -/
theorem lexlt_irrefl : ∀ (a : List Int), lexlt a a = false
  | [] => rfl
  | x :: a => by unfold lexlt; rw [if_pos rfl]; exact lexlt_irrefl a
theorem lexlt_trans : ∀ {a b c : List Int}, lexlt a b = true → lexlt b c = true → lexlt a c = true
  | [], [], _, h, _ => by cases h
  | [], _ :: _, [], _, h => by cases h
  | [], _ :: _, _ :: _, _, _ => rfl
  | _ :: _, [], _, h, _ => by cases h
  | _ :: _, _ :: _, [], _, h => by cases h
  | x :: a, y :: b, z :: c, h1, h2 => by
    unfold lexlt at h1 h2 ⊢
    by_cases e1 : x = y
    · rw [if_pos e1] at h1
      by_cases e2 : y = z
      · rw [if_pos e2] at h2
        rw [if_pos (e1.trans e2)]
        exact lexlt_trans h1 h2
      · rw [if_neg e2] at h2
        rw [if_neg (by lia)]
        have := of_decide_eq_true h2
        exact decide_eq_true (by lia)
    · rw [if_neg e1] at h1
      have := of_decide_eq_true h1
      by_cases e2 : y = z
      · rw [if_neg (by lia)]; exact decide_eq_true (by lia)
      · rw [if_neg e2] at h2
        have := of_decide_eq_true h2
        rw [if_neg (by lia)]; exact decide_eq_true (by lia)
theorem lexlt_total : ∀ {a b : List Int}, a.length = b.length → lexlt a b = false → lexlt b a = false → a = b
  | [], [], _, _, _ => rfl
  | [], _ :: _, h, _, _ => by cases h
  | _ :: _, [], h, _, _ => by cases h
  | x :: a, y :: b, h, h1, h2 => by
    unfold lexlt at h1 h2
    by_cases e1 : x = y
    · subst e1
      rw [if_pos rfl] at h1 h2
      rw [lexlt_total (Nat.succ.inj h) h1 h2]
    · rw [if_neg e1] at h1
      rw [if_neg (Ne.symm e1)] at h2
      have := of_decide_eq_false h1
      have := of_decide_eq_false h2
      lia

theorem lex_eq {x y : Int} {xs ys : List Int} (h : x = y) : lexlt (x :: xs) (y :: ys) = lexlt xs ys := by subst h; exact if_pos rfl
theorem lex_lt {x y : Int} {xs ys : List Int} (h : x < y) : lexlt (x :: xs) (y :: ys) = true := (if_neg (by lia)).trans (decide_eq_true h)
theorem lex_gt {x y : Int} {xs ys : List Int} (h : y < x) : lexlt (x :: xs) (y :: ys) = false := (if_neg (by lia)).trans (decide_eq_false (by lia))

theorem rlt_plain {c : Int} {l r : Row} (hc : c = 0 ∨ c = 1 ∨ c = 2) (hl : l.x ∈ txts) (hr : r.x ∈ txts) : rlt c l r = decide (plainI l c < plainI r c) := by
  rcases hc with rfl | rfl | rfl
  · rfl
  · unfold rlt plainI
    rw [if_neg (by decide), if_pos rfl, if_neg (by decide), if_pos rfl, if_neg (by decide), if_pos rfl]
    have key : ∀ a ∈ txts, ∀ b ∈ txts, decide (a.cps.toList < b.cps.toList) = decide (((txts.idxOf a : Nat) : Int) < ((txts.idxOf b : Nat) : Int)) := by decide
    exact key _ hl _ hr
  · rfl

theorem cmp_lex : ∀ (K : List (Int × Int)) {l r : Row}, (∀ p ∈ K, (p.1 = 0 ∨ p.1 = 1 ∨ p.1 = 2) ∧ (p.2 = 1 ∨ p.2 = -1)) → l.x ∈ txts → r.x ∈ txts →
    cmpK K l r = if lexlt (wt K l) (wt K r) then -1 else if lexlt (wt K r) (wt K l) then 1 else 0
  | [], l, r, _, _, _ => rfl
  | (c, d) :: K, l, r, hK, hl, hr => by
    have ih := cmp_lex K (fun p hp => hK p (.tail _ hp)) hl hr
    refine el_A (hK (c, d) (.head _)) fun hc hd => ?_
    replace hc : c = 0 ∨ c = 1 ∨ c = 2 := hc
    replace hd : d = 1 ∨ d = -1 := hd
    have e1 : wt ((c, d) :: K) l = (d * plainI l c) :: wt K l := rfl
    have e2 : wt ((c, d) :: K) r = (d * plainI r c) :: wt K r := rfl
    rw [e1, e2]
    unfold cmpK
    rw [rlt_plain hc hl hr, rlt_plain hc hr hl, ih]
    generalize plainI l c = a
    generalize plainI r c = b
    by_cases hab : a = b
    · subst hab
      have f : decide (a < a) = false := decide_eq_false (by lia)
      rw [f, if_neg Bool.false_ne_true, if_neg Bool.false_ne_true, lex_eq rfl, lex_eq rfl]
    · by_cases hlt : a < b
      · have f1 : decide (a < b) = true := decide_eq_true hlt
        rw [f1, if_pos rfl]
        rcases hd with rfl | rfl
        · rw [lex_lt (by lia), if_pos rfl]
        · rw [lex_gt (by lia), lex_lt (by lia), if_neg Bool.false_ne_true, if_pos rfl]; rfl
      · have hgt : b < a := by lia
        have f1 : decide (a < b) = false := decide_eq_false hlt
        have f2 : decide (b < a) = true := decide_eq_true hgt
        rw [f1, f2, if_neg Bool.false_ne_true, if_pos rfl]
        rcases hd with rfl | rfl
        · rw [lex_gt (by lia), lex_lt (by lia), if_neg Bool.false_ne_true, if_pos rfl]
        · rw [lex_lt (by lia), if_pos rfl]

theorem filter_lt {α : Type} {p q : α → Bool} : ∀ {l : List α} {a : α}, (∀ x ∈ l, p x = true → q x = true) → a ∈ l → q a = true → p a = false → (l.filter p).length < (l.filter q).length := by
  intro l
  induction l with
  | nil => intro a _ h; cases h
  | cons x l ih =>
    intro a hpq ha hq hp
    have mono : ∀ (l : List α), (∀ x ∈ l, p x = true → q x = true) → (l.filter p).length ≤ (l.filter q).length := by
      intro l
      induction l with
      | nil => intro _; exact Nat.le_refl _
      | cons y l ih2 =>
        intro h
        have i2 := ih2 (fun x hx => h x (.tail _ hx))
        have h0 := h y (.head _)
        rw [List.filter_cons, List.filter_cons]
        by_cases hy : p y = true
        · rw [if_pos hy, if_pos (h0 hy)]; simp; exact i2
        · rw [if_neg hy]; split
          · simp; lia
          · exact i2
    have m := mono l (fun x hx => hpq x (.tail _ hx))
    rw [List.filter_cons, List.filter_cons]
    rcases List.mem_cons.mp ha with rfl | ha
    · rw [hp, hq, if_neg Bool.false_ne_true, if_pos rfl, List.length_cons]; lia
    · have i1 := ih (fun x hx => hpq x (.tail _ hx)) ha hq hp
      have h0 := hpq x (.head _)
      by_cases hx : p x = true
      · rw [if_pos hx, if_pos (h0 hx), List.length_cons, List.length_cons]; lia
      · rw [if_neg hx]; split
        · rw [List.length_cons]; lia
        · exact i1

theorem rank_lt {K : List (Int × Int)} {R : Nat → Row} {N a b : Nat} (ha : a < N) (hb : b < N) : rankOf K R N a < rankOf K R N b ↔ lexlt (wt K (R a)) (wt K (R b)) = true := by
  have up : ∀ {a b : Nat}, a < N → lexlt (wt K (R a)) (wt K (R b)) = true → rankOf K R N a < rankOf K R N b := by
    intro a b ha h
    unfold rankOf
    exact filter_lt (a := a) (fun x _ hx => lexlt_trans hx h) (List.mem_range.mpr ha) h (lexlt_irrefl _)
  refine ⟨fun h => ?_, up ha⟩
  cases h1 : lexlt (wt K (R a)) (wt K (R b)) with
  | true => rfl
  | false =>
    cases h2 : lexlt (wt K (R b)) (wt K (R a)) with
    | true => have := up hb h2; lia
    | false =>
      have e := lexlt_total (by unfold wt; simp) h1 h2
      unfold rankOf at h
      rw [e] at h
      exact absurd h (Nat.lt_irrefl _)
theorem rank_get {K : List (Int × Int)} {R : Nat → Row} {N a : Nat} (ha : a < N) : (ranksOf K R N).getD a 0 = rankOf K R N a := by
  unfold ranksOf
  rw [List.getD_eq_getElem?_getD, List.getElem?_map, List.getElem?_range ha]; rfl

theorem tells_ranks {K : List (Int × Int)} {R : Nat → Row} {N : Nat} (hK : ∀ p ∈ K, (p.1 = 0 ∨ p.1 = 1 ∨ p.1 = 2) ∧ (p.2 = 1 ∨ p.2 = -1)) (hx : ∀ j, (R j).x ∈ txts) :
    Tells (fun i j => cmpK K (R i) (R j)) (fun j => (((ranksOf K R N).getD j 0 : Nat) : Int)) N := by
  intro a b ha hb
  dsimp only
  rw [cmp_lex K hK (hx a) (hx b)]
  simp only [rank_get ha, rank_get hb]
  have h1 := rank_lt (K := K) (R := R) ha hb
  have h2 := rank_lt (K := K) (R := R) hb ha
  by_cases c1 : lexlt (wt K (R a)) (wt K (R b)) = true
  · have p1 : ((rankOf K R N a : Nat) : Int) < ((rankOf K R N b : Nat) : Int) := by have := h1.mpr c1; (exact Int.ofNat_lt.mpr (by assumption))
    rw [if_pos c1, if_pos p1]
  · have n1 : ¬ ((rankOf K R N a : Nat) : Int) < ((rankOf K R N b : Nat) : Int) := fun q => c1 (h1.mp (by omega))
    rw [if_neg c1, if_neg n1]
    by_cases c2 : lexlt (wt K (R b)) (wt K (R a)) = true
    · have p2 : ((rankOf K R N b : Nat) : Int) < ((rankOf K R N a : Nat) : Int) := by have := h2.mpr c2; (exact Int.ofNat_lt.mpr (by assumption))
      rw [if_pos c2, if_pos p2]
    · have n2 : ¬ ((rankOf K R N b : Nat) : Int) < ((rankOf K R N a : Nat) : Int) := fun q => c2 (h2.mp (by omega))
      rw [if_neg c2, if_neg n2]
end Mine
end

section
open PySem PySem.W PyProof.Rows PySem.Calls
set_option Elab.async false
set_option linter.unusedVariables false
namespace Mine
set_option maxRecDepth 100000

theorem bisR_part (f : Nat → Int) (x : Int) (n : Nat) (hm : ∀ i j, i ≤ j → j < n → x < f i → x < f j) (lo hi : Nat) (q : List Nat) (hlo : lo ≤ hi) (hhi : hi ≤ n) (h1 : ∀ k, k < lo → ¬ x < f k) (h2 : ∀ k, hi ≤ k → k < n → x < f k) :
    (bisR f x lo hi q).1 ≤ n ∧ (∀ k, k < (bisR f x lo hi q).1 → ¬ x < f k) ∧ (∀ k, (bisR f x lo hi q).1 ≤ k → k < n → x < f k) := by
  fun_induction bisR f x lo hi q with
  | case1 lo hi q hlt hc ih => exact ih (by lia) (by lia) h1 (fun k hk hkn => hm ((lo + hi) / 2) k hk hkn hc)
  | case2 lo hi q hlt hc ih => exact ih (by lia) hhi (fun k hk hx => hc (hm k ((lo + hi) / 2) (by lia) (by lia) hx)) h2
  | case3 lo hi q hlt => exact (in_AA (by show lo ≤ n; (exact Nat.le_trans (by assumption) (by assumption))) h1 (fun k hk hkn => h2 k (by have : lo ≤ k := hk; lia) hkn))
theorem bisL_part (f : Nat → Int) (x : Int) (n : Nat) (hm : ∀ i j, i ≤ j → j < n → f j < x → f i < x) (lo hi : Nat) (q : List Nat) (hlo : lo ≤ hi) (hhi : hi ≤ n) (h1 : ∀ k, k < lo → f k < x) (h2 : ∀ k, hi ≤ k → k < n → ¬ f k < x) :
    (bisL f x lo hi q).1 ≤ n ∧ (∀ k, k < (bisL f x lo hi q).1 → f k < x) ∧ (∀ k, (bisL f x lo hi q).1 ≤ k → k < n → ¬ f k < x) := by
  fun_induction bisL f x lo hi q with
  | case1 lo hi q hlt hc ih => exact ih (by lia) hhi (fun k hk => hm k ((lo + hi) / 2) (by lia) (by lia) hc) h2
  | case2 lo hi q hlt hc ih => exact ih (by lia) (by lia) h1 (fun k hk hkn hx => hc (hm ((lo + hi) / 2) k hk hkn hx))
  | case3 lo hi q hlt => exact (in_AA (by show lo ≤ n; (exact Nat.le_trans (by assumption) (by assumption))) h1 (fun k hk hkn => h2 k (by have : lo ≤ k := hk; lia) hkn))

section
variable {c : Nat → Nat → Int} {r : Nat → Int} {N : Nat}

theorem getD_snoc (js : List Nat) (x i : Nat) (h : i < js.length) : (js ++ [x]).getD i 0 = js.getD i 0 := by
  rw [List.getD_eq_getElem?_getD, List.getD_eq_getElem?_getD, List.getElem?_append_left h]
theorem getD_mem {js : List Nat} {i : Nat} (h : i < js.length) : js.getD i 0 ∈ js := by
  rw [List.getD_eq_getElem?_getD, List.getElem?_eq_getElem h]; exact List.getElem_mem _
theorem pw_getD {P : List Nat} (pw : P.Pairwise (lx r)) {i j : Nat} (hij : i ≤ j) (hj : j < P.length) : r (P.getD i 0) ≤ r (P.getD j 0) := by
  by_cases h : i = j
  · subst h; exact Int.le_refl _
  · have := lx_le (List.pairwise_iff_getElem.mp pw i j (by (exact Nat.lt_of_le_of_lt (by assumption) (by assumption))) hj (by lia))
    rw [List.getD_eq_getElem?_getD, List.getD_eq_getElem?_getD, List.getElem?_eq_getElem (by (exact Nat.lt_of_le_of_lt (by assumption) (by assumption))), List.getElem?_eq_getElem hj]
    exact this
theorem mem_take {P : List Nat} {t q : Nat} (h : q ∈ P.take t) : ∃ k, k < t ∧ k < P.length ∧ P.getD k 0 = q := by
  refine el_E (List.mem_iff_getElem?.mp h) fun k hk => ?_
  have hlt := (List.getElem?_eq_some_iff.mp hk).1
  rw [List.length_take] at hlt
  rw [List.getElem?_take_of_lt (by lia)] at hk
  exact (in_EAA k (by lia) (by lia) (by rw [List.getD_eq_getElem?_getD, hk]; rfl))
theorem mem_drop {P : List Nat} {t q : Nat} (h : q ∈ P.drop t) : ∃ k, t ≤ k ∧ k < P.length ∧ P.getD k 0 = q := by
  refine el_E (List.mem_iff_getElem?.mp h) fun k hk => ?_
  rw [List.getElem?_drop] at hk
  have hlt := (List.getElem?_eq_some_iff.mp hk).1
  exact (in_EAA (t + k) (by (exact Nat.le_add_right _ _)) hlt (by rw [List.getD_eq_getElem?_getD, hk]; rfl))
theorem ins_perm (P : List Nat) (t x : Nat) : (P.take t ++ x :: P.drop t).Perm (x :: P) := by
  have := List.perm_middle (a := x) (l₁ := P.take t) (l₂ := P.drop t)
  rw [List.take_append_drop] at this
  exact this
theorem ins_pw {P : List Nat} {t x : Nat} (pw : P.Pairwise (lx r)) (h1 : ∀ q ∈ P.take t, lx r q x) (h2 : ∀ q ∈ P.drop t, lx r x q) : (P.take t ++ x :: P.drop t).Pairwise (lx r) := by
  have e := List.take_append_drop t P
  have pw' := pw
  rw [← e, List.pairwise_append] at pw'
  refine el_AA (pw') fun a b d => ?_; try clear pw'
  rw [List.pairwise_append, List.pairwise_cons]
  refine (in_AA a (⟨h2, b⟩) (fun q hq z hz => ?_))
  rcases List.mem_cons.mp hz with hq0 | hz
  · subst z; exact h1 q hq
  · exact d q hq z hz

theorem right_all (T : Tells c r N) : ∀ i, i ≤ N → ((List.range i).foldl (insRi c) []).Perm (List.range i) ∧ ((List.range i).foldl (insRi c) []).Pairwise (lx r) := by
  intro i
  induction i with
  | zero => intro _; exact ⟨.refl _, .nil⟩
  | succ i ih =>
    intro hi
    refine el_A (ih (by (exact Nat.le_of_lt (by assumption)))) fun pm pw => ?_
    rw [List.range_succ, List.foldl_append, List.foldl_cons, List.foldl_nil]
    generalize (List.range i).foldl (insRi c) [] = P at pm pw
    have hmem : ∀ q ∈ P, q < i := fun q hq => List.mem_range.mp (pm.mem_iff.mp hq)
    have hx : i < N := by assumption
    have e0 : (P ++ [i]).getD P.length 0 = i := by simp
    unfold insRi
    rw [e0, T.self hx]
    have hf : ∀ k, k < P.length → (0 < c ((P ++ [i]).getD k 0) i ↔ r i < r (P.getD k 0)) := fun k hk => by
      rw [getD_snoc _ _ _ hk]
      exact T.pos (by have := hmem _ (getD_mem hk); lia) hx
    refine el_AA (bisR_part (fun k => c ((P ++ [i]).getD k 0) i) 0 P.length (fun k j hkj hj hk => by
      have h1 := (hf k (by (exact Nat.lt_of_le_of_lt (by assumption) (by assumption)))).mp hk
      exact (hf j hj).mpr (Int.lt_of_lt_of_le h1 (pw_getD pw hkj hj))) 0 P.length [P.length] (Nat.zero_le _) (Nat.le_refl _) (fun k hk => absurd hk (Nat.not_lt_zero _)) (fun k h1 h2 => absurd h2 (by (exact Nat.not_lt.mpr (by assumption))))) fun a1 a2 a3 => ?_
    generalize (bisR (fun k => c ((P ++ [i]).getD k 0) i) 0 0 P.length [P.length]).1 = t at a1 a2 a3
    refine ⟨(ins_perm P t i).trans ?_, ins_pw pw (fun q hq => ?_) (fun q hq => ?_)⟩
    · exact (List.perm_append_singleton i P).symm.trans (pm.append_right _)
    · refine el_EAA (mem_take hq) fun k hk hkl hR1 => ?_; subst hR1
      have h1 := a2 k hk
      have h2 := hmem _ (getD_mem hkl)
      have h3 : ¬ r i < r (P.getD k 0) := fun q => h1 ((hf k hkl).mpr q)
      unfold lx; lia
    · refine el_EAA (mem_drop hq) fun k hk hkl hR2 => ?_; subst hR2
      exact .inl ((hf k hkl).mp (a3 k hk hkl))

theorem left_all (T : Tells c r N) : ∀ i, i ≤ N → (((List.range N).reverse.take i).foldl (insLi c) []).Perm ((List.range N).drop (N - i)) ∧ (((List.range N).reverse.take i).foldl (insLi c) []).Pairwise (lx r) := by
  intro i
  induction i with
  | zero => intro _; exact ⟨by rw [Nat.sub_zero, List.drop_eq_nil_of_le (by simp)]; exact .refl _, .nil⟩
  | succ i ih =>
    intro hi
    refine el_A (ih (by (exact Nat.le_of_lt (by assumption)))) fun pm pw => ?_
    have hx : N - (i + 1) < N := by omega
    have ek : N - i = N - (i + 1) + 1 := by lia
    rw [ek] at pm
    have er : (List.range N).reverse[i]? = some (N - (i + 1)) := by
      rw [List.getElem?_reverse (by simp; assumption), List.length_range, List.getElem?_range (by lia)]
      congr 1; lia
    rw [List.take_add_one, er, List.foldl_append]
    show (insLi c _ (N - (i + 1))).Perm _ ∧ (insLi c _ (N - (i + 1))).Pairwise _
    generalize N - (i + 1) = x at *
    generalize ((List.range N).reverse.take i).foldl (insLi c) [] = P at pm pw
    have hmem : ∀ q ∈ P, x + 1 ≤ q ∧ q < N := fun q hq => mem_dropR.mp (pm.mem_iff.mp hq)
    have e0 : (P ++ [x]).getD P.length 0 = x := by simp
    unfold insLi
    rw [e0, T.self hx]
    have hf : ∀ k, k < P.length → (c ((P ++ [x]).getD k 0) x < 0 ↔ r (P.getD k 0) < r x) := fun k hk => by
      rw [getD_snoc _ _ _ hk]
      exact T.neg (hmem _ (getD_mem hk)).2 hx
    refine el_AA (bisL_part (fun k => c ((P ++ [x]).getD k 0) x) 0 P.length (fun k j hkj hj hk => by
      have h1 := (hf j hj).mp hk
      exact (hf k (by (exact Nat.lt_of_le_of_lt (by assumption) (by assumption)))).mpr (Int.lt_of_le_of_lt (pw_getD pw hkj hj) h1)) 0 P.length [P.length] (Nat.zero_le _) (Nat.le_refl _) (fun k hk => absurd hk (Nat.not_lt_zero _)) (fun k h1 h2 => absurd h2 (by (exact Nat.not_lt.mpr (by assumption))))) fun a1 a2 a3 => ?_
    generalize (bisL (fun k => c ((P ++ [x]).getD k 0) x) 0 0 P.length [P.length]).1 = t at a1 a2 a3
    refine ⟨(ins_perm P t x).trans ?_, ins_pw pw (fun q hq => ?_) (fun q hq => ?_)⟩
    · rw [dropR_cons hx]
      exact pm.cons x
    · refine el_EAA (mem_take hq) fun k hk hkl hR3 => ?_; subst hR3
      exact .inl ((hf k hkl).mp (a2 k hk))
    · refine el_EAA (mem_drop hq) fun k hk hkl hR4 => ?_; subst hR4
      have h1 := a3 k hk hkl
      have h2 := (hmem _ (getD_mem hkl)).1
      have h3 : ¬ r (P.getD k 0) < r x := fun q => h1 ((hf k hkl).mpr q)
      unfold lx; lia

theorem both_law (T : Tells c r N) : (List.range N).foldl (insRi c) [] = ordI r N ∧ (List.range N).reverse.foldl (insLi c) [] = ordI r N := by
  refine el_A (right_all T N (Nat.le_refl _)) fun a b => ?_
  refine el_A (left_all T N (Nat.le_refl _)) fun d e => ?_
  rw [List.take_of_length_le (by simp)] at d e
  rw [Nat.sub_self, List.drop_zero] at d
  exact ⟨ord_unique a b, ord_unique d e⟩
end

section
variable (r : Nat → Int)
theorem due_mem (back : Bool) {s : Nat} (hs : 0 < s) {js : List Nat} {j : Nat} (h : j ∈ (dueOf r back s js s).1) : j ∈ js := by
  refine el_E (List.mem_iff_getElem?.mp h) fun p hp => ?_
  have hlt := (List.getElem?_eq_some_iff.mp hp).1
  rw [due_len] at hlt
  have := (due_get r back js s (Nat.le_refl _)).1 p hlt
  rw [if_pos (Nat.mod_lt _ hs), List.getD_eq_getElem?_getD, hp] at this
  replace this : j = (dueSort r (chainOf js (p % s) s)).getD (p / s) 0 := this
  rw [this]
  refine chainOf_mem hs (dueSort_mem (getD_mem ?_))
  rw [dueSort_len, chainOf_len, cnt_iff hs, place_mod]
  exact hlt

theorem scan_ok {N : Nat} (back : Bool) : ∀ (ch : List Nat) (st : Option Nat × List (Nat × Nat)), (∀ j ∈ ch, j < N) → (∀ y, st.1 = some y → y < N) → (∀ p ∈ st.2, p.1 < N ∧ p.2 < N) → ∀ p ∈ (ch.foldl (dueOne r back) st).2, p.1 < N ∧ p.2 < N
  | [], st, _, _, h => h
  | x :: ch, st, hc, hb, h => by
    rw [List.foldl_cons]
    have hx := hc x (.head _)
    refine scan_ok back ch _ (fun j hj => hc j (.tail _ hj)) (fun y hy => ?_) ?_
    · rcases (dueOne_facts r back st x).2 y hy with hq0 | hy
      · subst y; exact hx
      · exact hb y hy
    · obtain ⟨b, a⟩ := st
      cases b with
      | none =>
        show ∀ p ∈ a ++ [(x, x)], _
        intro p hp
        rcases List.mem_append.mp hp with hp | hp
        · exact h p hp
        · rw [List.mem_singleton.mp hp]; exact ⟨hx, hx⟩
      | some y =>
        have hy := hb y rfl
        show ∀ p ∈ a ++ [(x, x)] ++ [(y, x)], _
        intro p hp
        rcases List.mem_append.mp hp with hp | hp
        · rcases List.mem_append.mp hp with hp | hp
          · exact h p hp
          · rw [List.mem_singleton.mp hp]; exact ⟨hx, hx⟩
        · rw [List.mem_singleton.mp hp]; exact ⟨hy, hx⟩

theorem due_asks {N : Nat} (back : Bool) {s : Nat} (hs : 0 < s) (hs20 : s ≤ 20) {js : List Nat} (hl : js.length ≤ 20) (hj : ∀ j ∈ js, j < N) : ∀ k, k ≤ s → (∀ p ∈ (dueOf r back s js k).2, p.1 < N ∧ p.2 < N) ∧ (dueOf r back s js k).2.length ≤ 40 * k := by
  intro k
  induction k with
  | zero => intro _; exact ⟨fun p hp => (nomatch hp), Nat.le_refl _⟩
  | succ k ih =>
    intro hk
    refine el_A (ih (by (exact Nat.le_of_lt (by assumption)))) fun a b => ?_
    have e2 : dueOf r back s js (k + 1) = dueStep r back s (dueOf r back s js k) k := by
      unfold dueOf; rw [List.range_succ, List.foldl_append, List.foldl_cons, List.foldl_nil]
    have hch := (due_get r back (s := s) js k (by (exact Nat.le_of_lt (by assumption)))).2 (by assumption)
    rw [e2]
    unfold dueStep
    rw [hch]
    dsimp only
    have hcm : ∀ j ∈ chainOf js k s, j < N := fun j h => hj j (chainOf_mem hs h)
    have hcl : (chainOf js k s).length ≤ 20 := by rw [chainOf_len]; have := cnt_le (start := k) (n := js.length) hs; (exact Nat.le_trans (by assumption) (by assumption))
    unfold dueScan
    have hcm' : ∀ j ∈ (if back then (chainOf js k s).reverse else chainOf js k s), j < N := by
      cases back with
      | true => intro j h; rw [if_pos rfl] at h; exact hcm j (List.mem_reverse.mp h)
      | false => intro j h; rw [if_neg Bool.false_ne_true] at h; exact hcm j h
    have hcl' : (if back then (chainOf js k s).reverse else chainOf js k s).length ≤ 20 := by
      cases back with
      | true => rw [if_pos rfl, List.length_reverse]; exact hcl
      | false => rw [if_neg Bool.false_ne_true]; exact hcl
    generalize (if back then (chainOf js k s).reverse else chainOf js k s) = ch at hcm' hcl'
    refine ⟨scan_ok r back ch _ hcm' (fun y h => nomatch h) a, ?_⟩
    have := (scan_facts r back ch (none, (dueOf r back s js k).2)).1
    dsimp only at this
    lia
end

/-- what holds of the line between the steps -/
noncomputable def InvAt (r : Nat → Int) (N : Nat) (sts : List Nat) (i : Nat) (js : List Nat) : Prop := js.length = N ∧ (∀ j ∈ js, j < N) ∧ ∀ d ∈ sts.take i, Srt r d js

theorem pure_law (xs : List Int) (told : Int) (h5 : 5 ≤ xs.length) (h10 : xs.length ≤ 10) : ∃ Inv, Pure xs.length (fun i j => cmpK (keysOf told) (rowOf xs i) (rowOf xs j)) (ranksOf (keysOf told) (rowOf xs) xs.length) (stepsOf xs.length (told.fdiv 5)) Inv := by
  refine el_A (keysOf_ok told) fun hK _ => ?_
  have T := tells_ranks (N := xs.length) hK (rowOf_txt xs)
  have hrl := ranksOf_len (keysOf told) (rowOf xs) xs.length
  refine el_AA (steps_good h10 (told.fdiv 5)) fun sg sa sl => ?_
  generalize (fun i j => cmpK (keysOf told) (rowOf xs i) (rowOf xs j)) = c at T
  generalize ranksOf (keysOf told) (rowOf xs) xs.length = rks at T hrl
  generalize stepsOf xs.length (told.fdiv 5) = sts at sg sa sl
  generalize hN : xs.length = N at *
  clear hN
  generalize hr : (fun j => (((rks.getD j 0 : Nat) : Int))) = r at T
  refine ⟨InvAt r N sts, ⟨sl, hrl, ⟨by simp, fun j hj => List.mem_range.mp hj, fun d hd => nomatch hd⟩, fun i js h => ⟨h.1, h.2.1⟩, ?_, ?_, ?_⟩⟩
  · intro i js hi hQ1; refine el_AA (hQ1) fun jl jm js' => ?_; try clear hQ1
    refine el_AA (sg i hi) fun hN1 g3 g4 => ?_; refine el_A (hN1) fun g1 g2 => ?_; try clear hN1
    have htk : sts.take (i + 1) = sts.take i ++ [sts.getD i 0] := by
      rw [List.take_add_one, List.getD_eq_getElem?_getD, List.getElem?_eq_getElem hi]; rfl
    generalize sts.getD i 0 = s at g1 g2 g3 g4 htk
    have s2 : Srt r (2 * s) js := by
      by_cases h : 2 * s < N
      · exact js' _ (g3 h)
      · intro p hp; lia
    have s3 : Srt r (3 * s) js := by
      by_cases h : 3 * s < N
      · exact js' _ (g4 h)
      · intro p hp; lia
    refine (in_AAAA g1 (by (exact Nat.le_of_lt (Nat.lt_of_lt_of_le (by assumption) (by decide)))) jl jm (fun back => ?_))
    rw [hr]
    refine el_A (due_asks r back g1 (by (exact Nat.le_of_lt (Nat.lt_of_lt_of_le (by assumption) (by decide)))) (by lia) jm s (Nat.le_refl _)) fun k1 k2 => ?_
    refine (in_AAA (pass_due r T back g1 jm s2 s3 s (Nat.le_refl _)) (⟨by rw [due_len]; exact jl, fun j hj => jm j (due_mem r back g1 hj), fun d hd => ?_⟩) k1 (by lia))
    rw [htk] at hd
    rcases List.mem_append.mp hd with hd | hd
    · exact gale_karp r back g1 (js' d hd)
    · rw [List.mem_singleton.mp hd]; exact pass_srt r back g1 js
  · intro js hQ2; refine el_AA (hQ2) fun jl jm js' => ?_; try clear hQ2
    refine (in_AA jl jm (fun i hi => ?_))
    rw [List.take_length] at js'
    have h1 := js' 1 (sa 1 (left0_mem.mpr ⟨.inl rfl, by lia⟩)) i (by lia)
    have ha := jm _ (getD_mem (js := js) (i := i) (by lia))
    have hb := jm _ (getD_mem (js := js) (i := i + 1) (by lia))
    generalize js.getD i 0 = a at *
    generalize js.getD (i + 1) 0 = b at *
    rw [T a b ha hb, T b a hb ha]
    rw [← hr] at h1 ⊢
    dsimp only at h1 ⊢
    by_cases huv : rks.getD a 0 < rks.getD b 0
    · have p1 : ((rks.getD a 0 : Nat) : Int) < ((rks.getD b 0 : Nat) : Int) := by (exact Int.ofNat_lt.mpr (by assumption))
      have n1 : ¬ ((rks.getD b 0 : Nat) : Int) < ((rks.getD a 0 : Nat) : Int) := by lia
      rw [if_pos huv, if_pos p1, if_neg n1, if_pos p1]
      exact ⟨rfl, rfl⟩
    · have n1 : ¬ ((rks.getD a 0 : Nat) : Int) < ((rks.getD b 0 : Nat) : Int) := by lia
      have n2 : ¬ ((rks.getD b 0 : Nat) : Int) < ((rks.getD a 0 : Nat) : Int) := by lia
      rw [if_neg huv, if_neg n1, if_neg n2, if_neg n2, if_neg n1]
      exact ⟨rfl, rfl⟩
  · rw [hr]; exact both_law T
end Mine
end

open PySem PySem.W PyProof.Rows PySem.Calls
set_option Elab.async false
set_option linter.unusedVariables false
namespace Mine
set_option maxRecDepth 100000

theorem tabsOk_start {h : Heap} (hT : ∀ P ∈ TT, h.get? P = some (tabObj #[])) : TabsOk h := fun p hp => by
  have hm : p.1 ∈ TT := by
    have : ∀ p ∈ TQ, p.1 ∈ TT := by decide
    exact this _ hp
  refine ⟨#[], hT _ hm, by unfold TriplesOk; trivial, fun pos cv e => ?_⟩
  cases e

theorem bs_start {w : World} {mg mb : Str → Option Value} {h : Heap} {p : Program} {loose : List Str} {mean : ExcName → Option Value} (K : (hd.heap_39 w.params).In h) (T : Top p loose mean mg mb h) (hT : TabsAt [(130, 128), (125, 123), (113, 109), (135, 133)] h) :
    Bs w mg mb (ghostOf h [(130, 128), (125, 123), (113, 109), (135, 133)]) where
  K := ghost_K hT K (by kernel_rfl)
  ng := ghost_ns hT T.g
  nb := ghost_ns hT T.b
  nolimit := (ghost_top hT T).nolimit
  bi := T.builtins
  bm := (ghost_top hT T).bmain
  noT := fun P hP => by
    simp only [TT, List.mem_cons, List.not_mem_nil, or_false] at hP
    rcases hP with rfl | rfl | rfl | rfl <;> exact hideAll_none _ (by decide)
  heads := fun p hp => by
    obtain ⟨a, b, c, d, _⟩ := ghost_code hT
    simp only [List.mem_cons, List.not_mem_nil, or_false] at hp
    rcases hp with rfl | rfl | rfl | rfl
    · exact a
    · exact b
    · exact c
    · exact d
theorem ok_start : Ok callerA 18 := ⟨rfl, by decide, by decide⟩
end Mine

set_option maxHeartbeats 2000000 in
set_option maxRecDepth 100000 in
theorem PySem.Challenge.cw_ph0082_01_holds : PySem.Challenge.rw_ph0082_01.Holds := by
  refine Mine.hd ?_
  k_fill
  intro w s₀ s₁ mg mb G Y fa o pm cd doc dV kV ho hd' hcd hD hmg hg args vals as hpre hlay hrd hwl hlo
  have KX := km_in_of Y
  km_tabs Y
  have X := (Ground.X G).1
  have V := (Ground.X G).2
  refine Ground.open G ?_
  intro T B D TE TW
  try (refine guard_noD D (by decide +kernel) ?_; clear D)
  km_lay T hmg ho hd' cd
  wrow_args hpre hlay hrd hwl hlo
  all_goals (first | refine callC_kw (enter_call ?_) | refine enter_call ?_)
  all_goals w_top on
  all_goals kn_posts
  rename_i ns hs hlay0 hL1 hr1 hl2 w4 w3 sl vls w0 hL ra w1 r0 hI hr2 hcond hcond2
  have hfa : fa = 136 := by
    have e : some (Value.ref fa) = some (Value.ref 136) := hmg.symm.trans (mg_of KX T.g rfl)
    cases e; rfl
  subst hfa
  have hn63 : ns.length ≤ 63 := by (first | decide | lia)
  have hw : Mine.Wd (ghostOf s₁.heap [(130, 128), (125, 123), (113, 109), (135, 133)]) s₁ := ⟨fun b o e => of_hideAll _ e, Mine.tabsOk_start hT8⟩
  refine codeAny_mono (Mine.law_walk (Mine.bs_start KX T hT9) Mine.ok_start hw hL hI hn63 Mine.pure_law) ?_
  rintro r s' ⟨rfl, st⟩
  refine ⟨⟨.inl ⟨_, _, _, rfl, fun cls => rfl, .bool true, ?_, unshared_nil⟩, fun b o e => ?_, st.os, st.gens.trans hg⟩, ?_⟩
  · wrow_post
  · have hb : b ∉ Mine.TT := fun hb => by
      have hn : (ghostOf s₁.heap [(130, 128), (125, 123), (113, 109), (135, 133)]).get? b = none := (Mine.bs_start KX T hT9).noT b hb
      rw [hn] at e; cases e
    exact st.keep b o (fun h => nomatch h) hb (of_hideAll _ e)
  · have gr : ∀ P ∈ Mine.TT, GrownAt P s'.heap := fun P hP => st.tab.get hP
    exact ⟨gr 128 (by decide), gr 123 (by decide), gr 109 (by decide), gr 133 (by decide), trivial⟩
