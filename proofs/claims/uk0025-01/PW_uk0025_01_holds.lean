import PyProof.Rows.All
import Wide.All
import OpenK.AllK
import Wide.FinOn
import Lean
import PySem.Challenge.RW_uk0025_01
open PySem PySem.W PyProof.Rows PySem.Calls PySem.Spec
set_option Elab.async false
set_option maxRecDepth 100000
set_option maxHeartbeats 8000000
set_option linter.all false
set_option compiler.extract_closed false
namespace Mine
theorem X1 {a0 : Type} {P : a0 → Prop} {G : Prop} (h : ∀ x0, P x0 → G) : (∃ x0, P x0) → G := fun e0 => e0.elim fun x0 p => h x0 p
theorem X2 {a0 a1 : Type} {P : a0 → a1 → Prop} {G : Prop} (h : ∀ x0 x1, P x0 x1 → G) : (∃ x0 x1, P x0 x1) → G := fun e0 => e0.elim fun x0 e1 => e1.elim fun x1 p => h x0 x1 p
theorem I2 {a0 a1 : Type} {P : a0 → a1 → Prop} (x0 : a0) (x1 : a1) (p : P x0 x1) : ∃ x0 x1, P x0 x1 := ⟨x0, ⟨x1, p⟩⟩
theorem X3 {a0 a1 a2 : Type} {P : a0 → a1 → a2 → Prop} {G : Prop} (h : ∀ x0 x1 x2, P x0 x1 x2 → G) : (∃ x0 x1 x2, P x0 x1 x2) → G := fun e0 => e0.elim fun x0 e1 => e1.elim fun x1 e2 => e2.elim fun x2 p => h x0 x1 x2 p
theorem I3 {a0 a1 a2 : Type} {P : a0 → a1 → a2 → Prop} (x0 : a0) (x1 : a1) (x2 : a2) (p : P x0 x1 x2) : ∃ x0 x1 x2, P x0 x1 x2 := ⟨x0, ⟨x1, ⟨x2, p⟩⟩⟩
theorem X4 {a0 a1 a2 a3 : Type} {P : a0 → a1 → a2 → a3 → Prop} {G : Prop} (h : ∀ x0 x1 x2 x3, P x0 x1 x2 x3 → G) : (∃ x0 x1 x2 x3, P x0 x1 x2 x3) → G := fun e0 => e0.elim fun x0 e1 => e1.elim fun x1 e2 => e2.elim fun x2 e3 => e3.elim fun x3 p => h x0 x1 x2 x3 p
theorem I4 {a0 a1 a2 a3 : Type} {P : a0 → a1 → a2 → a3 → Prop} (x0 : a0) (x1 : a1) (x2 : a2) (x3 : a3) (p : P x0 x1 x2 x3) : ∃ x0 x1 x2 x3, P x0 x1 x2 x3 := ⟨x0, ⟨x1, ⟨x2, ⟨x3, p⟩⟩⟩⟩
theorem X5 {a0 a1 a2 a3 a4 : Type} {P : a0 → a1 → a2 → a3 → a4 → Prop} {G : Prop} (h : ∀ x0 x1 x2 x3 x4, P x0 x1 x2 x3 x4 → G) : (∃ x0 x1 x2 x3 x4, P x0 x1 x2 x3 x4) → G := fun e0 => e0.elim fun x0 e1 => e1.elim fun x1 e2 => e2.elim fun x2 e3 => e3.elim fun x3 e4 => e4.elim fun x4 p => h x0 x1 x2 x3 x4 p
theorem I5 {a0 a1 a2 a3 a4 : Type} {P : a0 → a1 → a2 → a3 → a4 → Prop} (x0 : a0) (x1 : a1) (x2 : a2) (x3 : a3) (x4 : a4) (p : P x0 x1 x2 x3 x4) : ∃ x0 x1 x2 x3 x4, P x0 x1 x2 x3 x4 := ⟨x0, ⟨x1, ⟨x2, ⟨x3, ⟨x4, p⟩⟩⟩⟩⟩
theorem X6 {a0 a1 a2 a3 a4 a5 : Type} {P : a0 → a1 → a2 → a3 → a4 → a5 → Prop} {G : Prop} (h : ∀ x0 x1 x2 x3 x4 x5, P x0 x1 x2 x3 x4 x5 → G) : (∃ x0 x1 x2 x3 x4 x5, P x0 x1 x2 x3 x4 x5) → G := fun e0 => e0.elim fun x0 e1 => e1.elim fun x1 e2 => e2.elim fun x2 e3 => e3.elim fun x3 e4 => e4.elim fun x4 e5 => e5.elim fun x5 p => h x0 x1 x2 x3 x4 x5 p
theorem I6 {a0 a1 a2 a3 a4 a5 : Type} {P : a0 → a1 → a2 → a3 → a4 → a5 → Prop} (x0 : a0) (x1 : a1) (x2 : a2) (x3 : a3) (x4 : a4) (x5 : a5) (p : P x0 x1 x2 x3 x4 x5) : ∃ x0 x1 x2 x3 x4 x5, P x0 x1 x2 x3 x4 x5 := ⟨x0, ⟨x1, ⟨x2, ⟨x3, ⟨x4, ⟨x5, p⟩⟩⟩⟩⟩⟩
theorem X7 {a0 a1 a2 a3 a4 a5 a6 : Type} {P : a0 → a1 → a2 → a3 → a4 → a5 → a6 → Prop} {G : Prop} (h : ∀ x0 x1 x2 x3 x4 x5 x6, P x0 x1 x2 x3 x4 x5 x6 → G) : (∃ x0 x1 x2 x3 x4 x5 x6, P x0 x1 x2 x3 x4 x5 x6) → G := fun e0 => e0.elim fun x0 e1 => e1.elim fun x1 e2 => e2.elim fun x2 e3 => e3.elim fun x3 e4 => e4.elim fun x4 e5 => e5.elim fun x5 e6 => e6.elim fun x6 p => h x0 x1 x2 x3 x4 x5 x6 p
theorem X8 {a0 a1 a2 a3 a4 a5 a6 a7 : Type} {P : a0 → a1 → a2 → a3 → a4 → a5 → a6 → a7 → Prop} {G : Prop} (h : ∀ x0 x1 x2 x3 x4 x5 x6 x7, P x0 x1 x2 x3 x4 x5 x6 x7 → G) : (∃ x0 x1 x2 x3 x4 x5 x6 x7, P x0 x1 x2 x3 x4 x5 x6 x7) → G := fun e0 => e0.elim fun x0 e1 => e1.elim fun x1 e2 => e2.elim fun x2 e3 => e3.elim fun x3 e4 => e4.elim fun x4 e5 => e5.elim fun x5 e6 => e6.elim fun x6 e7 => e7.elim fun x7 p => h x0 x1 x2 x3 x4 x5 x6 x7 p
theorem I8 {a0 a1 a2 a3 a4 a5 a6 a7 : Type} {P : a0 → a1 → a2 → a3 → a4 → a5 → a6 → a7 → Prop} (x0 : a0) (x1 : a1) (x2 : a2) (x3 : a3) (x4 : a4) (x5 : a5) (x6 : a6) (x7 : a7) (p : P x0 x1 x2 x3 x4 x5 x6 x7) : ∃ x0 x1 x2 x3 x4 x5 x6 x7, P x0 x1 x2 x3 x4 x5 x6 x7 := ⟨x0, ⟨x1, ⟨x2, ⟨x3, ⟨x4, ⟨x5, ⟨x6, ⟨x7, p⟩⟩⟩⟩⟩⟩⟩⟩
theorem X9 {a0 a1 a2 a3 a4 a5 a6 a7 a8 : Type} {P : a0 → a1 → a2 → a3 → a4 → a5 → a6 → a7 → a8 → Prop} {G : Prop} (h : ∀ x0 x1 x2 x3 x4 x5 x6 x7 x8, P x0 x1 x2 x3 x4 x5 x6 x7 x8 → G) : (∃ x0 x1 x2 x3 x4 x5 x6 x7 x8, P x0 x1 x2 x3 x4 x5 x6 x7 x8) → G := fun e0 => e0.elim fun x0 e1 => e1.elim fun x1 e2 => e2.elim fun x2 e3 => e3.elim fun x3 e4 => e4.elim fun x4 e5 => e5.elim fun x5 e6 => e6.elim fun x6 e7 => e7.elim fun x7 e8 => e8.elim fun x8 p => h x0 x1 x2 x3 x4 x5 x6 x7 x8 p
theorem I9 {a0 a1 a2 a3 a4 a5 a6 a7 a8 : Type} {P : a0 → a1 → a2 → a3 → a4 → a5 → a6 → a7 → a8 → Prop} (x0 : a0) (x1 : a1) (x2 : a2) (x3 : a3) (x4 : a4) (x5 : a5) (x6 : a6) (x7 : a7) (x8 : a8) (p : P x0 x1 x2 x3 x4 x5 x6 x7 x8) : ∃ x0 x1 x2 x3 x4 x5 x6 x7 x8, P x0 x1 x2 x3 x4 x5 x6 x7 x8 := ⟨x0, ⟨x1, ⟨x2, ⟨x3, ⟨x4, ⟨x5, ⟨x6, ⟨x7, ⟨x8, p⟩⟩⟩⟩⟩⟩⟩⟩⟩
theorem X10 {a0 a1 a2 a3 a4 a5 a6 a7 a8 a9 : Type} {P : a0 → a1 → a2 → a3 → a4 → a5 → a6 → a7 → a8 → a9 → Prop} {G : Prop} (h : ∀ x0 x1 x2 x3 x4 x5 x6 x7 x8 x9, P x0 x1 x2 x3 x4 x5 x6 x7 x8 x9 → G) : (∃ x0 x1 x2 x3 x4 x5 x6 x7 x8 x9, P x0 x1 x2 x3 x4 x5 x6 x7 x8 x9) → G := fun e0 => e0.elim fun x0 e1 => e1.elim fun x1 e2 => e2.elim fun x2 e3 => e3.elim fun x3 e4 => e4.elim fun x4 e5 => e5.elim fun x5 e6 => e6.elim fun x6 e7 => e7.elim fun x7 e8 => e8.elim fun x8 e9 => e9.elim fun x9 p => h x0 x1 x2 x3 x4 x5 x6 x7 x8 x9 p
theorem X11 {a0 a1 a2 a3 a4 a5 a6 a7 a8 a9 a10 : Type} {P : a0 → a1 → a2 → a3 → a4 → a5 → a6 → a7 → a8 → a9 → a10 → Prop} {G : Prop} (h : ∀ x0 x1 x2 x3 x4 x5 x6 x7 x8 x9 x10, P x0 x1 x2 x3 x4 x5 x6 x7 x8 x9 x10 → G) : (∃ x0 x1 x2 x3 x4 x5 x6 x7 x8 x9 x10, P x0 x1 x2 x3 x4 x5 x6 x7 x8 x9 x10) → G := fun e0 => e0.elim fun x0 e1 => e1.elim fun x1 e2 => e2.elim fun x2 e3 => e3.elim fun x3 e4 => e4.elim fun x4 e5 => e5.elim fun x5 e6 => e6.elim fun x6 e7 => e7.elim fun x7 e8 => e8.elim fun x8 e9 => e9.elim fun x9 e10 => e10.elim fun x10 p => h x0 x1 x2 x3 x4 x5 x6 x7 x8 x9 x10 p
theorem I11 {a0 a1 a2 a3 a4 a5 a6 a7 a8 a9 a10 : Type} {P : a0 → a1 → a2 → a3 → a4 → a5 → a6 → a7 → a8 → a9 → a10 → Prop} (x0 : a0) (x1 : a1) (x2 : a2) (x3 : a3) (x4 : a4) (x5 : a5) (x6 : a6) (x7 : a7) (x8 : a8) (x9 : a9) (x10 : a10) (p : P x0 x1 x2 x3 x4 x5 x6 x7 x8 x9 x10) : ∃ x0 x1 x2 x3 x4 x5 x6 x7 x8 x9 x10, P x0 x1 x2 x3 x4 x5 x6 x7 x8 x9 x10 := ⟨x0, ⟨x1, ⟨x2, ⟨x3, ⟨x4, ⟨x5, ⟨x6, ⟨x7, ⟨x8, ⟨x9, ⟨x10, p⟩⟩⟩⟩⟩⟩⟩⟩⟩⟩⟩
theorem X12 {a0 a1 a2 a3 a4 a5 a6 a7 a8 a9 a10 a11 : Type} {P : a0 → a1 → a2 → a3 → a4 → a5 → a6 → a7 → a8 → a9 → a10 → a11 → Prop} {G : Prop} (h : ∀ x0 x1 x2 x3 x4 x5 x6 x7 x8 x9 x10 x11, P x0 x1 x2 x3 x4 x5 x6 x7 x8 x9 x10 x11 → G) : (∃ x0 x1 x2 x3 x4 x5 x6 x7 x8 x9 x10 x11, P x0 x1 x2 x3 x4 x5 x6 x7 x8 x9 x10 x11) → G := fun e0 => e0.elim fun x0 e1 => e1.elim fun x1 e2 => e2.elim fun x2 e3 => e3.elim fun x3 e4 => e4.elim fun x4 e5 => e5.elim fun x5 e6 => e6.elim fun x6 e7 => e7.elim fun x7 e8 => e8.elim fun x8 e9 => e9.elim fun x9 e10 => e10.elim fun x10 e11 => e11.elim fun x11 p => h x0 x1 x2 x3 x4 x5 x6 x7 x8 x9 x10 x11 p
theorem X13 {a0 a1 a2 a3 a4 a5 a6 a7 a8 a9 a10 a11 a12 : Type} {P : a0 → a1 → a2 → a3 → a4 → a5 → a6 → a7 → a8 → a9 → a10 → a11 → a12 → Prop} {G : Prop} (h : ∀ x0 x1 x2 x3 x4 x5 x6 x7 x8 x9 x10 x11 x12, P x0 x1 x2 x3 x4 x5 x6 x7 x8 x9 x10 x11 x12 → G) : (∃ x0 x1 x2 x3 x4 x5 x6 x7 x8 x9 x10 x11 x12, P x0 x1 x2 x3 x4 x5 x6 x7 x8 x9 x10 x11 x12) → G := fun e0 => e0.elim fun x0 e1 => e1.elim fun x1 e2 => e2.elim fun x2 e3 => e3.elim fun x3 e4 => e4.elim fun x4 e5 => e5.elim fun x5 e6 => e6.elim fun x6 e7 => e7.elim fun x7 e8 => e8.elim fun x8 e9 => e9.elim fun x9 e10 => e10.elim fun x10 e11 => e11.elim fun x11 e12 => e12.elim fun x12 p => h x0 x1 x2 x3 x4 x5 x6 x7 x8 x9 x10 x11 x12 p
theorem X14 {a0 a1 a2 a3 a4 a5 a6 a7 a8 a9 a10 a11 a12 a13 : Type} {P : a0 → a1 → a2 → a3 → a4 → a5 → a6 → a7 → a8 → a9 → a10 → a11 → a12 → a13 → Prop} {G : Prop} (h : ∀ x0 x1 x2 x3 x4 x5 x6 x7 x8 x9 x10 x11 x12 x13, P x0 x1 x2 x3 x4 x5 x6 x7 x8 x9 x10 x11 x12 x13 → G) : (∃ x0 x1 x2 x3 x4 x5 x6 x7 x8 x9 x10 x11 x12 x13, P x0 x1 x2 x3 x4 x5 x6 x7 x8 x9 x10 x11 x12 x13) → G := fun e0 => e0.elim fun x0 e1 => e1.elim fun x1 e2 => e2.elim fun x2 e3 => e3.elim fun x3 e4 => e4.elim fun x4 e5 => e5.elim fun x5 e6 => e6.elim fun x6 e7 => e7.elim fun x7 e8 => e8.elim fun x8 e9 => e9.elim fun x9 e10 => e10.elim fun x10 e11 => e11.elim fun x11 e12 => e12.elim fun x12 e13 => e13.elim fun x13 p => h x0 x1 x2 x3 x4 x5 x6 x7 x8 x9 x10 x11 x12 x13 p
theorem X15 {a0 a1 a2 a3 a4 a5 a6 a7 a8 a9 a10 a11 a12 a13 a14 : Type} {P : a0 → a1 → a2 → a3 → a4 → a5 → a6 → a7 → a8 → a9 → a10 → a11 → a12 → a13 → a14 → Prop} {G : Prop} (h : ∀ x0 x1 x2 x3 x4 x5 x6 x7 x8 x9 x10 x11 x12 x13 x14, P x0 x1 x2 x3 x4 x5 x6 x7 x8 x9 x10 x11 x12 x13 x14 → G) : (∃ x0 x1 x2 x3 x4 x5 x6 x7 x8 x9 x10 x11 x12 x13 x14, P x0 x1 x2 x3 x4 x5 x6 x7 x8 x9 x10 x11 x12 x13 x14) → G := fun e0 => e0.elim fun x0 e1 => e1.elim fun x1 e2 => e2.elim fun x2 e3 => e3.elim fun x3 e4 => e4.elim fun x4 e5 => e5.elim fun x5 e6 => e6.elim fun x6 e7 => e7.elim fun x7 e8 => e8.elim fun x8 e9 => e9.elim fun x9 e10 => e10.elim fun x10 e11 => e11.elim fun x11 e12 => e12.elim fun x12 e13 => e13.elim fun x13 e14 => e14.elim fun x14 p => h x0 x1 x2 x3 x4 x5 x6 x7 x8 x9 x10 x11 x12 x13 x14 p
theorem X16 {a0 a1 a2 a3 a4 a5 a6 a7 a8 a9 a10 a11 a12 a13 a14 a15 : Type} {P : a0 → a1 → a2 → a3 → a4 → a5 → a6 → a7 → a8 → a9 → a10 → a11 → a12 → a13 → a14 → a15 → Prop} {G : Prop} (h : ∀ x0 x1 x2 x3 x4 x5 x6 x7 x8 x9 x10 x11 x12 x13 x14 x15, P x0 x1 x2 x3 x4 x5 x6 x7 x8 x9 x10 x11 x12 x13 x14 x15 → G) : (∃ x0 x1 x2 x3 x4 x5 x6 x7 x8 x9 x10 x11 x12 x13 x14 x15, P x0 x1 x2 x3 x4 x5 x6 x7 x8 x9 x10 x11 x12 x13 x14 x15) → G := fun e0 => e0.elim fun x0 e1 => e1.elim fun x1 e2 => e2.elim fun x2 e3 => e3.elim fun x3 e4 => e4.elim fun x4 e5 => e5.elim fun x5 e6 => e6.elim fun x6 e7 => e7.elim fun x7 e8 => e8.elim fun x8 e9 => e9.elim fun x9 e10 => e10.elim fun x10 e11 => e11.elim fun x11 e12 => e12.elim fun x12 e13 => e13.elim fun x13 e14 => e14.elim fun x14 e15 => e15.elim fun x15 p => h x0 x1 x2 x3 x4 x5 x6 x7 x8 x9 x10 x11 x12 x13 x14 x15 p
theorem X17 {a0 a1 a2 a3 a4 a5 a6 a7 a8 a9 a10 a11 a12 a13 a14 a15 a16 : Type} {P : a0 → a1 → a2 → a3 → a4 → a5 → a6 → a7 → a8 → a9 → a10 → a11 → a12 → a13 → a14 → a15 → a16 → Prop} {G : Prop} (h : ∀ x0 x1 x2 x3 x4 x5 x6 x7 x8 x9 x10 x11 x12 x13 x14 x15 x16, P x0 x1 x2 x3 x4 x5 x6 x7 x8 x9 x10 x11 x12 x13 x14 x15 x16 → G) : (∃ x0 x1 x2 x3 x4 x5 x6 x7 x8 x9 x10 x11 x12 x13 x14 x15 x16, P x0 x1 x2 x3 x4 x5 x6 x7 x8 x9 x10 x11 x12 x13 x14 x15 x16) → G := fun e0 => e0.elim fun x0 e1 => e1.elim fun x1 e2 => e2.elim fun x2 e3 => e3.elim fun x3 e4 => e4.elim fun x4 e5 => e5.elim fun x5 e6 => e6.elim fun x6 e7 => e7.elim fun x7 e8 => e8.elim fun x8 e9 => e9.elim fun x9 e10 => e10.elim fun x10 e11 => e11.elim fun x11 e12 => e12.elim fun x12 e13 => e13.elim fun x13 e14 => e14.elim fun x14 e15 => e15.elim fun x15 e16 => e16.elim fun x16 p => h x0 x1 x2 x3 x4 x5 x6 x7 x8 x9 x10 x11 x12 x13 x14 x15 x16 p
theorem X18 {a0 a1 a2 a3 a4 a5 a6 a7 a8 a9 a10 a11 a12 a13 a14 a15 a16 a17 : Type} {P : a0 → a1 → a2 → a3 → a4 → a5 → a6 → a7 → a8 → a9 → a10 → a11 → a12 → a13 → a14 → a15 → a16 → a17 → Prop} {G : Prop} (h : ∀ x0 x1 x2 x3 x4 x5 x6 x7 x8 x9 x10 x11 x12 x13 x14 x15 x16 x17, P x0 x1 x2 x3 x4 x5 x6 x7 x8 x9 x10 x11 x12 x13 x14 x15 x16 x17 → G) : (∃ x0 x1 x2 x3 x4 x5 x6 x7 x8 x9 x10 x11 x12 x13 x14 x15 x16 x17, P x0 x1 x2 x3 x4 x5 x6 x7 x8 x9 x10 x11 x12 x13 x14 x15 x16 x17) → G := fun e0 => e0.elim fun x0 e1 => e1.elim fun x1 e2 => e2.elim fun x2 e3 => e3.elim fun x3 e4 => e4.elim fun x4 e5 => e5.elim fun x5 e6 => e6.elim fun x6 e7 => e7.elim fun x7 e8 => e8.elim fun x8 e9 => e9.elim fun x9 e10 => e10.elim fun x10 e11 => e11.elim fun x11 e12 => e12.elim fun x12 e13 => e13.elim fun x13 e14 => e14.elim fun x14 e15 => e15.elim fun x15 e16 => e16.elim fun x16 e17 => e17.elim fun x17 p => h x0 x1 x2 x3 x4 x5 x6 x7 x8 x9 x10 x11 x12 x13 x14 x15 x16 x17 p
theorem X19 {a0 a1 a2 a3 a4 a5 a6 a7 a8 a9 a10 a11 a12 a13 a14 a15 a16 a17 a18 : Type} {P : a0 → a1 → a2 → a3 → a4 → a5 → a6 → a7 → a8 → a9 → a10 → a11 → a12 → a13 → a14 → a15 → a16 → a17 → a18 → Prop} {G : Prop} (h : ∀ x0 x1 x2 x3 x4 x5 x6 x7 x8 x9 x10 x11 x12 x13 x14 x15 x16 x17 x18, P x0 x1 x2 x3 x4 x5 x6 x7 x8 x9 x10 x11 x12 x13 x14 x15 x16 x17 x18 → G) : (∃ x0 x1 x2 x3 x4 x5 x6 x7 x8 x9 x10 x11 x12 x13 x14 x15 x16 x17 x18, P x0 x1 x2 x3 x4 x5 x6 x7 x8 x9 x10 x11 x12 x13 x14 x15 x16 x17 x18) → G := fun e0 => e0.elim fun x0 e1 => e1.elim fun x1 e2 => e2.elim fun x2 e3 => e3.elim fun x3 e4 => e4.elim fun x4 e5 => e5.elim fun x5 e6 => e6.elim fun x6 e7 => e7.elim fun x7 e8 => e8.elim fun x8 e9 => e9.elim fun x9 e10 => e10.elim fun x10 e11 => e11.elim fun x11 e12 => e12.elim fun x12 e13 => e13.elim fun x13 e14 => e14.elim fun x14 e15 => e15.elim fun x15 e16 => e16.elim fun x16 e17 => e17.elim fun x17 e18 => e18.elim fun x18 p => h x0 x1 x2 x3 x4 x5 x6 x7 x8 x9 x10 x11 x12 x13 x14 x15 x16 x17 x18 p
theorem X20 {a0 a1 a2 a3 a4 a5 a6 a7 a8 a9 a10 a11 a12 a13 a14 a15 a16 a17 a18 a19 : Type} {P : a0 → a1 → a2 → a3 → a4 → a5 → a6 → a7 → a8 → a9 → a10 → a11 → a12 → a13 → a14 → a15 → a16 → a17 → a18 → a19 → Prop} {G : Prop} (h : ∀ x0 x1 x2 x3 x4 x5 x6 x7 x8 x9 x10 x11 x12 x13 x14 x15 x16 x17 x18 x19, P x0 x1 x2 x3 x4 x5 x6 x7 x8 x9 x10 x11 x12 x13 x14 x15 x16 x17 x18 x19 → G) : (∃ x0 x1 x2 x3 x4 x5 x6 x7 x8 x9 x10 x11 x12 x13 x14 x15 x16 x17 x18 x19, P x0 x1 x2 x3 x4 x5 x6 x7 x8 x9 x10 x11 x12 x13 x14 x15 x16 x17 x18 x19) → G := fun e0 => e0.elim fun x0 e1 => e1.elim fun x1 e2 => e2.elim fun x2 e3 => e3.elim fun x3 e4 => e4.elim fun x4 e5 => e5.elim fun x5 e6 => e6.elim fun x6 e7 => e7.elim fun x7 e8 => e8.elim fun x8 e9 => e9.elim fun x9 e10 => e10.elim fun x10 e11 => e11.elim fun x11 e12 => e12.elim fun x12 e13 => e13.elim fun x13 e14 => e14.elim fun x14 e15 => e15.elim fun x15 e16 => e16.elim fun x16 e17 => e17.elim fun x17 e18 => e18.elim fun x18 e19 => e19.elim fun x19 p => h x0 x1 x2 x3 x4 x5 x6 x7 x8 x9 x10 x11 x12 x13 x14 x15 x16 x17 x18 x19 p
theorem A2 {c0 c1 G : Prop} (h : c0 → c1 → G) : (c0 ∧ c1) → G := fun e => h e.1 e.2
theorem A3 {c0 c1 c2 G : Prop} (h : c0 → c1 → c2 → G) : (c0 ∧ c1 ∧ c2) → G := fun e => h e.1 e.2.1 e.2.2
theorem A4 {c0 c1 c2 c3 G : Prop} (h : c0 → c1 → c2 → c3 → G) : (c0 ∧ c1 ∧ c2 ∧ c3) → G := fun e => h e.1 e.2.1 e.2.2.1 e.2.2.2
theorem A5 {c0 c1 c2 c3 c4 G : Prop} (h : c0 → c1 → c2 → c3 → c4 → G) : (c0 ∧ c1 ∧ c2 ∧ c3 ∧ c4) → G := fun e => h e.1 e.2.1 e.2.2.1 e.2.2.2.1 e.2.2.2.2
theorem A6 {c0 c1 c2 c3 c4 c5 G : Prop} (h : c0 → c1 → c2 → c3 → c4 → c5 → G) : (c0 ∧ c1 ∧ c2 ∧ c3 ∧ c4 ∧ c5) → G := fun e => h e.1 e.2.1 e.2.2.1 e.2.2.2.1 e.2.2.2.2.1 e.2.2.2.2.2
theorem A7 {c0 c1 c2 c3 c4 c5 c6 G : Prop} (h : c0 → c1 → c2 → c3 → c4 → c5 → c6 → G) : (c0 ∧ c1 ∧ c2 ∧ c3 ∧ c4 ∧ c5 ∧ c6) → G := fun e => h e.1 e.2.1 e.2.2.1 e.2.2.2.1 e.2.2.2.2.1 e.2.2.2.2.2.1 e.2.2.2.2.2.2
theorem A8 {c0 c1 c2 c3 c4 c5 c6 c7 G : Prop} (h : c0 → c1 → c2 → c3 → c4 → c5 → c6 → c7 → G) : (c0 ∧ c1 ∧ c2 ∧ c3 ∧ c4 ∧ c5 ∧ c6 ∧ c7) → G := fun e => h e.1 e.2.1 e.2.2.1 e.2.2.2.1 e.2.2.2.2.1 e.2.2.2.2.2.1 e.2.2.2.2.2.2.1 e.2.2.2.2.2.2.2
theorem A9 {c0 c1 c2 c3 c4 c5 c6 c7 c8 G : Prop} (h : c0 → c1 → c2 → c3 → c4 → c5 → c6 → c7 → c8 → G) : (c0 ∧ c1 ∧ c2 ∧ c3 ∧ c4 ∧ c5 ∧ c6 ∧ c7 ∧ c8) → G := fun e => h e.1 e.2.1 e.2.2.1 e.2.2.2.1 e.2.2.2.2.1 e.2.2.2.2.2.1 e.2.2.2.2.2.2.1 e.2.2.2.2.2.2.2.1 e.2.2.2.2.2.2.2.2
theorem A11 {c0 c1 c2 c3 c4 c5 c6 c7 c8 c9 c10 G : Prop} (h : c0 → c1 → c2 → c3 → c4 → c5 → c6 → c7 → c8 → c9 → c10 → G) : (c0 ∧ c1 ∧ c2 ∧ c3 ∧ c4 ∧ c5 ∧ c6 ∧ c7 ∧ c8 ∧ c9 ∧ c10) → G := fun e => h e.1 e.2.1 e.2.2.1 e.2.2.2.1 e.2.2.2.2.1 e.2.2.2.2.2.1 e.2.2.2.2.2.2.1 e.2.2.2.2.2.2.2.1 e.2.2.2.2.2.2.2.2.1 e.2.2.2.2.2.2.2.2.2.1 e.2.2.2.2.2.2.2.2.2.2
theorem A12 {c0 c1 c2 c3 c4 c5 c6 c7 c8 c9 c10 c11 G : Prop} (h : c0 → c1 → c2 → c3 → c4 → c5 → c6 → c7 → c8 → c9 → c10 → c11 → G) : (c0 ∧ c1 ∧ c2 ∧ c3 ∧ c4 ∧ c5 ∧ c6 ∧ c7 ∧ c8 ∧ c9 ∧ c10 ∧ c11) → G := fun e => h e.1 e.2.1 e.2.2.1 e.2.2.2.1 e.2.2.2.2.1 e.2.2.2.2.2.1 e.2.2.2.2.2.2.1 e.2.2.2.2.2.2.2.1 e.2.2.2.2.2.2.2.2.1 e.2.2.2.2.2.2.2.2.2.1 e.2.2.2.2.2.2.2.2.2.2.1 e.2.2.2.2.2.2.2.2.2.2.2
theorem A13 {c0 c1 c2 c3 c4 c5 c6 c7 c8 c9 c10 c11 c12 G : Prop} (h : c0 → c1 → c2 → c3 → c4 → c5 → c6 → c7 → c8 → c9 → c10 → c11 → c12 → G) : (c0 ∧ c1 ∧ c2 ∧ c3 ∧ c4 ∧ c5 ∧ c6 ∧ c7 ∧ c8 ∧ c9 ∧ c10 ∧ c11 ∧ c12) → G := fun e => h e.1 e.2.1 e.2.2.1 e.2.2.2.1 e.2.2.2.2.1 e.2.2.2.2.2.1 e.2.2.2.2.2.2.1 e.2.2.2.2.2.2.2.1 e.2.2.2.2.2.2.2.2.1 e.2.2.2.2.2.2.2.2.2.1 e.2.2.2.2.2.2.2.2.2.2.1 e.2.2.2.2.2.2.2.2.2.2.2.1 e.2.2.2.2.2.2.2.2.2.2.2.2
theorem A14 {c0 c1 c2 c3 c4 c5 c6 c7 c8 c9 c10 c11 c12 c13 G : Prop} (h : c0 → c1 → c2 → c3 → c4 → c5 → c6 → c7 → c8 → c9 → c10 → c11 → c12 → c13 → G) : (c0 ∧ c1 ∧ c2 ∧ c3 ∧ c4 ∧ c5 ∧ c6 ∧ c7 ∧ c8 ∧ c9 ∧ c10 ∧ c11 ∧ c12 ∧ c13) → G := fun e => h e.1 e.2.1 e.2.2.1 e.2.2.2.1 e.2.2.2.2.1 e.2.2.2.2.2.1 e.2.2.2.2.2.2.1 e.2.2.2.2.2.2.2.1 e.2.2.2.2.2.2.2.2.1 e.2.2.2.2.2.2.2.2.2.1 e.2.2.2.2.2.2.2.2.2.2.1 e.2.2.2.2.2.2.2.2.2.2.2.1 e.2.2.2.2.2.2.2.2.2.2.2.2.1 e.2.2.2.2.2.2.2.2.2.2.2.2.2
noncomputable abbrev Pr := Obj → Prop
noncomputable abbrev Led := List (Addr × Pr)
structure Cx where
 prog : Program
 w : World
 B : Heap
 g : Array GenState
 d : Drawn
 os : OsState
structure St (B h : Heap) (l : Led) : Prop where
 at_ : ∀ p ∈ l, ∃ o, h.get? p.1 = some o ∧ p.2 o
 nodup : (l.map (·.1)).Nodup
 base : ∀ b o, B.get? b = some o → h.get? b = some o
 above : ∀ p ∈ l, B.get? p.1 = none ∧ sysModules < p.1
 low : ∃ a o, sysModules < a ∧ B.get? a = some o
inductive Up : Led → Addr → Pr → Pr → Led → Prop
 | head {a P P' r} : Up ((a, P) :: r) a P P' ((a, P') :: r)
 | tail {a P P' x r r'} : Up r a P P' r' → Up (x :: r) a P P' (x :: r')
inductive Del : Led → Addr → Pr → Led → Prop
 | head {a P r} : Del ((a, P) :: r) a P r
 | tail {a P x r r'} : Del r a P r' → Del (x :: r) a P (x :: r')
inductive Take : Led → Led → Led → Prop
 | nil {l} : Take l [] l
 | cons {l a P l1 t R} : Del l a P l1 → Take l1 t R → Take l ((a, P) :: t) R
theorem Up.mem {l a P P' l'} (u : Up l a P P' l') : (a, P) ∈ l := by
 induction u with
 | head => exact .head _
 | tail _ ih => exact .tail _ ih
theorem Up.append {l a P P' l'} (u : Up l a P P' l') (R : Led) : Up (l ++ R) a P P' (l' ++ R) := by
 induction u with
 | head => exact .head
 | tail _ ih => exact .tail ih
theorem Up.addrs {l a P P' l'} (u : Up l a P P' l') : l'.map (·.1) = l.map (·.1) := by
 induction u with
 | head => rfl
 | tail _ ih => rw [List.map_cons, List.map_cons, ih]
theorem Del.perm {l a P l'} (d : Del l a P l') : l.Perm ((a, P) :: l') := by
 induction d with
 | head => exact .refl _
 | tail _ ih => exact (List.Perm.cons _ ih).trans (.swap _ _ _)
theorem Take.perm {l t R} (k : Take l t R) : l.Perm (t ++ R) := by
 induction k with
 | nil => exact .refl _
 | cons d _ ih => exact d.perm.trans (.cons _ ih)
section
variable {B h h' : Heap} {l l' : Led} {a : Addr} {P P' : Pr} {o : Obj}
theorem St.perm (S : St B h l) (p : l.Perm l') : St B h l' :=
 ⟨fun q hq => S.at_ q (p.mem_iff.mpr hq), (p.map _).nodup_iff.mp S.nodup, S.base, fun q hq => S.above q (p.mem_iff.mpr hq), S.low⟩
theorem St.left {R : Led} (S : St B h (l ++ R)) : St B h l :=
 ⟨fun q hq => S.at_ q (List.mem_append_left _ hq), by have := S.nodup; rw [List.map_append] at this; exact (List.nodup_append.mp this).1, S.base, fun q hq => S.above q (List.mem_append_left _ hq), S.low⟩
theorem St.keep (S : St B h l) (k : ∀ b o, h.get? b = some o → h'.get? b = some o) : St B h' l :=
 ⟨fun q hq => let ⟨o, e, p⟩ := S.at_ q hq; ⟨o, k _ _ e, p⟩, S.nodup, fun b o e => k b o (S.base b o e), S.above, S.low⟩
theorem St.big (S : St B h l) : sysModules < h.objs.size := let ⟨_, _, lt, e⟩ := S.low; Nat.lt_trans lt (Heap.lt_size (S.base _ _ e))
theorem St.nb (S : St B h l) {p : Addr × Pr} (m : p ∈ l) : B.get? p.1 = none := (S.above p m).1
theorem St.hi (S : St B h l) : ∀ p ∈ l, sysModules < p.1 := fun p hp => (S.above p hp).2
theorem St.newAbove (S : St B h l) {a : Addr} (ha : h.objs.size ≤ a) : B.get? a = none ∧ sysModules < a := by
 refine ⟨?_, Nat.lt_of_lt_of_le S.big ha⟩
 cases e : B.get? a with
 | none => rfl
 | some x => exact absurd (Heap.lt_size (S.base _ _ e)) (Nat.not_lt.mpr ha)
theorem St.max (S : St B h l) : ∀ p ∈ l, p.1 < h.objs.size := fun p hp => let ⟨_, e, _⟩ := S.at_ p hp; Heap.lt_size e
theorem St.cell (S : St B h l) (m : (a, P) ∈ l) : ∃ o, h.get? a = some o ∧ P o := S.at_ _ m
theorem St.new (S : St B h l) (ha : h.objs.size ≤ a) (k : ∀ b o, h.get? b = some o → h'.get? b = some o) (ho : h'.get? a = some o) (hp : P o) : St B h' ((a, P) :: l) := by
 have S' := S.keep k
 refine ⟨fun q hq => ?_, ?_, S'.base, fun q hq => ?_, S.low⟩
 ·rcases List.mem_cons.mp hq with rfl | hq
  ·exact ⟨o, ho, hp⟩
  ·exact S'.at_ q hq
 ·rw [List.map_cons]
  refine List.nodup_cons.mpr ⟨fun m => ?_, S.nodup⟩
  refine X1 ?_ (List.mem_map.mp m)
  intro q
  refine A2 ?_
  intro hq e
  have := S.max q hq
  rw [e] at this
  exact absurd this (Nat.not_lt.mpr ha)
 ·rcases List.mem_cons.mp hq with rfl | hq
  ·exact S.newAbove ha
  ·exact S.above q hq
theorem St.push (S : St B h l) (o : Obj) (hp : P o) (hf : o.isFreed = false := by rfl) : St B (h.push o) ((h.objs.size, P) :: l) :=
 S.new (Nat.le_refl _) (fun _ _ e => Heap.get?_push_of_some _ e) (Heap.get?_push_size _ hf) hp
theorem St.skip (S : St B h l) (o : Obj) : St B (h.push o) l := S.keep fun _ _ e => Heap.get?_push_of_some _ e
theorem Up.cases_mem {l a P P' l'} (u : Up l a P P' l') (nd : (l.map (·.1)).Nodup) : ∀ q ∈ l', q = (a, P') ∨ (q ∈ l ∧ q.1 ≠ a) := by
 induction u with
 | head =>
  rename_i r
  intro q hq
  rcases List.mem_cons.mp hq with rfl | hq
  ·exact .inl rfl
  ·refine .inr ⟨.tail _ hq, fun e => ?_⟩
   rw [List.map_cons] at nd
   exact (List.nodup_cons.mp nd).1 (e ▸ List.mem_map.mpr ⟨q, hq, rfl⟩)
 | tail u ih =>
  rename_i x r r'
  intro q hq
  rw [List.map_cons] at nd
  obtain ⟨n1, n2⟩ := List.nodup_cons.mp nd
  rcases List.mem_cons.mp hq with rfl | hq
  ·refine .inr ⟨.head _, fun e => n1 (e ▸ List.mem_map.mpr ⟨_, u.mem, rfl⟩)⟩
  ·rcases ih n2 q hq with h | ⟨h1, h2⟩
   ·exact .inl h
   ·exact .inr ⟨.tail _ h1, h2⟩
theorem St.upd (S : St B h l) (u : Up l a P P' l') (hs : Heap.SameBut a h h') (ho : h'.get? a = some o) (hp : P' o) : St B h' l' := by
 have hc := u.cases_mem S.nodup
 have na : B.get? a = none := S.nb u.mem
 refine ⟨fun q hq => ?_, by rw [u.addrs]; exact S.nodup, fun b x e => ?_, fun q hq => ?_, S.low⟩
 ·rcases hc q hq with rfl | ⟨h1, h2⟩
  ·exact ⟨o, ho, hp⟩
  ·refine X1 ?_ (S.at_ q h1)
   intro x
   refine A2 ?_
   intro hx px
   exact ⟨x, (hs.2 _ h2).trans hx, px⟩
 ·refine (hs.2 b fun e' => ?_).trans (S.base b x e)
  rw [e', na] at e; cases e
 ·rcases hc q hq with rfl | ⟨h1, h2⟩
  ·exact S.above (a, P) u.mem
  ·exact S.above q h1
end
noncomputable def W {α : Type} (c : Cx) (A : Around) (t : Sem α) (l : Led) (Q : α → Led → Prop) : Prop :=
 ∀ (R : Led) (h : Heap) (tk : Tok), St c.B h (l ++ R) →
  wpAny (model c.prog c.w) A t (fun v s' => ∃ h' tk' l', s' = ⟨h', c.g, c.d, tk', c.os⟩ ∧ St c.B h' (l' ++ R) ∧ Q v l') (fun _ _ => False) ⟨h, c.g, c.d, tk, c.os⟩
section
variable {α β : Type} {c : Cx} {A : Around} {l l' : Led}
theorem W.bind {m : Sem α} {f : α → Sem β} {Q : β → Led → Prop} (h : W c A m l (fun a l' => W c A (f a) l' Q)) : W c A (m >>= f) l Q := fun R hp tk S =>
 wpAny_bind (wpAny_mono (h R hp tk S) (fun a s' ⟨h', tk', l', e, S', q⟩ => by subst e; exact q R h' tk' S') fun _ _ x => x)
theorem W.pure {a : α} {Q : α → Led → Prop} (h : Q a l) : W c A (Pure.pure a) l Q := fun R hp tk S => wpAny_pure ⟨hp, tk, l, rfl, S, h⟩
theorem W.mono {t : Sem α} {Q Q' : α → Led → Prop} (h : W c A t l Q) (k : ∀ a l, Q a l → Q' a l) : W c A t l Q' := fun R hp tk S =>
 wpAny_mono (h R hp tk S) (fun _ _ ⟨h', tk', l', e, S', q⟩ => ⟨h', tk', l', e, S', k _ _ q⟩) fun _ _ x => x
theorem W.perm {t : Sem α} {Q : α → Led → Prop} (h : W c A t l' Q) (p : l.Perm l') : W c A t l Q := fun R hp tk S => h R hp tk (S.perm (p.append_right R))
theorem W.sub {t : Sem α} {R : Led} {Q : α → Led → Prop} (h : W c A t l' Q) (k : Take l l' R) : W c A t l Q := fun R' hp tk S => by
 have S1 : St c.B hp (l' ++ R' ++ R) := S.perm ((k.perm.append_right R').trans (by rw [List.append_assoc, List.append_assoc]; exact List.Perm.append_left _ List.perm_append_comm))
 exact h R' hp tk S1.left
theorem W.close {t : Sem α} {Q : α → Led → Prop} (h : W c A t l (fun v l' => ∃ l'' R, Take l' l'' R ∧ Q v l'')) : W c A t l Q := fun R hp tk S =>
 wpAny_mono (h R hp tk S) (fun _ _ ⟨h', tk', l', e, S', l'', R'', k, q⟩ => ⟨h', tk', l'', e, by
  have S1 : St c.B h' (l'' ++ R ++ R'') := S'.perm ((k.perm.append_right R).trans (by rw [List.append_assoc, List.append_assoc]; exact List.Perm.append_left _ List.perm_append_comm))
  exact S1.left, q⟩) fun _ _ x => x
theorem W.frame {t : Sem α} {R : Led} {Q : α → Led → Prop} (h : W c A t l Q) : W c A t (l ++ R) (fun v l' => ∃ l'', l' = l'' ++ R ∧ Q v l'') := fun R' hp tk S =>
 wpAny_mono (h (R ++ R') hp tk (by rwa [← List.append_assoc])) (fun _ _ ⟨h', tk', l', e, S', q⟩ => ⟨h', tk', l' ++ R, e, by rwa [List.append_assoc], l', rfl, q⟩) fun _ _ x => x
theorem W.use {t : Sem α} {t0 R : Led} {P : α → Led → Prop} {Q : α → Led → Prop} (h : W c A t t0 P) (k : Take l t0 R) (q : ∀ v l', P v l' → Q v (l' ++ R)) : W c A t l Q :=
 ((h.frame (R := R)).mono fun _ _ ⟨l'', e, p⟩ => by subst e; exact q _ _ p).perm k.perm
theorem W.standAt {pos : Pos} {Q : Unit → Led → Prop} (h : Q () l) : W c A (standAt pos) l Q := fun R hp tk S => wpAny_standAt ⟨hp, tk, l, rfl, S, h⟩
theorem W.holding {vs : List Value} {m : Sem α} {Q : α → Led → Prop} (h : W c A m l Q) : W c A (holding vs m) l Q := fun R hp tk S => wpAny_holding (h R hp tk S)
theorem W.of_eq {m m' : Sem α} {Q : α → Led → Prop} (e : m = m') (h : W c A m' l Q) : W c A m l Q := e ▸ h
end
open PySem PySem.W
theorem O1 {T G : Prop} (f : T → G) (e : T) : G := f e
theorem OCn {α : Type} {G : Prop} (o : Option α) (n : o = none → G) (s : ∀ v, o = some v → G) : G := match o, n, s with
 | none, n, _ => n rfl
 | some v, _, s => s v rfl
theorem OCs {α : Type} {G : Prop} (o : Option α) (s : ∀ v, o = some v → G) (n : o = none → G) : G := OCn o n s
theorem NCz {G : Prop} (n : Nat) (z : n = 0 → G) (s : ∀ m, n = m + 1 → G) : G := match n, z, s with
 | 0, z, _ => z rfl
 | m + 1, _, s => s m rfl
theorem NCs {G : Prop} (n : Nat) (s : ∀ m, n = m + 1 → G) (z : n = 0 → G) : G := NCz n z s
theorem PRe {α β : Type} {G : Prop} (p : α × β) (h : ∀ a b, p = (a, b) → G) : G := h p.1 p.2 rfl
theorem neV : Nonempty Value := ⟨.none⟩
theorem neO : Nonempty Obj := ⟨⟨.none, none, .seq #[] 0, #[]⟩⟩
theorem neA : Nonempty Around := ⟨callerA⟩
theorem neH : Nonempty Heap := ⟨default⟩
theorem neC : Nonempty Cx := ⟨⟨PySem.Challenge.pw_uk0025_01, aWorld 1, default, #[], {}, default⟩⟩
theorem neS : Nonempty Shared := ⟨⟨default, #[], {}, 0, default⟩⟩
theorem neP {α β : Type} : Nonempty α → Nonempty β → Nonempty (α × β) := fun ⟨a⟩ ⟨b⟩ => ⟨(a, b)⟩
theorem neL {α : Type} : Nonempty (List α) := ⟨[]⟩
theorem neOp {α : Type} : Nonempty (Option α) := ⟨none⟩
noncomputable def z1 {a0 : Type} (n : Nonempty (a0)) (P : a0 → Prop) : a0 := @Classical.epsilon _ n fun z => P z
theorem Y1 {a0 : Type} {P : a0 → Prop} {G : Prop} (n : Nonempty (a0)) (h : P (z1 n P) → G) (e : ∃ x0, P x0) : G :=
 h (@Classical.epsilon_spec _ (fun z : a0 => P z) (Mine.X1 (G := ∃ z : a0, P z) (fun x0 p => ⟨x0, p⟩) e))
theorem E1 {a0 : Type} {S : a0 → Prop} (n : Nonempty (a0)) (h : S (z1 n fun x0 => ¬ S x0)) (x0 : a0) : S x0 :=
 Classical.byContradiction fun k => Y1 (P := fun x0 => ¬ S x0) n (fun m => m h) ⟨x0, k⟩
noncomputable def z2 {a0 a1 : Type} (n : Nonempty (a0 × a1)) (P : a0 → a1 → Prop) : a0 × a1 := @Classical.epsilon _ n fun z => P z.1 z.2
theorem Y2 {a0 a1 : Type} {P : a0 → a1 → Prop} {G : Prop} (n : Nonempty (a0 × a1)) (h : P (z2 n P).1 (z2 n P).2 → G) (e : ∃ x0 x1, P x0 x1) : G :=
 h (@Classical.epsilon_spec _ (fun z : a0 × a1 => P z.1 z.2) (Mine.X2 (G := ∃ z : a0 × a1, P z.1 z.2) (fun x0 x1 p => ⟨(x0, x1), p⟩) e))
theorem E2 {a0 a1 : Type} {S : a0 → a1 → Prop} (n : Nonempty (a0 × a1)) (h : S (z2 n fun x0 x1 => ¬ S x0 x1).1 (z2 n fun x0 x1 => ¬ S x0 x1).2) (x0 : a0) (x1 : a1) : S x0 x1 :=
 Classical.byContradiction fun k => Y2 (P := fun x0 x1 => ¬ S x0 x1) n (fun m => m h) ⟨x0, ⟨x1, k⟩⟩
noncomputable def z3 {a0 a1 a2 : Type} (n : Nonempty (a0 × a1 × a2)) (P : a0 → a1 → a2 → Prop) : a0 × a1 × a2 := @Classical.epsilon _ n fun z => P z.1 z.2.1 z.2.2
theorem Y3 {a0 a1 a2 : Type} {P : a0 → a1 → a2 → Prop} {G : Prop} (n : Nonempty (a0 × a1 × a2)) (h : P (z3 n P).1 (z3 n P).2.1 (z3 n P).2.2 → G) (e : ∃ x0 x1 x2, P x0 x1 x2) : G :=
 h (@Classical.epsilon_spec _ (fun z : a0 × a1 × a2 => P z.1 z.2.1 z.2.2) (Mine.X3 (G := ∃ z : a0 × a1 × a2, P z.1 z.2.1 z.2.2) (fun x0 x1 x2 p => ⟨(x0, x1, x2), p⟩) e))
theorem E3 {a0 a1 a2 : Type} {S : a0 → a1 → a2 → Prop} (n : Nonempty (a0 × a1 × a2)) (h : S (z3 n fun x0 x1 x2 => ¬ S x0 x1 x2).1 (z3 n fun x0 x1 x2 => ¬ S x0 x1 x2).2.1 (z3 n fun x0 x1 x2 => ¬ S x0 x1 x2).2.2) (x0 : a0) (x1 : a1) (x2 : a2) : S x0 x1 x2 :=
 Classical.byContradiction fun k => Y3 (P := fun x0 x1 x2 => ¬ S x0 x1 x2) n (fun m => m h) ⟨x0, ⟨x1, ⟨x2, k⟩⟩⟩
noncomputable def z4 {a0 a1 a2 a3 : Type} (n : Nonempty (a0 × a1 × a2 × a3)) (P : a0 → a1 → a2 → a3 → Prop) : a0 × a1 × a2 × a3 := @Classical.epsilon _ n fun z => P z.1 z.2.1 z.2.2.1 z.2.2.2
theorem Y4 {a0 a1 a2 a3 : Type} {P : a0 → a1 → a2 → a3 → Prop} {G : Prop} (n : Nonempty (a0 × a1 × a2 × a3)) (h : P (z4 n P).1 (z4 n P).2.1 (z4 n P).2.2.1 (z4 n P).2.2.2 → G) (e : ∃ x0 x1 x2 x3, P x0 x1 x2 x3) : G :=
 h (@Classical.epsilon_spec _ (fun z : a0 × a1 × a2 × a3 => P z.1 z.2.1 z.2.2.1 z.2.2.2) (Mine.X4 (G := ∃ z : a0 × a1 × a2 × a3, P z.1 z.2.1 z.2.2.1 z.2.2.2) (fun x0 x1 x2 x3 p => ⟨(x0, x1, x2, x3), p⟩) e))
theorem E4 {a0 a1 a2 a3 : Type} {S : a0 → a1 → a2 → a3 → Prop} (n : Nonempty (a0 × a1 × a2 × a3)) (h : S (z4 n fun x0 x1 x2 x3 => ¬ S x0 x1 x2 x3).1 (z4 n fun x0 x1 x2 x3 => ¬ S x0 x1 x2 x3).2.1 (z4 n fun x0 x1 x2 x3 => ¬ S x0 x1 x2 x3).2.2.1 (z4 n fun x0 x1 x2 x3 => ¬ S x0 x1 x2 x3).2.2.2) (x0 : a0) (x1 : a1) (x2 : a2) (x3 : a3) : S x0 x1 x2 x3 :=
 Classical.byContradiction fun k => Y4 (P := fun x0 x1 x2 x3 => ¬ S x0 x1 x2 x3) n (fun m => m h) ⟨x0, ⟨x1, ⟨x2, ⟨x3, k⟩⟩⟩⟩
noncomputable def z5 {a0 a1 a2 a3 a4 : Type} (n : Nonempty (a0 × a1 × a2 × a3 × a4)) (P : a0 → a1 → a2 → a3 → a4 → Prop) : a0 × a1 × a2 × a3 × a4 := @Classical.epsilon _ n fun z => P z.1 z.2.1 z.2.2.1 z.2.2.2.1 z.2.2.2.2
theorem Y5 {a0 a1 a2 a3 a4 : Type} {P : a0 → a1 → a2 → a3 → a4 → Prop} {G : Prop} (n : Nonempty (a0 × a1 × a2 × a3 × a4)) (h : P (z5 n P).1 (z5 n P).2.1 (z5 n P).2.2.1 (z5 n P).2.2.2.1 (z5 n P).2.2.2.2 → G) (e : ∃ x0 x1 x2 x3 x4, P x0 x1 x2 x3 x4) : G :=
 h (@Classical.epsilon_spec _ (fun z : a0 × a1 × a2 × a3 × a4 => P z.1 z.2.1 z.2.2.1 z.2.2.2.1 z.2.2.2.2) (Mine.X5 (G := ∃ z : a0 × a1 × a2 × a3 × a4, P z.1 z.2.1 z.2.2.1 z.2.2.2.1 z.2.2.2.2) (fun x0 x1 x2 x3 x4 p => ⟨(x0, x1, x2, x3, x4), p⟩) e))
theorem E5 {a0 a1 a2 a3 a4 : Type} {S : a0 → a1 → a2 → a3 → a4 → Prop} (n : Nonempty (a0 × a1 × a2 × a3 × a4)) (h : S (z5 n fun x0 x1 x2 x3 x4 => ¬ S x0 x1 x2 x3 x4).1 (z5 n fun x0 x1 x2 x3 x4 => ¬ S x0 x1 x2 x3 x4).2.1 (z5 n fun x0 x1 x2 x3 x4 => ¬ S x0 x1 x2 x3 x4).2.2.1 (z5 n fun x0 x1 x2 x3 x4 => ¬ S x0 x1 x2 x3 x4).2.2.2.1 (z5 n fun x0 x1 x2 x3 x4 => ¬ S x0 x1 x2 x3 x4).2.2.2.2) (x0 : a0) (x1 : a1) (x2 : a2) (x3 : a3) (x4 : a4) : S x0 x1 x2 x3 x4 :=
 Classical.byContradiction fun k => Y5 (P := fun x0 x1 x2 x3 x4 => ¬ S x0 x1 x2 x3 x4) n (fun m => m h) ⟨x0, ⟨x1, ⟨x2, ⟨x3, ⟨x4, k⟩⟩⟩⟩⟩
noncomputable def z6 {a0 a1 a2 a3 a4 a5 : Type} (n : Nonempty (a0 × a1 × a2 × a3 × a4 × a5)) (P : a0 → a1 → a2 → a3 → a4 → a5 → Prop) : a0 × a1 × a2 × a3 × a4 × a5 := @Classical.epsilon _ n fun z => P z.1 z.2.1 z.2.2.1 z.2.2.2.1 z.2.2.2.2.1 z.2.2.2.2.2
theorem Y6 {a0 a1 a2 a3 a4 a5 : Type} {P : a0 → a1 → a2 → a3 → a4 → a5 → Prop} {G : Prop} (n : Nonempty (a0 × a1 × a2 × a3 × a4 × a5)) (h : P (z6 n P).1 (z6 n P).2.1 (z6 n P).2.2.1 (z6 n P).2.2.2.1 (z6 n P).2.2.2.2.1 (z6 n P).2.2.2.2.2 → G) (e : ∃ x0 x1 x2 x3 x4 x5, P x0 x1 x2 x3 x4 x5) : G :=
 h (@Classical.epsilon_spec _ (fun z : a0 × a1 × a2 × a3 × a4 × a5 => P z.1 z.2.1 z.2.2.1 z.2.2.2.1 z.2.2.2.2.1 z.2.2.2.2.2) (Mine.X6 (G := ∃ z : a0 × a1 × a2 × a3 × a4 × a5, P z.1 z.2.1 z.2.2.1 z.2.2.2.1 z.2.2.2.2.1 z.2.2.2.2.2) (fun x0 x1 x2 x3 x4 x5 p => ⟨(x0, x1, x2, x3, x4, x5), p⟩) e))
theorem E6 {a0 a1 a2 a3 a4 a5 : Type} {S : a0 → a1 → a2 → a3 → a4 → a5 → Prop} (n : Nonempty (a0 × a1 × a2 × a3 × a4 × a5)) (h : S (z6 n fun x0 x1 x2 x3 x4 x5 => ¬ S x0 x1 x2 x3 x4 x5).1 (z6 n fun x0 x1 x2 x3 x4 x5 => ¬ S x0 x1 x2 x3 x4 x5).2.1 (z6 n fun x0 x1 x2 x3 x4 x5 => ¬ S x0 x1 x2 x3 x4 x5).2.2.1 (z6 n fun x0 x1 x2 x3 x4 x5 => ¬ S x0 x1 x2 x3 x4 x5).2.2.2.1 (z6 n fun x0 x1 x2 x3 x4 x5 => ¬ S x0 x1 x2 x3 x4 x5).2.2.2.2.1 (z6 n fun x0 x1 x2 x3 x4 x5 => ¬ S x0 x1 x2 x3 x4 x5).2.2.2.2.2) (x0 : a0) (x1 : a1) (x2 : a2) (x3 : a3) (x4 : a4) (x5 : a5) : S x0 x1 x2 x3 x4 x5 :=
 Classical.byContradiction fun k => Y6 (P := fun x0 x1 x2 x3 x4 x5 => ¬ S x0 x1 x2 x3 x4 x5) n (fun m => m h) ⟨x0, ⟨x1, ⟨x2, ⟨x3, ⟨x4, ⟨x5, k⟩⟩⟩⟩⟩⟩
noncomputable def z7 {a0 a1 a2 a3 a4 a5 a6 : Type} (n : Nonempty (a0 × a1 × a2 × a3 × a4 × a5 × a6)) (P : a0 → a1 → a2 → a3 → a4 → a5 → a6 → Prop) : a0 × a1 × a2 × a3 × a4 × a5 × a6 := @Classical.epsilon _ n fun z => P z.1 z.2.1 z.2.2.1 z.2.2.2.1 z.2.2.2.2.1 z.2.2.2.2.2.1 z.2.2.2.2.2.2
theorem Y7 {a0 a1 a2 a3 a4 a5 a6 : Type} {P : a0 → a1 → a2 → a3 → a4 → a5 → a6 → Prop} {G : Prop} (n : Nonempty (a0 × a1 × a2 × a3 × a4 × a5 × a6)) (h : P (z7 n P).1 (z7 n P).2.1 (z7 n P).2.2.1 (z7 n P).2.2.2.1 (z7 n P).2.2.2.2.1 (z7 n P).2.2.2.2.2.1 (z7 n P).2.2.2.2.2.2 → G) (e : ∃ x0 x1 x2 x3 x4 x5 x6, P x0 x1 x2 x3 x4 x5 x6) : G :=
 h (@Classical.epsilon_spec _ (fun z : a0 × a1 × a2 × a3 × a4 × a5 × a6 => P z.1 z.2.1 z.2.2.1 z.2.2.2.1 z.2.2.2.2.1 z.2.2.2.2.2.1 z.2.2.2.2.2.2) (Mine.X7 (G := ∃ z : a0 × a1 × a2 × a3 × a4 × a5 × a6, P z.1 z.2.1 z.2.2.1 z.2.2.2.1 z.2.2.2.2.1 z.2.2.2.2.2.1 z.2.2.2.2.2.2) (fun x0 x1 x2 x3 x4 x5 x6 p => ⟨(x0, x1, x2, x3, x4, x5, x6), p⟩) e))
theorem E7 {a0 a1 a2 a3 a4 a5 a6 : Type} {S : a0 → a1 → a2 → a3 → a4 → a5 → a6 → Prop} (n : Nonempty (a0 × a1 × a2 × a3 × a4 × a5 × a6)) (h : S (z7 n fun x0 x1 x2 x3 x4 x5 x6 => ¬ S x0 x1 x2 x3 x4 x5 x6).1 (z7 n fun x0 x1 x2 x3 x4 x5 x6 => ¬ S x0 x1 x2 x3 x4 x5 x6).2.1 (z7 n fun x0 x1 x2 x3 x4 x5 x6 => ¬ S x0 x1 x2 x3 x4 x5 x6).2.2.1 (z7 n fun x0 x1 x2 x3 x4 x5 x6 => ¬ S x0 x1 x2 x3 x4 x5 x6).2.2.2.1 (z7 n fun x0 x1 x2 x3 x4 x5 x6 => ¬ S x0 x1 x2 x3 x4 x5 x6).2.2.2.2.1 (z7 n fun x0 x1 x2 x3 x4 x5 x6 => ¬ S x0 x1 x2 x3 x4 x5 x6).2.2.2.2.2.1 (z7 n fun x0 x1 x2 x3 x4 x5 x6 => ¬ S x0 x1 x2 x3 x4 x5 x6).2.2.2.2.2.2) (x0 : a0) (x1 : a1) (x2 : a2) (x3 : a3) (x4 : a4) (x5 : a5) (x6 : a6) : S x0 x1 x2 x3 x4 x5 x6 :=
 Classical.byContradiction fun k => Y7 (P := fun x0 x1 x2 x3 x4 x5 x6 => ¬ S x0 x1 x2 x3 x4 x5 x6) n (fun m => m h) ⟨x0, ⟨x1, ⟨x2, ⟨x3, ⟨x4, ⟨x5, ⟨x6, k⟩⟩⟩⟩⟩⟩⟩
noncomputable def z8 {a0 a1 a2 a3 a4 a5 a6 a7 : Type} (n : Nonempty (a0 × a1 × a2 × a3 × a4 × a5 × a6 × a7)) (P : a0 → a1 → a2 → a3 → a4 → a5 → a6 → a7 → Prop) : a0 × a1 × a2 × a3 × a4 × a5 × a6 × a7 := @Classical.epsilon _ n fun z => P z.1 z.2.1 z.2.2.1 z.2.2.2.1 z.2.2.2.2.1 z.2.2.2.2.2.1 z.2.2.2.2.2.2.1 z.2.2.2.2.2.2.2
theorem Y8 {a0 a1 a2 a3 a4 a5 a6 a7 : Type} {P : a0 → a1 → a2 → a3 → a4 → a5 → a6 → a7 → Prop} {G : Prop} (n : Nonempty (a0 × a1 × a2 × a3 × a4 × a5 × a6 × a7)) (h : P (z8 n P).1 (z8 n P).2.1 (z8 n P).2.2.1 (z8 n P).2.2.2.1 (z8 n P).2.2.2.2.1 (z8 n P).2.2.2.2.2.1 (z8 n P).2.2.2.2.2.2.1 (z8 n P).2.2.2.2.2.2.2 → G) (e : ∃ x0 x1 x2 x3 x4 x5 x6 x7, P x0 x1 x2 x3 x4 x5 x6 x7) : G :=
 h (@Classical.epsilon_spec _ (fun z : a0 × a1 × a2 × a3 × a4 × a5 × a6 × a7 => P z.1 z.2.1 z.2.2.1 z.2.2.2.1 z.2.2.2.2.1 z.2.2.2.2.2.1 z.2.2.2.2.2.2.1 z.2.2.2.2.2.2.2) (Mine.X8 (G := ∃ z : a0 × a1 × a2 × a3 × a4 × a5 × a6 × a7, P z.1 z.2.1 z.2.2.1 z.2.2.2.1 z.2.2.2.2.1 z.2.2.2.2.2.1 z.2.2.2.2.2.2.1 z.2.2.2.2.2.2.2) (fun x0 x1 x2 x3 x4 x5 x6 x7 p => ⟨(x0, x1, x2, x3, x4, x5, x6, x7), p⟩) e))
noncomputable def z9 {a0 a1 a2 a3 a4 a5 a6 a7 a8 : Type} (n : Nonempty (a0 × a1 × a2 × a3 × a4 × a5 × a6 × a7 × a8)) (P : a0 → a1 → a2 → a3 → a4 → a5 → a6 → a7 → a8 → Prop) : a0 × a1 × a2 × a3 × a4 × a5 × a6 × a7 × a8 := @Classical.epsilon _ n fun z => P z.1 z.2.1 z.2.2.1 z.2.2.2.1 z.2.2.2.2.1 z.2.2.2.2.2.1 z.2.2.2.2.2.2.1 z.2.2.2.2.2.2.2.1 z.2.2.2.2.2.2.2.2
theorem Y9 {a0 a1 a2 a3 a4 a5 a6 a7 a8 : Type} {P : a0 → a1 → a2 → a3 → a4 → a5 → a6 → a7 → a8 → Prop} {G : Prop} (n : Nonempty (a0 × a1 × a2 × a3 × a4 × a5 × a6 × a7 × a8)) (h : P (z9 n P).1 (z9 n P).2.1 (z9 n P).2.2.1 (z9 n P).2.2.2.1 (z9 n P).2.2.2.2.1 (z9 n P).2.2.2.2.2.1 (z9 n P).2.2.2.2.2.2.1 (z9 n P).2.2.2.2.2.2.2.1 (z9 n P).2.2.2.2.2.2.2.2 → G) (e : ∃ x0 x1 x2 x3 x4 x5 x6 x7 x8, P x0 x1 x2 x3 x4 x5 x6 x7 x8) : G :=
 h (@Classical.epsilon_spec _ (fun z : a0 × a1 × a2 × a3 × a4 × a5 × a6 × a7 × a8 => P z.1 z.2.1 z.2.2.1 z.2.2.2.1 z.2.2.2.2.1 z.2.2.2.2.2.1 z.2.2.2.2.2.2.1 z.2.2.2.2.2.2.2.1 z.2.2.2.2.2.2.2.2) (Mine.X9 (G := ∃ z : a0 × a1 × a2 × a3 × a4 × a5 × a6 × a7 × a8, P z.1 z.2.1 z.2.2.1 z.2.2.2.1 z.2.2.2.2.1 z.2.2.2.2.2.1 z.2.2.2.2.2.2.1 z.2.2.2.2.2.2.2.1 z.2.2.2.2.2.2.2.2) (fun x0 x1 x2 x3 x4 x5 x6 x7 x8 p => ⟨(x0, x1, x2, x3, x4, x5, x6, x7, x8), p⟩) e))
theorem E9 {a0 a1 a2 a3 a4 a5 a6 a7 a8 : Type} {S : a0 → a1 → a2 → a3 → a4 → a5 → a6 → a7 → a8 → Prop} (n : Nonempty (a0 × a1 × a2 × a3 × a4 × a5 × a6 × a7 × a8)) (h : S (z9 n fun x0 x1 x2 x3 x4 x5 x6 x7 x8 => ¬ S x0 x1 x2 x3 x4 x5 x6 x7 x8).1 (z9 n fun x0 x1 x2 x3 x4 x5 x6 x7 x8 => ¬ S x0 x1 x2 x3 x4 x5 x6 x7 x8).2.1 (z9 n fun x0 x1 x2 x3 x4 x5 x6 x7 x8 => ¬ S x0 x1 x2 x3 x4 x5 x6 x7 x8).2.2.1 (z9 n fun x0 x1 x2 x3 x4 x5 x6 x7 x8 => ¬ S x0 x1 x2 x3 x4 x5 x6 x7 x8).2.2.2.1 (z9 n fun x0 x1 x2 x3 x4 x5 x6 x7 x8 => ¬ S x0 x1 x2 x3 x4 x5 x6 x7 x8).2.2.2.2.1 (z9 n fun x0 x1 x2 x3 x4 x5 x6 x7 x8 => ¬ S x0 x1 x2 x3 x4 x5 x6 x7 x8).2.2.2.2.2.1 (z9 n fun x0 x1 x2 x3 x4 x5 x6 x7 x8 => ¬ S x0 x1 x2 x3 x4 x5 x6 x7 x8).2.2.2.2.2.2.1 (z9 n fun x0 x1 x2 x3 x4 x5 x6 x7 x8 => ¬ S x0 x1 x2 x3 x4 x5 x6 x7 x8).2.2.2.2.2.2.2.1 (z9 n fun x0 x1 x2 x3 x4 x5 x6 x7 x8 => ¬ S x0 x1 x2 x3 x4 x5 x6 x7 x8).2.2.2.2.2.2.2.2) (x0 : a0) (x1 : a1) (x2 : a2) (x3 : a3) (x4 : a4) (x5 : a5) (x6 : a6) (x7 : a7) (x8 : a8) : S x0 x1 x2 x3 x4 x5 x6 x7 x8 :=
 Classical.byContradiction fun k => Y9 (P := fun x0 x1 x2 x3 x4 x5 x6 x7 x8 => ¬ S x0 x1 x2 x3 x4 x5 x6 x7 x8) n (fun m => m h) ⟨x0, ⟨x1, ⟨x2, ⟨x3, ⟨x4, ⟨x5, ⟨x6, ⟨x7, ⟨x8, k⟩⟩⟩⟩⟩⟩⟩⟩⟩
noncomputable def z10 {a0 a1 a2 a3 a4 a5 a6 a7 a8 a9 : Type} (n : Nonempty (a0 × a1 × a2 × a3 × a4 × a5 × a6 × a7 × a8 × a9)) (P : a0 → a1 → a2 → a3 → a4 → a5 → a6 → a7 → a8 → a9 → Prop) : a0 × a1 × a2 × a3 × a4 × a5 × a6 × a7 × a8 × a9 := @Classical.epsilon _ n fun z => P z.1 z.2.1 z.2.2.1 z.2.2.2.1 z.2.2.2.2.1 z.2.2.2.2.2.1 z.2.2.2.2.2.2.1 z.2.2.2.2.2.2.2.1 z.2.2.2.2.2.2.2.2.1 z.2.2.2.2.2.2.2.2.2
theorem Y10 {a0 a1 a2 a3 a4 a5 a6 a7 a8 a9 : Type} {P : a0 → a1 → a2 → a3 → a4 → a5 → a6 → a7 → a8 → a9 → Prop} {G : Prop} (n : Nonempty (a0 × a1 × a2 × a3 × a4 × a5 × a6 × a7 × a8 × a9)) (h : P (z10 n P).1 (z10 n P).2.1 (z10 n P).2.2.1 (z10 n P).2.2.2.1 (z10 n P).2.2.2.2.1 (z10 n P).2.2.2.2.2.1 (z10 n P).2.2.2.2.2.2.1 (z10 n P).2.2.2.2.2.2.2.1 (z10 n P).2.2.2.2.2.2.2.2.1 (z10 n P).2.2.2.2.2.2.2.2.2 → G) (e : ∃ x0 x1 x2 x3 x4 x5 x6 x7 x8 x9, P x0 x1 x2 x3 x4 x5 x6 x7 x8 x9) : G :=
 h (@Classical.epsilon_spec _ (fun z : a0 × a1 × a2 × a3 × a4 × a5 × a6 × a7 × a8 × a9 => P z.1 z.2.1 z.2.2.1 z.2.2.2.1 z.2.2.2.2.1 z.2.2.2.2.2.1 z.2.2.2.2.2.2.1 z.2.2.2.2.2.2.2.1 z.2.2.2.2.2.2.2.2.1 z.2.2.2.2.2.2.2.2.2) (Mine.X10 (G := ∃ z : a0 × a1 × a2 × a3 × a4 × a5 × a6 × a7 × a8 × a9, P z.1 z.2.1 z.2.2.1 z.2.2.2.1 z.2.2.2.2.1 z.2.2.2.2.2.1 z.2.2.2.2.2.2.1 z.2.2.2.2.2.2.2.1 z.2.2.2.2.2.2.2.2.1 z.2.2.2.2.2.2.2.2.2) (fun x0 x1 x2 x3 x4 x5 x6 x7 x8 x9 p => ⟨(x0, x1, x2, x3, x4, x5, x6, x7, x8, x9), p⟩) e))
noncomputable def z11 {a0 a1 a2 a3 a4 a5 a6 a7 a8 a9 a10 : Type} (n : Nonempty (a0 × a1 × a2 × a3 × a4 × a5 × a6 × a7 × a8 × a9 × a10)) (P : a0 → a1 → a2 → a3 → a4 → a5 → a6 → a7 → a8 → a9 → a10 → Prop) : a0 × a1 × a2 × a3 × a4 × a5 × a6 × a7 × a8 × a9 × a10 := @Classical.epsilon _ n fun z => P z.1 z.2.1 z.2.2.1 z.2.2.2.1 z.2.2.2.2.1 z.2.2.2.2.2.1 z.2.2.2.2.2.2.1 z.2.2.2.2.2.2.2.1 z.2.2.2.2.2.2.2.2.1 z.2.2.2.2.2.2.2.2.2.1 z.2.2.2.2.2.2.2.2.2.2
theorem Y11 {a0 a1 a2 a3 a4 a5 a6 a7 a8 a9 a10 : Type} {P : a0 → a1 → a2 → a3 → a4 → a5 → a6 → a7 → a8 → a9 → a10 → Prop} {G : Prop} (n : Nonempty (a0 × a1 × a2 × a3 × a4 × a5 × a6 × a7 × a8 × a9 × a10)) (h : P (z11 n P).1 (z11 n P).2.1 (z11 n P).2.2.1 (z11 n P).2.2.2.1 (z11 n P).2.2.2.2.1 (z11 n P).2.2.2.2.2.1 (z11 n P).2.2.2.2.2.2.1 (z11 n P).2.2.2.2.2.2.2.1 (z11 n P).2.2.2.2.2.2.2.2.1 (z11 n P).2.2.2.2.2.2.2.2.2.1 (z11 n P).2.2.2.2.2.2.2.2.2.2 → G) (e : ∃ x0 x1 x2 x3 x4 x5 x6 x7 x8 x9 x10, P x0 x1 x2 x3 x4 x5 x6 x7 x8 x9 x10) : G :=
 h (@Classical.epsilon_spec _ (fun z : a0 × a1 × a2 × a3 × a4 × a5 × a6 × a7 × a8 × a9 × a10 => P z.1 z.2.1 z.2.2.1 z.2.2.2.1 z.2.2.2.2.1 z.2.2.2.2.2.1 z.2.2.2.2.2.2.1 z.2.2.2.2.2.2.2.1 z.2.2.2.2.2.2.2.2.1 z.2.2.2.2.2.2.2.2.2.1 z.2.2.2.2.2.2.2.2.2.2) (Mine.X11 (G := ∃ z : a0 × a1 × a2 × a3 × a4 × a5 × a6 × a7 × a8 × a9 × a10, P z.1 z.2.1 z.2.2.1 z.2.2.2.1 z.2.2.2.2.1 z.2.2.2.2.2.1 z.2.2.2.2.2.2.1 z.2.2.2.2.2.2.2.1 z.2.2.2.2.2.2.2.2.1 z.2.2.2.2.2.2.2.2.2.1 z.2.2.2.2.2.2.2.2.2.2) (fun x0 x1 x2 x3 x4 x5 x6 x7 x8 x9 x10 p => ⟨(x0, x1, x2, x3, x4, x5, x6, x7, x8, x9, x10), p⟩) e))
theorem E11 {a0 a1 a2 a3 a4 a5 a6 a7 a8 a9 a10 : Type} {S : a0 → a1 → a2 → a3 → a4 → a5 → a6 → a7 → a8 → a9 → a10 → Prop} (n : Nonempty (a0 × a1 × a2 × a3 × a4 × a5 × a6 × a7 × a8 × a9 × a10)) (h : S (z11 n fun x0 x1 x2 x3 x4 x5 x6 x7 x8 x9 x10 => ¬ S x0 x1 x2 x3 x4 x5 x6 x7 x8 x9 x10).1 (z11 n fun x0 x1 x2 x3 x4 x5 x6 x7 x8 x9 x10 => ¬ S x0 x1 x2 x3 x4 x5 x6 x7 x8 x9 x10).2.1 (z11 n fun x0 x1 x2 x3 x4 x5 x6 x7 x8 x9 x10 => ¬ S x0 x1 x2 x3 x4 x5 x6 x7 x8 x9 x10).2.2.1 (z11 n fun x0 x1 x2 x3 x4 x5 x6 x7 x8 x9 x10 => ¬ S x0 x1 x2 x3 x4 x5 x6 x7 x8 x9 x10).2.2.2.1 (z11 n fun x0 x1 x2 x3 x4 x5 x6 x7 x8 x9 x10 => ¬ S x0 x1 x2 x3 x4 x5 x6 x7 x8 x9 x10).2.2.2.2.1 (z11 n fun x0 x1 x2 x3 x4 x5 x6 x7 x8 x9 x10 => ¬ S x0 x1 x2 x3 x4 x5 x6 x7 x8 x9 x10).2.2.2.2.2.1 (z11 n fun x0 x1 x2 x3 x4 x5 x6 x7 x8 x9 x10 => ¬ S x0 x1 x2 x3 x4 x5 x6 x7 x8 x9 x10).2.2.2.2.2.2.1 (z11 n fun x0 x1 x2 x3 x4 x5 x6 x7 x8 x9 x10 => ¬ S x0 x1 x2 x3 x4 x5 x6 x7 x8 x9 x10).2.2.2.2.2.2.2.1 (z11 n fun x0 x1 x2 x3 x4 x5 x6 x7 x8 x9 x10 => ¬ S x0 x1 x2 x3 x4 x5 x6 x7 x8 x9 x10).2.2.2.2.2.2.2.2.1 (z11 n fun x0 x1 x2 x3 x4 x5 x6 x7 x8 x9 x10 => ¬ S x0 x1 x2 x3 x4 x5 x6 x7 x8 x9 x10).2.2.2.2.2.2.2.2.2.1 (z11 n fun x0 x1 x2 x3 x4 x5 x6 x7 x8 x9 x10 => ¬ S x0 x1 x2 x3 x4 x5 x6 x7 x8 x9 x10).2.2.2.2.2.2.2.2.2.2) (x0 : a0) (x1 : a1) (x2 : a2) (x3 : a3) (x4 : a4) (x5 : a5) (x6 : a6) (x7 : a7) (x8 : a8) (x9 : a9) (x10 : a10) : S x0 x1 x2 x3 x4 x5 x6 x7 x8 x9 x10 :=
 Classical.byContradiction fun k => Y11 (P := fun x0 x1 x2 x3 x4 x5 x6 x7 x8 x9 x10 => ¬ S x0 x1 x2 x3 x4 x5 x6 x7 x8 x9 x10) n (fun m => m h) ⟨x0, ⟨x1, ⟨x2, ⟨x3, ⟨x4, ⟨x5, ⟨x6, ⟨x7, ⟨x8, ⟨x9, ⟨x10, k⟩⟩⟩⟩⟩⟩⟩⟩⟩⟩⟩
noncomputable def z12 {a0 a1 a2 a3 a4 a5 a6 a7 a8 a9 a10 a11 : Type} (n : Nonempty (a0 × a1 × a2 × a3 × a4 × a5 × a6 × a7 × a8 × a9 × a10 × a11)) (P : a0 → a1 → a2 → a3 → a4 → a5 → a6 → a7 → a8 → a9 → a10 → a11 → Prop) : a0 × a1 × a2 × a3 × a4 × a5 × a6 × a7 × a8 × a9 × a10 × a11 := @Classical.epsilon _ n fun z => P z.1 z.2.1 z.2.2.1 z.2.2.2.1 z.2.2.2.2.1 z.2.2.2.2.2.1 z.2.2.2.2.2.2.1 z.2.2.2.2.2.2.2.1 z.2.2.2.2.2.2.2.2.1 z.2.2.2.2.2.2.2.2.2.1 z.2.2.2.2.2.2.2.2.2.2.1 z.2.2.2.2.2.2.2.2.2.2.2
theorem Y12 {a0 a1 a2 a3 a4 a5 a6 a7 a8 a9 a10 a11 : Type} {P : a0 → a1 → a2 → a3 → a4 → a5 → a6 → a7 → a8 → a9 → a10 → a11 → Prop} {G : Prop} (n : Nonempty (a0 × a1 × a2 × a3 × a4 × a5 × a6 × a7 × a8 × a9 × a10 × a11)) (h : P (z12 n P).1 (z12 n P).2.1 (z12 n P).2.2.1 (z12 n P).2.2.2.1 (z12 n P).2.2.2.2.1 (z12 n P).2.2.2.2.2.1 (z12 n P).2.2.2.2.2.2.1 (z12 n P).2.2.2.2.2.2.2.1 (z12 n P).2.2.2.2.2.2.2.2.1 (z12 n P).2.2.2.2.2.2.2.2.2.1 (z12 n P).2.2.2.2.2.2.2.2.2.2.1 (z12 n P).2.2.2.2.2.2.2.2.2.2.2 → G) (e : ∃ x0 x1 x2 x3 x4 x5 x6 x7 x8 x9 x10 x11, P x0 x1 x2 x3 x4 x5 x6 x7 x8 x9 x10 x11) : G :=
 h (@Classical.epsilon_spec _ (fun z : a0 × a1 × a2 × a3 × a4 × a5 × a6 × a7 × a8 × a9 × a10 × a11 => P z.1 z.2.1 z.2.2.1 z.2.2.2.1 z.2.2.2.2.1 z.2.2.2.2.2.1 z.2.2.2.2.2.2.1 z.2.2.2.2.2.2.2.1 z.2.2.2.2.2.2.2.2.1 z.2.2.2.2.2.2.2.2.2.1 z.2.2.2.2.2.2.2.2.2.2.1 z.2.2.2.2.2.2.2.2.2.2.2) (Mine.X12 (G := ∃ z : a0 × a1 × a2 × a3 × a4 × a5 × a6 × a7 × a8 × a9 × a10 × a11, P z.1 z.2.1 z.2.2.1 z.2.2.2.1 z.2.2.2.2.1 z.2.2.2.2.2.1 z.2.2.2.2.2.2.1 z.2.2.2.2.2.2.2.1 z.2.2.2.2.2.2.2.2.1 z.2.2.2.2.2.2.2.2.2.1 z.2.2.2.2.2.2.2.2.2.2.1 z.2.2.2.2.2.2.2.2.2.2.2) (fun x0 x1 x2 x3 x4 x5 x6 x7 x8 x9 x10 x11 p => ⟨(x0, x1, x2, x3, x4, x5, x6, x7, x8, x9, x10, x11), p⟩) e))
theorem E12 {a0 a1 a2 a3 a4 a5 a6 a7 a8 a9 a10 a11 : Type} {S : a0 → a1 → a2 → a3 → a4 → a5 → a6 → a7 → a8 → a9 → a10 → a11 → Prop} (n : Nonempty (a0 × a1 × a2 × a3 × a4 × a5 × a6 × a7 × a8 × a9 × a10 × a11)) (h : S (z12 n fun x0 x1 x2 x3 x4 x5 x6 x7 x8 x9 x10 x11 => ¬ S x0 x1 x2 x3 x4 x5 x6 x7 x8 x9 x10 x11).1 (z12 n fun x0 x1 x2 x3 x4 x5 x6 x7 x8 x9 x10 x11 => ¬ S x0 x1 x2 x3 x4 x5 x6 x7 x8 x9 x10 x11).2.1 (z12 n fun x0 x1 x2 x3 x4 x5 x6 x7 x8 x9 x10 x11 => ¬ S x0 x1 x2 x3 x4 x5 x6 x7 x8 x9 x10 x11).2.2.1 (z12 n fun x0 x1 x2 x3 x4 x5 x6 x7 x8 x9 x10 x11 => ¬ S x0 x1 x2 x3 x4 x5 x6 x7 x8 x9 x10 x11).2.2.2.1 (z12 n fun x0 x1 x2 x3 x4 x5 x6 x7 x8 x9 x10 x11 => ¬ S x0 x1 x2 x3 x4 x5 x6 x7 x8 x9 x10 x11).2.2.2.2.1 (z12 n fun x0 x1 x2 x3 x4 x5 x6 x7 x8 x9 x10 x11 => ¬ S x0 x1 x2 x3 x4 x5 x6 x7 x8 x9 x10 x11).2.2.2.2.2.1 (z12 n fun x0 x1 x2 x3 x4 x5 x6 x7 x8 x9 x10 x11 => ¬ S x0 x1 x2 x3 x4 x5 x6 x7 x8 x9 x10 x11).2.2.2.2.2.2.1 (z12 n fun x0 x1 x2 x3 x4 x5 x6 x7 x8 x9 x10 x11 => ¬ S x0 x1 x2 x3 x4 x5 x6 x7 x8 x9 x10 x11).2.2.2.2.2.2.2.1 (z12 n fun x0 x1 x2 x3 x4 x5 x6 x7 x8 x9 x10 x11 => ¬ S x0 x1 x2 x3 x4 x5 x6 x7 x8 x9 x10 x11).2.2.2.2.2.2.2.2.1 (z12 n fun x0 x1 x2 x3 x4 x5 x6 x7 x8 x9 x10 x11 => ¬ S x0 x1 x2 x3 x4 x5 x6 x7 x8 x9 x10 x11).2.2.2.2.2.2.2.2.2.1 (z12 n fun x0 x1 x2 x3 x4 x5 x6 x7 x8 x9 x10 x11 => ¬ S x0 x1 x2 x3 x4 x5 x6 x7 x8 x9 x10 x11).2.2.2.2.2.2.2.2.2.2.1 (z12 n fun x0 x1 x2 x3 x4 x5 x6 x7 x8 x9 x10 x11 => ¬ S x0 x1 x2 x3 x4 x5 x6 x7 x8 x9 x10 x11).2.2.2.2.2.2.2.2.2.2.2) (x0 : a0) (x1 : a1) (x2 : a2) (x3 : a3) (x4 : a4) (x5 : a5) (x6 : a6) (x7 : a7) (x8 : a8) (x9 : a9) (x10 : a10) (x11 : a11) : S x0 x1 x2 x3 x4 x5 x6 x7 x8 x9 x10 x11 :=
 Classical.byContradiction fun k => Y12 (P := fun x0 x1 x2 x3 x4 x5 x6 x7 x8 x9 x10 x11 => ¬ S x0 x1 x2 x3 x4 x5 x6 x7 x8 x9 x10 x11) n (fun m => m h) ⟨x0, ⟨x1, ⟨x2, ⟨x3, ⟨x4, ⟨x5, ⟨x6, ⟨x7, ⟨x8, ⟨x9, ⟨x10, ⟨x11, k⟩⟩⟩⟩⟩⟩⟩⟩⟩⟩⟩⟩
noncomputable def z13 {a0 a1 a2 a3 a4 a5 a6 a7 a8 a9 a10 a11 a12 : Type} (n : Nonempty (a0 × a1 × a2 × a3 × a4 × a5 × a6 × a7 × a8 × a9 × a10 × a11 × a12)) (P : a0 → a1 → a2 → a3 → a4 → a5 → a6 → a7 → a8 → a9 → a10 → a11 → a12 → Prop) : a0 × a1 × a2 × a3 × a4 × a5 × a6 × a7 × a8 × a9 × a10 × a11 × a12 := @Classical.epsilon _ n fun z => P z.1 z.2.1 z.2.2.1 z.2.2.2.1 z.2.2.2.2.1 z.2.2.2.2.2.1 z.2.2.2.2.2.2.1 z.2.2.2.2.2.2.2.1 z.2.2.2.2.2.2.2.2.1 z.2.2.2.2.2.2.2.2.2.1 z.2.2.2.2.2.2.2.2.2.2.1 z.2.2.2.2.2.2.2.2.2.2.2.1 z.2.2.2.2.2.2.2.2.2.2.2.2
theorem Y13 {a0 a1 a2 a3 a4 a5 a6 a7 a8 a9 a10 a11 a12 : Type} {P : a0 → a1 → a2 → a3 → a4 → a5 → a6 → a7 → a8 → a9 → a10 → a11 → a12 → Prop} {G : Prop} (n : Nonempty (a0 × a1 × a2 × a3 × a4 × a5 × a6 × a7 × a8 × a9 × a10 × a11 × a12)) (h : P (z13 n P).1 (z13 n P).2.1 (z13 n P).2.2.1 (z13 n P).2.2.2.1 (z13 n P).2.2.2.2.1 (z13 n P).2.2.2.2.2.1 (z13 n P).2.2.2.2.2.2.1 (z13 n P).2.2.2.2.2.2.2.1 (z13 n P).2.2.2.2.2.2.2.2.1 (z13 n P).2.2.2.2.2.2.2.2.2.1 (z13 n P).2.2.2.2.2.2.2.2.2.2.1 (z13 n P).2.2.2.2.2.2.2.2.2.2.2.1 (z13 n P).2.2.2.2.2.2.2.2.2.2.2.2 → G) (e : ∃ x0 x1 x2 x3 x4 x5 x6 x7 x8 x9 x10 x11 x12, P x0 x1 x2 x3 x4 x5 x6 x7 x8 x9 x10 x11 x12) : G :=
 h (@Classical.epsilon_spec _ (fun z : a0 × a1 × a2 × a3 × a4 × a5 × a6 × a7 × a8 × a9 × a10 × a11 × a12 => P z.1 z.2.1 z.2.2.1 z.2.2.2.1 z.2.2.2.2.1 z.2.2.2.2.2.1 z.2.2.2.2.2.2.1 z.2.2.2.2.2.2.2.1 z.2.2.2.2.2.2.2.2.1 z.2.2.2.2.2.2.2.2.2.1 z.2.2.2.2.2.2.2.2.2.2.1 z.2.2.2.2.2.2.2.2.2.2.2.1 z.2.2.2.2.2.2.2.2.2.2.2.2) (Mine.X13 (G := ∃ z : a0 × a1 × a2 × a3 × a4 × a5 × a6 × a7 × a8 × a9 × a10 × a11 × a12, P z.1 z.2.1 z.2.2.1 z.2.2.2.1 z.2.2.2.2.1 z.2.2.2.2.2.1 z.2.2.2.2.2.2.1 z.2.2.2.2.2.2.2.1 z.2.2.2.2.2.2.2.2.1 z.2.2.2.2.2.2.2.2.2.1 z.2.2.2.2.2.2.2.2.2.2.1 z.2.2.2.2.2.2.2.2.2.2.2.1 z.2.2.2.2.2.2.2.2.2.2.2.2) (fun x0 x1 x2 x3 x4 x5 x6 x7 x8 x9 x10 x11 x12 p => ⟨(x0, x1, x2, x3, x4, x5, x6, x7, x8, x9, x10, x11, x12), p⟩) e))
theorem E13 {a0 a1 a2 a3 a4 a5 a6 a7 a8 a9 a10 a11 a12 : Type} {S : a0 → a1 → a2 → a3 → a4 → a5 → a6 → a7 → a8 → a9 → a10 → a11 → a12 → Prop} (n : Nonempty (a0 × a1 × a2 × a3 × a4 × a5 × a6 × a7 × a8 × a9 × a10 × a11 × a12)) (h : S (z13 n fun x0 x1 x2 x3 x4 x5 x6 x7 x8 x9 x10 x11 x12 => ¬ S x0 x1 x2 x3 x4 x5 x6 x7 x8 x9 x10 x11 x12).1 (z13 n fun x0 x1 x2 x3 x4 x5 x6 x7 x8 x9 x10 x11 x12 => ¬ S x0 x1 x2 x3 x4 x5 x6 x7 x8 x9 x10 x11 x12).2.1 (z13 n fun x0 x1 x2 x3 x4 x5 x6 x7 x8 x9 x10 x11 x12 => ¬ S x0 x1 x2 x3 x4 x5 x6 x7 x8 x9 x10 x11 x12).2.2.1 (z13 n fun x0 x1 x2 x3 x4 x5 x6 x7 x8 x9 x10 x11 x12 => ¬ S x0 x1 x2 x3 x4 x5 x6 x7 x8 x9 x10 x11 x12).2.2.2.1 (z13 n fun x0 x1 x2 x3 x4 x5 x6 x7 x8 x9 x10 x11 x12 => ¬ S x0 x1 x2 x3 x4 x5 x6 x7 x8 x9 x10 x11 x12).2.2.2.2.1 (z13 n fun x0 x1 x2 x3 x4 x5 x6 x7 x8 x9 x10 x11 x12 => ¬ S x0 x1 x2 x3 x4 x5 x6 x7 x8 x9 x10 x11 x12).2.2.2.2.2.1 (z13 n fun x0 x1 x2 x3 x4 x5 x6 x7 x8 x9 x10 x11 x12 => ¬ S x0 x1 x2 x3 x4 x5 x6 x7 x8 x9 x10 x11 x12).2.2.2.2.2.2.1 (z13 n fun x0 x1 x2 x3 x4 x5 x6 x7 x8 x9 x10 x11 x12 => ¬ S x0 x1 x2 x3 x4 x5 x6 x7 x8 x9 x10 x11 x12).2.2.2.2.2.2.2.1 (z13 n fun x0 x1 x2 x3 x4 x5 x6 x7 x8 x9 x10 x11 x12 => ¬ S x0 x1 x2 x3 x4 x5 x6 x7 x8 x9 x10 x11 x12).2.2.2.2.2.2.2.2.1 (z13 n fun x0 x1 x2 x3 x4 x5 x6 x7 x8 x9 x10 x11 x12 => ¬ S x0 x1 x2 x3 x4 x5 x6 x7 x8 x9 x10 x11 x12).2.2.2.2.2.2.2.2.2.1 (z13 n fun x0 x1 x2 x3 x4 x5 x6 x7 x8 x9 x10 x11 x12 => ¬ S x0 x1 x2 x3 x4 x5 x6 x7 x8 x9 x10 x11 x12).2.2.2.2.2.2.2.2.2.2.1 (z13 n fun x0 x1 x2 x3 x4 x5 x6 x7 x8 x9 x10 x11 x12 => ¬ S x0 x1 x2 x3 x4 x5 x6 x7 x8 x9 x10 x11 x12).2.2.2.2.2.2.2.2.2.2.2.1 (z13 n fun x0 x1 x2 x3 x4 x5 x6 x7 x8 x9 x10 x11 x12 => ¬ S x0 x1 x2 x3 x4 x5 x6 x7 x8 x9 x10 x11 x12).2.2.2.2.2.2.2.2.2.2.2.2) (x0 : a0) (x1 : a1) (x2 : a2) (x3 : a3) (x4 : a4) (x5 : a5) (x6 : a6) (x7 : a7) (x8 : a8) (x9 : a9) (x10 : a10) (x11 : a11) (x12 : a12) : S x0 x1 x2 x3 x4 x5 x6 x7 x8 x9 x10 x11 x12 :=
 Classical.byContradiction fun k => Y13 (P := fun x0 x1 x2 x3 x4 x5 x6 x7 x8 x9 x10 x11 x12 => ¬ S x0 x1 x2 x3 x4 x5 x6 x7 x8 x9 x10 x11 x12) n (fun m => m h) ⟨x0, ⟨x1, ⟨x2, ⟨x3, ⟨x4, ⟨x5, ⟨x6, ⟨x7, ⟨x8, ⟨x9, ⟨x10, ⟨x11, ⟨x12, k⟩⟩⟩⟩⟩⟩⟩⟩⟩⟩⟩⟩⟩
noncomputable def z14 {a0 a1 a2 a3 a4 a5 a6 a7 a8 a9 a10 a11 a12 a13 : Type} (n : Nonempty (a0 × a1 × a2 × a3 × a4 × a5 × a6 × a7 × a8 × a9 × a10 × a11 × a12 × a13)) (P : a0 → a1 → a2 → a3 → a4 → a5 → a6 → a7 → a8 → a9 → a10 → a11 → a12 → a13 → Prop) : a0 × a1 × a2 × a3 × a4 × a5 × a6 × a7 × a8 × a9 × a10 × a11 × a12 × a13 := @Classical.epsilon _ n fun z => P z.1 z.2.1 z.2.2.1 z.2.2.2.1 z.2.2.2.2.1 z.2.2.2.2.2.1 z.2.2.2.2.2.2.1 z.2.2.2.2.2.2.2.1 z.2.2.2.2.2.2.2.2.1 z.2.2.2.2.2.2.2.2.2.1 z.2.2.2.2.2.2.2.2.2.2.1 z.2.2.2.2.2.2.2.2.2.2.2.1 z.2.2.2.2.2.2.2.2.2.2.2.2.1 z.2.2.2.2.2.2.2.2.2.2.2.2.2
theorem Y14 {a0 a1 a2 a3 a4 a5 a6 a7 a8 a9 a10 a11 a12 a13 : Type} {P : a0 → a1 → a2 → a3 → a4 → a5 → a6 → a7 → a8 → a9 → a10 → a11 → a12 → a13 → Prop} {G : Prop} (n : Nonempty (a0 × a1 × a2 × a3 × a4 × a5 × a6 × a7 × a8 × a9 × a10 × a11 × a12 × a13)) (h : P (z14 n P).1 (z14 n P).2.1 (z14 n P).2.2.1 (z14 n P).2.2.2.1 (z14 n P).2.2.2.2.1 (z14 n P).2.2.2.2.2.1 (z14 n P).2.2.2.2.2.2.1 (z14 n P).2.2.2.2.2.2.2.1 (z14 n P).2.2.2.2.2.2.2.2.1 (z14 n P).2.2.2.2.2.2.2.2.2.1 (z14 n P).2.2.2.2.2.2.2.2.2.2.1 (z14 n P).2.2.2.2.2.2.2.2.2.2.2.1 (z14 n P).2.2.2.2.2.2.2.2.2.2.2.2.1 (z14 n P).2.2.2.2.2.2.2.2.2.2.2.2.2 → G) (e : ∃ x0 x1 x2 x3 x4 x5 x6 x7 x8 x9 x10 x11 x12 x13, P x0 x1 x2 x3 x4 x5 x6 x7 x8 x9 x10 x11 x12 x13) : G :=
 h (@Classical.epsilon_spec _ (fun z : a0 × a1 × a2 × a3 × a4 × a5 × a6 × a7 × a8 × a9 × a10 × a11 × a12 × a13 => P z.1 z.2.1 z.2.2.1 z.2.2.2.1 z.2.2.2.2.1 z.2.2.2.2.2.1 z.2.2.2.2.2.2.1 z.2.2.2.2.2.2.2.1 z.2.2.2.2.2.2.2.2.1 z.2.2.2.2.2.2.2.2.2.1 z.2.2.2.2.2.2.2.2.2.2.1 z.2.2.2.2.2.2.2.2.2.2.2.1 z.2.2.2.2.2.2.2.2.2.2.2.2.1 z.2.2.2.2.2.2.2.2.2.2.2.2.2) (Mine.X14 (G := ∃ z : a0 × a1 × a2 × a3 × a4 × a5 × a6 × a7 × a8 × a9 × a10 × a11 × a12 × a13, P z.1 z.2.1 z.2.2.1 z.2.2.2.1 z.2.2.2.2.1 z.2.2.2.2.2.1 z.2.2.2.2.2.2.1 z.2.2.2.2.2.2.2.1 z.2.2.2.2.2.2.2.2.1 z.2.2.2.2.2.2.2.2.2.1 z.2.2.2.2.2.2.2.2.2.2.1 z.2.2.2.2.2.2.2.2.2.2.2.1 z.2.2.2.2.2.2.2.2.2.2.2.2.1 z.2.2.2.2.2.2.2.2.2.2.2.2.2) (fun x0 x1 x2 x3 x4 x5 x6 x7 x8 x9 x10 x11 x12 x13 p => ⟨(x0, x1, x2, x3, x4, x5, x6, x7, x8, x9, x10, x11, x12, x13), p⟩) e))
theorem E14 {a0 a1 a2 a3 a4 a5 a6 a7 a8 a9 a10 a11 a12 a13 : Type} {S : a0 → a1 → a2 → a3 → a4 → a5 → a6 → a7 → a8 → a9 → a10 → a11 → a12 → a13 → Prop} (n : Nonempty (a0 × a1 × a2 × a3 × a4 × a5 × a6 × a7 × a8 × a9 × a10 × a11 × a12 × a13)) (h : S (z14 n fun x0 x1 x2 x3 x4 x5 x6 x7 x8 x9 x10 x11 x12 x13 => ¬ S x0 x1 x2 x3 x4 x5 x6 x7 x8 x9 x10 x11 x12 x13).1 (z14 n fun x0 x1 x2 x3 x4 x5 x6 x7 x8 x9 x10 x11 x12 x13 => ¬ S x0 x1 x2 x3 x4 x5 x6 x7 x8 x9 x10 x11 x12 x13).2.1 (z14 n fun x0 x1 x2 x3 x4 x5 x6 x7 x8 x9 x10 x11 x12 x13 => ¬ S x0 x1 x2 x3 x4 x5 x6 x7 x8 x9 x10 x11 x12 x13).2.2.1 (z14 n fun x0 x1 x2 x3 x4 x5 x6 x7 x8 x9 x10 x11 x12 x13 => ¬ S x0 x1 x2 x3 x4 x5 x6 x7 x8 x9 x10 x11 x12 x13).2.2.2.1 (z14 n fun x0 x1 x2 x3 x4 x5 x6 x7 x8 x9 x10 x11 x12 x13 => ¬ S x0 x1 x2 x3 x4 x5 x6 x7 x8 x9 x10 x11 x12 x13).2.2.2.2.1 (z14 n fun x0 x1 x2 x3 x4 x5 x6 x7 x8 x9 x10 x11 x12 x13 => ¬ S x0 x1 x2 x3 x4 x5 x6 x7 x8 x9 x10 x11 x12 x13).2.2.2.2.2.1 (z14 n fun x0 x1 x2 x3 x4 x5 x6 x7 x8 x9 x10 x11 x12 x13 => ¬ S x0 x1 x2 x3 x4 x5 x6 x7 x8 x9 x10 x11 x12 x13).2.2.2.2.2.2.1 (z14 n fun x0 x1 x2 x3 x4 x5 x6 x7 x8 x9 x10 x11 x12 x13 => ¬ S x0 x1 x2 x3 x4 x5 x6 x7 x8 x9 x10 x11 x12 x13).2.2.2.2.2.2.2.1 (z14 n fun x0 x1 x2 x3 x4 x5 x6 x7 x8 x9 x10 x11 x12 x13 => ¬ S x0 x1 x2 x3 x4 x5 x6 x7 x8 x9 x10 x11 x12 x13).2.2.2.2.2.2.2.2.1 (z14 n fun x0 x1 x2 x3 x4 x5 x6 x7 x8 x9 x10 x11 x12 x13 => ¬ S x0 x1 x2 x3 x4 x5 x6 x7 x8 x9 x10 x11 x12 x13).2.2.2.2.2.2.2.2.2.1 (z14 n fun x0 x1 x2 x3 x4 x5 x6 x7 x8 x9 x10 x11 x12 x13 => ¬ S x0 x1 x2 x3 x4 x5 x6 x7 x8 x9 x10 x11 x12 x13).2.2.2.2.2.2.2.2.2.2.1 (z14 n fun x0 x1 x2 x3 x4 x5 x6 x7 x8 x9 x10 x11 x12 x13 => ¬ S x0 x1 x2 x3 x4 x5 x6 x7 x8 x9 x10 x11 x12 x13).2.2.2.2.2.2.2.2.2.2.2.1 (z14 n fun x0 x1 x2 x3 x4 x5 x6 x7 x8 x9 x10 x11 x12 x13 => ¬ S x0 x1 x2 x3 x4 x5 x6 x7 x8 x9 x10 x11 x12 x13).2.2.2.2.2.2.2.2.2.2.2.2.1 (z14 n fun x0 x1 x2 x3 x4 x5 x6 x7 x8 x9 x10 x11 x12 x13 => ¬ S x0 x1 x2 x3 x4 x5 x6 x7 x8 x9 x10 x11 x12 x13).2.2.2.2.2.2.2.2.2.2.2.2.2) (x0 : a0) (x1 : a1) (x2 : a2) (x3 : a3) (x4 : a4) (x5 : a5) (x6 : a6) (x7 : a7) (x8 : a8) (x9 : a9) (x10 : a10) (x11 : a11) (x12 : a12) (x13 : a13) : S x0 x1 x2 x3 x4 x5 x6 x7 x8 x9 x10 x11 x12 x13 :=
 Classical.byContradiction fun k => Y14 (P := fun x0 x1 x2 x3 x4 x5 x6 x7 x8 x9 x10 x11 x12 x13 => ¬ S x0 x1 x2 x3 x4 x5 x6 x7 x8 x9 x10 x11 x12 x13) n (fun m => m h) ⟨x0, ⟨x1, ⟨x2, ⟨x3, ⟨x4, ⟨x5, ⟨x6, ⟨x7, ⟨x8, ⟨x9, ⟨x10, ⟨x11, ⟨x12, ⟨x13, k⟩⟩⟩⟩⟩⟩⟩⟩⟩⟩⟩⟩⟩⟩
noncomputable def z15 {a0 a1 a2 a3 a4 a5 a6 a7 a8 a9 a10 a11 a12 a13 a14 : Type} (n : Nonempty (a0 × a1 × a2 × a3 × a4 × a5 × a6 × a7 × a8 × a9 × a10 × a11 × a12 × a13 × a14)) (P : a0 → a1 → a2 → a3 → a4 → a5 → a6 → a7 → a8 → a9 → a10 → a11 → a12 → a13 → a14 → Prop) : a0 × a1 × a2 × a3 × a4 × a5 × a6 × a7 × a8 × a9 × a10 × a11 × a12 × a13 × a14 := @Classical.epsilon _ n fun z => P z.1 z.2.1 z.2.2.1 z.2.2.2.1 z.2.2.2.2.1 z.2.2.2.2.2.1 z.2.2.2.2.2.2.1 z.2.2.2.2.2.2.2.1 z.2.2.2.2.2.2.2.2.1 z.2.2.2.2.2.2.2.2.2.1 z.2.2.2.2.2.2.2.2.2.2.1 z.2.2.2.2.2.2.2.2.2.2.2.1 z.2.2.2.2.2.2.2.2.2.2.2.2.1 z.2.2.2.2.2.2.2.2.2.2.2.2.2.1 z.2.2.2.2.2.2.2.2.2.2.2.2.2.2
theorem Y15 {a0 a1 a2 a3 a4 a5 a6 a7 a8 a9 a10 a11 a12 a13 a14 : Type} {P : a0 → a1 → a2 → a3 → a4 → a5 → a6 → a7 → a8 → a9 → a10 → a11 → a12 → a13 → a14 → Prop} {G : Prop} (n : Nonempty (a0 × a1 × a2 × a3 × a4 × a5 × a6 × a7 × a8 × a9 × a10 × a11 × a12 × a13 × a14)) (h : P (z15 n P).1 (z15 n P).2.1 (z15 n P).2.2.1 (z15 n P).2.2.2.1 (z15 n P).2.2.2.2.1 (z15 n P).2.2.2.2.2.1 (z15 n P).2.2.2.2.2.2.1 (z15 n P).2.2.2.2.2.2.2.1 (z15 n P).2.2.2.2.2.2.2.2.1 (z15 n P).2.2.2.2.2.2.2.2.2.1 (z15 n P).2.2.2.2.2.2.2.2.2.2.1 (z15 n P).2.2.2.2.2.2.2.2.2.2.2.1 (z15 n P).2.2.2.2.2.2.2.2.2.2.2.2.1 (z15 n P).2.2.2.2.2.2.2.2.2.2.2.2.2.1 (z15 n P).2.2.2.2.2.2.2.2.2.2.2.2.2.2 → G) (e : ∃ x0 x1 x2 x3 x4 x5 x6 x7 x8 x9 x10 x11 x12 x13 x14, P x0 x1 x2 x3 x4 x5 x6 x7 x8 x9 x10 x11 x12 x13 x14) : G :=
 h (@Classical.epsilon_spec _ (fun z : a0 × a1 × a2 × a3 × a4 × a5 × a6 × a7 × a8 × a9 × a10 × a11 × a12 × a13 × a14 => P z.1 z.2.1 z.2.2.1 z.2.2.2.1 z.2.2.2.2.1 z.2.2.2.2.2.1 z.2.2.2.2.2.2.1 z.2.2.2.2.2.2.2.1 z.2.2.2.2.2.2.2.2.1 z.2.2.2.2.2.2.2.2.2.1 z.2.2.2.2.2.2.2.2.2.2.1 z.2.2.2.2.2.2.2.2.2.2.2.1 z.2.2.2.2.2.2.2.2.2.2.2.2.1 z.2.2.2.2.2.2.2.2.2.2.2.2.2.1 z.2.2.2.2.2.2.2.2.2.2.2.2.2.2) (Mine.X15 (G := ∃ z : a0 × a1 × a2 × a3 × a4 × a5 × a6 × a7 × a8 × a9 × a10 × a11 × a12 × a13 × a14, P z.1 z.2.1 z.2.2.1 z.2.2.2.1 z.2.2.2.2.1 z.2.2.2.2.2.1 z.2.2.2.2.2.2.1 z.2.2.2.2.2.2.2.1 z.2.2.2.2.2.2.2.2.1 z.2.2.2.2.2.2.2.2.2.1 z.2.2.2.2.2.2.2.2.2.2.1 z.2.2.2.2.2.2.2.2.2.2.2.1 z.2.2.2.2.2.2.2.2.2.2.2.2.1 z.2.2.2.2.2.2.2.2.2.2.2.2.2.1 z.2.2.2.2.2.2.2.2.2.2.2.2.2.2) (fun x0 x1 x2 x3 x4 x5 x6 x7 x8 x9 x10 x11 x12 x13 x14 p => ⟨(x0, x1, x2, x3, x4, x5, x6, x7, x8, x9, x10, x11, x12, x13, x14), p⟩) e))
theorem E15 {a0 a1 a2 a3 a4 a5 a6 a7 a8 a9 a10 a11 a12 a13 a14 : Type} {S : a0 → a1 → a2 → a3 → a4 → a5 → a6 → a7 → a8 → a9 → a10 → a11 → a12 → a13 → a14 → Prop} (n : Nonempty (a0 × a1 × a2 × a3 × a4 × a5 × a6 × a7 × a8 × a9 × a10 × a11 × a12 × a13 × a14)) (h : S (z15 n fun x0 x1 x2 x3 x4 x5 x6 x7 x8 x9 x10 x11 x12 x13 x14 => ¬ S x0 x1 x2 x3 x4 x5 x6 x7 x8 x9 x10 x11 x12 x13 x14).1 (z15 n fun x0 x1 x2 x3 x4 x5 x6 x7 x8 x9 x10 x11 x12 x13 x14 => ¬ S x0 x1 x2 x3 x4 x5 x6 x7 x8 x9 x10 x11 x12 x13 x14).2.1 (z15 n fun x0 x1 x2 x3 x4 x5 x6 x7 x8 x9 x10 x11 x12 x13 x14 => ¬ S x0 x1 x2 x3 x4 x5 x6 x7 x8 x9 x10 x11 x12 x13 x14).2.2.1 (z15 n fun x0 x1 x2 x3 x4 x5 x6 x7 x8 x9 x10 x11 x12 x13 x14 => ¬ S x0 x1 x2 x3 x4 x5 x6 x7 x8 x9 x10 x11 x12 x13 x14).2.2.2.1 (z15 n fun x0 x1 x2 x3 x4 x5 x6 x7 x8 x9 x10 x11 x12 x13 x14 => ¬ S x0 x1 x2 x3 x4 x5 x6 x7 x8 x9 x10 x11 x12 x13 x14).2.2.2.2.1 (z15 n fun x0 x1 x2 x3 x4 x5 x6 x7 x8 x9 x10 x11 x12 x13 x14 => ¬ S x0 x1 x2 x3 x4 x5 x6 x7 x8 x9 x10 x11 x12 x13 x14).2.2.2.2.2.1 (z15 n fun x0 x1 x2 x3 x4 x5 x6 x7 x8 x9 x10 x11 x12 x13 x14 => ¬ S x0 x1 x2 x3 x4 x5 x6 x7 x8 x9 x10 x11 x12 x13 x14).2.2.2.2.2.2.1 (z15 n fun x0 x1 x2 x3 x4 x5 x6 x7 x8 x9 x10 x11 x12 x13 x14 => ¬ S x0 x1 x2 x3 x4 x5 x6 x7 x8 x9 x10 x11 x12 x13 x14).2.2.2.2.2.2.2.1 (z15 n fun x0 x1 x2 x3 x4 x5 x6 x7 x8 x9 x10 x11 x12 x13 x14 => ¬ S x0 x1 x2 x3 x4 x5 x6 x7 x8 x9 x10 x11 x12 x13 x14).2.2.2.2.2.2.2.2.1 (z15 n fun x0 x1 x2 x3 x4 x5 x6 x7 x8 x9 x10 x11 x12 x13 x14 => ¬ S x0 x1 x2 x3 x4 x5 x6 x7 x8 x9 x10 x11 x12 x13 x14).2.2.2.2.2.2.2.2.2.1 (z15 n fun x0 x1 x2 x3 x4 x5 x6 x7 x8 x9 x10 x11 x12 x13 x14 => ¬ S x0 x1 x2 x3 x4 x5 x6 x7 x8 x9 x10 x11 x12 x13 x14).2.2.2.2.2.2.2.2.2.2.1 (z15 n fun x0 x1 x2 x3 x4 x5 x6 x7 x8 x9 x10 x11 x12 x13 x14 => ¬ S x0 x1 x2 x3 x4 x5 x6 x7 x8 x9 x10 x11 x12 x13 x14).2.2.2.2.2.2.2.2.2.2.2.1 (z15 n fun x0 x1 x2 x3 x4 x5 x6 x7 x8 x9 x10 x11 x12 x13 x14 => ¬ S x0 x1 x2 x3 x4 x5 x6 x7 x8 x9 x10 x11 x12 x13 x14).2.2.2.2.2.2.2.2.2.2.2.2.1 (z15 n fun x0 x1 x2 x3 x4 x5 x6 x7 x8 x9 x10 x11 x12 x13 x14 => ¬ S x0 x1 x2 x3 x4 x5 x6 x7 x8 x9 x10 x11 x12 x13 x14).2.2.2.2.2.2.2.2.2.2.2.2.2.1 (z15 n fun x0 x1 x2 x3 x4 x5 x6 x7 x8 x9 x10 x11 x12 x13 x14 => ¬ S x0 x1 x2 x3 x4 x5 x6 x7 x8 x9 x10 x11 x12 x13 x14).2.2.2.2.2.2.2.2.2.2.2.2.2.2) (x0 : a0) (x1 : a1) (x2 : a2) (x3 : a3) (x4 : a4) (x5 : a5) (x6 : a6) (x7 : a7) (x8 : a8) (x9 : a9) (x10 : a10) (x11 : a11) (x12 : a12) (x13 : a13) (x14 : a14) : S x0 x1 x2 x3 x4 x5 x6 x7 x8 x9 x10 x11 x12 x13 x14 :=
 Classical.byContradiction fun k => Y15 (P := fun x0 x1 x2 x3 x4 x5 x6 x7 x8 x9 x10 x11 x12 x13 x14 => ¬ S x0 x1 x2 x3 x4 x5 x6 x7 x8 x9 x10 x11 x12 x13 x14) n (fun m => m h) ⟨x0, ⟨x1, ⟨x2, ⟨x3, ⟨x4, ⟨x5, ⟨x6, ⟨x7, ⟨x8, ⟨x9, ⟨x10, ⟨x11, ⟨x12, ⟨x13, ⟨x14, k⟩⟩⟩⟩⟩⟩⟩⟩⟩⟩⟩⟩⟩⟩⟩
noncomputable def z16 {a0 a1 a2 a3 a4 a5 a6 a7 a8 a9 a10 a11 a12 a13 a14 a15 : Type} (n : Nonempty (a0 × a1 × a2 × a3 × a4 × a5 × a6 × a7 × a8 × a9 × a10 × a11 × a12 × a13 × a14 × a15)) (P : a0 → a1 → a2 → a3 → a4 → a5 → a6 → a7 → a8 → a9 → a10 → a11 → a12 → a13 → a14 → a15 → Prop) : a0 × a1 × a2 × a3 × a4 × a5 × a6 × a7 × a8 × a9 × a10 × a11 × a12 × a13 × a14 × a15 := @Classical.epsilon _ n fun z => P z.1 z.2.1 z.2.2.1 z.2.2.2.1 z.2.2.2.2.1 z.2.2.2.2.2.1 z.2.2.2.2.2.2.1 z.2.2.2.2.2.2.2.1 z.2.2.2.2.2.2.2.2.1 z.2.2.2.2.2.2.2.2.2.1 z.2.2.2.2.2.2.2.2.2.2.1 z.2.2.2.2.2.2.2.2.2.2.2.1 z.2.2.2.2.2.2.2.2.2.2.2.2.1 z.2.2.2.2.2.2.2.2.2.2.2.2.2.1 z.2.2.2.2.2.2.2.2.2.2.2.2.2.2.1 z.2.2.2.2.2.2.2.2.2.2.2.2.2.2.2
theorem Y16 {a0 a1 a2 a3 a4 a5 a6 a7 a8 a9 a10 a11 a12 a13 a14 a15 : Type} {P : a0 → a1 → a2 → a3 → a4 → a5 → a6 → a7 → a8 → a9 → a10 → a11 → a12 → a13 → a14 → a15 → Prop} {G : Prop} (n : Nonempty (a0 × a1 × a2 × a3 × a4 × a5 × a6 × a7 × a8 × a9 × a10 × a11 × a12 × a13 × a14 × a15)) (h : P (z16 n P).1 (z16 n P).2.1 (z16 n P).2.2.1 (z16 n P).2.2.2.1 (z16 n P).2.2.2.2.1 (z16 n P).2.2.2.2.2.1 (z16 n P).2.2.2.2.2.2.1 (z16 n P).2.2.2.2.2.2.2.1 (z16 n P).2.2.2.2.2.2.2.2.1 (z16 n P).2.2.2.2.2.2.2.2.2.1 (z16 n P).2.2.2.2.2.2.2.2.2.2.1 (z16 n P).2.2.2.2.2.2.2.2.2.2.2.1 (z16 n P).2.2.2.2.2.2.2.2.2.2.2.2.1 (z16 n P).2.2.2.2.2.2.2.2.2.2.2.2.2.1 (z16 n P).2.2.2.2.2.2.2.2.2.2.2.2.2.2.1 (z16 n P).2.2.2.2.2.2.2.2.2.2.2.2.2.2.2 → G) (e : ∃ x0 x1 x2 x3 x4 x5 x6 x7 x8 x9 x10 x11 x12 x13 x14 x15, P x0 x1 x2 x3 x4 x5 x6 x7 x8 x9 x10 x11 x12 x13 x14 x15) : G :=
 h (@Classical.epsilon_spec _ (fun z : a0 × a1 × a2 × a3 × a4 × a5 × a6 × a7 × a8 × a9 × a10 × a11 × a12 × a13 × a14 × a15 => P z.1 z.2.1 z.2.2.1 z.2.2.2.1 z.2.2.2.2.1 z.2.2.2.2.2.1 z.2.2.2.2.2.2.1 z.2.2.2.2.2.2.2.1 z.2.2.2.2.2.2.2.2.1 z.2.2.2.2.2.2.2.2.2.1 z.2.2.2.2.2.2.2.2.2.2.1 z.2.2.2.2.2.2.2.2.2.2.2.1 z.2.2.2.2.2.2.2.2.2.2.2.2.1 z.2.2.2.2.2.2.2.2.2.2.2.2.2.1 z.2.2.2.2.2.2.2.2.2.2.2.2.2.2.1 z.2.2.2.2.2.2.2.2.2.2.2.2.2.2.2) (Mine.X16 (G := ∃ z : a0 × a1 × a2 × a3 × a4 × a5 × a6 × a7 × a8 × a9 × a10 × a11 × a12 × a13 × a14 × a15, P z.1 z.2.1 z.2.2.1 z.2.2.2.1 z.2.2.2.2.1 z.2.2.2.2.2.1 z.2.2.2.2.2.2.1 z.2.2.2.2.2.2.2.1 z.2.2.2.2.2.2.2.2.1 z.2.2.2.2.2.2.2.2.2.1 z.2.2.2.2.2.2.2.2.2.2.1 z.2.2.2.2.2.2.2.2.2.2.2.1 z.2.2.2.2.2.2.2.2.2.2.2.2.1 z.2.2.2.2.2.2.2.2.2.2.2.2.2.1 z.2.2.2.2.2.2.2.2.2.2.2.2.2.2.1 z.2.2.2.2.2.2.2.2.2.2.2.2.2.2.2) (fun x0 x1 x2 x3 x4 x5 x6 x7 x8 x9 x10 x11 x12 x13 x14 x15 p => ⟨(x0, x1, x2, x3, x4, x5, x6, x7, x8, x9, x10, x11, x12, x13, x14, x15), p⟩) e))
theorem E16 {a0 a1 a2 a3 a4 a5 a6 a7 a8 a9 a10 a11 a12 a13 a14 a15 : Type} {S : a0 → a1 → a2 → a3 → a4 → a5 → a6 → a7 → a8 → a9 → a10 → a11 → a12 → a13 → a14 → a15 → Prop} (n : Nonempty (a0 × a1 × a2 × a3 × a4 × a5 × a6 × a7 × a8 × a9 × a10 × a11 × a12 × a13 × a14 × a15)) (h : S (z16 n fun x0 x1 x2 x3 x4 x5 x6 x7 x8 x9 x10 x11 x12 x13 x14 x15 => ¬ S x0 x1 x2 x3 x4 x5 x6 x7 x8 x9 x10 x11 x12 x13 x14 x15).1 (z16 n fun x0 x1 x2 x3 x4 x5 x6 x7 x8 x9 x10 x11 x12 x13 x14 x15 => ¬ S x0 x1 x2 x3 x4 x5 x6 x7 x8 x9 x10 x11 x12 x13 x14 x15).2.1 (z16 n fun x0 x1 x2 x3 x4 x5 x6 x7 x8 x9 x10 x11 x12 x13 x14 x15 => ¬ S x0 x1 x2 x3 x4 x5 x6 x7 x8 x9 x10 x11 x12 x13 x14 x15).2.2.1 (z16 n fun x0 x1 x2 x3 x4 x5 x6 x7 x8 x9 x10 x11 x12 x13 x14 x15 => ¬ S x0 x1 x2 x3 x4 x5 x6 x7 x8 x9 x10 x11 x12 x13 x14 x15).2.2.2.1 (z16 n fun x0 x1 x2 x3 x4 x5 x6 x7 x8 x9 x10 x11 x12 x13 x14 x15 => ¬ S x0 x1 x2 x3 x4 x5 x6 x7 x8 x9 x10 x11 x12 x13 x14 x15).2.2.2.2.1 (z16 n fun x0 x1 x2 x3 x4 x5 x6 x7 x8 x9 x10 x11 x12 x13 x14 x15 => ¬ S x0 x1 x2 x3 x4 x5 x6 x7 x8 x9 x10 x11 x12 x13 x14 x15).2.2.2.2.2.1 (z16 n fun x0 x1 x2 x3 x4 x5 x6 x7 x8 x9 x10 x11 x12 x13 x14 x15 => ¬ S x0 x1 x2 x3 x4 x5 x6 x7 x8 x9 x10 x11 x12 x13 x14 x15).2.2.2.2.2.2.1 (z16 n fun x0 x1 x2 x3 x4 x5 x6 x7 x8 x9 x10 x11 x12 x13 x14 x15 => ¬ S x0 x1 x2 x3 x4 x5 x6 x7 x8 x9 x10 x11 x12 x13 x14 x15).2.2.2.2.2.2.2.1 (z16 n fun x0 x1 x2 x3 x4 x5 x6 x7 x8 x9 x10 x11 x12 x13 x14 x15 => ¬ S x0 x1 x2 x3 x4 x5 x6 x7 x8 x9 x10 x11 x12 x13 x14 x15).2.2.2.2.2.2.2.2.1 (z16 n fun x0 x1 x2 x3 x4 x5 x6 x7 x8 x9 x10 x11 x12 x13 x14 x15 => ¬ S x0 x1 x2 x3 x4 x5 x6 x7 x8 x9 x10 x11 x12 x13 x14 x15).2.2.2.2.2.2.2.2.2.1 (z16 n fun x0 x1 x2 x3 x4 x5 x6 x7 x8 x9 x10 x11 x12 x13 x14 x15 => ¬ S x0 x1 x2 x3 x4 x5 x6 x7 x8 x9 x10 x11 x12 x13 x14 x15).2.2.2.2.2.2.2.2.2.2.1 (z16 n fun x0 x1 x2 x3 x4 x5 x6 x7 x8 x9 x10 x11 x12 x13 x14 x15 => ¬ S x0 x1 x2 x3 x4 x5 x6 x7 x8 x9 x10 x11 x12 x13 x14 x15).2.2.2.2.2.2.2.2.2.2.2.1 (z16 n fun x0 x1 x2 x3 x4 x5 x6 x7 x8 x9 x10 x11 x12 x13 x14 x15 => ¬ S x0 x1 x2 x3 x4 x5 x6 x7 x8 x9 x10 x11 x12 x13 x14 x15).2.2.2.2.2.2.2.2.2.2.2.2.1 (z16 n fun x0 x1 x2 x3 x4 x5 x6 x7 x8 x9 x10 x11 x12 x13 x14 x15 => ¬ S x0 x1 x2 x3 x4 x5 x6 x7 x8 x9 x10 x11 x12 x13 x14 x15).2.2.2.2.2.2.2.2.2.2.2.2.2.1 (z16 n fun x0 x1 x2 x3 x4 x5 x6 x7 x8 x9 x10 x11 x12 x13 x14 x15 => ¬ S x0 x1 x2 x3 x4 x5 x6 x7 x8 x9 x10 x11 x12 x13 x14 x15).2.2.2.2.2.2.2.2.2.2.2.2.2.2.1 (z16 n fun x0 x1 x2 x3 x4 x5 x6 x7 x8 x9 x10 x11 x12 x13 x14 x15 => ¬ S x0 x1 x2 x3 x4 x5 x6 x7 x8 x9 x10 x11 x12 x13 x14 x15).2.2.2.2.2.2.2.2.2.2.2.2.2.2.2) (x0 : a0) (x1 : a1) (x2 : a2) (x3 : a3) (x4 : a4) (x5 : a5) (x6 : a6) (x7 : a7) (x8 : a8) (x9 : a9) (x10 : a10) (x11 : a11) (x12 : a12) (x13 : a13) (x14 : a14) (x15 : a15) : S x0 x1 x2 x3 x4 x5 x6 x7 x8 x9 x10 x11 x12 x13 x14 x15 :=
 Classical.byContradiction fun k => Y16 (P := fun x0 x1 x2 x3 x4 x5 x6 x7 x8 x9 x10 x11 x12 x13 x14 x15 => ¬ S x0 x1 x2 x3 x4 x5 x6 x7 x8 x9 x10 x11 x12 x13 x14 x15) n (fun m => m h) ⟨x0, ⟨x1, ⟨x2, ⟨x3, ⟨x4, ⟨x5, ⟨x6, ⟨x7, ⟨x8, ⟨x9, ⟨x10, ⟨x11, ⟨x12, ⟨x13, ⟨x14, ⟨x15, k⟩⟩⟩⟩⟩⟩⟩⟩⟩⟩⟩⟩⟩⟩⟩⟩
noncomputable def z17 {a0 a1 a2 a3 a4 a5 a6 a7 a8 a9 a10 a11 a12 a13 a14 a15 a16 : Type} (n : Nonempty (a0 × a1 × a2 × a3 × a4 × a5 × a6 × a7 × a8 × a9 × a10 × a11 × a12 × a13 × a14 × a15 × a16)) (P : a0 → a1 → a2 → a3 → a4 → a5 → a6 → a7 → a8 → a9 → a10 → a11 → a12 → a13 → a14 → a15 → a16 → Prop) : a0 × a1 × a2 × a3 × a4 × a5 × a6 × a7 × a8 × a9 × a10 × a11 × a12 × a13 × a14 × a15 × a16 := @Classical.epsilon _ n fun z => P z.1 z.2.1 z.2.2.1 z.2.2.2.1 z.2.2.2.2.1 z.2.2.2.2.2.1 z.2.2.2.2.2.2.1 z.2.2.2.2.2.2.2.1 z.2.2.2.2.2.2.2.2.1 z.2.2.2.2.2.2.2.2.2.1 z.2.2.2.2.2.2.2.2.2.2.1 z.2.2.2.2.2.2.2.2.2.2.2.1 z.2.2.2.2.2.2.2.2.2.2.2.2.1 z.2.2.2.2.2.2.2.2.2.2.2.2.2.1 z.2.2.2.2.2.2.2.2.2.2.2.2.2.2.1 z.2.2.2.2.2.2.2.2.2.2.2.2.2.2.2.1 z.2.2.2.2.2.2.2.2.2.2.2.2.2.2.2.2
theorem Y17 {a0 a1 a2 a3 a4 a5 a6 a7 a8 a9 a10 a11 a12 a13 a14 a15 a16 : Type} {P : a0 → a1 → a2 → a3 → a4 → a5 → a6 → a7 → a8 → a9 → a10 → a11 → a12 → a13 → a14 → a15 → a16 → Prop} {G : Prop} (n : Nonempty (a0 × a1 × a2 × a3 × a4 × a5 × a6 × a7 × a8 × a9 × a10 × a11 × a12 × a13 × a14 × a15 × a16)) (h : P (z17 n P).1 (z17 n P).2.1 (z17 n P).2.2.1 (z17 n P).2.2.2.1 (z17 n P).2.2.2.2.1 (z17 n P).2.2.2.2.2.1 (z17 n P).2.2.2.2.2.2.1 (z17 n P).2.2.2.2.2.2.2.1 (z17 n P).2.2.2.2.2.2.2.2.1 (z17 n P).2.2.2.2.2.2.2.2.2.1 (z17 n P).2.2.2.2.2.2.2.2.2.2.1 (z17 n P).2.2.2.2.2.2.2.2.2.2.2.1 (z17 n P).2.2.2.2.2.2.2.2.2.2.2.2.1 (z17 n P).2.2.2.2.2.2.2.2.2.2.2.2.2.1 (z17 n P).2.2.2.2.2.2.2.2.2.2.2.2.2.2.1 (z17 n P).2.2.2.2.2.2.2.2.2.2.2.2.2.2.2.1 (z17 n P).2.2.2.2.2.2.2.2.2.2.2.2.2.2.2.2 → G) (e : ∃ x0 x1 x2 x3 x4 x5 x6 x7 x8 x9 x10 x11 x12 x13 x14 x15 x16, P x0 x1 x2 x3 x4 x5 x6 x7 x8 x9 x10 x11 x12 x13 x14 x15 x16) : G :=
 h (@Classical.epsilon_spec _ (fun z : a0 × a1 × a2 × a3 × a4 × a5 × a6 × a7 × a8 × a9 × a10 × a11 × a12 × a13 × a14 × a15 × a16 => P z.1 z.2.1 z.2.2.1 z.2.2.2.1 z.2.2.2.2.1 z.2.2.2.2.2.1 z.2.2.2.2.2.2.1 z.2.2.2.2.2.2.2.1 z.2.2.2.2.2.2.2.2.1 z.2.2.2.2.2.2.2.2.2.1 z.2.2.2.2.2.2.2.2.2.2.1 z.2.2.2.2.2.2.2.2.2.2.2.1 z.2.2.2.2.2.2.2.2.2.2.2.2.1 z.2.2.2.2.2.2.2.2.2.2.2.2.2.1 z.2.2.2.2.2.2.2.2.2.2.2.2.2.2.1 z.2.2.2.2.2.2.2.2.2.2.2.2.2.2.2.1 z.2.2.2.2.2.2.2.2.2.2.2.2.2.2.2.2) (Mine.X17 (G := ∃ z : a0 × a1 × a2 × a3 × a4 × a5 × a6 × a7 × a8 × a9 × a10 × a11 × a12 × a13 × a14 × a15 × a16, P z.1 z.2.1 z.2.2.1 z.2.2.2.1 z.2.2.2.2.1 z.2.2.2.2.2.1 z.2.2.2.2.2.2.1 z.2.2.2.2.2.2.2.1 z.2.2.2.2.2.2.2.2.1 z.2.2.2.2.2.2.2.2.2.1 z.2.2.2.2.2.2.2.2.2.2.1 z.2.2.2.2.2.2.2.2.2.2.2.1 z.2.2.2.2.2.2.2.2.2.2.2.2.1 z.2.2.2.2.2.2.2.2.2.2.2.2.2.1 z.2.2.2.2.2.2.2.2.2.2.2.2.2.2.1 z.2.2.2.2.2.2.2.2.2.2.2.2.2.2.2.1 z.2.2.2.2.2.2.2.2.2.2.2.2.2.2.2.2) (fun x0 x1 x2 x3 x4 x5 x6 x7 x8 x9 x10 x11 x12 x13 x14 x15 x16 p => ⟨(x0, x1, x2, x3, x4, x5, x6, x7, x8, x9, x10, x11, x12, x13, x14, x15, x16), p⟩) e))
noncomputable def z18 {a0 a1 a2 a3 a4 a5 a6 a7 a8 a9 a10 a11 a12 a13 a14 a15 a16 a17 : Type} (n : Nonempty (a0 × a1 × a2 × a3 × a4 × a5 × a6 × a7 × a8 × a9 × a10 × a11 × a12 × a13 × a14 × a15 × a16 × a17)) (P : a0 → a1 → a2 → a3 → a4 → a5 → a6 → a7 → a8 → a9 → a10 → a11 → a12 → a13 → a14 → a15 → a16 → a17 → Prop) : a0 × a1 × a2 × a3 × a4 × a5 × a6 × a7 × a8 × a9 × a10 × a11 × a12 × a13 × a14 × a15 × a16 × a17 := @Classical.epsilon _ n fun z => P z.1 z.2.1 z.2.2.1 z.2.2.2.1 z.2.2.2.2.1 z.2.2.2.2.2.1 z.2.2.2.2.2.2.1 z.2.2.2.2.2.2.2.1 z.2.2.2.2.2.2.2.2.1 z.2.2.2.2.2.2.2.2.2.1 z.2.2.2.2.2.2.2.2.2.2.1 z.2.2.2.2.2.2.2.2.2.2.2.1 z.2.2.2.2.2.2.2.2.2.2.2.2.1 z.2.2.2.2.2.2.2.2.2.2.2.2.2.1 z.2.2.2.2.2.2.2.2.2.2.2.2.2.2.1 z.2.2.2.2.2.2.2.2.2.2.2.2.2.2.2.1 z.2.2.2.2.2.2.2.2.2.2.2.2.2.2.2.2.1 z.2.2.2.2.2.2.2.2.2.2.2.2.2.2.2.2.2
theorem Y18 {a0 a1 a2 a3 a4 a5 a6 a7 a8 a9 a10 a11 a12 a13 a14 a15 a16 a17 : Type} {P : a0 → a1 → a2 → a3 → a4 → a5 → a6 → a7 → a8 → a9 → a10 → a11 → a12 → a13 → a14 → a15 → a16 → a17 → Prop} {G : Prop} (n : Nonempty (a0 × a1 × a2 × a3 × a4 × a5 × a6 × a7 × a8 × a9 × a10 × a11 × a12 × a13 × a14 × a15 × a16 × a17)) (h : P (z18 n P).1 (z18 n P).2.1 (z18 n P).2.2.1 (z18 n P).2.2.2.1 (z18 n P).2.2.2.2.1 (z18 n P).2.2.2.2.2.1 (z18 n P).2.2.2.2.2.2.1 (z18 n P).2.2.2.2.2.2.2.1 (z18 n P).2.2.2.2.2.2.2.2.1 (z18 n P).2.2.2.2.2.2.2.2.2.1 (z18 n P).2.2.2.2.2.2.2.2.2.2.1 (z18 n P).2.2.2.2.2.2.2.2.2.2.2.1 (z18 n P).2.2.2.2.2.2.2.2.2.2.2.2.1 (z18 n P).2.2.2.2.2.2.2.2.2.2.2.2.2.1 (z18 n P).2.2.2.2.2.2.2.2.2.2.2.2.2.2.1 (z18 n P).2.2.2.2.2.2.2.2.2.2.2.2.2.2.2.1 (z18 n P).2.2.2.2.2.2.2.2.2.2.2.2.2.2.2.2.1 (z18 n P).2.2.2.2.2.2.2.2.2.2.2.2.2.2.2.2.2 → G) (e : ∃ x0 x1 x2 x3 x4 x5 x6 x7 x8 x9 x10 x11 x12 x13 x14 x15 x16 x17, P x0 x1 x2 x3 x4 x5 x6 x7 x8 x9 x10 x11 x12 x13 x14 x15 x16 x17) : G :=
 h (@Classical.epsilon_spec _ (fun z : a0 × a1 × a2 × a3 × a4 × a5 × a6 × a7 × a8 × a9 × a10 × a11 × a12 × a13 × a14 × a15 × a16 × a17 => P z.1 z.2.1 z.2.2.1 z.2.2.2.1 z.2.2.2.2.1 z.2.2.2.2.2.1 z.2.2.2.2.2.2.1 z.2.2.2.2.2.2.2.1 z.2.2.2.2.2.2.2.2.1 z.2.2.2.2.2.2.2.2.2.1 z.2.2.2.2.2.2.2.2.2.2.1 z.2.2.2.2.2.2.2.2.2.2.2.1 z.2.2.2.2.2.2.2.2.2.2.2.2.1 z.2.2.2.2.2.2.2.2.2.2.2.2.2.1 z.2.2.2.2.2.2.2.2.2.2.2.2.2.2.1 z.2.2.2.2.2.2.2.2.2.2.2.2.2.2.2.1 z.2.2.2.2.2.2.2.2.2.2.2.2.2.2.2.2.1 z.2.2.2.2.2.2.2.2.2.2.2.2.2.2.2.2.2) (Mine.X18 (G := ∃ z : a0 × a1 × a2 × a3 × a4 × a5 × a6 × a7 × a8 × a9 × a10 × a11 × a12 × a13 × a14 × a15 × a16 × a17, P z.1 z.2.1 z.2.2.1 z.2.2.2.1 z.2.2.2.2.1 z.2.2.2.2.2.1 z.2.2.2.2.2.2.1 z.2.2.2.2.2.2.2.1 z.2.2.2.2.2.2.2.2.1 z.2.2.2.2.2.2.2.2.2.1 z.2.2.2.2.2.2.2.2.2.2.1 z.2.2.2.2.2.2.2.2.2.2.2.1 z.2.2.2.2.2.2.2.2.2.2.2.2.1 z.2.2.2.2.2.2.2.2.2.2.2.2.2.1 z.2.2.2.2.2.2.2.2.2.2.2.2.2.2.1 z.2.2.2.2.2.2.2.2.2.2.2.2.2.2.2.1 z.2.2.2.2.2.2.2.2.2.2.2.2.2.2.2.2.1 z.2.2.2.2.2.2.2.2.2.2.2.2.2.2.2.2.2) (fun x0 x1 x2 x3 x4 x5 x6 x7 x8 x9 x10 x11 x12 x13 x14 x15 x16 x17 p => ⟨(x0, x1, x2, x3, x4, x5, x6, x7, x8, x9, x10, x11, x12, x13, x14, x15, x16, x17), p⟩) e))
theorem E18 {a0 a1 a2 a3 a4 a5 a6 a7 a8 a9 a10 a11 a12 a13 a14 a15 a16 a17 : Type} {S : a0 → a1 → a2 → a3 → a4 → a5 → a6 → a7 → a8 → a9 → a10 → a11 → a12 → a13 → a14 → a15 → a16 → a17 → Prop} (n : Nonempty (a0 × a1 × a2 × a3 × a4 × a5 × a6 × a7 × a8 × a9 × a10 × a11 × a12 × a13 × a14 × a15 × a16 × a17)) (h : S (z18 n fun x0 x1 x2 x3 x4 x5 x6 x7 x8 x9 x10 x11 x12 x13 x14 x15 x16 x17 => ¬ S x0 x1 x2 x3 x4 x5 x6 x7 x8 x9 x10 x11 x12 x13 x14 x15 x16 x17).1 (z18 n fun x0 x1 x2 x3 x4 x5 x6 x7 x8 x9 x10 x11 x12 x13 x14 x15 x16 x17 => ¬ S x0 x1 x2 x3 x4 x5 x6 x7 x8 x9 x10 x11 x12 x13 x14 x15 x16 x17).2.1 (z18 n fun x0 x1 x2 x3 x4 x5 x6 x7 x8 x9 x10 x11 x12 x13 x14 x15 x16 x17 => ¬ S x0 x1 x2 x3 x4 x5 x6 x7 x8 x9 x10 x11 x12 x13 x14 x15 x16 x17).2.2.1 (z18 n fun x0 x1 x2 x3 x4 x5 x6 x7 x8 x9 x10 x11 x12 x13 x14 x15 x16 x17 => ¬ S x0 x1 x2 x3 x4 x5 x6 x7 x8 x9 x10 x11 x12 x13 x14 x15 x16 x17).2.2.2.1 (z18 n fun x0 x1 x2 x3 x4 x5 x6 x7 x8 x9 x10 x11 x12 x13 x14 x15 x16 x17 => ¬ S x0 x1 x2 x3 x4 x5 x6 x7 x8 x9 x10 x11 x12 x13 x14 x15 x16 x17).2.2.2.2.1 (z18 n fun x0 x1 x2 x3 x4 x5 x6 x7 x8 x9 x10 x11 x12 x13 x14 x15 x16 x17 => ¬ S x0 x1 x2 x3 x4 x5 x6 x7 x8 x9 x10 x11 x12 x13 x14 x15 x16 x17).2.2.2.2.2.1 (z18 n fun x0 x1 x2 x3 x4 x5 x6 x7 x8 x9 x10 x11 x12 x13 x14 x15 x16 x17 => ¬ S x0 x1 x2 x3 x4 x5 x6 x7 x8 x9 x10 x11 x12 x13 x14 x15 x16 x17).2.2.2.2.2.2.1 (z18 n fun x0 x1 x2 x3 x4 x5 x6 x7 x8 x9 x10 x11 x12 x13 x14 x15 x16 x17 => ¬ S x0 x1 x2 x3 x4 x5 x6 x7 x8 x9 x10 x11 x12 x13 x14 x15 x16 x17).2.2.2.2.2.2.2.1 (z18 n fun x0 x1 x2 x3 x4 x5 x6 x7 x8 x9 x10 x11 x12 x13 x14 x15 x16 x17 => ¬ S x0 x1 x2 x3 x4 x5 x6 x7 x8 x9 x10 x11 x12 x13 x14 x15 x16 x17).2.2.2.2.2.2.2.2.1 (z18 n fun x0 x1 x2 x3 x4 x5 x6 x7 x8 x9 x10 x11 x12 x13 x14 x15 x16 x17 => ¬ S x0 x1 x2 x3 x4 x5 x6 x7 x8 x9 x10 x11 x12 x13 x14 x15 x16 x17).2.2.2.2.2.2.2.2.2.1 (z18 n fun x0 x1 x2 x3 x4 x5 x6 x7 x8 x9 x10 x11 x12 x13 x14 x15 x16 x17 => ¬ S x0 x1 x2 x3 x4 x5 x6 x7 x8 x9 x10 x11 x12 x13 x14 x15 x16 x17).2.2.2.2.2.2.2.2.2.2.1 (z18 n fun x0 x1 x2 x3 x4 x5 x6 x7 x8 x9 x10 x11 x12 x13 x14 x15 x16 x17 => ¬ S x0 x1 x2 x3 x4 x5 x6 x7 x8 x9 x10 x11 x12 x13 x14 x15 x16 x17).2.2.2.2.2.2.2.2.2.2.2.1 (z18 n fun x0 x1 x2 x3 x4 x5 x6 x7 x8 x9 x10 x11 x12 x13 x14 x15 x16 x17 => ¬ S x0 x1 x2 x3 x4 x5 x6 x7 x8 x9 x10 x11 x12 x13 x14 x15 x16 x17).2.2.2.2.2.2.2.2.2.2.2.2.1 (z18 n fun x0 x1 x2 x3 x4 x5 x6 x7 x8 x9 x10 x11 x12 x13 x14 x15 x16 x17 => ¬ S x0 x1 x2 x3 x4 x5 x6 x7 x8 x9 x10 x11 x12 x13 x14 x15 x16 x17).2.2.2.2.2.2.2.2.2.2.2.2.2.1 (z18 n fun x0 x1 x2 x3 x4 x5 x6 x7 x8 x9 x10 x11 x12 x13 x14 x15 x16 x17 => ¬ S x0 x1 x2 x3 x4 x5 x6 x7 x8 x9 x10 x11 x12 x13 x14 x15 x16 x17).2.2.2.2.2.2.2.2.2.2.2.2.2.2.1 (z18 n fun x0 x1 x2 x3 x4 x5 x6 x7 x8 x9 x10 x11 x12 x13 x14 x15 x16 x17 => ¬ S x0 x1 x2 x3 x4 x5 x6 x7 x8 x9 x10 x11 x12 x13 x14 x15 x16 x17).2.2.2.2.2.2.2.2.2.2.2.2.2.2.2.1 (z18 n fun x0 x1 x2 x3 x4 x5 x6 x7 x8 x9 x10 x11 x12 x13 x14 x15 x16 x17 => ¬ S x0 x1 x2 x3 x4 x5 x6 x7 x8 x9 x10 x11 x12 x13 x14 x15 x16 x17).2.2.2.2.2.2.2.2.2.2.2.2.2.2.2.2.1 (z18 n fun x0 x1 x2 x3 x4 x5 x6 x7 x8 x9 x10 x11 x12 x13 x14 x15 x16 x17 => ¬ S x0 x1 x2 x3 x4 x5 x6 x7 x8 x9 x10 x11 x12 x13 x14 x15 x16 x17).2.2.2.2.2.2.2.2.2.2.2.2.2.2.2.2.2) (x0 : a0) (x1 : a1) (x2 : a2) (x3 : a3) (x4 : a4) (x5 : a5) (x6 : a6) (x7 : a7) (x8 : a8) (x9 : a9) (x10 : a10) (x11 : a11) (x12 : a12) (x13 : a13) (x14 : a14) (x15 : a15) (x16 : a16) (x17 : a17) : S x0 x1 x2 x3 x4 x5 x6 x7 x8 x9 x10 x11 x12 x13 x14 x15 x16 x17 :=
 Classical.byContradiction fun k => Y18 (P := fun x0 x1 x2 x3 x4 x5 x6 x7 x8 x9 x10 x11 x12 x13 x14 x15 x16 x17 => ¬ S x0 x1 x2 x3 x4 x5 x6 x7 x8 x9 x10 x11 x12 x13 x14 x15 x16 x17) n (fun m => m h) ⟨x0, ⟨x1, ⟨x2, ⟨x3, ⟨x4, ⟨x5, ⟨x6, ⟨x7, ⟨x8, ⟨x9, ⟨x10, ⟨x11, ⟨x12, ⟨x13, ⟨x14, ⟨x15, ⟨x16, ⟨x17, k⟩⟩⟩⟩⟩⟩⟩⟩⟩⟩⟩⟩⟩⟩⟩⟩⟩⟩
noncomputable def z19 {a0 a1 a2 a3 a4 a5 a6 a7 a8 a9 a10 a11 a12 a13 a14 a15 a16 a17 a18 : Type} (n : Nonempty (a0 × a1 × a2 × a3 × a4 × a5 × a6 × a7 × a8 × a9 × a10 × a11 × a12 × a13 × a14 × a15 × a16 × a17 × a18)) (P : a0 → a1 → a2 → a3 → a4 → a5 → a6 → a7 → a8 → a9 → a10 → a11 → a12 → a13 → a14 → a15 → a16 → a17 → a18 → Prop) : a0 × a1 × a2 × a3 × a4 × a5 × a6 × a7 × a8 × a9 × a10 × a11 × a12 × a13 × a14 × a15 × a16 × a17 × a18 := @Classical.epsilon _ n fun z => P z.1 z.2.1 z.2.2.1 z.2.2.2.1 z.2.2.2.2.1 z.2.2.2.2.2.1 z.2.2.2.2.2.2.1 z.2.2.2.2.2.2.2.1 z.2.2.2.2.2.2.2.2.1 z.2.2.2.2.2.2.2.2.2.1 z.2.2.2.2.2.2.2.2.2.2.1 z.2.2.2.2.2.2.2.2.2.2.2.1 z.2.2.2.2.2.2.2.2.2.2.2.2.1 z.2.2.2.2.2.2.2.2.2.2.2.2.2.1 z.2.2.2.2.2.2.2.2.2.2.2.2.2.2.1 z.2.2.2.2.2.2.2.2.2.2.2.2.2.2.2.1 z.2.2.2.2.2.2.2.2.2.2.2.2.2.2.2.2.1 z.2.2.2.2.2.2.2.2.2.2.2.2.2.2.2.2.2.1 z.2.2.2.2.2.2.2.2.2.2.2.2.2.2.2.2.2.2
theorem Y19 {a0 a1 a2 a3 a4 a5 a6 a7 a8 a9 a10 a11 a12 a13 a14 a15 a16 a17 a18 : Type} {P : a0 → a1 → a2 → a3 → a4 → a5 → a6 → a7 → a8 → a9 → a10 → a11 → a12 → a13 → a14 → a15 → a16 → a17 → a18 → Prop} {G : Prop} (n : Nonempty (a0 × a1 × a2 × a3 × a4 × a5 × a6 × a7 × a8 × a9 × a10 × a11 × a12 × a13 × a14 × a15 × a16 × a17 × a18)) (h : P (z19 n P).1 (z19 n P).2.1 (z19 n P).2.2.1 (z19 n P).2.2.2.1 (z19 n P).2.2.2.2.1 (z19 n P).2.2.2.2.2.1 (z19 n P).2.2.2.2.2.2.1 (z19 n P).2.2.2.2.2.2.2.1 (z19 n P).2.2.2.2.2.2.2.2.1 (z19 n P).2.2.2.2.2.2.2.2.2.1 (z19 n P).2.2.2.2.2.2.2.2.2.2.1 (z19 n P).2.2.2.2.2.2.2.2.2.2.2.1 (z19 n P).2.2.2.2.2.2.2.2.2.2.2.2.1 (z19 n P).2.2.2.2.2.2.2.2.2.2.2.2.2.1 (z19 n P).2.2.2.2.2.2.2.2.2.2.2.2.2.2.1 (z19 n P).2.2.2.2.2.2.2.2.2.2.2.2.2.2.2.1 (z19 n P).2.2.2.2.2.2.2.2.2.2.2.2.2.2.2.2.1 (z19 n P).2.2.2.2.2.2.2.2.2.2.2.2.2.2.2.2.2.1 (z19 n P).2.2.2.2.2.2.2.2.2.2.2.2.2.2.2.2.2.2 → G) (e : ∃ x0 x1 x2 x3 x4 x5 x6 x7 x8 x9 x10 x11 x12 x13 x14 x15 x16 x17 x18, P x0 x1 x2 x3 x4 x5 x6 x7 x8 x9 x10 x11 x12 x13 x14 x15 x16 x17 x18) : G :=
 h (@Classical.epsilon_spec _ (fun z : a0 × a1 × a2 × a3 × a4 × a5 × a6 × a7 × a8 × a9 × a10 × a11 × a12 × a13 × a14 × a15 × a16 × a17 × a18 => P z.1 z.2.1 z.2.2.1 z.2.2.2.1 z.2.2.2.2.1 z.2.2.2.2.2.1 z.2.2.2.2.2.2.1 z.2.2.2.2.2.2.2.1 z.2.2.2.2.2.2.2.2.1 z.2.2.2.2.2.2.2.2.2.1 z.2.2.2.2.2.2.2.2.2.2.1 z.2.2.2.2.2.2.2.2.2.2.2.1 z.2.2.2.2.2.2.2.2.2.2.2.2.1 z.2.2.2.2.2.2.2.2.2.2.2.2.2.1 z.2.2.2.2.2.2.2.2.2.2.2.2.2.2.1 z.2.2.2.2.2.2.2.2.2.2.2.2.2.2.2.1 z.2.2.2.2.2.2.2.2.2.2.2.2.2.2.2.2.1 z.2.2.2.2.2.2.2.2.2.2.2.2.2.2.2.2.2.1 z.2.2.2.2.2.2.2.2.2.2.2.2.2.2.2.2.2.2) (Mine.X19 (G := ∃ z : a0 × a1 × a2 × a3 × a4 × a5 × a6 × a7 × a8 × a9 × a10 × a11 × a12 × a13 × a14 × a15 × a16 × a17 × a18, P z.1 z.2.1 z.2.2.1 z.2.2.2.1 z.2.2.2.2.1 z.2.2.2.2.2.1 z.2.2.2.2.2.2.1 z.2.2.2.2.2.2.2.1 z.2.2.2.2.2.2.2.2.1 z.2.2.2.2.2.2.2.2.2.1 z.2.2.2.2.2.2.2.2.2.2.1 z.2.2.2.2.2.2.2.2.2.2.2.1 z.2.2.2.2.2.2.2.2.2.2.2.2.1 z.2.2.2.2.2.2.2.2.2.2.2.2.2.1 z.2.2.2.2.2.2.2.2.2.2.2.2.2.2.1 z.2.2.2.2.2.2.2.2.2.2.2.2.2.2.2.1 z.2.2.2.2.2.2.2.2.2.2.2.2.2.2.2.2.1 z.2.2.2.2.2.2.2.2.2.2.2.2.2.2.2.2.2.1 z.2.2.2.2.2.2.2.2.2.2.2.2.2.2.2.2.2.2) (fun x0 x1 x2 x3 x4 x5 x6 x7 x8 x9 x10 x11 x12 x13 x14 x15 x16 x17 x18 p => ⟨(x0, x1, x2, x3, x4, x5, x6, x7, x8, x9, x10, x11, x12, x13, x14, x15, x16, x17, x18), p⟩) e))
theorem E19 {a0 a1 a2 a3 a4 a5 a6 a7 a8 a9 a10 a11 a12 a13 a14 a15 a16 a17 a18 : Type} {S : a0 → a1 → a2 → a3 → a4 → a5 → a6 → a7 → a8 → a9 → a10 → a11 → a12 → a13 → a14 → a15 → a16 → a17 → a18 → Prop} (n : Nonempty (a0 × a1 × a2 × a3 × a4 × a5 × a6 × a7 × a8 × a9 × a10 × a11 × a12 × a13 × a14 × a15 × a16 × a17 × a18)) (h : S (z19 n fun x0 x1 x2 x3 x4 x5 x6 x7 x8 x9 x10 x11 x12 x13 x14 x15 x16 x17 x18 => ¬ S x0 x1 x2 x3 x4 x5 x6 x7 x8 x9 x10 x11 x12 x13 x14 x15 x16 x17 x18).1 (z19 n fun x0 x1 x2 x3 x4 x5 x6 x7 x8 x9 x10 x11 x12 x13 x14 x15 x16 x17 x18 => ¬ S x0 x1 x2 x3 x4 x5 x6 x7 x8 x9 x10 x11 x12 x13 x14 x15 x16 x17 x18).2.1 (z19 n fun x0 x1 x2 x3 x4 x5 x6 x7 x8 x9 x10 x11 x12 x13 x14 x15 x16 x17 x18 => ¬ S x0 x1 x2 x3 x4 x5 x6 x7 x8 x9 x10 x11 x12 x13 x14 x15 x16 x17 x18).2.2.1 (z19 n fun x0 x1 x2 x3 x4 x5 x6 x7 x8 x9 x10 x11 x12 x13 x14 x15 x16 x17 x18 => ¬ S x0 x1 x2 x3 x4 x5 x6 x7 x8 x9 x10 x11 x12 x13 x14 x15 x16 x17 x18).2.2.2.1 (z19 n fun x0 x1 x2 x3 x4 x5 x6 x7 x8 x9 x10 x11 x12 x13 x14 x15 x16 x17 x18 => ¬ S x0 x1 x2 x3 x4 x5 x6 x7 x8 x9 x10 x11 x12 x13 x14 x15 x16 x17 x18).2.2.2.2.1 (z19 n fun x0 x1 x2 x3 x4 x5 x6 x7 x8 x9 x10 x11 x12 x13 x14 x15 x16 x17 x18 => ¬ S x0 x1 x2 x3 x4 x5 x6 x7 x8 x9 x10 x11 x12 x13 x14 x15 x16 x17 x18).2.2.2.2.2.1 (z19 n fun x0 x1 x2 x3 x4 x5 x6 x7 x8 x9 x10 x11 x12 x13 x14 x15 x16 x17 x18 => ¬ S x0 x1 x2 x3 x4 x5 x6 x7 x8 x9 x10 x11 x12 x13 x14 x15 x16 x17 x18).2.2.2.2.2.2.1 (z19 n fun x0 x1 x2 x3 x4 x5 x6 x7 x8 x9 x10 x11 x12 x13 x14 x15 x16 x17 x18 => ¬ S x0 x1 x2 x3 x4 x5 x6 x7 x8 x9 x10 x11 x12 x13 x14 x15 x16 x17 x18).2.2.2.2.2.2.2.1 (z19 n fun x0 x1 x2 x3 x4 x5 x6 x7 x8 x9 x10 x11 x12 x13 x14 x15 x16 x17 x18 => ¬ S x0 x1 x2 x3 x4 x5 x6 x7 x8 x9 x10 x11 x12 x13 x14 x15 x16 x17 x18).2.2.2.2.2.2.2.2.1 (z19 n fun x0 x1 x2 x3 x4 x5 x6 x7 x8 x9 x10 x11 x12 x13 x14 x15 x16 x17 x18 => ¬ S x0 x1 x2 x3 x4 x5 x6 x7 x8 x9 x10 x11 x12 x13 x14 x15 x16 x17 x18).2.2.2.2.2.2.2.2.2.1 (z19 n fun x0 x1 x2 x3 x4 x5 x6 x7 x8 x9 x10 x11 x12 x13 x14 x15 x16 x17 x18 => ¬ S x0 x1 x2 x3 x4 x5 x6 x7 x8 x9 x10 x11 x12 x13 x14 x15 x16 x17 x18).2.2.2.2.2.2.2.2.2.2.1 (z19 n fun x0 x1 x2 x3 x4 x5 x6 x7 x8 x9 x10 x11 x12 x13 x14 x15 x16 x17 x18 => ¬ S x0 x1 x2 x3 x4 x5 x6 x7 x8 x9 x10 x11 x12 x13 x14 x15 x16 x17 x18).2.2.2.2.2.2.2.2.2.2.2.1 (z19 n fun x0 x1 x2 x3 x4 x5 x6 x7 x8 x9 x10 x11 x12 x13 x14 x15 x16 x17 x18 => ¬ S x0 x1 x2 x3 x4 x5 x6 x7 x8 x9 x10 x11 x12 x13 x14 x15 x16 x17 x18).2.2.2.2.2.2.2.2.2.2.2.2.1 (z19 n fun x0 x1 x2 x3 x4 x5 x6 x7 x8 x9 x10 x11 x12 x13 x14 x15 x16 x17 x18 => ¬ S x0 x1 x2 x3 x4 x5 x6 x7 x8 x9 x10 x11 x12 x13 x14 x15 x16 x17 x18).2.2.2.2.2.2.2.2.2.2.2.2.2.1 (z19 n fun x0 x1 x2 x3 x4 x5 x6 x7 x8 x9 x10 x11 x12 x13 x14 x15 x16 x17 x18 => ¬ S x0 x1 x2 x3 x4 x5 x6 x7 x8 x9 x10 x11 x12 x13 x14 x15 x16 x17 x18).2.2.2.2.2.2.2.2.2.2.2.2.2.2.1 (z19 n fun x0 x1 x2 x3 x4 x5 x6 x7 x8 x9 x10 x11 x12 x13 x14 x15 x16 x17 x18 => ¬ S x0 x1 x2 x3 x4 x5 x6 x7 x8 x9 x10 x11 x12 x13 x14 x15 x16 x17 x18).2.2.2.2.2.2.2.2.2.2.2.2.2.2.2.1 (z19 n fun x0 x1 x2 x3 x4 x5 x6 x7 x8 x9 x10 x11 x12 x13 x14 x15 x16 x17 x18 => ¬ S x0 x1 x2 x3 x4 x5 x6 x7 x8 x9 x10 x11 x12 x13 x14 x15 x16 x17 x18).2.2.2.2.2.2.2.2.2.2.2.2.2.2.2.2.1 (z19 n fun x0 x1 x2 x3 x4 x5 x6 x7 x8 x9 x10 x11 x12 x13 x14 x15 x16 x17 x18 => ¬ S x0 x1 x2 x3 x4 x5 x6 x7 x8 x9 x10 x11 x12 x13 x14 x15 x16 x17 x18).2.2.2.2.2.2.2.2.2.2.2.2.2.2.2.2.2.1 (z19 n fun x0 x1 x2 x3 x4 x5 x6 x7 x8 x9 x10 x11 x12 x13 x14 x15 x16 x17 x18 => ¬ S x0 x1 x2 x3 x4 x5 x6 x7 x8 x9 x10 x11 x12 x13 x14 x15 x16 x17 x18).2.2.2.2.2.2.2.2.2.2.2.2.2.2.2.2.2.2) (x0 : a0) (x1 : a1) (x2 : a2) (x3 : a3) (x4 : a4) (x5 : a5) (x6 : a6) (x7 : a7) (x8 : a8) (x9 : a9) (x10 : a10) (x11 : a11) (x12 : a12) (x13 : a13) (x14 : a14) (x15 : a15) (x16 : a16) (x17 : a17) (x18 : a18) : S x0 x1 x2 x3 x4 x5 x6 x7 x8 x9 x10 x11 x12 x13 x14 x15 x16 x17 x18 :=
 Classical.byContradiction fun k => Y19 (P := fun x0 x1 x2 x3 x4 x5 x6 x7 x8 x9 x10 x11 x12 x13 x14 x15 x16 x17 x18 => ¬ S x0 x1 x2 x3 x4 x5 x6 x7 x8 x9 x10 x11 x12 x13 x14 x15 x16 x17 x18) n (fun m => m h) ⟨x0, ⟨x1, ⟨x2, ⟨x3, ⟨x4, ⟨x5, ⟨x6, ⟨x7, ⟨x8, ⟨x9, ⟨x10, ⟨x11, ⟨x12, ⟨x13, ⟨x14, ⟨x15, ⟨x16, ⟨x17, ⟨x18, k⟩⟩⟩⟩⟩⟩⟩⟩⟩⟩⟩⟩⟩⟩⟩⟩⟩⟩⟩
noncomputable def z20 {a0 a1 a2 a3 a4 a5 a6 a7 a8 a9 a10 a11 a12 a13 a14 a15 a16 a17 a18 a19 : Type} (n : Nonempty (a0 × a1 × a2 × a3 × a4 × a5 × a6 × a7 × a8 × a9 × a10 × a11 × a12 × a13 × a14 × a15 × a16 × a17 × a18 × a19)) (P : a0 → a1 → a2 → a3 → a4 → a5 → a6 → a7 → a8 → a9 → a10 → a11 → a12 → a13 → a14 → a15 → a16 → a17 → a18 → a19 → Prop) : a0 × a1 × a2 × a3 × a4 × a5 × a6 × a7 × a8 × a9 × a10 × a11 × a12 × a13 × a14 × a15 × a16 × a17 × a18 × a19 := @Classical.epsilon _ n fun z => P z.1 z.2.1 z.2.2.1 z.2.2.2.1 z.2.2.2.2.1 z.2.2.2.2.2.1 z.2.2.2.2.2.2.1 z.2.2.2.2.2.2.2.1 z.2.2.2.2.2.2.2.2.1 z.2.2.2.2.2.2.2.2.2.1 z.2.2.2.2.2.2.2.2.2.2.1 z.2.2.2.2.2.2.2.2.2.2.2.1 z.2.2.2.2.2.2.2.2.2.2.2.2.1 z.2.2.2.2.2.2.2.2.2.2.2.2.2.1 z.2.2.2.2.2.2.2.2.2.2.2.2.2.2.1 z.2.2.2.2.2.2.2.2.2.2.2.2.2.2.2.1 z.2.2.2.2.2.2.2.2.2.2.2.2.2.2.2.2.1 z.2.2.2.2.2.2.2.2.2.2.2.2.2.2.2.2.2.1 z.2.2.2.2.2.2.2.2.2.2.2.2.2.2.2.2.2.2.1 z.2.2.2.2.2.2.2.2.2.2.2.2.2.2.2.2.2.2.2
theorem Y20 {a0 a1 a2 a3 a4 a5 a6 a7 a8 a9 a10 a11 a12 a13 a14 a15 a16 a17 a18 a19 : Type} {P : a0 → a1 → a2 → a3 → a4 → a5 → a6 → a7 → a8 → a9 → a10 → a11 → a12 → a13 → a14 → a15 → a16 → a17 → a18 → a19 → Prop} {G : Prop} (n : Nonempty (a0 × a1 × a2 × a3 × a4 × a5 × a6 × a7 × a8 × a9 × a10 × a11 × a12 × a13 × a14 × a15 × a16 × a17 × a18 × a19)) (h : P (z20 n P).1 (z20 n P).2.1 (z20 n P).2.2.1 (z20 n P).2.2.2.1 (z20 n P).2.2.2.2.1 (z20 n P).2.2.2.2.2.1 (z20 n P).2.2.2.2.2.2.1 (z20 n P).2.2.2.2.2.2.2.1 (z20 n P).2.2.2.2.2.2.2.2.1 (z20 n P).2.2.2.2.2.2.2.2.2.1 (z20 n P).2.2.2.2.2.2.2.2.2.2.1 (z20 n P).2.2.2.2.2.2.2.2.2.2.2.1 (z20 n P).2.2.2.2.2.2.2.2.2.2.2.2.1 (z20 n P).2.2.2.2.2.2.2.2.2.2.2.2.2.1 (z20 n P).2.2.2.2.2.2.2.2.2.2.2.2.2.2.1 (z20 n P).2.2.2.2.2.2.2.2.2.2.2.2.2.2.2.1 (z20 n P).2.2.2.2.2.2.2.2.2.2.2.2.2.2.2.2.1 (z20 n P).2.2.2.2.2.2.2.2.2.2.2.2.2.2.2.2.2.1 (z20 n P).2.2.2.2.2.2.2.2.2.2.2.2.2.2.2.2.2.2.1 (z20 n P).2.2.2.2.2.2.2.2.2.2.2.2.2.2.2.2.2.2.2 → G) (e : ∃ x0 x1 x2 x3 x4 x5 x6 x7 x8 x9 x10 x11 x12 x13 x14 x15 x16 x17 x18 x19, P x0 x1 x2 x3 x4 x5 x6 x7 x8 x9 x10 x11 x12 x13 x14 x15 x16 x17 x18 x19) : G :=
 h (@Classical.epsilon_spec _ (fun z : a0 × a1 × a2 × a3 × a4 × a5 × a6 × a7 × a8 × a9 × a10 × a11 × a12 × a13 × a14 × a15 × a16 × a17 × a18 × a19 => P z.1 z.2.1 z.2.2.1 z.2.2.2.1 z.2.2.2.2.1 z.2.2.2.2.2.1 z.2.2.2.2.2.2.1 z.2.2.2.2.2.2.2.1 z.2.2.2.2.2.2.2.2.1 z.2.2.2.2.2.2.2.2.2.1 z.2.2.2.2.2.2.2.2.2.2.1 z.2.2.2.2.2.2.2.2.2.2.2.1 z.2.2.2.2.2.2.2.2.2.2.2.2.1 z.2.2.2.2.2.2.2.2.2.2.2.2.2.1 z.2.2.2.2.2.2.2.2.2.2.2.2.2.2.1 z.2.2.2.2.2.2.2.2.2.2.2.2.2.2.2.1 z.2.2.2.2.2.2.2.2.2.2.2.2.2.2.2.2.1 z.2.2.2.2.2.2.2.2.2.2.2.2.2.2.2.2.2.1 z.2.2.2.2.2.2.2.2.2.2.2.2.2.2.2.2.2.2.1 z.2.2.2.2.2.2.2.2.2.2.2.2.2.2.2.2.2.2.2) (Mine.X20 (G := ∃ z : a0 × a1 × a2 × a3 × a4 × a5 × a6 × a7 × a8 × a9 × a10 × a11 × a12 × a13 × a14 × a15 × a16 × a17 × a18 × a19, P z.1 z.2.1 z.2.2.1 z.2.2.2.1 z.2.2.2.2.1 z.2.2.2.2.2.1 z.2.2.2.2.2.2.1 z.2.2.2.2.2.2.2.1 z.2.2.2.2.2.2.2.2.1 z.2.2.2.2.2.2.2.2.2.1 z.2.2.2.2.2.2.2.2.2.2.1 z.2.2.2.2.2.2.2.2.2.2.2.1 z.2.2.2.2.2.2.2.2.2.2.2.2.1 z.2.2.2.2.2.2.2.2.2.2.2.2.2.1 z.2.2.2.2.2.2.2.2.2.2.2.2.2.2.1 z.2.2.2.2.2.2.2.2.2.2.2.2.2.2.2.1 z.2.2.2.2.2.2.2.2.2.2.2.2.2.2.2.2.1 z.2.2.2.2.2.2.2.2.2.2.2.2.2.2.2.2.2.1 z.2.2.2.2.2.2.2.2.2.2.2.2.2.2.2.2.2.2.1 z.2.2.2.2.2.2.2.2.2.2.2.2.2.2.2.2.2.2.2) (fun x0 x1 x2 x3 x4 x5 x6 x7 x8 x9 x10 x11 x12 x13 x14 x15 x16 x17 x18 x19 p => ⟨(x0, x1, x2, x3, x4, x5, x6, x7, x8, x9, x10, x11, x12, x13, x14, x15, x16, x17, x18, x19), p⟩) e))
local macro_rules | `(tactic| walk_at "ne") => `(tactic| first | exact inferInstance | exact neV | exact neL | exact neOp | (refine' neP ?nea ?neb; (case nea => walk_at "ne"); (case neb => walk_at "ne")) | exact neO | exact neA | exact neH | exact neC | exact neS | exact ⟨⟨[], [], []⟩⟩ | exact ⟨⟨[], []⟩⟩ | exact ⟨⟨[], [], [], []⟩⟩)
local macro_rules | `(tactic| walk_at "E1") => `(tactic| (refine' @E1 _ _ ?n ?_; (case n => walk_at "ne")))
local macro_rules | `(tactic| walk_at "E2") => `(tactic| (refine' @E2 _ _ _ ?n ?_; (case n => walk_at "ne")))
local macro_rules | `(tactic| walk_at "E3") => `(tactic| (refine' @E3 _ _ _ _ ?n ?_; (case n => walk_at "ne")))
local macro_rules | `(tactic| walk_at "E5") => `(tactic| (refine' @E5 _ _ _ _ _ _ ?n ?_; (case n => walk_at "ne")))
local macro_rules | `(tactic| walk_at "Y1") => `(tactic| (refine' @Y1 _ _ _ ?n ?_; (case n => walk_at "ne")))
local macro_rules | `(tactic| walk_at "Y2") => `(tactic| (refine' @Y2 _ _ _ _ ?n ?_; (case n => walk_at "ne")))
local macro_rules | `(tactic| walk_at "Y3") => `(tactic| (refine' @Y3 _ _ _ _ _ ?n ?_; (case n => walk_at "ne")))
noncomputable abbrev Fn {α : Type} (c : Cx) (R : Led) (Q : α → Led → Prop) : α → Shared → Prop := fun v s' => ∃ h' tk' l', s' = ⟨h', c.g, c.d, tk', c.os⟩ ∧ St c.B h' (l' ++ R) ∧ Q v l'
noncomputable abbrev E0 : Value → Shared → Prop := fun _ _ => False
theorem noE {P : Value → Shared → Prop} : ∀ e s, E0 e s → P e s := fun _ _ x => x.elim
section
variable {α β γ : Type} {c : Cx} {A : Around} {l l' R : Led} {E : Value → Shared → Prop}
theorem Fn.go {P : α → Led → Prop} {Q : β → Led → Prop} {a : α} {s : Shared} {t : Sem β} (F : Fn c R P a s) (k : ∀ l', P a l' → W c A t l' Q) : wpAny (model c.prog c.w) A t (Fn c R Q) E s := by
 refine X3 ?_ (F)
 intro h' tk' l'
 refine A3 ?_
 intro zz1 S p
 subst zz1
 clear F
 exact wpAny_mono (k l' p R h' tk' S) (fun _ _ x => x) noE
theorem W.run {t : Sem α} {Q : α → Led → Prop} {P : α → Shared → Prop} {hp : Heap} {tk : Tok} (h : W c A t l Q) (S : St c.B hp (l ++ R)) (k : ∀ a s, Fn c R Q a s → P a s) : wpAny (model c.prog c.w) A t P E ⟨hp, c.g, c.d, tk, c.os⟩ :=
 wpAny_mono (h R hp tk S) k noE
theorem Fn.run {P : α → Led → Prop} {Q : β → Led → Prop} {T : β → Shared → Prop} {a : α} {s : Shared} {t : Sem β} (F : Fn c R P a s) (k : ∀ l', P a l' → W c A t l' Q) (n : ∀ b s, Fn c R Q b s → T b s) : wpAny (model c.prog c.w) A t T E s :=
 wpAny_mono (F.go (E := E0) k) n noE
-- names of a frame
noncomputable def posLook : List Str → List (Option Value) → Str → Option Value
 | n :: ns, v :: vs, x => if x = n then v else posLook ns vs x
 | _, _, _ => none
structure NP (names : List Str) (vals : List (Option Value)) (o : Obj) : Prop where
 nd : names.Nodup
 rest : names.length = vals.length ∧ ∃ es ep, o.data = .dict es ep ∧ StrKeys es ∧ ∀ n, nsFind es n = posLook names vals n
structure Ls (vs : List Value) (o : Obj) : Prop where
 ex : ∃ n, o = { cls := .type "list", data := .seq vs.toArray n }
theorem Ls.is {h : Heap} {a : Addr} {o : Obj} {vs : List Value} (e : h.get? a = some o) (n : Ls vs o) : h.IsList a vs.toArray := n.ex.elim fun k p => ⟨o, e, by rw [p], k, by rw [p]⟩
structure Tp (vs : List Value) (o : Obj) : Prop where
 ex : ∃ n, o = { cls := .type "tuple", data := .seq vs.toArray n }
structure Ce (v : Option Value) (o : Obj) : Prop where
 eq : o.data = .cell v
inductive GetAt : List Str → List (Option Value) → Str → Value → Prop
 | head {x ns v vs} : GetAt (x :: ns) (some v :: vs) x v
 | tail {y u ns vs x v} : GetAt ns vs x v → GetAt (y :: ns) (u :: vs) x v
inductive SetAt : List Str → List (Option Value) → Str → Value → List (Option Value) → Prop
 | head {x ns u v vs} : SetAt (x :: ns) (u :: vs) x v (some v :: vs)
 | tail {y u ns vs x v vs'} : SetAt ns vs x v vs' → SetAt (y :: ns) (u :: vs) x v (u :: vs')
theorem GetAt.mem {ns vs x v} (g : GetAt ns vs x v) : x ∈ ns := by
 induction g with
 | head => exact .head _
 | tail _ ih => exact .tail _ ih
theorem SetAt.mem {ns vs x v vs'} (g : SetAt ns vs x v vs') : x ∈ ns := by
 induction g with
 | head => exact .head _
 | tail _ ih => exact .tail _ ih
theorem GetAt.look {ns vs x v} (g : GetAt ns vs x v) (nd : ns.Nodup) : posLook ns vs x = some v := by
 induction g with
 | head => simp [posLook]
 | tail g ih =>
  rename_i y u ns vs x v
  obtain ⟨n1, n2⟩ := List.nodup_cons.mp nd
  have : x ≠ y := fun e => n1 (e ▸ g.mem)
  simp only [posLook, if_neg this]
  exact ih n2
theorem SetAt.look {ns vs x v vs'} (g : SetAt ns vs x v vs') (nd : ns.Nodup) : ∀ y, posLook ns vs' y = if y = x then some v else posLook ns vs y := by
 induction g with
 | head => intro y; simp only [posLook]; split <;> rfl
 | tail g ih =>
  rename_i z u ns vs x v vs'
  obtain ⟨n1, n2⟩ := List.nodup_cons.mp nd
  have hx : x ≠ z := fun e => n1 (e ▸ g.mem)
  intro y
  simp only [posLook]
  by_cases h : y = z
  ·subst h; rw [if_neg (Ne.symm hx)]; simp
  ·rw [if_neg h, if_neg h]; exact ih n2 y
theorem SetAt.len {ns vs x v vs'} (g : SetAt ns vs x v vs') : vs'.length = vs.length := by
 induction g with
 | head => rfl
 | tail _ ih => simp only [List.length_cons, ih]
theorem NP.ns {h : Heap} {L : Addr} {names vals} {o : Obj} (e : h.get? L = some o) (p : NP names vals o) : h.Ns L (posLook names vals) :=
 let ⟨_, _, es, ep, hd, hk, hf⟩ := p; ⟨o, es, ep, e, hd, hk, hf⟩
theorem W.ldLocal {x : Str} {env : Env} {names vals} {v : Value} {Q : Value → Led → Prop} (hk : env.scope.kind = .function) (hl : env.kindOf x = some .local)
  (hL : (env.locals, NP names vals) ∈ l) (hg : GetAt names vals x v) (q : Q v l) : W c A (loadName env x) l Q := fun R h tk S => by
 refine X1 ?_ (S.cell (List.mem_append_left R hL))
 intro o
 refine A2 ?_
 intro e p
 exact wpAny_loadName_local hk hl (p.ns e) (hg.look p.nd) ⟨h, tk, l, rfl, S, q⟩
theorem W.name {x : Str} {pos : Pos} {env : Env} {Q : Value → Led → Prop} (h : W c A (loadName env x) l Q) (hd : (x == ("__debug__" : Str)) = false) : W c A (eval (.Name x pos) env) l Q := fun R hp tk S =>
 wpAny_Name (h R hp tk S) hd
theorem W.stLocal {x : Str} {env : Env} {names vals vals'} {v : Value} {Q : Unit → Led → Prop} (hk : env.scope.kind = .function) (hl : env.kindOf x = some .local)
  (hL : Up l env.locals (NP names vals) (NP names vals') l') (hs : SetAt names vals x v vals') (q : Q () l') : W c A (storeName env x v) l Q := fun R h tk S => by
 refine X1 ?_ (S.cell (List.mem_append_left R hL.mem))
 intro o
 refine A2 ?_
 intro e p
 refine wpAny_storeName_local hl (p.ns e) (fun h' hn hsb => ?_) (by rw [hk]; rfl)
 obtain ⟨o', es', ep', e', hd', hk', hf'⟩ := hn
 exact ⟨h', tk + 1, l', rfl, S.upd (hL.append R) hsb e' ⟨p.nd, by rw [hs.len]; exact p.rest.1, es', ep', hd', hk', fun n => by rw [hf', hs.look p.nd]⟩, q⟩
theorem W.ldFree {x : Str} {env : Env} {a : Addr} {v : Value} {Q : Value → Led → Prop} (hk : env.scope.kind = .function) (hl : env.kindOf x = some .free)
  (hc : env.cells.lookup x = some a) (hL : (a, Ce (some v)) ∈ l) (q : Q v l) (hn : (x == ("__classdict__" : Str)) = false := by decide) : W c A (loadName env x) l Q := fun R h tk S => by
 refine X1 ?_ (S.cell (List.mem_append_left R hL))
 intro o
 refine A2 ?_
 intro e p
 exact wpAny_loadName_free hk hl hc ⟨o, e, p.eq⟩ ⟨h, tk, l, rfl, S, q⟩ hn
theorem W.ldCell {x : Str} {env : Env} {a : Addr} {v : Value} {Q : Value → Led → Prop} (hk : env.scope.kind = .function) (hl : env.kindOf x = some .cell)
  (hc : env.cells.lookup x = some a) (hL : (a, Ce (some v)) ∈ l) (q : Q v l) : W c A (loadName env x) l Q := fun R h tk S => by
 refine X1 ?_ (S.cell (List.mem_append_left R hL))
 intro o
 refine A2 ?_
 intro e p
 exact wpAny_loadName_cell hk hl hc ⟨o, e, p.eq⟩ ⟨h, tk, l, rfl, S, q⟩
theorem W.stCell {x : Str} {env : Env} {a : Addr} {v₀ : Option Value} {v : Value} {Q : Unit → Led → Prop} (hk : env.scope.kind = .function) (hl : env.kindOf x = some .cell)
  (hc : env.cells.lookup x = some a) (hL : Up l a (Ce v₀) (Ce (some v)) l') (q : Q () l') : W c A (storeName env x v) l Q := fun R h tk S => by
 refine X1 ?_ (S.cell (List.mem_append_left R hL.mem))
 intro o
 refine A2 ?_
 intro e p
 refine wpAny_storeName_cell hk hl hc ⟨o, e, p.eq⟩ fun h' hn hsb => ?_
 obtain ⟨o', e', hd'⟩ := hn
 exact ⟨h', tk, l', rfl, S.upd (hL.append R) hsb e' ⟨hd'⟩, q⟩
-- constants
theorem W.kInt {i k pos} {env : Env} {Q : Value → Led → Prop} (q : ∀ t, Q (.int i t) l) : W c A (eval (.Constant (.int i) k pos) env) l Q := fun R h tk S => wpAny_Constant_int ⟨h, tk + 1, l, rfl, S, q tk⟩
theorem W.kStr {x k pos} {env : Env} {Q : Value → Led → Prop} (q : ∀ t, Q (.str x t) l) : W c A (eval (.Constant (.str x) k pos) env) l Q := fun R h tk S => wpAny_Constant_str ⟨h, tk + 1, l, rfl, S, q tk⟩
theorem W.kNone {k pos} {env : Env} {Q : Value → Led → Prop} (q : Q .none l) : W c A (eval (.Constant .none k pos) env) l Q := fun R h tk S => wpAny_Constant_none ⟨h, tk, l, rfl, S, q⟩
theorem W.kBool {b k pos} {env : Env} {Q : Value → Led → Prop} (q : Q (.bool b) l) : W c A (eval (.Constant (.bool b) k pos) env) l Q := fun R h tk S => wpAny_Constant_bool ⟨h, tk, l, rfl, S, q⟩
-- expressions
variable {env : Env}
theorem W.binop {x op y pos} {Q : Value → Led → Prop} (h : W c A (eval x env) l (fun a l1 => W c A (eval y env) l1 (fun b l2 => W c A (binaryOp op a b) l2 Q))) : W c A (eval (.BinOp x op y pos) env) l Q := fun R hp tk S =>
 wpAny_BinOp (h.run S fun a s F => F.run (fun _ p => p) fun b s F => F.go fun _ p => p)
theorem W.unary {op x pos} {Q : Value → Led → Prop} (h : W c A (eval x env) l (fun a l1 => W c A (unaryOp op a) l1 Q)) : W c A (eval (.UnaryOp op x pos) env) l Q := fun R hp tk S =>
 wpAny_UnaryOp (h.run S fun a s F => F.go fun _ p => p)
theorem W.compare {x op y pos} {Q : Value → Led → Prop} (h : W c A (eval x env) l (fun a l1 => W c A (eval y env) l1 (fun b l2 => W c A (compareOp op a b) l2 Q))) (hm : behindInMarks op y = false := by with_unfolding_all rfl) :
  W c A (eval (.Compare x [op] [y] pos) env) l Q := fun R hp tk S =>
 wpAny_Compare1 (h.run S fun a s F => F.run (fun _ p => p) fun b s F => F.go fun _ p => p) hm
theorem W.testCompare {x op y pos whole} {Q : Bool → Led → Prop} (h : W c A (eval x env) l (fun a l1 => W c A (eval y env) l1 (fun b l2 => W c A (compareOp op a b) l2 fun r l3 => W c A (truthy r) l3 Q))) (hm : behindInMarks op y = false := by with_unfolding_all rfl) :
  W c A (isTrue (.Compare x [op] [y] pos) env whole) l Q := fun R hp tk S =>
 wpAny_isTrue_Compare1 (h.run S fun a s F => F.run (fun _ p => p) fun b s F => F.run (fun _ p => p) fun r s F => F.go fun _ p => p) hm
theorem W.testValue {e : Expr} {whole : Sem Value} {Q : Bool → Led → Prop} (h : W c A whole l (fun v l1 => W c A (truthy v) l1 Q)) (he : isTrue e env whole = (do let v ← whole; PySem.standAt e.pos; PySem.holding [v] (truthy v)) := by rfl) : W c A (isTrue e env whole) l Q := fun R hp tk S =>
 wpAny_isTrue_value (h.run S fun a s F => F.go fun _ p => p) he
theorem W.testBool {op values pos whole} {Q : Bool → Led → Prop} (h : W c A (allTrue op values env) l Q) : W c A (isTrue (.BoolOp op values pos) env whole) l Q := fun R hp tk S => wpAny_isTrue_BoolOp (h R hp tk S)
theorem W.andNil {Q : Bool → Led → Prop} (q : Q true l) : W c A (allTrue .And [] env) l Q := fun R hp tk S => wpAny_allTrue_And_nil ⟨hp, tk, l, rfl, S, q⟩
theorem W.orNil {Q : Bool → Led → Prop} (q : Q false l) : W c A (allTrue .Or [] env) l Q := fun R hp tk S => wpAny_allTrue_Or_nil ⟨hp, tk, l, rfl, S, q⟩
theorem W.andCons {x rest} {Q : Bool → Led → Prop} (h : W c A (isTrue x env (eval x env)) l (fun b l1 => if b then W c A (allTrue .And rest env) l1 Q else Q false l1)) : W c A (allTrue .And (x :: rest) env) l Q := fun R hp tk S =>
 wpAny_allTrue_And_cons (h.run S fun a s ⟨h', tk', l', e, S', q⟩ => by
  subst e
  cases a with
  | false => simp only [Bool.false_eq_true, if_false] at q ⊢; exact ⟨h', tk', l', rfl, S', q⟩
  | true => simp only [if_true] at q ⊢; exact q R h' tk' S')
theorem W.orCons {x rest} {Q : Bool → Led → Prop} (h : W c A (isTrue x env (eval x env)) l (fun b l1 => if b then Q true l1 else W c A (allTrue .Or rest env) l1 Q)) : W c A (allTrue .Or (x :: rest) env) l Q := fun R hp tk S =>
 wpAny_allTrue_Or_cons (h.run S fun a s ⟨h', tk', l', e, S', q⟩ => by
  subst e
  cases a with
  | true => simp only [if_true] at q ⊢; exact ⟨h', tk', l', rfl, S', q⟩
  | false => simp only [Bool.false_eq_true, if_false] at q ⊢; exact q R h' tk' S')
theorem W.and2 {x y pos} {Q : Value → Led → Prop} (h : W c A (eval x env) l (fun v l1 => W c A (truthy v) l1 fun t l2 => if t then W c A (eval y env) l2 Q else Q v l2)) : W c A (eval (.BoolOp .And [x, y] pos) env) l Q := fun R hp tk S =>
 wpAny_And2 (h.run S fun v s F => F.run (fun _ p => p) fun a s ⟨h', tk', l', e, S', q⟩ => by
  subst e
  cases a with
  | false => simp only [Bool.false_eq_true, if_false] at q ⊢; exact ⟨h', tk', l', rfl, S', q⟩
  | true => simp only [if_true] at q ⊢; exact q R h' tk' S')
theorem W.ifExp {t x y pos} {Q : Value → Led → Prop} (h : W c A (isTrue t env (eval t env)) l (fun b l1 => if b then W c A (eval x env) l1 Q else W c A (eval y env) l1 Q)) : W c A (eval (.IfExp t x y pos) env) l Q := fun R hp tk S =>
 wpAny_IfExp (h.run S fun a s ⟨h', tk', l', e, S', q⟩ => by
  subst e
  cases a with
  | false => simp only [Bool.false_eq_true, if_false] at q ⊢; exact q R h' tk' S'
  | true => simp only [if_true] at q ⊢; exact q R h' tk' S')
theorem W.truthyBool {b : Bool} {Q : Bool → Led → Prop} (q : Q b l) : W c A (truthy (.bool b)) l Q := fun R hp tk S => wpAny_truthy_bool ⟨hp, tk, l, rfl, S, q⟩
-- several expressions in a row
theorem W.spNil {Q : List Value → Led → Prop} {pos : Pos} (q : Q [] l) : W c A (spliced (backTo pos (starEach [] env))) l Q := fun R hp tk S => Calls.spliced_nil ⟨hp, tk, l, rfl, S, q⟩
theorem W.spCons {e : Expr} {es : List Expr} {pos : Pos} {Q : List Value → Led → Prop} (h : W c A (eval e env) l (fun v l1 => W c A (spliced (backTo pos (starEach es env))) l1 fun vs l2 => Q (v :: vs) l2))
  (he : starEach (e :: es) env = (false, eval e env) :: starEach es env := by rfl) : W c A (spliced (backTo pos (starEach (e :: es) env))) l Q := by
 rw [he]
 show W c A (spliced ((false, eval e env) :: backTo pos (starEach es env))) l Q
 unfold spliced
 refine W.bind (h.mono fun v l1 h1 => ?_)
 simp only [Bool.false_eq_true, if_false]
 refine W.bind (W.pure ?_)
 refine W.bind (W.holding (h1.mono fun vs l2 q => W.pure q))
theorem W.mkList {elts pos} {Q : Value → Led → Prop} (h : W c A (spliced (backTo pos (starEach elts env))) l (fun vs l1 => vs.length ≤ sizeLine ∧ ∀ a, Q (.ref a) ((a, Ls vs) :: l1))) : W c A (eval (.List elts pos) env) l Q := fun R hp tk S =>
 wpAny_List (h.run S fun vs s ⟨h', tk', l', e, S', q⟩ => by
  subst e
  exact ⟨q.1, _, tk', _, rfl, S'.push _ ⟨0, rfl⟩, q.2 _⟩)
theorem W.mkTuple {elts k pos} {Q : Value → Led → Prop} (h : W c A (spliced (backTo pos (starEach elts env))) l (fun vs l1 => vs.length ≤ sizeLine ∧ ∀ a, Q (.ref a) ((a, Tp vs) :: l1))) : W c A (eval (.Tuple elts k pos) env) l Q := fun R hp tk S =>
 wpAny_Tuple (h.run S fun vs s ⟨h', tk', l', e, S', q⟩ => by
  subst e
  exact ⟨q.1, _, tk', _, rfl, S'.push _ ⟨0, rfl⟩, q.2 _⟩)
-- statements
theorem W.nil {Q : Flow → Led → Prop} (q : Q .next l) : W c A (execs [] env) l Q := fun R hp tk S => wpAny_execs_nil ⟨hp, tk, l, rfl, S, q⟩
theorem W.cons {st rest} {Q : Flow → Led → Prop} (h : W c A (exec st env) l (fun f l1 => match f with | .next => W c A (execs rest env) l1 Q | f => Q f l1)) : W c A (execs (st :: rest) env) l Q := fun R hp tk S =>
 wpAny_execs_cons (h.run S fun f s ⟨h', tk', l', e, S', q⟩ => by
  subst e
  cases f with
  | next => exact q R h' tk' S'
  | brk => exact ⟨h', tk', l', rfl, S', q⟩
  | cont => exact ⟨h', tk', l', rfl, S', q⟩
  | ret v => exact ⟨h', tk', l', rfl, S', q⟩)
theorem W.step {st rest} {Q : Flow → Led → Prop} (h : W c A (exec st env) l (fun f l1 => f = .next ∧ W c A (execs rest env) l1 Q)) : W c A (execs (st :: rest) env) l Q :=
 W.cons (h.mono fun f l1 ⟨e, q⟩ => by subst e; exact q)
theorem W.ret {e pos} {Q : Flow → Led → Prop} (h : W c A (eval e env) l (fun v l1 => Q (.ret v) l1)) : W c A (exec (.Return (some e) pos) env) l Q := fun R hp tk S =>
 wpAny_Return_some (h.run S fun v s ⟨h', tk', l', e, S', q⟩ => ⟨h', tk', l', e, S', q⟩)
theorem W.brk {pos} {Q : Flow → Led → Prop} (q : Q .brk l) : W c A (exec (.Break pos) env) l Q := fun R hp tk S => wpAny_Break ⟨hp, tk, l, rfl, S, q⟩
theorem W.set {x pos' value pos} {Q : Flow → Led → Prop} (h : W c A (eval value env) l (fun v l1 => W c A (storeName env x v) l1 (fun _ l2 => Q .next l2))) (hs : swapsWith value (some (.Name x pos')) pos.line env = Pure.pure false := by rfl) :
  W c A (exec (.Assign [.Name x pos'] value pos) env) l Q := fun R hp tk S =>
 wpAny_Assign_Name (h.run S fun v s F => F.run (fun _ p => p) fun _ s ⟨h', tk', l', e, S', q⟩ => ⟨h', tk', l', e, S', q⟩) hs
theorem W.aug {x pos' op value pos} {Q : Flow → Led → Prop} (h : W c A (loadName env x) l (fun old l0 => W c A (eval value env) l0 (fun v l1 => W c A (inplaceOp op old v) l1 (fun r l2 => W c A (storeName env x r) l2 (fun _ l3 => Q .next l3))))) :
  W c A (exec (.AugAssign (.Name x pos') op value pos) env) l Q := fun R hp tk S =>
 wpAny_AugAssign_Name (h.run S fun v s F => F.run (fun _ p => p) fun v s F => F.run (fun _ p => p) fun _ s F => F.run (fun _ p => p) fun _ s ⟨h', tk', l', e, S', q⟩ => ⟨h', tk', l', e, S', q⟩)
theorem W.expr {e pos} {Q : Flow → Led → Prop} (h : W c A (eval e env) l (fun _ l1 => Q .next l1)) (hi : interactive env = false := by rfl) (hs : swapsWith e none pos.line env = Pure.pure false := by rfl) : W c A (exec (.Expr e pos) env) l Q := fun R hp tk S =>
 wpAny_Expr_any (h.run S fun v s ⟨h', tk', l', e, S', q⟩ => ⟨h', tk', l', e, S', q⟩) hi hs
theorem W.cond {t body orelse pos} {Q : Flow → Led → Prop} (h : W c A (isTrue t env (eval t env)) l (fun b l1 => if b then W c A (execs body env) l1 Q else W c A (execs orelse env) l1 Q)) : W c A (exec (.If t body orelse pos) env) l Q := fun R hp tk S =>
 wpAny_If (h.run S fun a s ⟨h', tk', l', e, S', q⟩ => by
  subst e
  cases a with
  | false => simp only [Bool.false_eq_true, if_false] at q ⊢; exact q R h' tk' S'
  | true => simp only [if_true] at q ⊢; exact q R h' tk' S')
theorem W.asrt {t msg pos} {Q : Flow → Led → Prop} (h : W c A (isTrue t env (eval t env)) l (fun b l1 => b = true ∧ Q .next l1)) : W c A (exec (.Assert t msg pos) env) l Q := fun R hp tk S =>
 wpAny_Assert_holds (h.run S fun a s ⟨h', tk', l', e, S', q⟩ => ⟨q.1, h', tk', l', e, S', q.2⟩)
theorem W.asName {x pos v} {Q : Unit → Led → Prop} (h : W c A (storeName env x v) l Q) : W c A (PySem.assign (.Name x pos) env v) l Q := fun R hp tk S => wpAny_assign_Name (h R hp tk S)
theorem W.setSub {o i pos' value pos} {Q : Flow → Led → Prop} (h : W c A (eval value env) l (fun v l1 => W c A (eval o env) l1 (fun ov l2 => W c A (eval i env) l2 (fun iv l3 => W c A (setItem ov iv v) l3 (fun _ l4 => Q .next l4)))))
  (hs : swapsWith value (some (.Subscript o i pos')) pos.line env = Pure.pure false := by rfl) : W c A (exec (.Assign [.Subscript o i pos'] value pos) env) l Q := fun R hp tk S =>
 wpAny_Assign_Subscript (h.run S fun v s F => F.run (fun _ p => p) fun v s F => F.run (fun _ p => p) fun _ s F => F.run (fun _ p => p) fun _ s ⟨h', tk', l', e, S', q⟩ => ⟨h', tk', l', e, S', q⟩) hs
end
structure Iter (c : Cx) (I : Addr) (n : Nat) (P : Nat → Value → Prop) (It : Nat → Pr) (need : Led) : Prop where
 next : ∀ {A : Around} {i : Nat} {l : Led} {Q : Option Value → Led → Prop}, A.handled = none → i < n → (∀ p ∈ need, p ∈ l) → (∀ v, P i v → Q (some v) ((I, It (i + 1)) :: l)) → W c A (pyNext (.ref I)) ((I, It i) :: l) Q
 done : ∀ {A : Around} {l : Led} {Q : Option Value → Led → Prop}, A.handled = none → (∀ p ∈ need, p ∈ l) → Q none l → W c A (pyNext (.ref I)) ((I, It n) :: l) Q
 self : ∀ {A : Around} {i : Nat} {l : Led} {Q : Value → Led → Prop}, Q (.ref I) ((I, It i) :: l) → W c A (pyIter (.ref I)) ((I, It i) :: l) Q
structure Itr (c : Cx) (xv : Value) (l : Led) (n : Nat) (P : Nat → Value → Prop) (need : Led) : Prop where
 it : ∀ {A : Around} {Q : Value → Led → Prop}, A.handled = none → (∀ I It, Iter c I n P It need → Q (.ref I) ((I, It 0) :: l)) → W c A (pyIter xv) l Q
section
variable {c : Cx} {A : Around} {l : Led} {env : Env}
theorem St.lost {B h h' : Heap} {a : Addr} {P : Pr} {l R : Led} (S : St B h (((a, P) :: l) ++ R)) (k : Heap.ExtBut a h h') : St B h' (l ++ R) := by
 have nd := S.nodup
 rw [List.cons_append, List.map_cons] at nd
 obtain ⟨n1, n2⟩ := List.nodup_cons.mp nd
 have na : B.get? a = none := S.nb (p := (a, P)) (by simp)
 refine ⟨fun p hp => ?_, n2, fun b o e => k b o (fun q => by rw [q, na] at e; cases e) (S.base b o e), fun p hp => S.above p (by rw [List.cons_append]; exact .tail _ hp), S.low⟩
 obtain ⟨o, e, x⟩ := S.at_ p (by rw [List.cons_append]; exact .tail _ hp)
 exact ⟨o, k _ _ (fun q => n1 (q ▸ List.mem_map.mpr ⟨p, hp, rfl⟩)) e, x⟩
theorem Itr.ls {a : Addr} {vs : List Value} (m : (a, Ls vs) ∈ l) : Itr c (.ref a) l vs.length (fun i v => vs[i]? = some v) [(a, Ls vs)] := by
 refine ⟨fun {A Q} hh k R h tk S => ?_⟩
 obtain ⟨o, e, n⟩ := S.cell (List.mem_append_left R m)
 refine wpAny_pyIter_list (Ls.is e n) ?_
 refine ⟨_, tk, _, rfl, S.push (P := fun o => o.cls = .type "list_iterator" ∧ o.data = .fields #[.ref a, .int (0 : Nat) 0]) _ ⟨rfl, rfl⟩, k _ (fun i o => o.cls = .type "list_iterator" ∧ o.data = .fields #[.ref a, .int (i : Nat) 0]) ⟨?_, ?_, ?_⟩⟩
 ·intro A i l' Q' hh hi hn hq R' h' tk' S'
  obtain ⟨ol, el, nl⟩ := S'.cell (List.mem_append_left R' (List.mem_cons_of_mem _ (hn _ (.head _))))
  refine X1 ?_ (S'.cell (List.mem_append_left R' (.head _)))
  intro oi
  refine A2 ?_
  intro ei pi
  refine wpAny_pyNext_list_item ⟨oi, ei, pi⟩ (Ls.is el nl) (x := vs[i]) (by simp [hi]) fun h'' hit hsb => ?_
  obtain ⟨o2, e2, p2⟩ := hit
  exact ⟨h'', tk', _, rfl, S'.upd (Up.append .head R') hsb e2 p2, hq _ (by simp [hi])⟩
 ·intro A l' Q' hh hn hq R' h' tk' S'
  obtain ⟨ol, el, nl⟩ := S'.cell (List.mem_append_left R' (List.mem_cons_of_mem _ (hn _ (.head _))))
  refine X1 ?_ (S'.cell (List.mem_append_left R' (.head _)))
  intro oi
  refine A2 ?_
  intro ei pi
  refine wpAny_pyNext_list_end hh ⟨oi, ei, pi⟩ (Ls.is el nl) (by simp) fun h'' hx => ?_
  exact ⟨h'', tk', l', rfl, S'.lost hx, hq⟩
 ·intro A i l' Q' hq R' h' tk' S'
  refine X1 ?_ (S'.cell (List.mem_append_left R' (.head _)))
  intro oi
  refine A2 ?_
  intro ei pi
  exact wpAny_pyIter_listiter ⟨oi, ei, pi⟩ ⟨h', tk', _, rfl, S', hq⟩
theorem Iter.of_walks {I : Addr} {n : Nat} {P : Nat → Value → Prop} {It : Nat → Pr} (Wk : ∀ A : Around, A.handled = none → Walks c.prog c.w A I [I] [I] n P (fun i h => ∃ o, h.get? I = some o ∧ It i o))
  (self : ∀ {A : Around} {i : Nat} {l : Led} {Q : Value → Led → Prop}, Q (.ref I) ((I, It i) :: l) → W c A (pyIter (.ref I)) ((I, It i) :: l) Q) : Iter c I n P It [] := by
 refine ⟨?_, ?_, self⟩
 ·intro A i l' Q' hh hi hn hq R' h' tk' S'
  refine (Wk A hh).item i _ _ _ hi (S'.cell (List.mem_append_left R' (.head _))) ?_
  intro v h'' tk'' hp
  refine X1 ?_
  intro o2
  refine A2 ?_
  intro e2 p2 hk
  have x : Heap.ExtBut I h' h'' := fun b o hb e => hk b o (by simpa using hb) e
  refine ⟨h'', tk'', _, rfl, ?_, hq v hp⟩
  have S2 := S'.lost x
  refine ⟨fun p hp => ?_, S'.nodup, S2.base, fun p hp => ?_, S'.low⟩ <;> rcases List.mem_cons.mp hp with rfl | hp
  ·exact ⟨o2, e2, p2⟩
  ·exact S2.at_ p hp
  ·exact S'.above (I, It i) (.head _)
  ·exact S'.above p (.tail _ hp)
 ·intro A l' Q' hh hn hq R' h' tk' S'
  refine (Wk A hh).done _ _ _ (S'.cell (List.mem_append_left R' (.head _))) fun h'' tk'' hk => ?_
  exact ⟨h'', tk'', l', rfl, S'.lost fun b o hb e => hk b o (by simpa using hb) e, hq⟩
theorem Itr.str {x : Str} {t : Tok} : Itr c (.str x t) l x.cps.size (SignAt x) [] := by
 refine ⟨fun {A Q} hh k R h tk S => ?_⟩
 cases ha : x.cps.all (· < 128)
 ·refine wpAny_pyIter_wide ha ?_
  refine ⟨_, tk, _, rfl, S.push (P := fun o => o.cls = .type "str_iterator" ∧ o.data = .fields #[.str x t, .int (0 : Nat) 0]) _ ⟨rfl, rfl⟩, k _ (fun i o => o.cls = .type "str_iterator" ∧ o.data = .fields #[.str x t, .int (i : Nat) 0]) (Iter.of_walks (fun A hA => Walks.strWide hA _ x t) ?_)⟩
  intro A i l' Q' hq R' h' tk' S'
  refine X1 ?_ (S'.cell (List.mem_append_left R' (.head _)))
  intro oi
  refine A2 ?_
  intro ei pi
  exact wpAny_pyIter_striter_wide ⟨oi, ei, pi⟩ ⟨h', tk', _, rfl, S', hq⟩
 ·refine wpAny_pyIter_ascii ha ?_
  refine ⟨_, tk, _, rfl, S.push (P := fun o => o.cls = .type "str_ascii_iterator" ∧ o.data = .fields #[.str x t, .int (0 : Nat) 0]) _ ⟨rfl, rfl⟩, k _ (fun i o => o.cls = .type "str_ascii_iterator" ∧ o.data = .fields #[.str x t, .int (i : Nat) 0]) (Iter.of_walks (fun A hA => Walks.strAscii hA _ x t) ?_)⟩
  intro A i l' Q' hq R' h' tk' S'
  refine X1 ?_ (S'.cell (List.mem_append_left R' (.head _)))
  intro oi
  refine A2 ?_
  intro ei pi
  exact wpAny_pyIter_striter_ascii ⟨oi, ei, pi⟩ ⟨h', tk', _, rfl, S', hq⟩
theorem take_front {a : Addr} {P : Pr} {l : Led} : ((a, P) :: l).Perm (l ++ [(a, P)]) := (List.perm_append_singleton _ _).symm
theorem W.for : ∀ {c : Cx} {A : Around} {l : Led} {env : Env} {target iter : Expr} {body : List Stmt} {pos : Pos} {Q : Flow → Led → Prop} {n : Nat} {P : Nat → Value → Prop} {need : Led} (J : Nat → Led → Prop) (hh : A.handled = none) (h : W c A (eval iter env) l (fun xv l1 => Itr c xv l1 n P need ∧ J 0 l1)) (hn : ∀ i l, J i l → ∀ p ∈ need, p ∈ l) (turn : ∀ i v l1, i < n → P i v → J i l1 → W c A (PySem.assign target env v) l1 (fun _ l2 => W c A (execs body env) l2 (fun f l3 => match f with | .next | .cont => J (i + 1) l3 | .brk => Q .next l3 | .ret v => Q (.ret v) l3))) (done : ∀ l1, J n l1 → Q .next l1) (hs : ∀ x, foldedSetIterable iter env x = Pure.pure x := by intro _; rfl) (ht : ∀ v, letOwnedTupleGo target (.ref 0) v = Pure.pure () := by intro _; rfl) (ht' : ∀ I v, letOwnedTupleGo target (.ref I) v = Pure.pure () := by intro _ _; rfl), W c A (exec (.For target iter body [] pos) env) l Q := by
 refine' @E13 _ _ _ _ _ _ _ _ _ _ _ _ _ _ (by walk_at "ne") ?_; generalize (z13 _ _).1 = c; generalize (z13 _ _).2.1 = A; generalize (z13 _ _).2.2.1 = l; generalize (z13 _ _).2.2.2.1 = env; generalize (z13 _ _).2.2.2.2.1 = target; generalize (z13 _ _).2.2.2.2.2.1 = iter; generalize (z13 _ _).2.2.2.2.2.2.1 = body; generalize (z13 _ _).2.2.2.2.2.2.2.1 = pos; generalize (z13 _ _).2.2.2.2.2.2.2.2.1 = Q; generalize (z13 _ _).2.2.2.2.2.2.2.2.2.1 = n; generalize (z13 _ _).2.2.2.2.2.2.2.2.2.2.1 = P; generalize (z13 _ _).2.2.2.2.2.2.2.2.2.2.2.1 = need; generalize (z13 _ _).2.2.2.2.2.2.2.2.2.2.2.2 = J
 intro hh h hn turn done hs ht ht'
 walk_at "E3"; generalize (z3 _ _).1 = R; generalize (z3 _ _).2.1 = hp; generalize (z3 _ _).2.2 = tk
 intro S
 refine wpAny_For (h.run S ?_) hs
 walk_at "E2"; generalize (z2 _ _).1 = xv; generalize (z2 _ _).2 = s
 refine X3 ?_
 walk_at "E3"; generalize (z3 _ _).1 = h1; generalize (z3 _ _).2.1 = tk1; generalize (z3 _ _).2.2 = l1
 refine A4 ?_
 intro zz1 S1 hI j0
 subst zz1
 have k := hI.it (A := A) (Q := fun it l2 => ∃ I It, it = .ref I ∧ Iter c I n P It need ∧ l2 = (I, It 0) :: l1) hh (fun I It x => ⟨I, It, rfl, x, rfl⟩)
 refine k.run S1 ?_
 walk_at "E2"; generalize (z2 _ _).1 = it; generalize (z2 _ _).2 = s
 refine X3 ?_
 walk_at "E3"; generalize (z3 _ _).1 = h2; generalize (z3 _ _).2.1 = tk2; generalize (z3 _ _).2.2 = l2
 refine A3 ?_
 intro e S2
 refine X2 ?_
 walk_at "E2"; generalize (z2 _ _).1 = I; generalize (z2 _ _).2 = It
 refine A3 ?_
 intro e1 X e2
 subst e e1 e2
 refine codeAny_forLoop (fun k s => ∃ h tk i l1, s = ⟨h, c.g, c.d, tk, c.os⟩ ∧ St c.B h (((I, It i) :: l1) ++ R) ∧ J i l1 ∧ i ≤ n ∧ k = n + 1 - i) ?_ (n + 1) ⟨h2, tk2, 0, l1, rfl, S2, j0, Nat.zero_le _, rfl⟩ (fun v => ht' I v)
 walk_at "E2"; generalize (z2 _ _).1 = k; generalize (z2 _ _).2 = s
 refine X4 ?_
 refine' @E4 _ _ _ _ _ (by walk_at "ne") ?_; generalize (z4 _ _).1 = h3; generalize (z4 _ _).2.1 = tk3; generalize (z4 _ _).2.2.1 = i; generalize (z4 _ _).2.2.2 = l3
 refine A5 ?_
 intro zz2 S3 j3 hi zz3
 subst zz2
 subst zz3
 by_cases hlt : i < n
 ·refine (X.next (A := A) (Q := fun r l4 => ∃ v, r = some v ∧ P i v ∧ l4 = (I, It (i + 1)) :: l3) hh hlt (hn i l3 j3) fun v pv => ⟨v, rfl, pv, rfl⟩).run S3 ?_
  walk_at "E2"; generalize (z2 _ _).1 = r; generalize (z2 _ _).2 = s
  refine X3 ?_
  walk_at "E3"; generalize (z3 _ _).1 = h4; generalize (z3 _ _).2.1 = tk4; generalize (z3 _ _).2.2 = l4
  refine A3 ?_
  intro e S4
  refine X1 ?_
  walk_at "E1"; generalize z1 _ _ = v
  refine A3 ?_
  intro e1 pv e2
  subst e e1 e2
  have t := (turn i v l3 hlt pv j3).frame (R := [(I, It (i + 1))])
  have t' := t.perm take_front
  refine t'.run S4 ?_
  walk_at "E2"; generalize (z2 _ _).1 = zu69; generalize (z2 _ _).2 = s
  refine X3 ?_
  walk_at "E3"; generalize (z3 _ _).1 = h5; generalize (z3 _ _).2.1 = tk5; generalize (z3 _ _).2.2 = l5
  refine A3 ?_
  intro e S5
  refine X1 ?_
  walk_at "E1"; generalize z1 _ _ = l6
  refine A2 ?_
  intro e5 w5
  subst e e5
  have w6 := w5.frame (R := [(I, It (i + 1))])
  refine w6.run S5 ?_
  walk_at "E2"; generalize (z2 _ _).1 = f; generalize (z2 _ _).2 = s
  refine X3 ?_
  walk_at "E3"; generalize (z3 _ _).1 = h6; generalize (z3 _ _).2.1 = tk6; generalize (z3 _ _).2.2 = l7
  refine A3 ?_
  intro e S6
  refine X1 ?_
  walk_at "E1"; generalize z1 _ _ = l8
  refine A2 ?_
  intro e8 q
  subst e e8
  have fwd : St c.B h6 (((I, It (i + 1)) :: l8) ++ R) := S6.perm (take_front.symm.append_right R)
  have bk : St c.B h6 (l8 ++ R) := by
   have := S6.perm (l' := l8 ++ R ++ [(I, It (i + 1))]) (by rw [List.append_assoc, List.append_assoc]; exact List.Perm.append_left _ List.perm_append_comm)
   exact this.left
  cases f with
  | next => exact ⟨n + 1 - (i + 1), by (clear hlt; omega), h6, tk6, i + 1, l8, rfl, fwd, q, hlt, rfl⟩
  | cont => exact ⟨n + 1 - (i + 1), by (clear hlt; omega), h6, tk6, i + 1, l8, rfl, fwd, q, hlt, rfl⟩
  | brk => exact ⟨h6, tk6, l8, rfl, bk, q⟩
  | ret v => exact ⟨h6, tk6, l8, rfl, bk, q⟩
 ·have hin : i = n := by omega
  subst hin
  refine (X.done (A := A) (Q := fun r l4 => r = none ∧ l4 = l3) hh (hn i l3 j3) ⟨rfl, rfl⟩).run S3 ?_
  walk_at "E2"; generalize (z2 _ _).1 = r; generalize (z2 _ _).2 = s
  refine X3 ?_
  walk_at "E3"; generalize (z3 _ _).1 = h4; generalize (z3 _ _).2.1 = tk4; generalize (z3 _ _).2.2 = l4
  refine A4 ?_
  intro e S4 e1 e2
  subst e e1 e2
  exact wpAny_execs_nil ⟨h4, tk4, l4, rfl, S4, done l4 j3⟩
theorem W.while : ∀ {c : Cx} {A : Around} {l : Led} {env : Env} {test : Expr} {body : List Stmt} {pos : Pos} {Q : Flow → Led → Prop} (J : Nat → Led → Prop) (n : Nat) (h0 : J n l) (hh : A.handled = none) (turn : ∀ n l1, J n l1 → W c A (isTrue test env (eval test env)) l1 (fun b l2 => if b then W c A (execs body env) l2 (fun f l3 => match f with | .next | .cont => ∃ m, m < n ∧ J m l3 | .brk => Q .next l3 | .ret v => Q (.ret v) l3) else Q .next l2)), W c A (exec (.While test body [] pos) env) l Q := by
 refine' @E9 _ _ _ _ _ _ _ _ _ _ (by walk_at "ne") ?_; generalize (z9 _ _).1 = c; generalize (z9 _ _).2.1 = A; generalize (z9 _ _).2.2.1 = l; generalize (z9 _ _).2.2.2.1 = env; generalize (z9 _ _).2.2.2.2.1 = test; generalize (z9 _ _).2.2.2.2.2.1 = body; generalize (z9 _ _).2.2.2.2.2.2.1 = pos; generalize (z9 _ _).2.2.2.2.2.2.2.1 = Q; generalize (z9 _ _).2.2.2.2.2.2.2.2 = J
 intro n h0 hh turn
 walk_at "E3"; generalize (z3 _ _).1 = R; generalize (z3 _ _).2.1 = hp; generalize (z3 _ _).2.2 = tk
 intro S
 refine wpAny_While ?_
 refine codeAny_whileLoop (fun k s => ∃ h tk l1, s = ⟨h, c.g, c.d, tk, c.os⟩ ∧ St c.B h (l1 ++ R) ∧ J k l1) ?_ n ⟨hp, tk, l, rfl, S, h0⟩
 walk_at "E2"; generalize (z2 _ _).1 = k; generalize (z2 _ _).2 = s
 refine X3 ?_
 walk_at "E3"; generalize (z3 _ _).1 = h1; generalize (z3 _ _).2.1 = tk1; generalize (z3 _ _).2.2 = l1
 refine A3 ?_
 intro zz4 S1 j1
 subst zz4
 refine (turn k l1 j1).run S1 ?_
 walk_at "E2"; generalize (z2 _ _).1 = b; generalize (z2 _ _).2 = s
 refine X3 ?_
 walk_at "E3"; generalize (z3 _ _).1 = h2; generalize (z3 _ _).2.1 = tk2; generalize (z3 _ _).2.2 = l2
 refine A3 ?_
 intro e S2 q
 subst e
 cases b with
 | false =>
  simp only [Bool.false_eq_true, if_false] at q ⊢
  exact wpAny_execs_nil ⟨h2, tk2, l2, rfl, S2, q⟩
 | true =>
  simp only [if_true] at q ⊢
  refine q.run S2 ?_
  walk_at "E2"; generalize (z2 _ _).1 = f; generalize (z2 _ _).2 = s
  refine X3 ?_
  walk_at "E3"; generalize (z3 _ _).1 = h3; generalize (z3 _ _).2.1 = tk3; generalize (z3 _ _).2.2 = l3
  refine A3 ?_
  intro e S3 q3
  subst e
  cases f with
  | next => obtain ⟨m, hm, j⟩ := q3; exact ⟨m, hm, h3, tk3, l3, rfl, S3, j⟩
  | cont => obtain ⟨m, hm, j⟩ := q3; exact ⟨m, hm, h3, tk3, l3, rfl, S3, j⟩
  | brk => exact ⟨h3, tk3, l3, rfl, S3, q3⟩
  | ret v => exact ⟨h3, tk3, l3, rfl, S3, q3⟩
end
structure Gd (c : Cx) (K : Frag) : Prop where
 X : K.In c.B
 G : ∃ mg, c.B.Ns mainGlobals mg
 Bn : ∃ mb, c.B.Ns builtinsNs mb ∧ ∀ x : Str, x ≠ "__name__" → mb x = bootBuiltins x
 lim : c.B.NoLimit
structure Room (A : Around) (n : Nat) : Prop where
 hh : A.handled = none
 dp : A.depth + n < recursionLimit
 un : A.units + 10 * n < cLine
theorem Room.deeper {A : Around} {n : Nat} {env : Env} (r : Room A (n + 1)) : Room (A.deeper env) n := ⟨r.hh, by have := r.dp; show A.depth + 1 + n < _; omega, by have := r.un; show A.units + 3 + 10 * n < _; omega⟩
theorem Room.in1 {A : Around} {n : Nat} (r : Room A (n + 1)) : Room A.in1 n := ⟨r.hh, by have := r.dp; show A.depth + n < _; omega, by have := r.un; show A.units + 1 + 10 * n < _; omega⟩
theorem Room.less {A : Around} {n m : Nat} (r : Room A n) (h : m ≤ n) : Room A m := ⟨r.hh, by have := r.dp; omega, by have := r.un; omega⟩
section
variable {c : Cx} {K : Frag} {A : Around} {l : Led} {env : Env}
theorem W.glob {x : Str} {pos : Pos} {v : Value} {Q : Value → Led → Prop} (T : Gd c K) (e : nsIn K mainGlobals x = some (some v)) (hg : env.globals = mainGlobals) (hk : env.scope.kind = .function) (hx : env.kindOf x = some .globalImplicit)
  (hd : (x == ("__debug__" : Str)) = false) (q : Q v l) : W c A (eval (.Name x pos) env) l Q := fun R h tk S => by
 obtain ⟨mg, G⟩ := T.G
 exact Name_function_global hk hx (loadGlobal_global (env := env) (by rw [hg]; exact G.keeps S.base) (mg_of T.X G e) ⟨h, tk, l, rfl, S, q⟩) hd
theorem W.blt {x : Str} {pos : Pos} {v : Value} {Q : Value → Led → Prop} (T : Gd c K) (e : nsIn K mainGlobals x = some none) (hv : bootBuiltins x = some v) (hn : x ≠ "__name__") (hg : env.globals = mainGlobals) (hb : env.builtins = builtinsNs) (hk : env.scope.kind = .function) (hx : env.kindOf x = some .globalImplicit)
  (hd : (x == ("__debug__" : Str)) = false) (q : Q v l) : W c A (eval (.Name x pos) env) l Q := fun R h tk S => by
 obtain ⟨mg, G⟩ := T.G
 refine X1 ?_ (T.Bn)
 intro mb
 refine A2 ?_
 intro Bn hm
 exact Name_function_global hk hx (loadGlobal_builtin (env := env) (by rw [hg]; exact G.keeps S.base) (mg_none_of T.X G e) (by rw [hb]; exact Bn.keeps S.base) ((hm x hn).trans hv) ⟨h, tk, l, rfl, S, q⟩) hd
theorem W.evalArgs {f : Value} {args : List Expr} {pos : Pos} {Q : Args → Led → Prop} (h : W c A (spliced (backTo pos (starEach args env))) l (fun vs l1 => Q ⟨vs, []⟩ l1))
  (hp : (backTo pos (starEach args env)).any (·.1) = false) : W c A (evalArgs f true (backTo pos (starEach args env)) []) l Q := fun R hp' tk S => by
 have h' := h R hp' tk S
 generalize hT : backTo pos (starEach args env) = T at h' hp ⊢
 cases T with
 | nil =>
  unfold PySem.evalArgs
  show wpAny _ A (spliced [] >>= _) _ _ _
  refine wpAny_bind (wpAny_mono h' (fun vs s' h' => ?_) fun _ _ x => x)
  refine wpAny_holding ?_
  exact wpAny_bind (wpAny_pure (wpAny_bind (wpAny_pure (wpAny_pure h'))))
 | cons x T =>
  obtain ⟨b, t⟩ := x
  rw [List.any_cons, Bool.or_eq_false_iff] at hp
  obtain rfl : b = false := hp.1
  exact evalArgs_plain h'
theorem W.callK {x : Str} {np pos : Pos} {fv : Value} {args : List Expr} {Q : Value → Led → Prop} (T : Gd c K) (hk : keepIn K fv = true)
  (h : W c A (eval (.Name x np) env) l (fun f l1 => f = fv ∧ W c A (spliced (backTo pos (starEach args env))) l1 (fun vs l2 => W c A (call fv vs) l2 Q)))
  (hp : (backTo pos (starEach args env)).any (·.1) = false := by rfl) : W c A (eval (.Call (.Name x np) args [] pos) env) l Q := fun R hp' tk S => by
 refine wpAny_Call_NameR (h.run S ?_)
 intro f s
 refine X3 ?_
 intro h1 tk1 l1
 refine A4 ?_
 intro e S1 e1 w
 subst e e1
 refine callWith_of (P := fun h => K.In h) (by rw [hp]; rfl) (keeps_K hk) ?_
 refine (W.evalArgs (Q := fun a l2 => W c A (call f a.pos a.kw) l2 Q) w hp).run S1 ?_
 intro a s
 refine X3 ?_
 intro h2 tk2 l2
 refine A3 ?_
 intro e S2 w2
 subst e
 exact ⟨T.X.keeps S2.base, w2 R h2 tk2 S2⟩
theorem W.callB {x : Str} {np pos : Pos} {id : String} {args : List Expr} {Q : Value → Led → Prop}
  (h : W c A (eval (.Name x np) env) l (fun f l1 => f = .builtin id ∧ W c A (spliced (backTo pos (starEach args env))) l1 (fun vs l2 => W c A (call (.builtin id) vs) l2 Q)))
  (hp : (backTo pos (starEach args env)).any (·.1) = false := by rfl) : W c A (eval (.Call (.Name x np) args [] pos) env) l Q := fun R hp' tk S => by
 refine wpAny_Call_NameR (h.run S ?_)
 intro f s
 refine X3 ?_
 intro h1 tk1 l1
 refine A4 ?_
 intro e S1 e1 w
 subst e e1
 refine callWith_builtin hp ?_
 exact (W.evalArgs (Q := fun a l2 => W c A (call (.builtin id) a.pos a.kw) l2 Q) w hp).run S1 fun a s F => F.go fun _ p => p
theorem W.callT {x : Str} {np pos : Pos} {id : String} {args : List Expr} {Q : Value → Led → Prop}
  (h : W c A (eval (.Name x np) env) l (fun f l1 => f = .type id ∧ W c A (spliced (backTo pos (starEach args env))) l1 (fun vs l2 => W c A (call (.type id) vs) l2 Q)))
  (hp : (backTo pos (starEach args env)).any (·.1) = false := by rfl) : W c A (eval (.Call (.Name x np) args [] pos) env) l Q := fun R hp' tk S => by
 refine wpAny_Call_NameR (h.run S ?_)
 intro f s
 refine X3 ?_
 intro h1 tk1 l1
 refine A4 ?_
 intro e S1 e1 w
 subst e e1
 refine PyProof.Rows.callWith_type hp ?_
 exact (W.evalArgs (Q := fun a l2 => W c A (call (.type id) a.pos a.kw) l2 Q) w hp).run S1 fun a s F => F.go fun _ p => p
noncomputable def Ty (l : Led) (v : Value) (T : String) : Prop := (∃ x t, v = .str x t ∧ T = "str") ∨ ∃ a P, v = .ref a ∧ (a, P) ∈ l ∧ ∀ o, P o → o.cls = .type T ∧ o.dict = none
theorem Ty.s {l : Led} {x : Str} {t : Tok} : Ty l (.str x t) "str" := .inl ⟨x, t, rfl, rfl⟩
theorem Ty.ls {a : Addr} {vs : List Value} (m : (a, Ls vs) ∈ l) : Ty l (.ref a) "list" := .inr ⟨a, _, rfl, m, fun o ⟨n, e⟩ => by rw [e]; exact ⟨rfl, rfl⟩⟩
theorem Ty.is {B h : Heap} {l : Led} {v : Value} {T : String} {g d tk os} (S : St B h l) (y : Ty l v T) : Shared.TypeIs ⟨h, g, d, tk, os⟩ v T := by
 rcases y with ⟨x, t, rfl, rfl⟩ | ⟨a, P, rfl, m, k⟩
 ·rfl
 ·refine X1 ?_ (S.cell m)
  intro o
  refine A2 ?_
  intro e p
  exact ⟨o, e, (k o p).1⟩
theorem Ty.mono {l l' : Led} {v : Value} {T : String} (y : Ty l v T) (s : ∀ p ∈ l, p ∈ l') : Ty l' v T := y.imp id fun ⟨a, P, e, m, k⟩ => ⟨a, P, e, s _ m, k⟩
theorem W.meth {o : Expr} {name : Str} {apos pos : Pos} {args : List Expr} {T id : String} {Q : Value → Led → Prop}
  (pa : PlainAttrs T) (slot : Slot T name id) (hty : typeOf (.builtin id) = Pure.pure (.type "method_descriptor"))
  (h : W c A (eval o env) l (fun ov l1 => Ty l1 ov T ∧ W c A (spliced (backTo pos (starEach args env))) l1 (fun vs l2 => W c A (call (.builtin id) (ov :: vs)) l2 Q)))
  (hbase : attributeBase o name env (eval o env) = eval o env := by rfl)
  (hfew : ((backTo pos (starEach args env)).all (fun x => !x.1) && (backToKw pos (keywordEach [] env)).all (fun x => x.1.isSome)
   && decide (args.length + ([] : List Keyword).length + (if ([] : List Keyword).isEmpty then 0 else 1) < 30)) = true := by rfl)
  (hline : (apos.endLine == pos.line) = true := by rfl)
  (hp : (backTo pos (starEach args env)).any (·.1) = false := by rfl) : W c A (eval (.Call (.Attribute o name apos) args [] pos) env) l Q := fun R hp' tk S => by
 refine wpAny_Call_method hbase hfew hline pa slot hty (h.run S ?_)
 intro ov s
 refine X3 ?_
 intro h1 tk1 l1
 refine A4 ?_
 intro e S1 y w
 subst e
 refine ⟨Ty.is S1 (y.mono fun p hp => List.mem_append_left R hp), fun a e => ?_, ?_⟩
 ·rcases y with ⟨x, t, rfl, rfl⟩ | ⟨a', P, rfl, m, k⟩
  ·cases e
  ·cases e
   refine X1 ?_ (S1.cell (List.mem_append_left R m))
   intro ob
   refine A2 ?_
   intro e p
   exact ⟨ob, e, (k ob p).2⟩
 ·refine callWith_builtin hp ?_
  exact (W.evalArgs (Q := fun a l2 => W c A (call (.builtin id) ([ov] ++ a.pos) a.kw) l2 Q) w hp).run S1 fun a s F => F.go fun _ p => p
theorem lookup_append_one {α : Type} (l : List (Str × α)) (k x : Str) (v : α) : (l ++ [(k, v)]).lookup x = (l.lookup x).or (if x = k then some v else none) := by
 induction l with
 | nil =>
  simp only [List.nil_append, List.lookup_cons, List.lookup_nil, Option.none_or]
  cases h : x == k with
  | true => rw [if_pos (beq_iff_eq.mp h)]
  | false => rw [if_neg (fun e => by rw [beq_iff_eq.mpr e] at h; cases h)]
 | cons p r ih =>
  obtain ⟨a, b⟩ := p
  rw [List.cons_append, List.lookup_cons, List.lookup_cons]
  cases h : x == a with
  | true => rfl
  | false => exact ih
theorem look_binds : ∀ (ps os : List Str) (vs : List Value), ps.length = vs.length → (ps ++ os).Nodup → ∀ x, (ps.zip vs).reverse.lookup x = posLook (ps ++ os) (vs.map some ++ os.map fun _ => none) x
 | [], os, [], _, _, x => by
  show none = _
  induction os with
  | nil => rfl
  | cons o os ih =>
   rename_i nd
   simp only [List.nil_append, List.map_cons, List.map_nil, posLook]
   split
   ·rfl
   ·exact ih (List.nodup_cons.mp nd).2
 | p :: ps, os, v :: vs, hl, nd, x => by
  rw [List.zip_cons_cons, List.reverse_cons, lookup_append_one, look_binds ps os vs (by simpa using hl) (by simpa using (List.nodup_cons.mp (by simpa using nd)).2) x]
  obtain ⟨n1, n2⟩ := List.nodup_cons.mp (show (p :: (ps ++ os)).Nodup by simpa using nd)
  simp only [List.cons_append, List.map_cons, posLook]
  by_cases h : x = p
  ·rw [if_pos h, if_pos h]
   have : posLook (ps ++ os) (vs.map some ++ os.map fun _ => none) x = none := by
    subst h
    generalize (vs.map some ++ os.map fun _ => none) = us
    generalize ps ++ os = ns at n1
    clear nd hl n2
    induction ns generalizing us with
    | nil => cases us <;> rfl
    | cons n ns ih =>
     cases us with
     | nil => rfl
     | cons u us =>
      simp only [posLook]
      rw [if_neg (fun e => n1 (List.mem_cons.mpr (.inl e)))]
      exact ih us (fun m => n1 (.tail _ m))
   rw [this]; rfl
  ·rw [if_neg h, if_neg h]; simp
theorem W.def {f : Addr} {fd : FuncData} {oc : Value} {od : Option Addr} {osl : Array (Option Value)} {body : List Stmt} {args : List Value} {kw : List (Str × Value)} {ps os : List Str} {vs : List Value} {n : Nat} {Q : Value → Led → Prop}
  (T : Gd c K) (r : Room A (n + 1)) (ho : K.lookup f = some ⟨oc, od, .func fd, osl⟩) (hcd : codeIn K fd.code fd.qualname = true) (hbody : fd.body = .stmts body)
  (hbind : ∀ s : Shared, K.In s.heap → BindsTo s fd ⟨args, kw⟩ (ps.zip vs)) (hlen : ps.length = vs.length) (hnd : (ps ++ os).Nodup)
  (hcell : ∀ x ∈ fd.scope.names, x.2 ≠ .cell) (hloc : ∀ x ∈ ps.zip vs, fd.scope.names.lookup x.1 = some .local)
  (h : ∀ L, W c (A.deeper (callEnv fd L f)) (execs body (callEnv fd L f)) ((L, NP (ps ++ os) (vs.map some ++ os.map fun _ => none)) :: l) (fun fl l1 => Q (match fl with | .ret v => v | _ => .none) l1))
  (hco : fd.scope.isCoroutine = false := by rfl) (hgen : fd.scope.isGenerator = false := by rfl) (hk : fd.scope.kind = .function := by rfl) : W c A (call (.ref f) args kw) l Q := fun R hp tk S => by
 have X := T.X.keeps S.base
 refine wpAny_call (codeAny_call_def (fd := fd) (body := body) (binds := ps.zip vs) (by have := r.dp; (clear hlen; omega)) (X _ _ ho) rfl (T.lim.keeps S.base) (codeRec_of X hcd) hbody (hbind _ X) hcell hloc (fun h₀ hns hk₀ => ?_) hco hgen hk)
 obtain ⟨o, es, ep, e, hd, hks, hf⟩ := hns
 have S' : St c.B h₀ (((hp.objs.size, NP (ps ++ os) (vs.map some ++ os.map fun _ => none)) :: l) ++ R) :=
  S.new (Nat.le_refl _) hk₀ e ⟨hnd, by simp [hlen], es, ep, hd, hks, fun n => by rw [hf]; exact look_binds ps os vs hlen hnd n⟩
 exact (h hp.objs.size).run S' fun fl s q => q
theorem W.defP {f : Addr} {fd : FuncData} {oc : Value} {od : Option Addr} {osl : Array (Option Value)} {body : List Stmt} {ps os : List Str} {vs : List Value} {n : Nat} {Q : Value → Led → Prop}
  (T : Gd c K) (r : Room A (n + 1)) (ho : K.lookup f = some ⟨oc, od, .func fd, osl⟩) (hcd : codeIn K fd.code fd.qualname = true) (hbody : fd.body = .stmts body)
  (hbind : bindArgs fd ⟨vs, []⟩ = Pure.pure (ps.zip vs)) (hlen : ps.length = vs.length) (hnd : (ps ++ os).Nodup)
  (hcell : ∀ x ∈ fd.scope.names, x.2 ≠ .cell) (hloc : (ps.all fun x => decide (fd.scope.names.lookup x = some .local)) = true)
  (h : ∀ L, W c (A.deeper (callEnv fd L f)) (execs body (callEnv fd L f)) ((L, NP (ps ++ os) (vs.map some ++ os.map fun _ => none)) :: l) (fun fl l1 => Q (match fl with | .ret v => v | _ => .none) l1))
  (hco : fd.scope.isCoroutine = false := by rfl) (hgen : fd.scope.isGenerator = false := by rfl) (hk : fd.scope.kind = .function := by rfl) : W c A (call (.ref f) vs []) l Q :=
 W.def T r ho hcd hbody (fun s X => BindsTo.of_eq hbind) hlen hnd hcell (fun x hx => by
  have := List.all_eq_true.mp hloc x.1 (List.of_mem_zip hx).1
  exact of_decide_eq_true this) h hco hgen hk
end
section
variable {c : Cx} {K : Frag} {A : Around} {l l' : Led} {env : Env}
-- ints
variable {a b : Int} {t u : Tok}
theorem W.iadd {Q : Value → Led → Prop} (q : ∀ t, Q (.int (a + b) t) l) : W c A (binaryOp .Add (.int a t) (.int b u)) l Q := fun R h tk S => PyProof.Rows.add_int ⟨h, tk + 1, l, rfl, S, q tk⟩
theorem W.isub {Q : Value → Led → Prop} (q : ∀ t, Q (.int (a - b) t) l) : W c A (binaryOp .Sub (.int a t) (.int b u)) l Q := fun R h tk S => PyProof.Rows.sub_int ⟨h, tk + 1, l, rfl, S, q tk⟩
theorem W.imul {Q : Value → Led → Prop} (hm : IntMulOk a b) (q : ∀ t, Q (.int (a * b) t) l) : W c A (binaryOp .Mult (.int a t) (.int b u)) l Q := fun R h tk S => PyProof.Rows.mul_int ⟨h, tk + 1, l, rfl, S, q tk⟩ hm
theorem W.imod {Q : Value → Led → Prop} (hb : b ≠ 0) (q : ∀ t, Q (.int (a.fmod b) t) l) : W c A (binaryOp .Mod (.int a t) (.int b u)) l Q := fun R h tk S => PyProof.Rows.mod_int hb ⟨h, tk + 1, l, rfl, S, q tk⟩
theorem W.ineg {Q : Value → Led → Prop} (q : ∀ t, Q (.int (-a) t) l) : W c A (unaryOp .USub (.int a t)) l Q := fun R h tk S => PyProof.Rows.neg_int ⟨h, tk + 1, l, rfl, S, q tk⟩
theorem W.ieq {Q : Value → Led → Prop} (q : Q (.bool (a == b)) l) : W c A (compareOp .Eq (.int a t) (.int b u)) l Q := fun R h tk S => PyProof.Rows.eq_int ⟨h, tk, l, rfl, S, q⟩
theorem W.ine {Q : Value → Led → Prop} (q : Q (.bool (a != b)) l) : W c A (compareOp .NotEq (.int a t) (.int b u)) l Q := fun R h tk S => PyProof.Rows.ne_int ⟨h, tk, l, rfl, S, q⟩
theorem W.ilt {Q : Value → Led → Prop} (q : Q (.bool (decide (a < b))) l) : W c A (compareOp .Lt (.int a t) (.int b u)) l Q := fun R h tk S => PyProof.Rows.lt_int ⟨h, tk, l, rfl, S, q⟩
theorem W.igt {Q : Value → Led → Prop} (q : Q (.bool (decide (b < a))) l) : W c A (compareOp .Gt (.int a t) (.int b u)) l Q := fun R h tk S => PyProof.Rows.gt_int ⟨h, tk, l, rfl, S, q⟩
theorem W.ige {Q : Value → Led → Prop} (q : Q (.bool (decide (b ≤ a))) l) : W c A (compareOp .GtE (.int a t) (.int b u)) l Q := fun R h tk S => PyProof.Rows.ge_int ⟨h, tk, l, rfl, S, q⟩
theorem W.beq {b d : Bool} {Q : Value → Led → Prop} (q : Q (.bool (b == d)) l) : W c A (compareOp .Eq (.bool b) (.bool d)) l Q := fun R h tk S => PyProof.Rows.eq_bool ⟨h, tk, l, rfl, S, q⟩
theorem W.bne {b d : Bool} {Q : Value → Led → Prop} (q : Q (.bool (b != d)) l) : W c A (compareOp .NotEq (.bool b) (.bool d)) l Q := fun R h tk S => PyProof.Rows.ne_bool ⟨h, tk, l, rfl, S, q⟩
theorem W.isP {x y : Value} {Q : Value → Led → Prop} (hp : plainIs x y = true) (q : Q (.bool (x == y)) l) : W c A (compareOp .Is x y) l Q := fun R h tk S => wpAny_is_plain hp ⟨h, tk, l, rfl, S, q⟩
theorem W.isntP {x y : Value} {Q : Value → Led → Prop} (hp : plainIs x y = true) (q : Q (.bool (!(x == y))) l) : W c A (compareOp .IsNot x y) l Q := fun R h tk S => wpAny_isNot_plain hp ⟨h, tk, l, rfl, S, q⟩
-- texts
variable {x y : Str}
theorem W.sadd {Q : Value → Led → Prop} (hsz : x.length + y.length ≤ sizeLine) (q : ∀ t, Q (.str (x ++ y) t) l) : W c A (binaryOp .Add (.str x t) (.str y u)) l Q := fun R h tk S => PyProof.Rows.add_str (fun t' k => ⟨h, k, l, rfl, S, q t'⟩) hsz
theorem W.seq {Q : Value → Led → Prop} (q : Q (.bool (x == y)) l) : W c A (compareOp .Eq (.str x t) (.str y u)) l Q := fun R h tk S => PyProof.Rows.eq_str ⟨h, tk, l, rfl, S, q⟩
theorem W.notInStr {Q : Value → Led → Prop} (q : Q (.bool (!Txt.contains x y)) l) : W c A (compareOp .NotIn (.str y u) (.str x t)) l Q := fun R h tk S => PyProof.Rows.notIn_str ⟨h, tk, l, rfl, S, q⟩
theorem W.startswith {Q : Value → Led → Prop} (q : Q (.bool (Txt.startswith x y)) l) : W c A (call (.builtin "str.startswith") [.str x t, .str y u]) l Q := fun R h tk S => SC.startswith ⟨h, tk, l, rfl, S, q⟩
theorem W.endswith {Q : Value → Led → Prop} (q : Q (.bool (Txt.endswith x y)) l) : W c A (call (.builtin "str.endswith") [.str x t, .str y u]) l Q := fun R h tk S => SC.endswith ⟨h, tk, l, rfl, S, q⟩
theorem W.sindex {i : Nat} {rest : List Nat} {Q : Value → Led → Prop} (ho : Builtin.Str.occurrences x y 0 x.length 1 = i :: rest) (q : ∀ t, Q (.int i t) l) : W c A (call (.builtin "str.index") [.str x t, .str y u]) l Q := fun R h tk S => SC.index ho ⟨h, tk + 1, l, rfl, S, q tk⟩
theorem W.upper {Q : Value → Led → Prop} (hf : x.length ≤ 5592405) (q : ∀ t, Q (.str (Txt.upper x) t) l) : W c A (call (.builtin "str.upper") [.str x t]) l Q := fun R h tk S => SCL.upper hf fun _ => ⟨h, tk + 1, l, rfl, S, q tk⟩
theorem W.lower {Q : Value → Led → Prop} (hf : x.length ≤ 5592405) (q : ∀ t, Q (.str (Txt.lower x) t) l) : W c A (call (.builtin "str.lower") [.str x t]) l Q := fun R h tk S => SCL.lower hf fun _ => ⟨h, tk + 1, l, rfl, S, q tk⟩
theorem W.len {Q : Value → Led → Prop} (hf : x.length ≤ sizeLine) (q : ∀ t, Q (.int x.length t) l) : W c A (call (.builtin "len") [.str x t]) l Q := fun R h tk S =>
 PyProof.Rows.len_str (by have : sizeLine = 16777216 := rfl; omega) ⟨h, tk + 1 + 1, l, rfl, S, q _⟩
theorem W.join {D : Addr} {k : List (Str × Tok)} {texts : List Str} {Q : Value → Led → Prop} (m : (D, Ls (strValues k)) ∈ l) (ht : k.map (·.1) = texts) (hok : JoinOk x texts = true) (q : ∀ t, Q (.str (Txt.join x texts) t) l) : W c A (call (.builtin "str.join") [.str x t, .ref D]) l Q := fun R h tk S => by
 obtain ⟨o, e, n, p⟩ := S.cell (List.mem_append_left R m)
 exact SC.join ⟨o, e, by rw [p], n, by rw [p]⟩ ht hok fun t' k => ⟨h, k, l, rfl, S, q t'⟩
-- lists
theorem Tp.is {h : Heap} {a : Addr} {vs : List Value} {o : Obj} (e : h.get? a = some o) (p : Tp vs o) : h.IsTuple a vs.toArray := by
 obtain ⟨n, rfl⟩ := p; exact ⟨_, e, rfl, n, rfl⟩
theorem W.append {a : Addr} {vs : List Value} {v : Value} {Q : Value → Led → Prop} (hU : Up l a (Ls vs) (Ls (vs ++ [v])) l') (hsz : vs.length ≤ sizeLine) (q : Q .none l') : W c A (call (.builtin "list.append") [.ref a, v]) l Q := fun R h tk S => by
 obtain ⟨o, e, n, p⟩ := S.cell (List.mem_append_left R hU.mem)
 subst p
 refine wpAny_list_append_plain (items := vs.toArray) (hsz := by simpa using hsz) ⟨n, e⟩ fun h' hl hs => ?_
 obtain ⟨n', e'⟩ := hl
 exact ⟨h', tk, l', rfl, S.upd (hU.append R) hs e' ⟨n', by simp⟩, q⟩
theorem W.lsItem {a : Addr} {vs : List Value} {k : Int} {v : Value} {Q : Value → Led → Prop} (m : (a, Ls vs) ∈ l) (h0 : 0 ≤ k) (hx : vs[k.toNat]? = some v) (hsz : vs.length ≤ sizeLine) (q : Q v l) : W c A (getItem (.ref a) (.int k t)) l Q := fun R h tk S => by
 obtain ⟨o, e, p⟩ := S.cell (List.mem_append_left R m)
 have := (List.getElem?_eq_some_iff.mp hx).1
 exact wpAny_getItem_list (Ls.is e p) h0 (by have : sizeLine = 16777216 := rfl; omega) (by simpa using hx) ⟨h, tk, l, rfl, S, q⟩
theorem W.lsItemN {a : Addr} {vs : List Value} {k : Int} {v : Value} {Q : Value → Led → Prop} (m : (a, Ls vs) ∈ l) (h0 : k < 0) (h1 : -(vs.length : Int) ≤ k) (hx : vs[(k + vs.length).toNat]? = some v) (hsz : vs.length ≤ sizeLine) (q : Q v l) : W c A (getItem (.ref a) (.int k t)) l Q := fun R h tk S => by
 obtain ⟨o, e, p⟩ := S.cell (List.mem_append_left R m)
 exact wpAny_getItem_list_neg (Ls.is e p) h0 (by simpa using h1) (by have : sizeLine = 16777216 := rfl; omega) (by simpa using hx) ⟨h, tk, l, rfl, S, q⟩
theorem W.subs {value slice : Expr} {pos : Pos} {T id : String} {Q : Value → Led → Prop} (hl : typeLookup (.type T) "__getitem__" = Pure.pure (some (.builtin id)))
  (h : W c A (eval value env) l (fun o l1 => W c A (eval slice env) l1 (fun i l2 => Ty l2 o T ∧ W c A (getItem o i) l2 Q))) (hs : ∀ o i, subscripted slice false o i = operate [o, i] (getItem o i) := by intro _ _; rfl) : W c A (eval (.Subscript value slice pos) env) l Q := fun R hp tk S =>
 Subscript_ (h.run S fun o s F => F.run (fun _ p => p) fun i s ⟨h2, tk2, l2, e, S2, y, w⟩ => by
  subst e
  exact tail_any (Ty.is S2 (y.mono fun p hp => List.mem_append_left R hp)) hl (w R h2 tk2 S2) (hs _ _))
end
noncomputable abbrev Wd := List Bool
noncomputable def isPre : Wd → Wd → Bool
 | [], _ => true
 | _ :: _, [] => false
 | a :: x, b :: y => a == b && isPre x y
noncomputable def findIn (w g : Wd) (e : Nat) : Nat → Nat → Option Nat
 | 0, _ => none
 | n + 1, k => if k + w.length ≤ e then (if isPre w (g.drop k) then some k else findIn w g e n (k + 1)) else none
noncomputable def splitB : Nat → Wd → Wd → List Wd
 | 0, acc, _ => [acc]
 | _ + 1, acc, [] => [acc]
 | n + 1, acc, a :: r => match a, r with
  | false, false :: false :: r' => acc :: splitB n [] r'
  | a, r => splitB n (acc ++ [a]) r
noncomputable def ellLoop (got : Wd) (e : Nat) : List Wd → Nat → Bool
 | [], _ => true
 | w :: ws, p => match findIn w got e (e + 1 - p) p with
  | none => false
  | some q => ellLoop got e ws (q + w.length)
noncomputable def ellB (want got : Wd) : Bool :=
 let ws := splitB (want.length + 1) [] want
 if ws.length ≤ 1 then want == got else
 let w0 := ws.headD []
 if w0 != [] && !isPre w0 got then false else
 let (p, ws) := if w0 != [] then (w0.length, ws.tail) else (0, ws)
 let wl := ws.getLastD []
 if wl != [] && !(wl.length ≤ got.length && got.drop (got.length - wl.length) == wl) then false else
 let (e, ws) := if wl != [] then (got.length - wl.length, ws.dropLast) else (got.length, ws)
 if p > e then false else ellLoop got e ws p
noncomputable def textB (s0 s1 s2 f0 f1 f2 f3 : Bool) : Wd :=
 let d (f : Bool) : Wd := if f then [false, false, false] else []
 d f0 ++ [s0] ++ d f1 ++ [s1] ++ d f2 ++ [s2] ++ d f3
noncomputable def inT (dbl : Bool) (p : Wd) : Bool := p == [false] || p == [true] || p == [false, false, false] || (dbl && p == [true, true])
noncomputable def cutSize (dbl : Bool) (r : Wd) : Nat :=
 if inT dbl (r.take 3) then 3 else if inT dbl (r.take 2) then 2 else 1
noncomputable def cutB (dbl : Bool) : Nat → Wd → List Wd
 | 0, _ => []
 | _ + 1, [] => []
 | n + 1, r => r.take (cutSize dbl r) :: cutB dbl n (r.drop (cutSize dbl r))
noncomputable def placesB (pieces : List Wd) : Wd × List Bool :=
 pieces.foldl (fun (l, f) p => if p == [false, false, false] then (l, f.dropLast ++ [true]) else (l ++ p, f ++ p.map fun _ => false)) ([], [false])
noncomputable def aheadB (places : List Nat) (sign : Bool) (letters : Wd) (free : List Bool) : List Nat :=
 (List.range free.length).filter fun k => (places.contains k && free.getD k false) || (decide (1 ≤ k) && places.contains (k - 1) && letters.getD (k - 1) false == sign)
structure LS where
 found : List (List Nat)
 words : List Wd
 steps : List Nat
noncomputable def idx [BEq α] (l : List α) (x : α) : Nat := l.findIdx (· == x)
noncomputable def leastSign (letters : Wd) (free : List Bool) (k : Nat) (st : LS) (sign : Bool) : LS :=
 let a := aheadB (st.found.getD k []) sign letters free
 let st := if st.found.contains a then st else { st with found := st.found ++ [a], words := st.words ++ [st.words.getD k [] ++ [sign]] }
 { st with steps := st.steps ++ [idx st.found a] }
noncomputable def leastTurn (letters : Wd) (free : List Bool) (k : Nat) (st : LS) : LS := leastSign letters free k (leastSign letters free k st false) true
noncomputable def leastRun (letters : Wd) (free : List Bool) : Nat → Nat → LS → LS
 | 0, _, st => st
 | n + 1, k, st => if k < st.found.length then leastRun letters free n (k + 1) (leastTurn letters free k st) else st
noncomputable def mostB (l : List Nat) : Nat := l.foldl (fun a k => max a (k + 1)) 0
noncomputable def leastEnd (letters : Wd) (st : LS) : List Wd × List Bool × List Nat :=
 let most := st.found.map mostB
 let firsts := (List.range st.found.length).filter fun i => !((most.take i).contains (most.getD i 0))
 let kinds := firsts.map fun i => most.getD i 0
 let ways := firsts.flatMap fun i => [0, 1].map fun j => idx kinds (most.getD (st.steps.getD (2 * i + j) 0) 0)
 (firsts.map fun i => st.words.getD i [], firsts.map fun i => (st.found.getD i []).contains letters.length, ways)
noncomputable def wayStep (ways : List Nat) (road : List Nat) (b : Bool) : Option (List Nat) := (ways[2 * road.getLastD 0 + b.toNat]?).map fun q => road ++ [q]
noncomputable def way (word : Wd) (ways : List Nat) : Option (List Nat) := word.foldlM (wayStep ways) [0]
noncomputable def wayEnd (word : Wd) (ways : List Nat) : Option Nat := (way word ways).bind fun l => l.getLast?
structure TS where
 book : List (List Bool × Wd)
 words : List Wd
 ways : List Nat
noncomputable def setB (book : List (List Bool × Wd)) (row : List Bool) (word : Wd) : List (List Bool × Wd) × Wd :=
 match book.find? (fun p => p.1 == row) with
 | some p => (book, p.2)
 | none => (book ++ [(row, word)], word)
noncomputable def tabSign (text : Wd) (ends : List Wd) (k : Nat) (st : TS) (sign : Bool) : TS :=
 let word := st.words.getD k [] ++ [sign]
 let row := ends.map fun e => ellB text (word ++ e)
 let (book, told) := setB st.book row word
 let words := if st.words.contains told then st.words else st.words ++ [told]
 ⟨book, words, st.ways ++ [idx words told]⟩
noncomputable def tabTurn (text : Wd) (ends : List Wd) (k : Nat) (st : TS) : TS := tabSign text ends k (tabSign text ends k st false) true
noncomputable def tabRun (text : Wd) (ends : List Wd) : Nat → Nat → TS → TS
 | 0, _, st => st
 | n + 1, k, st => if k < st.words.length then tabRun text ends n (k + 1) (tabTurn text ends k st) else st
noncomputable def tableB (text : Wd) (ends : List Wd) : TS :=
 let row := ends.map fun e => ellB text e
 tabRun text ends 9 0 ⟨[(row, [])], [[]], []⟩
structure US where
 pairs : List (Nat × Nat)
 roads : List Wd
noncomputable def unSign (ways steps : List Nat) (k : Nat) (st : US) (j : Bool) : Option US := do
 let p ← st.pairs[k]?
 let a ← ways[2 * p.1 + j.toNat]?
 let b ← steps[2 * p.2 + j.toNat]?
 let r ← st.roads[k]?
 if st.pairs.contains (a, b) then some st else some ⟨st.pairs ++ [(a, b)], st.roads ++ [r ++ [j]]⟩
noncomputable def unRun (yes : List Bool) (ways : List Nat) (own : List Bool) (steps : List Nat) : Nat → Nat → US → Option (Option Wd)
 | 0, _, _ => none
 | n + 1, k, st =>
  if k < st.pairs.length then do
   let p ← st.pairs[k]?
   let y ← yes[p.1]?
   let o ← own[p.2]?
   if y != o then (st.roads[k]?).map some else do
    let st ← unSign ways steps k st false
    let st ← unSign ways steps k st true
    unRun yes ways own steps n (k + 1) st
  else some none
noncomputable def unlikeB (yes : List Bool) (ways : List Nat) (own : List Bool) (steps : List Nat) : Option (Option Wd) := unRun yes ways own steps 82 0 ⟨[(0, 0)], [[]]⟩
noncomputable def bisB (text : Wd) (mixed : List Wd) (answer : Bool) : Nat → Nat → Nat → List Wd → Option (Nat × List Wd)
 | 0, _, _, _ => none
 | n + 1, lo, hi, asked =>
  if lo < hi then do
   let mid := (lo + hi) / 2
   let one ← mixed[mid]?
   if ellB text one == answer then bisB text mixed answer n (mid + 1) hi (asked ++ [one])
   else bisB text mixed answer n lo mid (asked ++ [one])
  else some (lo, asked)
noncomputable def toldB (due : List Wd) (own : List Bool) (steps : List Nat) (ends : List Wd) : Option (List (List Bool × Wd)) :=
 due.mapM fun word => do
  let as ← ends.mapM fun one => do
   let e ← wayEnd (word ++ one) steps
   own[e]?
  pure (as, word)
noncomputable def allW : Nat → List Wd
 | 0 => [[]]
 | n + 1 => (allW n).flatMap fun w => [false :: w, true :: w]
noncomputable def drawns : List Wd := (List.range 5).flatMap fun n => allW (n + 2)
noncomputable def bs : List Bool := [false, true]
noncomputable def texts : List Wd := bs.flatMap fun s0 => bs.flatMap fun s1 => bs.flatMap fun s2 => bs.flatMap fun f0 => bs.flatMap fun f1 => bs.flatMap fun f2 => bs.map fun f3 => textB s0 s1 s2 f0 f1 f2 f3
theorem foldlM_at {α β : Type} {f : β → α → Option β} {l : List α} {a r : β} (h : l.foldlM f a = some r) {i : Nat} {x : α} (hx : l[i]? = some x) {s : β} (hs : (l.take i).foldlM f a = some s) :
  ∃ s', f s x = some s' ∧ (l.take (i + 1)).foldlM f a = some s' := by
 have hl : l = l.take i ++ (x :: l.drop (i + 1)) := by
  have h1 := List.take_append_drop (i + 1) l
  rw [List.take_add_one, hx, List.append_assoc] at h1
  exact h1.symm
 have ht : l.take (i + 1) = l.take i ++ [x] := by rw [List.take_add_one, hx]; rfl
 rw [hl, List.foldlM_append, hs] at h
 have h' : (f s x).bind (fun s' => List.foldlM f s' (l.drop (i + 1))) = some r := h
 cases e : f s x with
 | none => rw [e] at h'; cases h'
 | some s' =>
  refine ⟨s', rfl, ?_⟩
  rw [ht, List.foldlM_append, hs]
  show (f s x).bind (fun s' => List.foldlM f s' []) = some s'
  rw [e]; rfl
noncomputable def sg (ch : Nat) (b : Bool) : Nat := if b then ch else 46
noncomputable def enc (ch : Nat) (w : Wd) : Str := ⟨(w.map (sg ch)).toArray⟩
theorem enc_len (ch : Nat) (w : Wd) : (enc ch w).length = w.length := by simp [enc, Str.length]
theorem enc_size (ch : Nat) (w : Wd) : (enc ch w).cps.size = w.length := by simp [enc]
theorem enc_app (ch : Nat) (w v : Wd) : enc ch (w ++ v) = enc ch w ++ enc ch v := Str.ext' (by rw [Str.cps_append]; simp [enc])
theorem sg_inj {ch : Nat} (h : ch ≠ 46) {a b : Bool} (e : sg ch a = sg ch b) : a = b := by
 cases a <;> cases b <;> simp [sg] at e <;> first | rfl | exact absurd e h | exact absurd e.symm h
theorem enc_inj {ch : Nat} (h : ch ≠ 46) : ∀ {w v : Wd}, enc ch w = enc ch v → w = v := by
 intro w v e
 have e' : w.map (sg ch) = v.map (sg ch) := by
  have := congrArg (fun x : Str => x.cps.toList) e
  simpa [enc] using this
 exact List.map_inj_right (fun a b => sg_inj h) |>.mp e'
theorem enc_beq {ch : Nat} (h : ch ≠ 46) (w v : Wd) : (enc ch w == enc ch v) = (w == v) := by
 by_cases e : w = v
 ·subst e; simp
 ·rw [beq_eq_false_iff_ne.mpr e, beq_eq_false_iff_ne.mpr fun q => e (enc_inj h q)]
theorem enc_sign {ch : Nat} {w : Wd} {i : Nat} {v : Value} (h : SignAt (enc ch w) i v) : ∃ b u, w[i]? = some b ∧ v = .str (enc ch [b]) u := by
 obtain ⟨c, u, hc, rfl⟩ := h
 simp only [enc, List.getElem?_toArray, List.getElem?_map, Option.map_eq_some_iff] at hc
 refine X1 ?_ (hc)
 intro b
 refine A2 ?_
 intro hb zz1
 subst zz1
 clear hc
 exact ⟨b, u, hb, rfl⟩
theorem Itr.enc {c : Cx} {l : Led} {ch : Nat} {w : Wd} {t : Tok} : Itr c (.str (enc ch w) t) l w.length (fun i v => ∃ b u, w[i]? = some b ∧ v = .str (Mine.enc ch [b]) u) [] := by
 refine ⟨fun {A Q} hh k => (Itr.str (c := c) (x := Mine.enc ch w) (t := t)).it hh fun I It X => k I It ?_⟩
 rw [enc_size] at X
 exact ⟨fun a b d e => X.next a b d fun v hv => e v (enc_sign hv), X.done, X.self⟩
theorem enc_index {ch : Nat} (h : ch ≠ 46) (b : Bool) : Builtin.Str.occurrences (enc ch [false, true]) (enc ch [b]) 0 (enc ch [false, true]).length 1 = [b.toNat] := by
 have h' : (46 == ch) = false := beq_eq_false_iff_ne.mpr (Ne.symm h)
 cases b <;> simp [Builtin.Str.occurrences, Builtin.Str.subAt, enc, sg, Str.length, Id.run, List.range', h, Ne.symm h] <;> rfl
theorem W.index {c : Cx} {A : Around} {l : Led} {ch : Nat} {b : Bool} {t u : Tok} {Q : Value → Led → Prop} (h : ch ≠ 46) (q : ∀ t, Q (.int b.toNat t) l) : W c A (call (.builtin "str.index") [.str (Mine.enc ch [false, true]) t, .str (Mine.enc ch [b]) u]) l Q :=
 W.sindex (enc_index h b) q
noncomputable def NatsAre (vs : List Value) (ns : List Nat) : Prop := vs.length = ns.length ∧ ∀ (i n : Nat), ns[i]? = some n → ∃ t, vs[i]? = some (.int n t)
theorem NatsAre.nil : NatsAre [] [] := ⟨rfl, by simp⟩
theorem NatsAre.snoc {vs ns} {n : Nat} {t : Tok} (h : NatsAre vs ns) : NatsAre (vs ++ [.int n t]) (ns ++ [n]) := by
 refine ⟨by simp [h.1], fun i m hm => ?_⟩
 rcases Nat.lt_or_ge i ns.length with hi | hi
 ·rw [List.getElem?_append_left hi] at hm
  rw [List.getElem?_append_left (by rw [h.1]; exact hi)]
  exact h.2 i m hm
 ·rw [List.getElem?_append_right hi] at hm
  rw [List.getElem?_append_right (by rw [h.1]; exact hi), h.1]
  cases hk : i - ns.length with
  | zero => rw [hk] at hm; simp at hm; subst hm; exact ⟨t, rfl⟩
  | succ k => rw [hk] at hm; simp at hm
theorem NatsAre.get {vs ns} (h : NatsAre vs ns) {i n : Nat} (hm : ns[i]? = some n) : ∃ t, vs[i]? = some (.int n t) := h.2 i n hm
theorem NatsAre.last {vs ns} (h : NatsAre vs ns) (h0 : 0 < ns.length) : ∃ t, vs[((-1 : Int) + vs.length).toNat]? = some (.int (ns.getLastD 0 : Nat) t) := by
 have e : ((-1 : Int) + vs.length).toNat = ns.length - 1 := by rw [h.1]; (clear h0; omega)
 rw [e]
 refine h.2 _ _ ?_
 cases ns with
 | nil => cases h0
 | cons a ns => simp [List.getLastD_cons, List.getLast?_eq_getElem?]
section
variable {c : Cx} {K : Frag} {A : Around} {l : Led} {env : Env}
theorem W.newList {vs : List Value} {Q : Value → Led → Prop} (hsz : vs.length ≤ sizeLine) (q : ∀ a, Q (.ref a) ((a, Ls vs) :: l)) : W c A (PySem.newList vs) l Q := fun R h tk S =>
 wpAny_newObj_type (Q := Fn c R Q) ⟨_, tk, _, rfl, S.push _ ⟨0, rfl⟩, q _⟩ (by show vs.toArray.size ≤ sizeLine; simpa using hsz)
noncomputable abbrev tests (ifs : List Expr) (env : Env) : Sem Bool := forIn ifs true fun c r => if r = true then do let ok ← isTrue c env (eval c env); Pure.pure (ForInStep.yield ok) else Pure.pure (ForInStep.yield r)
theorem W.testsNil {Q : Bool → Led → Prop} (q : Q true l) : W c A (tests [] env) l Q := fun R h tk S => wpAny_tests_nil ⟨h, tk, l, rfl, S, q⟩
theorem W.testsOne {e : Expr} {Q : Bool → Led → Prop} (h : W c A (isTrue e env (eval e env)) l Q) : W c A (tests [e] env) l Q := fun R hp tk S => wpAny_tests_one (h R hp tk S)
theorem St.news {B h h' : Heap} {l new : Led} (S : St B h l) (k : ∀ b o, h.get? b = some o → h'.get? b = some o) (lo : ∀ p ∈ new, h.objs.size ≤ p.1) (nd : (new.map (·.1)).Nodup) (at_ : ∀ p ∈ new, ∃ o, h'.get? p.1 = some o ∧ p.2 o) : St B h' (new ++ l) := by
 have S' := S.keep k
 refine ⟨fun q hq => ?_, ?_, S'.base, fun q hq => ?_, S.low⟩
 ·rcases List.mem_append.mp hq with hq | hq
  ·exact at_ q hq
  ·exact S'.at_ q hq
 ·rw [List.map_append]
  refine List.nodup_append.mpr ⟨nd, S.nodup, fun a ha b hb e => ?_⟩
  refine X1 ?_ (List.mem_map.mp ha)
  intro p
  refine A2 ?_
  intro hp zz1
  subst zz1
  refine X1 ?_ (List.mem_map.mp hb)
  intro q
  refine A2 ?_
  intro hq zz2
  subst zz2
  refine X1 ?_ (S.at_ q hq)
  intro o
  refine A2 ?_
  intro ho _
  have h1 := Heap.lt_size ho
  have h2 := lo p hp
  rw [e] at h2
  exact absurd h1 (Nat.not_lt.mpr h2)
 ·rcases List.mem_append.mp hq with hq | hq
  ·exact S.newAbove (lo q hq)
  ·exact S.above q hq
noncomputable def setPos : List Str → List (Option Value) → Str → Value → List (Option Value)
 | n :: ns, u :: us, x, v => if x = n then some v :: us else u :: setPos ns us x v
 | _, us, _, _ => us
theorem setPos_look : ∀ (ns : List Str) (us : List (Option Value)) (x : Str) (v : Value), x ∈ ns → ns.length = us.length → ∀ y, posLook ns (setPos ns us x v) y = if y = x then some v else posLook ns us y
 | n :: ns, u :: us, x, v, hx, hl, y => by
  unfold setPos
  by_cases h : x = n
  ·subst h
   rw [if_pos rfl]
   simp only [posLook]
   split <;> rfl
  ·rw [if_neg h]
   simp only [posLook]
   have hx' : x ∈ ns := by
    rcases List.mem_cons.mp hx with e | e
    ·exact absurd e h
    ·exact e
   by_cases hy : y = n
   ·rw [if_pos hy, if_pos hy, if_neg (fun e => h (e.symm.trans hy))]
   ·rw [if_neg hy, if_neg hy]
    exact setPos_look ns us x v hx' (by simpa using hl) y
theorem setPos_len : ∀ (ns : List Str) (us : List (Option Value)) (x : Str) (v : Value), (setPos ns us x v).length = us.length
 | n :: ns, u :: us, x, v => by
  unfold setPos
  split
  ·rfl
  ·simp [setPos_len ns us x v]
 | [], us, _, _ => by cases us <;> rfl
 | n :: ns, [], _, _ => rfl
noncomputable def fillL (names : List (Str × NameKind)) (k : NameKind) (ns : List Str) : List (Str × Value) → List (Option Value) → List (Option Value)
 | [], us => us
 | (n, v) :: r, us => fillL names k ns r (if (names.lookup n == some .local) == (k == .local) then setPos ns us n v else us)
theorem fillL_len (names k ns) : ∀ (bs : List (Str × Value)) (us : List (Option Value)), (fillL names k ns bs us).length = us.length
 | [], us => rfl
 | (n, v) :: r, us => by
  unfold fillL
  rw [fillL_len names k ns r]
  split
  ·exact setPos_len ..
  ·rfl
theorem bindL_fill {names : List (Str × NameKind)} {ns : List Str} : ∀ (bs : List (Str × Value)) (us : List (Option Value)), ns.length = us.length → (∀ b ∈ bs, names.lookup b.1 = some .local → b.1 ∈ ns) →
  ∀ y, bindL (fun x => names.lookup x) bs (posLook ns us) y = posLook ns (fillL names .local ns bs us) y
 | [], us, _, _, y => rfl
 | (n, v) :: r, us, hl, hm, y => by
  unfold bindL fillL
  by_cases h : names.lookup n = some .local
  ·rw [if_pos h, if_pos (by rw [h]; rfl)]
   rw [← bindL_fill r (setPos ns us n v) (by rw [setPos_len]; exact hl) (fun b hb => hm b (.tail _ hb)) y]
   congr 1
   funext z
   exact (setPos_look ns us n v (hm _ (.head _) h) hl z).symm
  ·rw [if_neg h, if_neg (by simpa using h)]
   exact bindL_fill r us hl (fun b hb => hm b (.tail _ hb)) y
theorem bindC_fill {names : List (Str × NameKind)} {ns : List Str} : ∀ (bs : List (Str × Value)) (us : List (Option Value)), ns.length = us.length → (∀ b ∈ bs, names.lookup b.1 ≠ some .local → b.1 ∈ ns) →
  ∀ y, bindC (fun x => names.lookup x) bs (posLook ns us) y = posLook ns (fillL names .cell ns bs us) y
 | [], us, _, _, y => rfl
 | (n, v) :: r, us, hl, hm, y => by
  unfold bindC fillL
  by_cases h : names.lookup n = some .local
  ·rw [if_pos h, if_neg (by rw [h]; decide)]
   exact bindC_fill r us hl (fun b hb => hm b (.tail _ hb)) y
  ·rw [if_neg h, if_pos (by rw [show (names.lookup n == some NameKind.local) = false from beq_eq_false_iff_ne.mpr h]; decide)]
   rw [← bindC_fill r (setPos ns us n v) (by rw [setPos_len]; exact hl) (fun b hb => hm b (.tail _ hb)) y]
   congr 1
   funext z
   exact (setPos_look ns us n v (hm _ (.head _) h) hl z).symm
theorem cellsFrom_names : ∀ (names : List (Str × NameKind)) (n m : Nat) (a b : List (Str × Addr)), a.map (·.1) = b.map (·.1) → (cellsFrom n names a).map (·.1) = (cellsFrom m names b).map (·.1)
 | [], _, _, _, _, h => h
 | (x, k) :: r, n, m, a, b, h => by
  unfold cellsFrom
  split
  ·exact cellsFrom_names r _ _ _ _ (by simp [h])
  ·exact cellsFrom_names r _ _ _ _ h
noncomputable def envK (fd : FuncData) (L f : Addr) (cells : List (Str × Addr)) : Env := newEnv fd.scope L fd.globals cells (fd.qualname ++ ".<locals>.") (some f) fd.code none fd.builtins
theorem posLook_none (ns : List Str) : ∀ x, posLook ns (ns.map fun _ => none) x = none := by
 intro x
 induction ns with
 | nil => rfl
 | cons n ns ih => simp only [List.map_cons, posLook]; split; rfl; exact ih
theorem W.defC : ∀ {c : Cx} {K : Frag} {A : Around} {l : Led} {f : Addr} {fd : FuncData} {oc : Value} {od : Option Addr} {osl : Array (Option Value)} {body : List Stmt} {vs : List Value} {binds : List (Str × Value)} {names cns : List Str} {vals cvals : List (Option Value)} {n : Nat} {Q : Value → Led → Prop} (T : Gd c K) (r : Room A (n + 1)) (ho : K.lookup f = some ⟨oc, od, .func fd, osl⟩) (hcd : codeIn K fd.code fd.qualname = true) (hbody : fd.body = .stmts body) (hclo : fd.closure = []) (hbind : bindArgs fd ⟨vs, []⟩ = Pure.pure binds) (hnd : names.Nodup) (hkind : (binds.all fun x => (fd.scope.names.lookup x.1 == some .local && names.contains x.1) || (fd.scope.names.lookup x.1 == some .cell && cns.contains x.1)) = true) (hcns : (cellsFrom 0 fd.scope.names []).map (·.1) = cns) (hcd' : cns.Nodup) (hvals : fillL fd.scope.names .local names binds (names.map fun _ => none) = vals) (hcv : fillL fd.scope.names .cell cns binds (cns.map fun _ => none) = cvals) (h : ∀ L as, as.length = cns.length → W c (A.deeper (envK fd L f (cns.zip as))) (execs body (envK fd L f (cns.zip as))) (((L, NP names vals) :: as.zip (cvals.map Ce)) ++ l) (fun fl l1 => Q (match fl with | .ret v => v | _ => .none) l1)) (hco : fd.scope.isCoroutine = false := by rfl) (hgen : fd.scope.isGenerator = false := by rfl) (hk : fd.scope.kind = .function := by rfl), W c A (call (.ref f) vs []) l Q := by
 refine' @E18 _ _ _ _ _ _ _ _ _ _ _ _ _ _ _ _ _ _ _ (by walk_at "ne") ?_; generalize (z18 _ _).1 = c; generalize (z18 _ _).2.1 = K; generalize (z18 _ _).2.2.1 = A; generalize (z18 _ _).2.2.2.1 = l; generalize (z18 _ _).2.2.2.2.1 = f; generalize (z18 _ _).2.2.2.2.2.1 = fd; generalize (z18 _ _).2.2.2.2.2.2.1 = oc; generalize (z18 _ _).2.2.2.2.2.2.2.1 = od; generalize (z18 _ _).2.2.2.2.2.2.2.2.1 = osl; generalize (z18 _ _).2.2.2.2.2.2.2.2.2.1 = body; generalize (z18 _ _).2.2.2.2.2.2.2.2.2.2.1 = vs; generalize (z18 _ _).2.2.2.2.2.2.2.2.2.2.2.1 = binds; generalize (z18 _ _).2.2.2.2.2.2.2.2.2.2.2.2.1 = names; generalize (z18 _ _).2.2.2.2.2.2.2.2.2.2.2.2.2.1 = cns; generalize (z18 _ _).2.2.2.2.2.2.2.2.2.2.2.2.2.2.1 = vals; generalize (z18 _ _).2.2.2.2.2.2.2.2.2.2.2.2.2.2.2.1 = cvals; generalize (z18 _ _).2.2.2.2.2.2.2.2.2.2.2.2.2.2.2.2.1 = n; generalize (z18 _ _).2.2.2.2.2.2.2.2.2.2.2.2.2.2.2.2.2 = Q
 intro T r ho hcd hbody hclo hbind hnd hkind hcns hcd' hvals hcv h hco hgen hk
 walk_at "E3"; generalize (z3 _ _).1 = R; generalize (z3 _ _).2.1 = hp; generalize (z3 _ _).2.2 = tk
 intro S
 have X := T.X.keeps S.base
 have hkind' := List.all_eq_true.mp hkind
 refine wpAny_call (codeAny_call_cells (fd := fd) (body := body) (binds := binds) (by have := r.dp; (clear hcns; omega)) (X _ _ ho) rfl (T.lim.keeps S.base) (codeRec_of X hcd) hbody hbind hclo (fun x hx => ?_) (fun s₁ IC => ?_) hco hgen hk)
 ·have := hkind' x hx
  simp only [Bool.or_eq_true, Bool.and_eq_true, beq_iff_eq, List.contains_iff_mem] at this
  rcases this with ⟨a, _⟩ | ⟨a, b⟩
  ·exact .inl a
  ·refine .inr ⟨a, ?_⟩
   rw [← hcns, cellsFrom_names fd.scope.names 0 (hp.objs.size + 1) [] [] rfl] at b
   refine X1 ?_ (List.mem_map.mp b)
   intro p
   refine A2 ?_
   intro hp' e
   generalize q : List.lookup x.1 (cellsFrom (hp.objs.size + 1) fd.scope.names []) = zo1
   refine OCs zo1 ?_ ?_
   ·intro _
    intro ze1a
    subst ze1a
    rfl
   ·intro ze1b
    subst ze1b
    exact absurd hp' (fun hm => by
     have := List.lookup_eq_none_iff.mp q p hm
     rw [e] at this; simp at this)
 ·obtain ⟨⟨⟨h₁, tk₁, rfl⟩, hns, hkeep, hfresh⟩, hcell, hap, habv⟩ := IC
  have e1 : (cellsFrom (hp.objs.size + 1) fd.scope.names []).map (·.1) = cns := by rw [← hcns]; exact cellsFrom_names _ _ _ _ _ rfl
  have ez : cellsFrom (hp.objs.size + 1) fd.scope.names [] = cns.zip ((cellsFrom (hp.objs.size + 1) fd.scope.names []).map (·.2)) := by
   rw [← e1, List.zip_map', List.map_id'']
   intro x
   rfl
  generalize hcs : cellsFrom (hp.objs.size + 1) fd.scope.names [] = cs at e1 ez
  have hcells : (callEnvC fd hp.objs.size f).cells = cs := hcs
  rw [hcells] at hcell hap habv
  have ek : callEnvC fd hp.objs.size f = envK fd hp.objs.size f (cns.zip (cs.map (·.2))) := by rw [← ez, ← hcs]; rfl
  rw [ek]
  have hlen : (cs.map (·.2)).length = cns.length := by rw [← e1]; simp
  have hcl : cvals.length = cns.length := by rw [← hcv, fillL_len]; simp
  refine (h hp.objs.size (cs.map (·.2)) hlen).run (R := R) ?_ (fun fl s q => q)
  rw [List.append_assoc]
  refine S.news hkeep ?_ ?_ ?_
  ·walk_at "E1"; generalize z1 _ _ = p
   intro hp'
   rcases List.mem_cons.mp hp' with rfl | hp'
   ·exact Nat.le_refl _
   ·refine X1 ?_ (List.mem_map.mp (List.of_mem_zip hp').1)
    walk_at "E1"; generalize z1 _ _ = q
    refine A2 ?_
    intro hq e
    have : hp.objs.size < q.2 := habv q.1 q.2 hq
    rw [e] at this; (clear hcl hlen hcs hfresh hcns; omega)
  ·rw [List.map_cons, List.map_fst_zip (by simp [hlen, hcl])]
   refine List.nodup_cons.mpr ⟨fun m => ?_, ?_⟩
   ·refine X1 ?_ (List.mem_map.mp m)
    walk_at "E1"; generalize z1 _ _ = q
    refine A2 ?_
    intro hq e
    have : hp.objs.size < q.2 := habv q.1 q.2 hq
    rw [e] at this; exact Nat.lt_irrefl _ this
   ·exact List.pairwise_map.mpr hap
  ·intro p hp'
   rcases List.mem_cons.mp hp' with rfl | hp'
   ·obtain ⟨o, es, ep, e, hd, hks, hf⟩ := hns
    refine ⟨o, e, hnd, by rw [← hvals, fillL_len]; simp, es, ep, hd, hks, ?_⟩
    intro y
    rw [hf, ← hvals]
    rw [← bindL_fill binds (names.map fun _ => none) (by simp) (fun b hb hl => by
     have := hkind' b hb
     simp only [Bool.or_eq_true, Bool.and_eq_true, beq_iff_eq, List.contains_iff_mem] at this
     rcases this with ⟨_, a⟩ | ⟨a, _⟩
     ·exact a
     ·rw [hl] at a; cases a) y]
    have : (fun _ => none : Str → Option Value) = posLook names (names.map fun _ => none) := funext fun x => (posLook_none names x).symm
    rw [← this]; rfl
   ·obtain ⟨i, hi, e⟩ := List.getElem_of_mem hp'
    have hi' : i < cs.length := by simp at hi; (clear e hcl hlen hcs hfresh hcns; omega)
    have hic : i < cvals.length := by simp at hi; (clear hi' e hcl hlen hcs hfresh hcns; omega)
    have hin : i < cns.length := by (clear hi' e hi hlen hcs hfresh hcns; omega)
    have e2 : p = ((cs[i]).2, Ce cvals[i]) := by rw [← e]; simp
    have e3 : (cs[i]).1 = cns[i] := by simp [← e1]
    have hmem : cs[i] ∈ cs := List.getElem_mem _
    have hlook : cs.lookup (cs[i]).1 = some (cs[i]).2 := by
     generalize q : cs.lookup (cs[i]).1 = zo2
     refine OCn zo2 ?_ ?_
     ·intro ze2a
      subst ze2a
      have := List.lookup_eq_none_iff.mp q (cs[i]) hmem
      simp at this
     ·intro a
      intro ze2b
      subst ze2b
      have hm := mem_of_lookup q
      have nd : (cs.map (·.1)).Nodup := e1 ▸ hcd'
      obtain ⟨j, hj, ej⟩ := List.getElem_of_mem hm
      have : j = i := by
       have h1 : (cs.map (·.1))[j]'(by simpa using hj) = (cs.map (·.1))[i]'(by simpa using hi') := by simp [ej]
       exact (List.getElem_inj nd).mp h1
      subst this
      rw [ej]
    have hc := hcell _ _ hlook
    obtain ⟨o, eo, ed⟩ := hc
    subst e2
    refine ⟨o, eo, ⟨?_⟩⟩
    rw [ed, e3]
    congr 1
    have h1 := bindC_fill (names := fd.scope.names) (ns := cns) binds (cns.map fun _ => none) (by simp) (fun b hb hl => by
     have := hkind' b hb
     simp only [Bool.or_eq_true, Bool.and_eq_true, beq_iff_eq, List.contains_iff_mem] at this
     rcases this with ⟨a, _⟩ | ⟨_, a⟩
     ·exact absurd a hl
     ·exact a) cns[i]
    have : (fun _ => none : Str → Option Value) = posLook cns (cns.map fun _ => none) := funext fun x => (posLook_none cns x).symm
    rw [← this] at h1
    refine Eq.trans (show _ = _ from h1) ?_
    rw [hcv]
    have pl : ∀ (ns : List Str) (us : List (Option Value)) (i : Nat) (h1 : i < ns.length) (h2 : i < us.length), ns.Nodup → posLook ns us ns[i] = us[i] := by
     intro ns
     induction ns with
     | nil => intro us i h1; cases h1
     | cons n ns ih =>
      intro us i h1 h2 nd
      cases us with
      | nil => cases h2
      | cons u us =>
       refine NCz i ?_ ?_
       ·intro ze3a
        subst ze3a
        simp [posLook]
       ·intro i
        intro ze3b
        subst ze3b
        obtain ⟨n1, n2⟩ := List.nodup_cons.mp nd
        simp only [posLook, List.getElem_cons_succ]
        rw [if_neg (fun e => n1 (by rw [← e]; exact List.getElem_mem _))]
        exact ih us i (by simpa using h1) (by simpa using h2) n2
    exact pl cns cvals i hin hic hcd'
end
section
variable {c : Cx} {K : Frag} {A : Around} {l l' : Led} {env : Env} {t u : Tok}
noncomputable def Eqs (c : Cx) (n : Nat) (l : Led) (y x : Value) (b : Bool) : Prop := ∀ (A : Around), Room A n → ∀ (R : Led) (h : Heap) (tk : Tok), St c.B h (l ++ R) → SeqAt.EqAt A ⟨h, c.g, c.d, tk, c.os⟩ y x b
theorem Eqs.int {n : Nat} {a b : Int} : Eqs c n l (.int a t) (.int b u) (a == b) := fun A _ R h tk S => (MeetsSeq.EqGives.int a b t u).at A _
theorem Eqs.str {n : Nat} {x y : Str} : Eqs c n l (.str x t) (.str y u) (x == y) := fun A _ R h tk S => by
 have := (SeqRoads2.EqGives.str x y t u).at A ⟨h, c.g, c.d, tk, c.os⟩
 have e : (x == y) = (x.cps.toList == y.cps.toList) := by
  rw [Bool.eq_iff_iff, beq_iff_eq, beq_iff_eq]
  exact ⟨fun e => by rw [e], fun e => Str.ext' (Array.toList_inj.mp e)⟩
 rw [e]; exact this
theorem Room.units {A : Around} {n : Nat} (r : Room A n) : A.units < cLine := by have := r.un; omega
theorem Eqs.lists {n : Nat} {a b : Addr} {vs ws : List Value} (hne : a ≠ b) (ma : (a, Ls vs) ∈ l) (mb : (b, Ls ws) ∈ l) (e : Bool) (es : Nat → Bool)
  (he : ∀ j (h1 : j < vs.length) (h2 : j < ws.length), Eqs c n l vs[j] ws[j] (es j)) (hb : e = ((vs.length == ws.length) && (List.range vs.length).all es)) : Eqs c (n + 1) l (.ref a) (.ref b) e := fun A r R h tk S => by
 refine X1 ?_ (S.cell (List.mem_append_left R ma))
 intro oa
 refine A2 ?_
 intro ea pa
 refine X1 ?_ (S.cell (List.mem_append_left R mb))
 intro ob
 refine A2 ?_
 intro eb pb
 refine SeqAt.EqAt.of_refs hne ?_
 by_cases hl : vs.length = ws.length
 ·have : e = (List.range vs.toArray.size).all es := by rw [hb]; simp [hl]
  rw [this]
  refine SeqAt.RcAt.lists (Ls.is ea pa) (Ls.is eb pb) (by simpa using hl) r.units fun j h1 h2 => ?_
  have := he j (by simpa using h1) (by simpa using h2) A.in1 r.in1 R h tk S
  simpa using this
 ·have : e = false := by rw [hb, beq_eq_false_iff_ne.mpr hl]; rfl
  rw [this]
  exact SeqAt.RcAt.lists_lengths (Ls.is ea pa) (Ls.is eb pb) (by simpa using hl) r.units
theorem Eqs.tuples {n : Nat} {a b : Addr} {vs ws : List Value} (hne : a ≠ b) (ma : (a, Tp vs) ∈ l) (mb : (b, Tp ws) ∈ l) (e : Bool) (es : Nat → Bool)
  (he : ∀ j (h1 : j < vs.length) (h2 : j < ws.length), Eqs c n l vs[j] ws[j] (es j)) (hb : e = ((List.range (min vs.length ws.length)).all es && (vs.length == ws.length))) : Eqs c (n + 1) l (.ref a) (.ref b) e := fun A r R h tk S => by
 refine X1 ?_ (S.cell (List.mem_append_left R ma))
 intro oa
 refine A2 ?_
 intro ea pa
 refine X1 ?_ (S.cell (List.mem_append_left R mb))
 intro ob
 refine A2 ?_
 intro eb pb
 refine SeqAt.EqAt.of_refs hne ?_
 have : e = ((List.range (min vs.toArray.size ws.toArray.size)).all es && (vs.toArray.size == ws.toArray.size)) := by rw [hb]; simp
 rw [this]
 refine SeqAt.RcAt.tuples (Tp.is ea pa) (Tp.is eb pb) r.units fun j h1 h2 => ?_
 have := he j (by simpa using h1) (by simpa using h2) A.in1 r.in1 R h tk S
 simpa using this
theorem Eqs.same {n : Nat} {v : Value} : Eqs c n l v v true := fun A _ R h tk S => SeqAt.EqAt.same v
theorem W.inLs {n : Nat} {a : Addr} {vs : List Value} {x : Value} {Q : Value → Led → Prop} (r : Room A (n + 1)) (m : (a, Ls vs) ∈ l) (e : Value → Bool) (he : ∀ y, y ∈ vs → Eqs c n l y x (e y)) (q : Q (.bool (vs.any e)) l) : W c A (compareOp .In x (.ref a)) l Q := fun R h tk S => by
 refine X1 ?_ (S.cell (List.mem_append_left R m))
 intro oa
 refine A2 ?_
 intro ea pa
 exact SeqAt.in_listAt e (Ls.is ea pa) (fun y hy => he y (by simpa using hy) _ r.in1 R h tk S) ⟨h, tk, l, rfl, S, by simpa using q⟩
theorem W.notInLs {n : Nat} {a : Addr} {vs : List Value} {x : Value} {Q : Value → Led → Prop} (r : Room A (n + 1)) (m : (a, Ls vs) ∈ l) (e : Value → Bool) (he : ∀ y, y ∈ vs → Eqs c n l y x (e y)) (q : Q (.bool (!vs.any e)) l) : W c A (compareOp .NotIn x (.ref a)) l Q := fun R h tk S => by
 refine X1 ?_ (S.cell (List.mem_append_left R m))
 intro oa
 refine A2 ?_
 intro ea pa
 exact SeqAt.notIn_listAt e (Ls.is ea pa) (fun y hy => he y (by simpa using hy) _ r.in1 R h tk S) ⟨h, tk, l, rfl, S, by simpa using q⟩
theorem W.lsIndex {n : Nat} {a : Addr} {vs : List Value} {x : Value} {j : Nat} {Q : Value → Led → Prop} (r : Room A (n + 2)) (m : (a, Ls vs) ∈ l) (e : Value → Bool) (he : ∀ y, y ∈ vs → Eqs c n l y x (e y)) (hsz : vs.length ≤ sizeLine)
  (hj : j < vs.length) (hit : e vs[j] = true) (hno : ∀ i (hi : i < vs.length), i < j → e vs[i] = false) (q : ∀ t, Q (.int j t) l) : W c A (call (.builtin "list.index") [.ref a, x]) l Q := fun R h tk S => by
 obtain ⟨oa, ea, nn, rfl⟩ := S.cell (List.mem_append_left R m)
 refine call_meets F.slot_list_index ⟨_, ea, rfl⟩ F.entry_list_index (F.args_list_index_2 _ _) (SeqAt.list_indexAt a vs.toArray nn none #[] x e j (by simpa using hj) (by have : sizeLine = 16777216 := rfl; (clear hit; omega)) (by simpa using hit) (fun i hi h2 => by simpa using hno i (by simpa using hi) h2)) ⟨ea, fun y hy => ?_, ?_⟩
 ·refine he y (by simpa using hy) _ ?_ R h tk S
  first | exact r.in1.in1 | exact (r.in1).less (by (clear hit hj hsz; omega)) | exact r.less (by omega)
 ·exact ⟨h, tk + 1, l, rfl, S, q tk⟩
theorem W.eqLs {n : Nat} {a b : Addr} {vs ws : List Value} {e : Bool} {Q : Value → Led → Prop} (r : Room A (n + 1)) (ma : (a, Ls vs) ∈ l) (mb : (b, Ls ws) ∈ l) (es : Nat → Bool)
  (he : ∀ j (h1 : j < vs.length) (h2 : j < ws.length), Eqs c n l vs[j] ws[j] (es j)) (hb : e = ((vs.length == ws.length) && (List.range vs.length).all es)) (q : Q (.bool e) l) : W c A (compareOp .Eq (.ref a) (.ref b)) l Q := fun R h tk S => by
 refine X1 ?_ (S.cell (List.mem_append_left R ma))
 intro oa
 refine A2 ?_
 intro ea pa
 refine X1 ?_ (S.cell (List.mem_append_left R mb))
 intro ob
 refine A2 ?_
 intro eb pb
 by_cases hl : vs.length = ws.length
 ·have : e = (List.range vs.toArray.size).all es := by rw [hb]; simp [hl]
  refine SeqAt.eq_listAt (Ls.is ea pa) (Ls.is eb pb) (by simpa using hl) r.units (e := es) (fun j h1 h2 => ?_) ⟨h, tk, l, rfl, S, this ▸ q⟩
  have := he j (by simpa using h1) (by simpa using h2) A.in1 r.in1 R h tk S
  simpa using this
 ·have : e = false := by rw [hb, beq_eq_false_iff_ne.mpr hl]; rfl
  exact SeqAt.eq_list_lengthsAt (Ls.is ea pa) (Ls.is eb pb) (by simpa using hl) r.units ⟨h, tk, l, rfl, S, this ▸ q⟩
theorem W.len' {a : Addr} {vs : List Value} {Q : Value → Led → Prop} (m : (a, Ls vs) ∈ l) (hsz : vs.length ≤ sizeLine) (q : ∀ t, Q (.int vs.length t) l) : W c A (call (.builtin "len") [.ref a]) l Q := fun R h tk S => by
 refine X1 ?_ (S.cell (List.mem_append_left R m))
 intro oa
 refine A2 ?_
 intro ea pa
 refine call_len_list (Ls.is ea pa) (by have : sizeLine = 16777216 := rfl; simp; omega) ?_
 simp only [List.size_toArray]
 exact ⟨h, _, l, rfl, S, q _⟩
theorem W.delAt {a : Addr} {vs : List Value} {i : Int} {k : Nat} {Q : Unit → Led → Prop} (hU : Up l a (Ls vs) (Ls (vs.eraseIdx k)) l') (hfit : Builtin.List.listFitsIndex i = true) (hk : seqIndex? i vs.length = some k) (hsz : vs.length ≤ sizeLine) (q : Q () l') : W c A (delItem (.ref a) (.int i t)) l Q := fun R h tk S => by
 obtain ⟨oa, ea, nn, rfl⟩ := S.cell (List.mem_append_left R hU.mem)
 refine wpAny_delItem_plain (items := vs.toArray) ⟨nn, ea⟩ hfit (by simpa using hk) (fun h' hp hsb => ?_) (by simpa using hsz)
 obtain ⟨n', e'⟩ := hp
 exact ⟨h', tk, l', rfl, S.upd (hU.append R) hsb e' ⟨n', by simp⟩, q⟩
theorem W.addLs {a b : Addr} {vs ws : List Value} {Q : Value → Led → Prop} (ma : (a, Ls vs) ∈ l) (mb : (b, Ls ws) ∈ l) (hsz : vs.length + ws.length ≤ sizeLine) (q : ∀ d, Q (.ref d) ((d, Ls (vs ++ ws)) :: l)) : W c A (binaryOp .Add (.ref a) (.ref b)) l Q := fun R h tk S => by
 obtain ⟨oa, ea, na, rfl⟩ := S.cell (List.mem_append_left R ma)
 obtain ⟨ob, eb, nb, rfl⟩ := S.cell (List.mem_append_left R mb)
 refine P.add_list ea eb ?_ (by simpa using hsz)
 exact ⟨_, tk, _, rfl, S.push (P := Ls (vs ++ ws)) _ ⟨0, by simp⟩, q _⟩
theorem W.extend {a b : Addr} {vs ws : List Value} {Q : Value → Led → Prop} (hU : Up l a (Ls vs) (Ls (vs ++ ws)) l') (mb : (b, Ls ws) ∈ l) (hsz : vs.length + ws.length ≤ sizeLine) (q : Q .none l') : W c A (call (.builtin "list.extend") [.ref a, .ref b]) l Q := fun R h tk S => by
 obtain ⟨oa, ea, na, rfl⟩ := S.cell (List.mem_append_left R hU.mem)
 obtain ⟨ob, eb, nb, rfl⟩ := S.cell (List.mem_append_left R mb)
 have hz : ¬(!vs.toArray.isEmpty && Builtin.List.listTooLong (vs.toArray.size + ws.toArray.size)) = true := by
  have : Builtin.List.listTooLong (vs.toArray.size + ws.toArray.size) = false := by
   simp [Builtin.List.listTooLong, sizeLine] at hsz ⊢
   omega
  rw [this]; simp
 refine call_meets F.slot_list_extend ⟨_, ea, rfl⟩ F.entry_list_extend (F.args_list_extend_2 _ _) (AutoSeq1.list_extend_list_list_0 a vs.toArray na b ws.toArray nb hz (by simp; (clear hz; omega)) (by simp; (clear hz; omega))) ⟨ea, eb, ?_⟩
 exact ⟨_, tk, l', rfl, S.upd (hU.append R) (Heap.SameBut.update ..) (Heap.get?_update_self _ ea rfl) ⟨_, by simp [Obj.mapSeq]; rfl⟩, q⟩
theorem W.asTuple {elts : List Expr} {x1} {pos : Pos} {a : Addr} {vs : List Value} {Q : Unit → Led → Prop} (hh : A.handled = none) (m : (a, Tp vs) ∈ l) (hn : (assignEach elts env).length = vs.length) (hstar : (assignEach elts env).findIdx? (·.1) = none)
  (h : W c A (assignInOrder ((assignEach elts env).map (·.2)) vs) l Q) : W c A (PySem.assign (.Tuple elts x1 pos) env (.ref a)) l Q := fun R hp tk S => by
 refine X1 ?_ (S.cell (List.mem_append_left R m))
 intro oa
 refine A2 ?_
 intro ea pa
 refine wpAny_assign_Tuple hh (Tp.is ea pa) (by simpa using hn) hstar fun h' hx => ?_
 have S' : St c.B h' (l ++ R) := S.keep fun b o e => hx b o (Nat.ne_of_lt (Heap.lt_size e)) e
 simpa using h R h' tk S'
theorem W.inOrderNil {Q : Unit → Led → Prop} (q : Q () l) : W c A (assignInOrder [] []) l Q := fun R h tk S => wpAny_pure ⟨h, tk, l, rfl, S, q⟩
end
structure Dk (c : Cx) (kvs : List (Str × Value)) (o : Obj) : Prop where
 ex : ∃ es ep, o.ExactDict ∧ o.data = .dict es ep ∧ PySem.KeysOf (PySem.strKind c.prog c.w) es ∧ PySem.Pairs (PySem.strKind c.prog c.w) es.toList kvs ∧ (kvs.map (·.1)).Nodup
section
variable {c : Cx} {K : Frag} {A : Around} {l l' : Led} {env : Env} {t u : Tok}
theorem Dk.is {h : Heap} {a : Addr} {kvs} {o : Obj} (e : h.get? a = some o) (p : Dk c kvs o) : h.DictOf (PySem.strKind c.prog c.w) a kvs := let ⟨es, ep, r⟩ := p.ex; ⟨o, es, ep, e, r⟩
theorem strIs {x : Str} {t : Tok} : (PySem.strKind c.prog c.w).is x (.str x t) = true := by
 show Value.isStrOf x (.str x t) = true
 simp [Value.isStrOf]
theorem W.dict {pos} {Q : Value → Led → Prop} (q : ∀ a, Q (.ref a) ((a, Dk c []) :: l)) : W c A (eval (.Dict [] [] pos) env) l Q := fun R h tk S =>
 wpAny_Dict_empty ⟨_, tk, _, rfl, S.push _ ⟨#[], 0, ⟨rfl, rfl, rfl⟩, rfl, fun _ he => by simp at he, PySem.Pairs.nil, List.nodup_nil⟩, q _⟩
theorem W.notInDk {a : Addr} {kvs} {x : Str} {Q : Value → Led → Prop} (m : (a, Dk c kvs) ∈ l) (q : Q (.bool (!(valueAt kvs x).isSome)) l) : W c A (compareOp .NotIn (.str x t) (.ref a)) l Q := fun R h tk S => by
 refine X1 ?_ (S.cell (List.mem_append_left R m))
 intro oa
 refine A2 ?_
 intro ea pa
 have hs : (a == sysModules) = false := beq_eq_false_iff_ne.mpr (Nat.ne_of_gt (S.hi _ (List.mem_append_left R m)))
 exact wpAny_notIn_of strIs hs (Dk.is ea pa).mapOf ⟨h, tk + 1, l, rfl, S, q⟩
theorem W.getDk {a : Addr} {kvs} {x : Str} {v : Value} {Q : Value → Led → Prop} (m : (a, Dk c kvs) ∈ l) (hv : valueAt kvs x = some v) (q : Q v l) : W c A (getItem (.ref a) (.str x t)) l Q := fun R h tk S => by
 refine X1 ?_ (S.cell (List.mem_append_left R m))
 intro oa
 refine A2 ?_
 intro ea pa
 exact wpAny_getItem_of strIs (Dk.is ea pa).mapOf hv ⟨h, tk + 1, l, rfl, S, q⟩
theorem W.setDk {a : Addr} {kvs} {x : Str} {v : Value} {Q : Unit → Led → Prop} (hU : Up l a (Dk c kvs) (Dk c (stored kvs x v)) l') (hsz : kvs.length ≤ sizeLine) (q : Q () l') : W c A (PySem.setItem (.ref a) (.str x t) v) l Q := fun R h tk S => by
 refine X1 ?_ (S.cell (List.mem_append_left R hU.mem))
 intro oa
 refine A2 ?_
 intro ea pa
 refine wpAny_setItem_pairs strIs (Dk.is ea pa) (fun h' hd hsb => ?_) hsz
 obtain ⟨o', es, ep, e', r⟩ := hd
 exact ⟨h', tk + 1, l', rfl, S.upd (hU.append R) hsb e' ⟨es, ep, r⟩, q⟩
theorem Ty.dk {a : Addr} {kvs} (m : (a, Dk c kvs) ∈ l) : Ty l (.ref a) "dict" := .inr ⟨a, _, rfl, m, fun o p => by obtain ⟨es, ep, ⟨h1, h2, h3⟩, _⟩ := p.ex; exact ⟨h1, h2⟩⟩
end
noncomputable def yn (up b : Bool) : Nat := if up then (if b then 89 else 78) else (if b then 121 else 110)
noncomputable def rw' (up : Bool) (as : List Bool) : Str := ⟨(as.map (yn up)).toArray⟩
theorem rw_len (up as) : (rw' up as).length = as.length := by simp [rw', Str.length]
theorem yn_inj {up : Bool} {a b : Bool} (h : yn up a = yn up b) : a = b := by cases up <;> cases a <;> cases b <;> simp [yn] at h <;> rfl
theorem rw_inj {up : Bool} {as bs : List Bool} (h : rw' up as = rw' up bs) : as = bs := by
 have e' : as.map (yn up) = bs.map (yn up) := by
  have := congrArg (fun x : Str => x.cps.toList) h
  simpa [rw'] using this
 exact List.map_inj_right (fun a b => yn_inj) |>.mp e'
theorem placed_map {x : Str} {f : Nat → Nat → List Nat} {g : Nat → Nat} (h : ∀ i (hi : i < x.cps.size), f i x.cps[i] = [g x.cps[i]]) : placed x f = x.cps.map g := by
 unfold placed
 have : (x.cps.mapIdx fun i c => (f i c).toArray) = x.cps.map fun c => #[g c] := by
  apply Array.ext
  ·simp
  ·intro i h1 h2
   simp at h1
   simp [h i h1]
 rw [this]
 apply Array.toList_inj.mp
 rw [Array.toList_flatten]
 generalize x.cps = a
 obtain ⟨l⟩ := a
 simp
 induction l with
 | nil => rfl
 | cons a l ih => simp [ih]
theorem upper_row (as : List Bool) : Txt.upper (rw' false as) = rw' true as := by
 have h : ∀ i (hi : i < (rw' false as).cps.size), Unicode.upperOf (rw' false as).cps[i] = [(fun c => if c = 121 then 89 else 78) (rw' false as).cps[i]] := by
  intro i hi
  simp only [rw', List.getElem_toArray, List.getElem_map]
  cases as[i]'(by simpa [rw'] using hi) <;> decide +kernel
 unfold Txt.upper
 rw [placed_map (f := fun _ c => Unicode.upperOf c) (g := fun c => if c = 121 then 89 else 78) h]
 refine Str.ext' ?_
 simp only [rw', List.map_toArray, List.map_map]
 congr 1
 refine List.map_congr_left fun b _ => ?_
 cases b <;> rfl
theorem lower_row (up : Bool) (as : List Bool) : Txt.lower (rw' up as) = rw' false as := by
 have h : ∀ i (hi : i < (rw' up as).cps.size), Unicode.lowerAt (rw' up as).cps i = [(fun c => if c = 121 ∨ c = 89 then 121 else 110) (rw' up as).cps[i]] := by
  intro i hi
  unfold Unicode.lowerAt
  rw [Array.getElem?_eq_getElem hi]
  simp only [rw', List.getElem_toArray, List.getElem_map]
  cases up <;> cases as[i]'(by simpa [rw'] using hi) <;> simp [yn] <;> decide +kernel
 unfold Txt.lower
 rw [placed_map (f := fun i _ => Unicode.lowerAt (rw' up as).cps i) (x := rw' up as) (g := fun c => if c = 121 ∨ c = 89 then 121 else 110) h]
 refine Str.ext' ?_
 simp only [rw', List.map_toArray, List.map_map]
 congr 1
 refine List.map_congr_left fun b _ => ?_
 cases up <;> cases b <;> rfl
theorem join_signs (f : Bool → Nat) : ∀ (l : List Bool), Txt.join Str.empty (l.map fun b => (⟨#[f b]⟩ : Str)) = ⟨(l.map f).toArray⟩ := by
 intro l
 unfold Txt.join
 rw [StrLaws.glued_eq_join]
 induction l with
 | nil => rfl
 | cons a l ih =>
  cases l with
  | nil => rfl
  | cons b l =>
   have h2 : Str.join Str.empty (((a :: b :: l).map fun b => (⟨#[f b]⟩ : Str))) = (⟨#[f a]⟩ : Str) ++ Str.empty ++ Str.join Str.empty ((b :: l).map fun b => (⟨#[f b]⟩ : Str)) := rfl
   rw [h2, ih, Str.append_empty]
   refine Str.ext' ?_
   rw [Str.cps_append]
   simp
section
open PySem.Builtin PySem.Builtin.Str
theorem enc_toList (ch : Nat) (w : Wd) : (enc ch w).cps.toList = w.map (sg ch) := by simp [enc]
theorem map_sg_inj {ch : Nat} (h : ch ≠ 46) {w v : Wd} : w.map (sg ch) = v.map (sg ch) ↔ w = v :=
 List.map_inj_right (fun a b => sg_inj h)
theorem subAt_enc {ch : Nat} (h : ch ≠ 46) (g w : Wd) (i : Nat) : subAt (enc ch g) (enc ch w) i = ((g.drop i).take w.length == w) := by
 rw [StrLaws.subAt_eq, enc_toList, enc_toList, enc_len, ← List.map_drop, ← List.map_take]
 rw [Bool.eq_iff_iff, beq_iff_eq, beq_iff_eq]
 exact map_sg_inj h
theorem isPre_iff : ∀ (w g : Wd), isPre w g = (g.take w.length == w)
 | [], g => by simp [isPre]
 | a :: w, [] => by simp [isPre]
 | a :: w, b :: g => by
  show (a == b && isPre w g) = ((b :: g.take w.length) == (a :: w))
  rw [isPre_iff w g, Bool.eq_iff_iff]
  cases a <;> cases b <;> simp only [List.cons_beq_cons] <;> rfl
theorem starts_enc {ch : Nat} (h : ch ≠ 46) (g w : Wd) : Txt.startswith (enc ch g) (enc ch w) = isPre w g := by
 unfold Txt.startswith
 rw [subAt_enc h, isPre_iff, enc_len, enc_len, List.drop_zero, Bool.eq_iff_iff]
 simp only [Bool.and_eq_true, decide_eq_true_eq, beq_iff_eq]
 constructor
 ·exact fun x => x.2
 ·intro e; refine ⟨?_, e⟩
  have := congrArg List.length e; rw [List.length_take] at this; (clear h; omega)
theorem ends_enc {ch : Nat} (h : ch ≠ 46) (g w : Wd) : Txt.endswith (enc ch g) (enc ch w) = (decide (w.length ≤ g.length) && g.drop (g.length - w.length) == w) := by
 unfold Txt.endswith
 rw [subAt_enc h, enc_len, enc_len, Bool.eq_iff_iff]
 simp only [Bool.and_eq_true, decide_eq_true_eq, beq_iff_eq, Nat.zero_add]
 constructor
 ·rintro ⟨a, b⟩; refine ⟨a, ?_⟩
  rw [List.take_of_length_le (by rw [List.length_drop]; (clear b a h; omega))] at b; exact b
 ·rintro ⟨a, b⟩; refine ⟨a, ?_⟩
  rw [List.take_of_length_le (by rw [List.length_drop]; (clear b a h; omega))]; exact b
theorem head_of_range' {lo n : Nat} {pre post : List Nat} {a : Nat} (e : List.range' lo n = pre ++ a :: post) : ∀ k, lo ≤ k → k < a → k ∈ pre := by
 intro k h1 h2
 have hlen : a = lo + pre.length := by
  have h3 : (List.range' lo n)[pre.length]? = some a := by rw [e]; simp
  rw [List.getElem?_eq_some_iff] at h3
  obtain ⟨h4, h5⟩ := h3
  simp at h5; (clear h4 h2 h1 e; omega)
 have h6 : (List.range' lo n)[k - lo]? = pre[k - lo]? := by rw [e, List.getElem?_append_left (by (clear e; omega))]
 have h7 : k - lo < n := by
  have := congrArg List.length e
  simp at this; (clear h6 h1 e; omega)
 rw [List.getElem?_eq_getElem (by simpa using h7)] at h6
 have h8 : pre[k - lo]? = some k := by rw [← h6]; simp; (clear h6 h7 hlen h2 e; omega)
 exact List.mem_of_getElem? h8
theorem occ_one (x y : Str) (lo hi : Nat) : (occurrences x y lo hi 1 = [] ∧ ∀ i, lo ≤ i → ¬ StrLaws.At x y hi i) ∨ ∃ i, occurrences x y lo hi 1 = [i] ∧ lo ≤ i ∧ StrLaws.At x y hi i ∧ ∀ k, lo ≤ k → k < i → ¬ StrLaws.At x y hi k := by
 have hle := StrLaws.occ_length_le x y lo hi 1
 rw [StrLaws.occ_eq] at hle ⊢
 rcases StrLaws.occ_first x y hi 1 (Nat.le_refl _) (List.range' lo (hi + 1 - lo)) lo (fun i hi' => by simp [List.mem_range'] at hi'; (clear hle; omega)) with ⟨h0, hn⟩ | ⟨pre, a, post, e, h0, ha, hn⟩
 ·refine .inl ⟨by rw [h0], fun i hl hi' => hn i ?_ hi'⟩
  have := hi'.1; simp [List.mem_range']; exact ⟨i - lo, by (clear h0 hle; omega), by (clear this h0 hle; omega)⟩
 ·refine .inr ⟨a, ?_, ?_, ha, fun k h1 h2 => hn k (head_of_range' e k h1 h2)⟩
  ·generalize (forIn (List.range' lo (hi + 1 - lo)) ((#[] : Array Nat), lo) (StrLaws.occBody x y hi 1)).run.fst = arr at h0 hle
   have h1 : arr.toList[0]? = some a := by simpa using h0
   cases hL : arr.toList with
   | nil => rw [hL] at h1; cases h1
   | cons b t =>
    rw [hL] at h1 hle
    simp at h1 hle; rw [h1, hle]
  ·have hm : a ∈ List.range' lo (hi + 1 - lo) := by rw [e]; simp
   simp [List.mem_range'] at hm; (clear h0 e hle; omega)
theorem findIn_none (w g : Wd) (e : Nat) : ∀ (n k : Nat), (∀ i, k ≤ i → i < k + n → ¬ (i + w.length ≤ e ∧ isPre w (g.drop i) = true)) → findIn w g e n k = none
 | 0, _, _ => rfl
 | n + 1, k, h => by
  unfold findIn
  split
  ·split
   ·rename_i h1 h2; exact absurd ⟨h1, h2⟩ (h k (Nat.le_refl _) (by (clear h1; omega)))
   ·exact findIn_none w g e n (k + 1) fun i h1 h2 => h i (by (clear h2; omega)) (by (clear h1; omega))
  ·rfl
theorem findIn_some (w g : Wd) (e : Nat) : ∀ (n k j : Nat), k ≤ j → j < k + n → j + w.length ≤ e → isPre w (g.drop j) = true → (∀ i, k ≤ i → i < j → ¬ (i + w.length ≤ e ∧ isPre w (g.drop i) = true)) → findIn w g e n k = some j
 | 0, k, j, h1, h2, _, _, _ => by omega
 | n + 1, k, j, h1, h2, h3, h4, h5 => by
  unfold findIn
  rcases Nat.lt_or_ge k j with hk | hk
  ·rw [if_pos (by (clear hk h2; omega))]
   have := h5 k (Nat.le_refl _) hk
   rw [if_neg (fun q => this ⟨by (clear this hk h2; omega), q⟩)]
   exact findIn_some w g e n (k + 1) j hk (by (clear this hk h3 h1; omega)) h3 h4 fun i a b => h5 i (by (clear b this hk h3 h2 h1; omega)) b
  ·have : k = j := by (clear h3 h2; omega)
   subst this
   rw [if_pos h3, if_pos h4]
theorem at_enc {ch : Nat} (h : ch ≠ 46) (g w : Wd) (e i : Nat) : StrLaws.At (enc ch g) (enc ch w) e i ↔ (i + w.length ≤ e ∧ isPre w (g.drop i) = true) := by
 unfold StrLaws.At
 rw [subAt_enc h, enc_len, isPre_iff]
theorem occ_enc {ch : Nat} (h : ch ≠ 46) (g w : Wd) (lo hi : Nat) : occurrences (enc ch g) (enc ch w) lo hi 1 = (findIn w g hi (hi + 1 - lo) lo).toList := by
 rcases occ_one (enc ch g) (enc ch w) lo hi with ⟨h0, hn⟩ | ⟨i, h0, h1, h2, h3⟩
 ·rw [h0, findIn_none w g hi _ lo fun i a b c => hn i a ((at_enc h g w hi i).mpr c)]; rfl
 ·have h4 := (at_enc h g w hi i).mp h2
  rw [h0, findIn_some w g hi _ lo i h1 (by (clear h1 h0 h; omega)) h4.1 h4.2 fun k a b c => h3 k a b ((at_enc h g w hi k).mpr c)]; rfl
theorem gives_find4 (x y : Str) (i j : Int) (t u v v' : Tok) : Gives («str.find» ⟨[.str x t, .str y u, .int i v, .int j v'], []⟩) (.int (match occurrences x y (fromIndex x.length i) (min (fromIndex x.length j) x.length) 1 with | k :: _ => (k : Int) | [] => -1)) := by
 show Gives (match occurrences x y (fromIndex x.length i) (min (fromIndex x.length j) x.length) 1 with | k :: _ => retInt k | [] => (do rule "str.find.not-found"; retInt (-1))) _
 cases occurrences x y (fromIndex x.length i) (min (fromIndex x.length j) x.length) 1 with
 | nil => exact .rule (.of_eq rfl)
 | cons k _ => exact .of_eq rfl
section
variable {c : Cx} {A : Around} {l l' : Led} {t u : Tok}
theorem W.find4 {ch : Nat} (h : ch ≠ 46) {g w : Wd} {lo hi : Nat} {v v' : Tok} (hhi : hi ≤ g.length) {Q : Value → Led → Prop} (q : ∀ t, Q (.int (match findIn w g hi (hi + 1 - lo) lo with | some k => (k : Int) | none => -1) t) l) :
  W c A (call (.builtin "str.find") [.str (enc ch g) t, .str (enc ch w) u, .int lo v, .int hi v']) l Q := fun R hp tk S => by
 refine call_gives F.slot_str_find (typeIs_str _ _ _) F.entry_str_find (F.args_str_find_4 _ _ _ _) (gives_find4 _ _ lo hi t u v v') ?_
 have e1 : fromIndex (enc ch g).length (lo : Int) = lo := by unfold fromIndex; rw [if_neg (by (clear hhi h; omega))]; (clear hhi h; omega)
 have e2 : fromIndex (enc ch g).length (hi : Int) = hi := by unfold fromIndex; rw [if_neg (by (clear e1 hhi h; omega))]; (clear e1 hhi h; omega)
 rw [e1, e2, enc_len, Nat.min_eq_left hhi, occ_enc h]
 cases e : findIn w g hi (hi + 1 - lo) lo with
 | none => rw [e] at q; exact ⟨hp, tk + 1, l, rfl, S, q tk⟩
 | some k => rw [e] at q; exact ⟨hp, tk + 1, l, rfl, S, q tk⟩
end
noncomputable def cutsB : Nat → Nat → Wd → List Nat
 | 0, _, _ => []
 | _ + 1, _, [] => []
 | n + 1, i, a :: r => match a, r with
  | false, false :: false :: r' => i :: cutsB n (i + 3) r'
  | a, r => cutsB n (i + 1) r
noncomputable abbrev D3 : Wd := [false, false, false]
theorem isPre3 (a : Bool) (r : Wd) : isPre D3 (a :: r) = true ↔ a = false ∧ ∃ r', r = false :: false :: r' := by
 cases a <;> rcases r with _ | ⟨b, _ | ⟨c, r⟩⟩ <;> (try cases b) <;> (try cases c) <;> simp [isPre]
theorem cutsB_no {b : Bool} {r : Wd} (hp : ¬ isPre D3 (b :: r) = true) {n i : Nat} : cutsB (n + 1) i (b :: r) = cutsB n (i + 1) r := by
 rcases b with _ | _ <;> rcases r with _ | ⟨_ | _, _ | ⟨_ | _, r⟩⟩ <;> first | rfl | exact absurd rfl hp
theorem splitB_no {b : Bool} {r : Wd} (hp : ¬ isPre D3 (b :: r) = true) {n : Nat} {acc : Wd} : splitB (n + 1) acc (b :: r) = splitB n (acc ++ [b]) r := by
 rcases b with _ | _ <;> rcases r with _ | ⟨_ | _, _ | ⟨_ | _, r⟩⟩ <;> first | rfl | exact absurd rfl hp
theorem body_skip {x y : Str} {hi limit i : Nat} {st : Array Nat × Nat} {l : List Nat} (h : i < st.2) : forIn (i :: l) st (StrLaws.occBody x y hi limit) = forIn l st (StrLaws.occBody x y hi limit) := by
 rw [List.forIn_cons]
 unfold StrLaws.occBody
 rw [if_neg (by omega)]; rfl
theorem occ_cuts {ch : Nat} (h : ch ≠ 46) (want : Wd) (limit : Nat) : ∀ (n i : Nat) (fuel : Nat) (arr : Array Nat) (free : Nat), free ≤ i → i + n = want.length + 1 → want.length - i < fuel → arr.size + n ≤ limit →
  (forIn (List.range' i n) (arr, free) (StrLaws.occBody (enc ch want) (enc ch D3) want.length limit)).run.fst.toList = arr.toList ++ cutsB fuel i (want.drop i) := by
 intro n
 induction n using Nat.strongRecOn with
 | ind n ih =>
  intro i fuel arr free hf hi hfu hl
  cases n with
  | zero =>
   have : want.drop i = [] := List.drop_eq_nil_iff.mpr (by (clear hl hfu hf h; omega))
   rw [this]
   cases fuel <;> simp [cutsB]
  | succ n =>
   cases fuel with
   | zero => (clear hl hi hf h; omega)
   | succ fuel =>
    cases hd : want.drop i with
    | nil =>
     have : want.length ≤ i := List.drop_eq_nil_iff.mp hd
     have hn : n = 0 := by (clear hfu hl hf h; omega)
     subst hn
     have hnot : ¬ StrLaws.At (enc ch want) (enc ch D3) want.length i := fun q => by have := ((at_enc h want D3 want.length i).mp q).1; simp at this; (clear hl hi hfu hf h; omega)
     rw [List.range'_succ, List.forIn_cons]
     unfold StrLaws.occBody
     rw [if_neg (fun q => hnot ⟨q.1.2, q.2⟩)]
     simp [cutsB]
    | cons a r =>
     have hlen : want.length - i = r.length + 1 := by
      have := congrArg List.length hd; simpa using this
     by_cases hp : isPre D3 (a :: r) = true
     ·refine A2 ?_ ((isPre3 a r).mp hp)
      intro zz1
      refine X1 ?_
      intro r' zz2
      subst zz1
      subst zz2
      simp only [List.length_cons] at hlen
      have hat : StrLaws.At (enc ch want) (enc ch D3) want.length i := (at_enc h want D3 want.length i).mpr ⟨by simp; (clear hfu hl hi hf h; omega), by rw [hd]; exact hp⟩
      obtain ⟨m, rfl⟩ : ∃ m, n = m + 2 := ⟨n - 2, by (clear hfu hl hf h; omega)⟩
      rw [List.range'_succ, List.range'_succ, List.range'_succ, List.forIn_cons]
      conv => lhs; unfold StrLaws.occBody
      rw [if_pos ⟨⟨⟨by simp; (clear hi hlen hfu hf h; omega), hf⟩, hat.1⟩, hat.2⟩]
      show (forIn ((i + 1) :: (i + 1 + 1) :: List.range' (i + 1 + 1 + 1) m) (arr.push i, i + (enc ch D3).length) (StrLaws.occBody (enc ch want) (enc ch D3) want.length limit)).run.fst.toList = _
      have e3 : (enc ch D3).length = 3 := enc_len ch D3
      rw [body_skip (by show i + 1 < i + _; (clear hl hi hlen hfu hf h; omega)), body_skip (by show i + 1 + 1 < i + _; (clear hl hi hlen hfu hf h; omega))]
      have hd' : want.drop (i + 3) = r' := by
       have : want.drop (i + 3) = (want.drop i).drop 3 := by rw [List.drop_drop]
       rw [this, hd]; rfl
      rw [ih m (by (clear hd' e3 hl hi hlen hfu hf h; omega)) (i + 1 + 1 + 1) fuel (arr.push i) _ (by (clear hd' hl hi hlen hfu hf h; omega)) (by (clear hd' e3 hl hlen hfu hf h; omega)) (by (clear hd' e3 hl hi hf h; omega)) (by simp; (clear hd' e3 hi hlen hfu hf h; omega))]
      show _ = arr.toList ++ i :: cutsB fuel (i + 3) r'
      rw [show want.drop (i + 1 + 1 + 1) = r' from hd']
      simp
     ·have hnot : ¬ StrLaws.At (enc ch want) (enc ch D3) want.length i := fun q => hp (by have := ((at_enc h want D3 want.length i).mp q).2; rwa [hd] at this)
      rw [List.range'_succ, List.forIn_cons]
      conv => lhs; unfold StrLaws.occBody
      rw [if_neg (fun q => hnot ⟨q.1.2, q.2⟩)]
      show (forIn (List.range' (i + 1) n) (arr, free) (StrLaws.occBody (enc ch want) (enc ch D3) want.length limit)).run.fst.toList = _
      have hd' : want.drop (i + 1) = r := by
       have : want.drop (i + 1) = (want.drop i).drop 1 := by rw [List.drop_drop]
       rw [this, hd]; rfl
      rw [ih n (by (clear hd' hlen hfu hl hi hf h; omega)) (i + 1) fuel arr free (by (clear hd' hlen hfu hl hi h; omega)) (by (clear hd' hlen hfu hl hf h; omega)) (by (clear hd' hl hi hf h; omega)) (by (clear hd' hlen hfu hi hf h; omega)), hd']
      congr 1
      exact (cutsB_no hp).symm
theorem strSub_enc (ch : Nat) (w : Wd) (a b : Nat) : strSub (enc ch w) a b = enc ch ((w.drop a).take (b - a)) := by
 refine Str.ext' ?_
 apply Array.toList_inj.mp
 rw [StrLaws.strSub_toList, enc_toList, enc_toList, List.map_take, List.map_drop]
theorem parts_cuts {ch : Nat} (want : Wd) : ∀ (fuel i a : Nat), a ≤ i → i ≤ want.length → want.length - i < fuel →
  StrLaws.partsFrom (enc ch want) 3 a (cutsB fuel i (want.drop i)) = (splitB fuel ((want.drop a).take (i - a)) (want.drop i)).map (enc ch) := by
 intro fuel
 induction fuel with
 | zero => intro i a _ _ h; omega
 | succ fuel ih =>
  intro i a ha hi hf
  have step : ∀ b r, want.drop i = b :: r → want.drop (i + 1) = r ∧ (want.drop a).take (i + 1 - a) = (want.drop a).take (i - a) ++ [b] := by
   intro b r e
   refine ⟨by rw [← List.drop_drop, e]; rfl, ?_⟩
   have e1 : i + 1 - a = (i - a) + 1 := by (clear hf hi; omega)
   rw [e1, List.take_add_one, List.getElem?_drop, show a + (i - a) = i by (clear e1 hf hi; omega)]
   have : want[i]? = some b := by
    have := congrArg (fun l => l[0]?) e
    simpa using this
   rw [this]; rfl
  cases hd : want.drop i with
  | nil =>
   unfold cutsB splitB
   show [strSub _ a _] = [enc ch _]
   rw [strSub_enc, enc_len]
   have : want.length ≤ i := List.drop_eq_nil_iff.mp hd
   rw [show i = want.length by (clear hf ha; omega)]
  | cons b r =>
   have hlen : want.length - i = r.length + 1 := by
    have := congrArg List.length hd; simpa using this
   by_cases hp : isPre D3 (b :: r) = true
   ·refine A2 ?_ ((isPre3 b r).mp hp)
    intro zz3
    refine X1 ?_
    intro r' zz4
    subst zz3
    subst zz4
    simp only [List.length_cons] at hlen
    have hd' : want.drop (i + 3) = r' := by
     have : want.drop (i + 3) = (want.drop i).drop 3 := by rw [List.drop_drop]
     rw [this, hd]; rfl
    have := ih (i + 3) (i + 3) (Nat.le_refl _) (by (clear hd' hf hi ha; omega)) (by (clear hd' hi ha; omega))
    rw [hd', Nat.sub_self, List.take_zero] at this
    show strSub _ a i :: StrLaws.partsFrom _ 3 (i + 3) (cutsB fuel (i + 3) r') = enc ch _ :: (splitB fuel [] r').map (enc ch)
    rw [this, strSub_enc]
   ·obtain ⟨s1, s2⟩ := step _ _ hd
    have := ih (i + 1) a (by (clear s2 s1 hlen hf hi; omega)) (by (clear s2 s1 hf hi ha; omega)) (by (clear s2 s1 hi ha; omega))
    rw [s1, s2] at this
    rw [cutsB_no hp, splitB_no hp]
    exact this
theorem split_enc {ch : Nat} (h : ch ≠ 46) (want : Wd) : Txt.split (enc ch want) (enc ch D3) = (splitB (want.length + 1) [] want).map (enc ch) := by
 have hocc : occurrences (enc ch want) (enc ch D3) 0 (enc ch want).length ((enc ch want).length + 1) = cutsB (want.length + 1) 0 want := by
  rw [StrLaws.occ_eq, enc_len]
  have := occ_cuts h want (want.length + 1) (want.length + 1 - 0) 0 (want.length + 1) #[] 0 (Nat.le_refl _) (by (clear h; omega)) (by (clear h; omega)) (by simp)
  rw [this]; simp
 have hparts := parts_cuts (ch := ch) want (want.length + 1) 0 0 (Nat.le_refl _) (Nat.zero_le _) (by (clear hocc h; omega))
 rw [List.drop_zero] at hparts
 have whole : StrLaws.partsFrom (enc ch want) 3 0 [] = [enc ch want] := by
  show [strSub _ 0 _] = _
  rw [StrLaws.sub_whole]
 have hno : cutsB (want.length + 1) 0 want = [] → [enc ch want] = (splitB (want.length + 1) [] want).map (enc ch) := by
  intro e; rw [e, whole] at hparts; exact hparts
 unfold Txt.split
 rw [hocc]
 split
 ·refine hno ?_
  rename_i hc
  have hk : Builtin.Str.strKind (enc ch D3) = 1 := by unfold Builtin.Str.strKind; rw [if_pos (by simp [enc, sg])]
  have h1 : 1 ≤ Builtin.Str.strKind (enc ch want) := by unfold Builtin.Str.strKind; split <;> (try split) <;> (clear hk hc whole hparts hocc h; omega)
  simp only [Bool.or_eq_true, decide_eq_true_eq] at hc
  rcases hc with hc | hc
  ·rw [enc_len, enc_len] at hc
   rw [← hocc]
   have := StrLaws.occ_chain (enc ch want) (enc ch D3) ((enc ch want).length + 1)
   obtain ⟨f, hf⟩ := this
   cases hq : occurrences (enc ch want) (enc ch D3) 0 (enc ch want).length ((enc ch want).length + 1) with
   | nil => rfl
   | cons c r =>
    rw [hq] at hf
    have := hf.2.1.1
    rw [enc_len, enc_len] at this; (clear hq h1 hk whole hparts hocc h; omega)
  ·(clear whole hparts hocc h; omega)
 ·split
  ·rename_i hc
   exact hno (List.isEmpty_iff.mp hc)
  ·rw [StrLaws.partsBetween_eq, enc_len]
   exact hparts
theorem contains_enc {ch : Nat} (h : ch ≠ 46) (want : Wd) : Txt.contains (enc ch want) (enc ch D3) = !decide ((splitB (want.length + 1) [] want).length ≤ 1) := by
 have hs := congrArg List.length (split_enc h want)
 rw [List.length_map] at hs
 rw [← hs]
 have hocc : occurrences (enc ch want) (enc ch D3) 0 (enc ch want).length ((enc ch want).length + 1) = cutsB (want.length + 1) 0 want := by
  rw [StrLaws.occ_eq, enc_len]
  have := occ_cuts h want (want.length + 1) (want.length + 1 - 0) 0 (want.length + 1) #[] 0 (Nat.le_refl _) (by (clear hs h; omega)) (by (clear hs h; omega)) (by simp)
  rw [this]; simp
 unfold Txt.contains
 rcases StrLaws.occ_head (enc ch want) (enc ch D3) ((enc ch want).length + 1) (by (clear hocc hs h; omega)) with ⟨h0, hn⟩ | ⟨i, r, h0, hat, _⟩
 ·have h1 : occurrences (enc ch want) (enc ch D3) 0 (enc ch want).length 1 = [] := by
   rcases StrLaws.occ_head (enc ch want) (enc ch D3) 1 (Nat.le_refl _) with ⟨h0, _⟩ | ⟨i, r, _, hat, _⟩
   ·exact h0
   ·exact absurd hat (hn i)
  rw [h1]
  have : (Txt.split (enc ch want) (enc ch D3)).length = 1 := by
   unfold Txt.split; split
   ·rfl
   ·rw [h0]; rfl
  rw [this]; rfl
 ·have h1 : occurrences (enc ch want) (enc ch D3) 0 (enc ch want).length 1 ≠ [] := by
   rcases StrLaws.occ_head (enc ch want) (enc ch D3) 1 (Nat.le_refl _) with ⟨_, hn⟩ | ⟨i, r, e, _, _⟩
   ·exact absurd hat (hn i)
   ·rw [e]; exact List.cons_ne_nil _ _
  have h2 : (occurrences (enc ch want) (enc ch D3) 0 (enc ch want).length 1).isEmpty = false := by
   cases hq : occurrences (enc ch want) (enc ch D3) 0 (enc ch want).length 1 with
   | nil => exact absurd hq h1
   | cons _ _ => rfl
  rw [h2]
  have : ¬ (Txt.split (enc ch want) (enc ch D3)).length ≤ 1 := by
   unfold Txt.split
   have hk : Builtin.Str.strKind (enc ch D3) = 1 := by unfold Builtin.Str.strKind; rw [if_pos (by simp [enc, sg])]
   have hk1 : 1 ≤ Builtin.Str.strKind (enc ch want) := by unfold Builtin.Str.strKind; split <;> (try split) <;> (clear hk h2 h1 h0 hocc hs h; omega)
   have := hat.1
   rw [if_neg (by simp only [Bool.or_eq_true, decide_eq_true_eq]; (clear h2 h1 h0 hocc hs h; omega)), h0]
   simp only [List.isEmpty_cons, Bool.false_eq_true, if_false]
   rw [StrLaws.partsBetween_eq]
   refine X2 ?_ (StrLaws.partsFrom_ne (enc ch want) (enc ch D3).length (i + (enc ch D3).length) r)
   intro p q e
   show ¬ (_ :: StrLaws.partsFrom _ _ _ r).length ≤ 1
   rw [e]; simp
  rw [show (!false) = !decide False from by decide]
  congr 1
  simp [this]
end
section
open PySem.Builtin PySem.Builtin.Str
section
variable {c : Cx} {A : Around} {l l' : Led} {t u : Tok}
theorem W.split' {x y : Str} {Q : Value → Led → Prop} (hy : (y.length == 0) = false) (hsz : x.length ≤ sizeLine) (hsz2 : (partsBetween x (occurrences x y 0 x.length (x.length + 1)) y.length).length ≤ sizeLine)
  (q : ∀ a (k : List (Str × Tok)), k.map (·.1) = Txt.split x y → Q (.ref a) ((a, Ls (strValues k)) :: l)) : W c A (call (.builtin "str.split") [.str x t, .str y u]) l Q := fun R h tk S => by
 cases h1 : (decide (x.length < y.length) || decide (Builtin.Str.strKind x < Builtin.Str.strKind y))
 ·cases hf : (occurrences x y 0 x.length (x.length + 1)).isEmpty
  ·refine call_meets F.slot_str_split (typeIs_str _ _ _) F.entry_str_split (F.args_str_split_2 _ _) (meets_str_split_sep x y t u h1 hy hf hsz hsz2) ?_
   show wants _ _ _ { heap := h.push { cls := .type "list", data := .seq (strsFrom tk (partsBetween x (occurrences x y 0 x.length (x.length + 1)) y.length)).toArray }, gens := c.g, drawn := c.d, toks := _, os := c.os }
   rw [strsFrom_eq]
   exact ⟨_, _, _, rfl, S.push (P := Ls (strValues (numbered tk (partsBetween x (occurrences x y 0 x.length (x.length + 1)) y.length)))) _ ⟨_, rfl⟩, q _ _ ((numbered_texts _ _).trans ((if_neg (ne_true_of_eq_false h1)).trans (if_neg (ne_true_of_eq_false hf))).symm)⟩
  ·refine call_meets F.slot_str_split (typeIs_str _ _ _) F.entry_str_split (F.args_str_split_2 _ _) (meets_str_split_not_found x y t u h1 hy hf) ?_
   exact ⟨_, _, _, rfl, S.push (P := Ls (strValues [(x, t)])) { cls := .type "list", data := .seq #[.str x t] } ⟨_, rfl⟩, q _ [(x, t)] ((if_neg (ne_true_of_eq_false h1)).trans (if_pos hf)).symm⟩
 ·refine call_meets F.slot_str_split (typeIs_str _ _ _) F.entry_str_split (F.args_str_split_2 _ _) (meets_str_split_cannot_occur x y t u h1) ?_
  exact ⟨_, _, _, rfl, S.push (P := Ls (strValues [(x, t)])) { cls := .type "list", data := .seq #[.str x t] } ⟨_, rfl⟩, q _ [(x, t)] (if_pos h1).symm⟩
theorem occ_len (x y : Str) : (partsBetween x (occurrences x y 0 x.length (x.length + 1)) y.length).length ≤ x.length + 2 := by
 have := StrLaws.occ_length_le x y 0 x.length (x.length + 1)
 unfold partsBetween
 simp only [List.length_map, List.length_zip, List.length_cons, List.length_append, List.length_nil]
 omega
theorem W.splitE {ch : Nat} (h : ch ≠ 46) {w : Wd} {Q : Value → Led → Prop} (hsz : w.length ≤ 1000000)
  (q : ∀ a (k : List (Str × Tok)), k.map (·.1) = (splitB (w.length + 1) [] w).map (enc ch) → Q (.ref a) ((a, Ls (strValues k)) :: l)) : W c A (call (.builtin "str.split") [.str (enc ch w) t, .str (enc ch D3) u]) l Q :=
 W.split' (by rw [enc_len]; rfl) (by rw [enc_len]; show _ ≤ 16777216; (clear h; omega)) (by refine Nat.le_trans (occ_len _ _) ?_; rw [enc_len]; show _ ≤ 16777216; (clear h; omega)) (fun a k e => q a k (by rw [e, split_enc h]))
theorem wpAny_setItem_neg {prog : Program} {w : World} {E : Value → Shared → Prop} {s : Shared} {l : Addr} {items : Array Value} {v : Value} {Q : Unit → Shared → Prop} (hl : s.heap.IsList l items)
  (h0 : 0 < items.size) (hfit : items.size < 2 ^ 63)
  (hQ : Q () { s with heap := s.heap.update l (Obj.mapSeq (·.setIfInBounds (items.size - 1) v)) }) :
  wpAny (model prog w) A (PySem.setItem (.ref l) (.int (-1) t) v) Q E s := by
 obtain ⟨o, ho, hc, ne, hd⟩ := id hl
 unfold PySem.setItem
 try with_reducible refine wpAny_holding ?_
 first | refine wpAny_bind (wpAny_pure ?_) | skip
 refine wpAny_bind (wpAny_sequenceKey hl.typeIs (by decide) ?_)
 refine wpAny_bind (wpAny_callSpecial?_slot (name := Str.ofString "__setitem__") hl.typeIs slot_list_setitem
  (wpAny_call_entry slot_list_setitem hl.typeIs entry_list_setitem ?_ (args_list_setitem _ _ _)))
 show wpAny _ _ (Builtin.List.listSubscript? (.int (-1) t) >>= _) _ _ s
 refine wpAny_bind (wpAny_listSubscript_int (by decide) ?_)
 show wpAny _ _ ((Builtin.List.listItems (.ref l) >>= fun xs => Pure.pure ((seqIndex? (Int.negSucc 0) xs.size).bind fun i => xs[i]?.map (i, ·))) >>= _) _ _ s
 refine wpAny_bind (wpAny_bind ?_)
 show wpAny _ _ (seqItems? (.ref l) >>= _) _ _ s
 refine wpAny_bind (wpAny_seqItems ho hd (wpAny_pure (wpAny_pure ?_)))
 have hidx : seqIndex? (Int.negSucc 0) items.size = some (items.size - 1) := by
  rw [seqIndex_neg (by decide) (by (clear hfit; omega))]
  congr 1; (clear hfit h0; omega)
 rw [hidx]
 have hx' : items[items.size - 1]? = some (items[items.size - 1]'(by (clear hidx hfit; omega))) := Array.getElem?_eq_getElem (by (clear hidx hfit; omega))
 simp only [Option.bind_some, hx', Option.map_some]
 show wpAny _ _ (setSeqItemAt l (items.size - 1) v >>= _) _ _ s
 obtain ⟨n', hd'⟩ := Obj.data_mapSeq hd (·.setIfInBounds (items.size - 1) v)
 have hfin : (s.heap.update l (Obj.mapSeq (·.setIfInBounds (items.size - 1) v))).IsList l (items.setIfInBounds (items.size - 1) v) :=
  ⟨_, Heap.get?_update_self _ ho (Obj.isFreed_of_seq hd'), (Obj.cls_mapSeq ..).trans hc, n', hd'⟩
 refine wpAny_bind (wpAny_setSeqItemAt ho hd ?_)
 first
  | exact wpAny_bind (wpAny_pure (wpAny_pure ⟨.none, rfl, wpAny_pure hQ⟩))
  | exact wpAny_pure ⟨.none, rfl, wpAny_pure hQ⟩
theorem W.setLast {a : Addr} {vs : List Value} {v : Value} {Q : Unit → Led → Prop} (hU : Up l a (Ls vs) (Ls (vs.set (vs.length - 1) v)) l') (h0 : 0 < vs.length) (hsz : vs.length ≤ sizeLine) (q : Q () l') : W c A (PySem.setItem (.ref a) (.int (-1) t) v) l Q := fun R h tk S => by
 obtain ⟨oa, ea, nn, rfl⟩ := S.cell (List.mem_append_left R hU.mem)
 refine wpAny_setItem_neg (items := vs.toArray) ⟨_, ea, rfl, nn, rfl⟩ (by simpa using h0) (by have : sizeLine = 16777216 := rfl; simp; (clear h0; omega)) ?_
 exact ⟨_, tk, l', rfl, S.upd (hU.append R) (Heap.SameBut.update ..) (Heap.get?_update_self _ ea rfl) ⟨_, by simp [Obj.mapSeq]; rfl⟩, q⟩
end
end
section
variable {c : Cx} {A : Around} {l l' : Led} {t u : Tok} {env : Env}
theorem W.setTup {elts k tpos value pos} {Q : Flow → Led → Prop} (h : W c A (eval value env) l (fun v l1 => W c A (PySem.assign (.Tuple elts k tpos) env v) l1 (fun _ l2 => Q .next l2)))
  (hs : swapsWithSole [.Tuple elts k tpos] value pos.line env = Pure.pure false := by rfl)
  (hw : swappedStores [.Tuple elts k tpos] value env = Pure.pure none := by rfl) : W c A (exec (.Assign [.Tuple elts k tpos] value pos) env) l Q := fun R hp tk S =>
 PyProof.Rows.Assign_Tuple (h.run S fun v s F => F.run (fun _ p => p) fun _ s ⟨h', tk', l', e, S', q⟩ => ⟨h', tk', l', e, S', q⟩) hs hw
theorem W.setTupS {elts k tpos value pos} {names : List Str} {Q : Flow → Led → Prop} (hh : A.handled = none) (h : W c A (eval value env) l (fun v l1 => ∃ a vs, v = .ref a ∧ (a, Tp vs) ∈ l1 ∧ names.length = vs.length ∧ W c A (assignInOrder (names.reverse.map fun n => bindName env n) vs.reverse) l1 (fun _ l2 => Q .next l2)))
  (hs : swapsWithSole [.Tuple elts k tpos] value pos.line env = Pure.pure false := by rfl)
  (hw : swappedStores [.Tuple elts k tpos] value env = Pure.pure (some names) := by rfl) : W c A (exec (.Assign [.Tuple elts k tpos] value pos) env) l Q := fun R hp tk S => by
 refine PyProof.Rows.Assign_Tuple_swapped (h.run S fun v s ⟨h1, tk1, l1, e, S1, a, vs, e1, m, hl, w⟩ => ?_) hs hw
 subst e e1
 obtain ⟨o, eo, n, po⟩ := S1.cell (List.mem_append_left R m)
 have := PyProof.Rows.unpackItems_tuple (prog := c.prog) (w := c.w) (E := E0) (t := a) (items := vs.toArray) (Q := fun items s₂ => wpAny (model c.prog c.w) A (assignInOrder (names.reverse.map fun n => bindName env n) items.reverse) (fun _ => Fn c R Q .next) E0 s₂) (s := ⟨h1, c.g, c.d, tk1, c.os⟩) hh ⟨o, eo, by rw [po], n, by rw [po]⟩ (fun h' hx => by
  have S' : St c.B h' (l1 ++ R) := S1.keep fun b o e => hx b o (Nat.ne_of_lt (Heap.lt_size e)) e
  have := w.run (tk := tk1) (P := fun _ => Fn c R Q .next) (E := E0) S' (fun _ s ⟨h', tk', l', e, S', q⟩ => ⟨h', tk', l', e, S', q⟩)
  simpa using this)
 rw [show names.length = vs.toArray.size by simpa using hl]
 exact this
theorem W.inOrderCons {f : Value → Sem Unit} {fs : List (Value → Sem Unit)} {v : Value} {vs : List Value} {Q : Unit → Led → Prop} (h : W c A (f v) l (fun _ l1 => W c A (assignInOrder fs vs) l1 Q)) : W c A (assignInOrder (f :: fs) (v :: vs)) l Q := by
 show W c A (do PySem.holding vs (f v); assignInOrder fs vs) l Q
 exact W.bind (W.holding h)
theorem W.bindName {x : Str} {v : Value} {Q : Unit → Led → Prop} (h : W c A (storeName env x v) l Q) : W c A (PySem.bindName env x v) l Q := fun R hp tk S => wpAny_bindName (h R hp tk S)
theorem W.delSub {o i : Expr} {pos pos' : Pos} {Q : Flow → Led → Prop} (h : W c A (eval o env) l (fun ov l1 => W c A (eval i env) l1 (fun iv l2 => W c A (delItem ov iv) l2 (fun _ l3 => Q .next l3)))) : W c A (exec (.Delete [.Subscript o i pos'] pos) env) l Q := fun R hp tk S => by
 refine wpAny_Delete (wpAny_deleteEach_cons (wpAny_delete_Subscript ?_))
 refine h.run S fun v s F => F.run (fun _ p => p) fun v s F => F.run (fun _ p => p) ?_
 intro _ s
 refine X3 ?_
 intro h' tk' l'
 refine A3 ?_
 intro e S' q
 subst e
 exact wpAny_deleteEach_nil ⟨h', tk', l', rfl, S', q⟩
theorem W.truthyStr {x : Str} {Q : Bool → Led → Prop} (hf : x.length ≤ sizeLine) (q : Q (x.length != 0) l) : W c A (truthy (.str x t)) l Q := fun R hp tk S => by
 refine P.truthy_str (by have : sizeLine = 16777216 := rfl; omega) ?_
 have e : ((x.length : Int) != 0) = (x.length != 0) := by
  rw [Bool.eq_iff_iff]; simp
 exact ⟨hp, tk + 1 + 1, l, rfl, S, by rw [e]; exact q⟩
theorem seq0 {n : Nat} (h : 0 < n) : seqIndex? (0 : Int) n = some 0 := by
 show (if decide ((0 : Int) ≤ 0) && decide ((0 : Int) < n) then some (0 : Int).toNat else none) = some 0
 rw [if_pos (by simp; omega)]; rfl
theorem seqL {n : Nat} (h : 0 < n) : seqIndex? (-1 : Int) n = some (n - 1) := by
 rw [seqIndex_neg (by decide) (by omega)]
 congr 1; (clear h; omega)
variable {a b : Int}
theorem W.iaddS {x y : Str} {Q : Value → Led → Prop} (hsz : x.length + y.length ≤ sizeLine) (q : ∀ t, Q (.str (x ++ y) t) l) : W c A (inplaceOp .Add (.str x t) (.str y u)) l Q := fun R h tk S => PyProof.Rows.iadd_str (fun t' k => ⟨h, k, l, rfl, S, q t'⟩) hsz
theorem W.iaddI {Q : Value → Led → Prop} (q : ∀ t, Q (.int (a + b) t) l) : W c A (inplaceOp .Add (.int a t) (.int b u)) l Q := fun R h tk S => PyProof.Rows.iadd_int ⟨h, tk + 1, l, rfl, S, q tk⟩
theorem W.isubI {Q : Value → Led → Prop} (q : ∀ t, Q (.int (a - b) t) l) : W c A (inplaceOp .Sub (.int a t) (.int b u)) l Q := fun R h tk S => PyProof.Rows.isub_int ⟨h, tk + 1, l, rfl, S, q tk⟩
theorem W.cut {st rest} {Q : Flow → Led → Prop} (J : Led → Prop) (h1 : W c A (exec st env) l (fun f l1 => match f with | .next => J l1 | f => Q f l1)) (h2 : ∀ l1, J l1 → W c A (execs rest env) l1 Q) : W c A (execs (st :: rest) env) l Q :=
 W.cons (h1.mono fun f l1 q => by cases f <;> first | exact h2 l1 q | exact q)
end
noncomputable def TxtAre (ch : Nat) (vs : List Value) (ws : List Wd) : Prop := vs.length = ws.length ∧ ∀ (i : Nat) (w : Wd), ws[i]? = some w → ∃ t, vs[i]? = some (.str (enc ch w) t)
section
variable {ch : Nat} {vs : List Value} {ws : List Wd}
theorem TxtAre.nil : TxtAre ch [] [] := ⟨rfl, by simp⟩
theorem TxtAre.snoc {w : Wd} {t : Tok} (h : TxtAre ch vs ws) : TxtAre ch (vs ++ [.str (enc ch w) t]) (ws ++ [w]) := by
 refine ⟨by simp [h.1], fun i m hm => ?_⟩
 rcases Nat.lt_or_ge i ws.length with hi | hi
 ·rw [List.getElem?_append_left hi] at hm
  rw [List.getElem?_append_left (by rw [h.1]; exact hi)]
  exact h.2 i m hm
 ·rw [List.getElem?_append_right hi] at hm
  rw [List.getElem?_append_right (by rw [h.1]; exact hi), h.1]
  cases hk : i - ws.length with
  | zero => rw [hk] at hm; simp at hm; subst hm; exact ⟨t, rfl⟩
  | succ k => rw [hk] at hm; simp at hm
theorem TxtAre.at {i : Nat} {v : Value} (h : TxtAre ch vs ws) (hv : vs[i]? = some v) : ∃ w t, ws[i]? = some w ∧ v = .str (enc ch w) t := by
 have hi := (List.getElem?_eq_some_iff.mp hv).1
 have e : ws[i]? = some (ws[i]'(by rw [← h.1]; exact hi)) := List.getElem?_eq_getElem _
 obtain ⟨t, e'⟩ := h.2 i _ e
 exact ⟨_, t, e, by rw [hv] at e'; exact Option.some.inj e'⟩
theorem TxtAre.mem {v : Value} (h : TxtAre ch vs ws) (hv : v ∈ vs) : ∃ w t, w ∈ ws ∧ v = .str (enc ch w) t := by
 obtain ⟨i, hi, e⟩ := List.getElem_of_mem hv
 obtain ⟨w, t, h1, h2⟩ := h.at (i := i) (v := v) (by rw [List.getElem?_eq_getElem hi, e])
 exact ⟨w, t, List.mem_of_getElem? h1, h2⟩
theorem TxtAre.ofK {k : List (Str × Tok)} (h : k.map (·.1) = ws.map (enc ch)) : TxtAre ch (strValues k) ws := by
 have hl : k.length = ws.length := by simpa using congrArg List.length h
 refine ⟨by simp [strValues, hl], fun i w hw => ?_⟩
 have := congrArg (fun l => l[i]?) h
 simp only [List.getElem?_map, hw, Option.map_some] at this
 cases e : k[i]? with
 | none => rw [e] at this; cases this
 | some p =>
  rw [e] at this
  refine ⟨p.2, ?_⟩
  have h2 : p.1 = enc ch w := Option.some.inj this
  simp [strValues, e, h2]
theorem TxtAre.tail (h : TxtAre ch vs ws) : TxtAre ch (vs.eraseIdx 0) ws.tail := by
 refine ⟨by simp [h.1], fun i w hw => ?_⟩
 have := h.2 (i + 1) w (by simpa using hw)
 cases vs with
 | nil => simpa using this
 | cons a vs => simpa using this
theorem TxtAre.init (h : TxtAre ch vs ws) (h0 : 0 < ws.length) : TxtAre ch (vs.eraseIdx (vs.length - 1)) ws.dropLast := by
 have hl := h.1
 have e : vs.eraseIdx (vs.length - 1) = vs.dropLast := by
  rw [List.eraseIdx_eq_take_drop_succ, List.dropLast_eq_take, List.drop_eq_nil_iff.mpr (by (clear hl h0; omega)), List.append_nil]
 rw [e]
 refine ⟨by simp [h.1], fun i w hw => ?_⟩
 rw [List.getElem?_dropLast] at hw ⊢
 split at hw
 ·rw [if_pos (by (clear hw e h0; omega))]
  exact h.2 i w hw
 ·cases hw
theorem TxtAre.last (h : TxtAre ch vs ws) (h0 : 0 < ws.length) : ∃ t, vs[((-1 : Int) + vs.length).toNat]? = some (.str (enc ch (ws.getLastD [])) t) := by
 have e : ((-1 : Int) + vs.length).toNat = ws.length - 1 := by rw [h.1]; (clear h0; omega)
 rw [e]
 refine h.2 _ _ ?_
 cases ws with
 | nil => cases h0
 | cons a ns => simp [List.getLastD_cons, List.getLast?_eq_getElem?]
theorem TxtAre.anyEq (hch : ch ≠ 46) {w : Wd} (h : TxtAre ch vs ws) : vs.any (fun v => match v with | .str x _ => x == enc ch w | _ => false) = ws.contains w := by
 rw [Bool.eq_iff_iff, List.any_eq_true]
 constructor
 ·refine X1 ?_
  intro v
  refine A2 ?_
  intro hv e
  refine X2 ?_ (h.mem hv)
  intro w' t
  refine A2 ?_
  intro hw zz1
  subst zz1
  have : w' = w := enc_inj hch (by simpa using e)
  subst this; simpa using hw
 ·intro hw
  obtain ⟨i, hi, e⟩ := List.getElem_of_mem (by simpa using hw : w ∈ ws)
  obtain ⟨t, e'⟩ := h.2 i w (by rw [List.getElem?_eq_getElem hi, e])
  exact ⟨_, List.mem_of_getElem? e', by simp⟩
end
theorem locs_of {names : List (Str × NameKind)} {ps : List Str} {vs : List Value} (h : (ps.all fun x => decide (names.lookup x = some .local)) = true) : ∀ x ∈ ps.zip vs, names.lookup x.1 = some .local := fun x hx =>
 of_decide_eq_true (List.all_eq_true.mp h x.1 (List.of_mem_zip hx).1)
section
variable {c : Cx} {K : Frag} {A : Around} {l l' : Led} {t u : Tok} {env : Env}
theorem W.under {α : Type} {m : Sem α} {x : Addr × Pr} {P Q : α → Led → Prop} (h : W c A m l P) (q : ∀ v l', P v l' → Q v (x :: l')) : W c A m (x :: l) Q := fun R hp tk S => by
 have S' : St c.B hp (l ++ (x :: R)) := S.perm (by
  show ((x :: l) ++ R).Perm _
  exact List.perm_middle.symm)
 refine wpAny_mono (h (x :: R) hp tk S') (fun v s' ⟨h', tk', l', e, S1, p⟩ => ⟨h', tk', x :: l', e, S1.perm (by exact List.perm_middle), q v l' p⟩) fun _ _ x => x
theorem W.evNil {Q : List Value → Led → Prop} (q : Q [] l) : W c A (evalAll []) l Q := W.pure q
theorem W.evCons {x : Sem Value} {rest : List (Sem Value)} {Q : List Value → Led → Prop} (h : W c A x l (fun v l1 => W c A (evalAll rest) l1 (fun vs l2 => Q (v :: vs) l2))) : W c A (evalAll (x :: rest)) l Q := by
 show W c A (do let v ← x; Pure.pure (v :: (← PySem.holding [v] (evalAll rest)))) l Q
 exact W.bind (h.mono fun v l1 h1 => W.bind (W.holding (h1.mono fun vs l2 q => W.pure q)))
theorem W.callKw {x : Str} {np pos : Pos} {fv : Value} {e : Expr} {rest : List Expr} {kws : List Keyword} {Q : Value → Led → Prop} (T : Gd c K) (hk : keepIn K fv = true) (hall : (backToKw pos (keywordEach kws env)).all (·.1.isSome) = true)
  (h : W c A (eval (.Name x np) env) l (fun f l1 => f = fv ∧ W c A (spliced (backTo pos (starEach (e :: rest) env))) l1 (fun vs l2 => W c A (evalAll ((backToKw pos (keywordEach kws env)).map (·.2))) l2 fun ks l3 => W c A (call fv vs (((backToKw pos (keywordEach kws env)).filterMap (·.1)).zip ks)) l3 Q)))
  (hplain : ((backTo pos (starEach (e :: rest) env)).any (·.1) || (backToKw pos (keywordEach kws env)).any (·.1.isNone)) = false := by rfl) (he : starEach (e :: rest) env = (false, eval e env) :: starEach rest env := by rfl) : W c A (eval (.Call (.Name x np) (e :: rest) kws pos) env) l Q := fun R hp' tk S => by
 show wpAny _ A (do callWith pos (← eval (.Name x np) env) [] (backTo pos (starEach (e :: rest) env)) (backToKw pos (keywordEach kws env))) _ _ _
 refine wpAny_bind (h.run S ?_)
 intro f s
 refine X3 ?_
 intro h1 tk1 l1
 refine A4 ?_
 intro e1 S1 e2 w
 subst e1 e2
 refine callWith_KW (K := K) (h₀ := c.B) T.X hk hall ?_ hplain he
 refine w.run S1 fun vs s F => F.run (fun _ p => p) ?_
 intro ks s
 refine X3 ?_
 intro h2 tk2 l2
 refine A3 ?_
 intro e S2 w2
 subst e
 exact ⟨T.X.keeps S2.base, w2 R h2 tk2 S2⟩
noncomputable abbrev Is (o : Obj) : Pr := fun x => x = o
theorem W.callF {x : Str} {np pos : Pos} {f : Addr} {fo : Obj} {fd : FuncData} {args : List Expr} {Q : Value → Led → Prop} (hfd : fo.data = .func fd)
  (h : W c A (eval (.Name x np) env) l (fun v l1 => v = .ref f ∧ W c A (spliced (backTo pos (starEach args env))) l1 (fun vs l2 => (f, Is fo) ∈ l2 ∧ W c A (call (.ref f) vs) l2 Q)))
  (hp : (backTo pos (starEach args env)).any (·.1) = false := by rfl) : W c A (eval (.Call (.Name x np) args [] pos) env) l Q := fun R hp' tk S => by
 refine wpAny_Call_NameR (h.run S ?_)
 intro f' s
 refine X3 ?_
 intro h1 tk1 l1
 refine A4 ?_
 intro e S1 e1 w
 subst e e1
 have w' : W c A (PySem.evalArgs (.ref f) true (backTo pos (starEach args env)) []) l1 (fun a l2 => (f, Is fo) ∈ l2 ∧ W c A (call (.ref f) a.pos a.kw) l2 Q) := W.evalArgs (Q := fun a l2 => (f, Is fo) ∈ l2 ∧ W c A (call (.ref f) a.pos a.kw) l2 Q) w hp
 refine callWith_function (o := fo) (fd := fd) (w'.run S1 ?_)
 intro a s
 refine X3 ?_
 intro h2 tk2 l2
 refine A4 ?_
 intro e S2 m w2
 subst e
 refine X1 ?_ (S2.cell (List.mem_append_left R m))
 intro o
 refine A2 ?_
 intro eo po
 subst po
 exact ⟨⟨eo, hfd⟩, w2 R h2 tk2 S2⟩
structure Cd (q : Str) (o : Obj) : Prop where
 ex : ∃ vs t, o.data = .fields vs ∧ vs[1]? = some (.str q t)
structure Gl (c : Cx) (K : Frag) (cc P : Addr) : Prop where
 C : CodeHd c.B cc P
 bm : ∃ mg bm o, c.B.Ns mainGlobals mg ∧ mg "__builtins__" = some (.ref bm) ∧ bm ≠ builtinsNs ∧ c.B.get? bm = some o ∧ o.cls = .type "module" ∧ o.dict = some builtinsNs ∧ o.data = .plain
theorem St.readd {B h h' : Heap} {a : Addr} {P P' : Pr} {l : Led} {o : Obj} (S : St B h ((a, P) :: l)) (S' : St B h' l) (ho : h'.get? a = some o) (p : P' o) : St B h' ((a, P') :: l) := by
 refine ⟨fun q hq => ?_, S.nodup, S'.base, fun q hq => ?_, S.low⟩ <;> rcases List.mem_cons.mp hq with rfl | hq
 ·exact ⟨o, ho, p⟩
 ·exact S'.at_ q hq
 ·exact S.above (a, P) (.head _)
 ·exact S'.above q hq
theorem St.add {B h h' : Heap} {a : Addr} {P : Pr} {l l0 : Led} {o : Obj} (S : St B h l0) (S' : St B h' l) (hl : ∀ p ∈ l, ∃ p' ∈ l0, p.1 = p'.1) (ha : h.objs.size ≤ a) (ho : h'.get? a = some o) (p : P o) : St B h' ((a, P) :: l) := by
 refine ⟨fun q hq => ?_, ?_, S'.base, fun q hq => ?_, S.low⟩
 ·rcases List.mem_cons.mp hq with rfl | hq
  ·exact ⟨o, ho, p⟩
  ·exact S'.at_ q hq
 ·rw [List.map_cons]
  refine List.nodup_cons.mpr ⟨fun m => ?_, S'.nodup⟩
  refine X1 ?_ (List.mem_map.mp m)
  intro q
  refine A2 ?_
  intro hq e
  refine X1 ?_ (hl q hq)
  intro q'
  refine A2 ?_
  intro hq' e'
  have := S.max q' hq'
  rw [← e', e] at this
  exact absurd this (Nat.not_lt.mpr ha)
 ·rcases List.mem_cons.mp hq with rfl | hq
  ·exact S.newAbove ha
  ·exact S'.above q hq
noncomputable def tabLed (P : Addr) (pos : Pos) (q : Str) : Option Addr → Led
 | none => [(P, Is (tabObj #[]))]
 | some c' => [(P, Is (tabObj #[rawInt pos.line, rawInt pos.col, .ref c'])), (c', Cd q)]
theorem W.lam : ∀ {c : Cx} {K : Frag} {A : Around} {l : Led} {env : Env} {cc P : Addr} {params : Arguments} {body : Expr} {scope : Scope} {clos : List (Str × Addr)} {pos : Pos} {st : Option Addr} {Q : Value → Led → Prop} (Gg : Gl c K cc P) (hdef : defaultsOf params env = ([], [])) (hcl : closureFor scope env = Pure.pure clos) (hge0 : env.globals = mainGlobals) (hcode : env.code = .ref cc) (q : ∀ f c' pm ctv, Q (.ref f) ((f, Is (kla_obj "<lambda>" (env.qual ++ "<lambda>") params body scope clos pm c' ctv)) :: (tabLed P pos (env.qual ++ "<lambda>") (some c') ++ l))), W c A (eval (.Lambda params body scope pos) env) (tabLed P pos (env.qual ++ "<lambda>") st ++ l) Q := by
 refine' @E14 _ _ _ _ _ _ _ _ _ _ _ _ _ _ _ (by walk_at "ne") ?_; generalize (z14 _ _).1 = c; generalize (z14 _ _).2.1 = K; generalize (z14 _ _).2.2.1 = A; generalize (z14 _ _).2.2.2.1 = l; generalize (z14 _ _).2.2.2.2.1 = env; generalize (z14 _ _).2.2.2.2.2.1 = cc; generalize (z14 _ _).2.2.2.2.2.2.1 = P; generalize (z14 _ _).2.2.2.2.2.2.2.1 = params; generalize (z14 _ _).2.2.2.2.2.2.2.2.1 = body; generalize (z14 _ _).2.2.2.2.2.2.2.2.2.1 = scope; generalize (z14 _ _).2.2.2.2.2.2.2.2.2.2.1 = clos; generalize (z14 _ _).2.2.2.2.2.2.2.2.2.2.2.1 = pos; generalize (z14 _ _).2.2.2.2.2.2.2.2.2.2.2.2.1 = st; generalize (z14 _ _).2.2.2.2.2.2.2.2.2.2.2.2.2 = Q
 intro Gg hdef hcl hge0 hcode q
 walk_at "E3"; generalize (z3 _ _).1 = R; generalize (z3 _ _).2.1 = h; generalize (z3 _ _).2.2 = tk
 intro S
 refine X3 ?_ (Gg.bm)
 walk_at "E3"; generalize (z3 _ _).1 = mg; generalize (z3 _ _).2.1 = bm; generalize (z3 _ _).2.2 = ob
 refine A7 ?_
 intro hg b1 b2 b3 b4 b5 b6
 have hPn : c.B.get? P = none := by
  refine OCn st ?_ ?_
  ·intro ze1a
   subst ze1a
   exact S.nb (p := (P, Is (tabObj #[]))) (.head _)
  ·walk_at "E1"; generalize z1 _ _ = c'
   intro ze1b
   subst ze1b
   exact S.nb (p := (P, Is (tabObj #[rawInt pos.line, rawInt pos.col, .ref c']))) (.head _)
 have hgP : mainGlobals ≠ P := fun q => by
  obtain ⟨o, es, ep, e, hd, _⟩ := hg
  rw [q, hPn] at e; cases e
 have hbP : bm ≠ P := fun q => by rw [q, hPn] at b3; cases b3
 have hbG : bm ≠ mainGlobals := fun q => by
  obtain ⟨o, es, ep, e, hd, _⟩ := hg
  rw [q, e] at b3; cases b3; rw [hd] at b6; cases b6
 refine kla_eval hdef ?_
 refine OCn st ?_ ?_
 ·intro ze2a
  subst ze2a
  obtain ⟨oP, eP, rfl⟩ := S.cell (a := P) (P := Is (tabObj #[])) (by simp [tabLed])
  refine kla_makeFunction (mg := mg) hcl hge0 (hg.keeps S.base) hcode (Gg.C.keeps S.base) eP trivial rfl hgP ⟨bm, ob, b1, b2, hbG, hbP, S.base _ _ b3, b4, b5, b6⟩ ?_
  refine' @E4 _ _ _ _ _ (by walk_at "ne") ?_; generalize (z4 _ _).1 = c'; generalize (z4 _ _).2.1 = ctv; generalize (z4 _ _).2.2.1 = h'; generalize (z4 _ _).2.2.2 = tk'
  intro hx hge hlt hrec htb
  obtain ⟨c₂, oc, vs, t, e2, hoc, hd, hv⟩ := hrec
  cases e2
  have S0 : St c.B h' (l ++ R) := St.lost (a := P) (P := Is (tabObj #[])) S hx
  have S1 : St c.B h' ((P, Is (tabObj #[rawInt pos.line, rawInt pos.col, .ref c'])) :: (l ++ R)) := St.readd (P := Is (tabObj #[])) S S0 htb (by simp)
  have S2 : St c.B h' ((c', Cd (env.qual ++ "<lambda>")) :: (P, Is (tabObj #[rawInt pos.line, rawInt pos.col, .ref c'])) :: (l ++ R)) :=
   St.add S S1 (fun p hp => by
    rcases List.mem_cons.mp hp with rfl | hp
    ·exact ⟨(P, Is (tabObj #[])), .head _, rfl⟩
    ·exact ⟨p, .tail _ hp, rfl⟩) hge hoc ⟨_, _, hd, hv⟩
  have S3 := S2.perm (.swap _ _ _)
  exact I3 _ _ _ ⟨rfl, S3.push (P := Is (kla_obj "<lambda>" (env.qual ++ "<lambda>") params body scope clos ((mg "__name__").getD .none) c' ctv)) (kla_obj "<lambda>" (env.qual ++ "<lambda>") params body scope clos ((mg "__name__").getD .none) c' ctv) rfl, q h'.objs.size c' _ ctv⟩
 ·walk_at "E1"; generalize z1 _ _ = c'
  intro ze2b
  subst ze2b
  obtain ⟨oP, eP, rfl⟩ := S.cell (a := P) (P := Is (tabObj #[rawInt pos.line, rawInt pos.col, .ref c'])) (by simp [tabLed])
  refine kla_makeFunctionHit (mg := mg) (cv := .ref c') hcl hge0 (hg.keeps S.base) hcode (Gg.C.keeps S.base) eP ?_ ?_ ⟨bm, ob, b1, b2, hbG, hbP, S.base _ _ b3, b4, b5, b6⟩ fun ctv h' tk' hk hsz => ?_
  ·exact trivial
  ·simp [codeAmong, rawInt]
  ·exact I3 _ _ _ ⟨rfl, (S.keep hk).push (P := Is (kla_obj "<lambda>" (env.qual ++ "<lambda>") params body scope clos ((mg "__name__").getD .none) c' ctv)) (kla_obj "<lambda>" (env.qual ++ "<lambda>") params body scope clos ((mg "__name__").getD .none) c' ctv) rfl, q h'.objs.size c' _ ctv⟩
theorem W.callLam {f c' : Addr} {qual : Str} {params : Arguments} {body : Expr} {scope : Scope} {clos : List (Str × Addr)} {pm ctv : Value} {args : List Value} {binds : List (Str × Value)} {ps : List Str} {n : Nat} {Q : Value → Led → Prop} (T : Gd c K) (r : Room A (n + 1))
  (m : (f, Is (kla_obj "<lambda>" qual params body scope clos pm c' ctv)) ∈ l) (mc : (c', Cd qual) ∈ l)
  (hbind : bindArgs (kla_fn "<lambda>" qual params body scope clos pm (.ref c') ctv) ⟨args, []⟩ = Pure.pure (ps.zip args)) (hlen : ps.length = args.length) (hnd : ps.Nodup)
  (hcell : ∀ x ∈ scope.names, x.2 ≠ .cell) (hloc : (ps.all fun x => decide (scope.names.lookup x = some .local)) = true)
  (h : ∀ L, W c (A.deeper (envX qual scope L f (.ref c') clos)) (eval body (envX qual scope L f (.ref c') clos)) ((L, NP ps (args.map some)) :: l) (fun v l1 => Q v l1))
  (hco : scope.isCoroutine = false := by rfl) (hgen : scope.isGenerator = false := by rfl) (hk : scope.kind = .function := by rfl) : W c A (call (.ref f) args []) l Q := fun R hp tk S => by
 refine X1 ?_ (S.cell (List.mem_append_left R m))
 intro fo
 refine A2 ?_
 intro ef zz1
 subst zz1
 obtain ⟨oc, ec, vs, t, hd, hv⟩ := S.cell (List.mem_append_left R mc)
 refine wpAny_call (kla_callFunE (by have := r.dp; (clear hv hlen; omega)) ef rfl hco hgen rfl ⟨c', oc, vs, t, rfl, ec, hd, hv⟩ ?_)
 rw [hbind]
 refine wpAny_pure (wpAny_newFunctionEnv hcell (fun x hx => ?_) (fun h₁ hns hsb => ⟨((T.lim).keeps S.base).fresh _ hsb, ?_⟩) hk)
 ·have := List.all_eq_true.mp hloc x.1 (List.of_mem_zip hx).1
  exact of_decide_eq_true this
 have hk₁ : ∀ b o, hp.get? b = some o → h₁.get? b = some o := fun b o e => hsb.extBut b o (Nat.ne_of_lt (Heap.lt_size e)) (Heap.get?_push_of_some _ e)
 obtain ⟨o, es, ep, e, hd', hks, hf⟩ := hns
 have S' : St c.B h₁ (((hp.objs.size, NP ps (args.map some)) :: l) ++ R) :=
  S.new (Nat.le_refl _) hk₁ e ⟨hnd, by simp [hlen], es, ep, hd', hks, fun n => by
   rw [hf]
   have := look_binds ps [] args hlen (by simpa using hnd) n
   simpa using this⟩
 exact kla_codeExpr ((h hp.objs.size).run (E := fun _ _ => False) S' (fun v s q => q) |> fun w => wpAny_mono w (fun _ _ x => x) (fun _ _ x => x.elim))
theorem W.drop1 {α : Type} {m : Sem α} {Q : α → Led → Prop} (h : W c A m l (fun v l' => ∃ x l'', l' = x :: l'' ∧ Q v l'')) : W c A m l Q := fun R hp tk S =>
 wpAny_mono (h R hp tk S) (fun _ _ ⟨h', tk', l', e, S', x, l'', e2, q⟩ => ⟨h', tk', l'', e, by
  subst e2
  exact (S'.perm (l' := (l'' ++ R) ++ [x]) (List.perm_append_singleton _ _).symm).left, q⟩) fun _ _ x => x
theorem W.ifloor {a b : Int} {Q : Value → Led → Prop} (hb : b ≠ 0) (hs : b.natAbs < 1073741824) (q : ∀ t, Q (.int (a.fdiv b) t) l) : W c A (binaryOp .FloorDiv (.int a t) (.int b u)) l Q := fun R h tk S => PyProof.Rows.floordiv_int hb ⟨h, tk + 1, l, rfl, S, q tk⟩ (.inl (PyProof.noPylong_small hs))
end
structure Fd (name : Str) (v : Value) (o : Obj) : Prop where
 ex : ∃ hsh t n, o = dictOf [⟨hsh, .str name t, v⟩] n
section
variable {c : Cx} {K : Frag} {A : Around} {l l' : Led} {t u : Tok} {env : Env}
noncomputable def CW (c : Cx) (A : Around) (f : Addr) (args : List Value) (kw : List (Str × Value)) (l : Led) (Q : Value → Led → Prop) : Prop :=
 ∀ (R : Led) (h : Heap) (tk : Tok), St c.B h (l ++ R) → codeAny (model c.prog c.w) A (.call (.ref f) ⟨args, kw⟩) (fun r s' => match r with | .ok (.ret v) => Fn c R Q v s' | _ => False) ⟨h, c.g, c.d, tk, c.os⟩
theorem CW.def {f : Addr} {fd : FuncData} {oc : Value} {od : Option Addr} {osl : Array (Option Value)} {body : List Stmt} {args : List Value} {kw : List (Str × Value)} {ps os : List Str} {vs : List Value} {n : Nat} {Q : Value → Led → Prop}
  (T : Gd c K) (r : Room A (n + 1)) (ho : K.lookup f = some ⟨oc, od, .func fd, osl⟩) (hcd : codeIn K fd.code fd.qualname = true) (hbody : fd.body = .stmts body)
  (hbind : ∀ s : Shared, K.In s.heap → BindsTo s fd ⟨args, kw⟩ (ps.zip vs)) (hlen : ps.length = vs.length) (hnd : (ps ++ os).Nodup)
  (hcell : ∀ x ∈ fd.scope.names, x.2 ≠ .cell) (hloc : (ps.all fun x => decide (fd.scope.names.lookup x = some .local)) = true)
  (h : ∀ L, W c (A.deeper (callEnv fd L f)) (execs body (callEnv fd L f)) ((L, NP (ps ++ os) (vs.map some ++ os.map fun _ => none)) :: l) (fun fl l1 => Q (match fl with | .ret v => v | _ => .none) l1))
  (hco : fd.scope.isCoroutine = false := by rfl) (hgen : fd.scope.isGenerator = false := by rfl) (hk : fd.scope.kind = .function := by rfl) : CW c A f args kw l Q := fun R hp tk S => by
 have X := T.X.keeps S.base
 refine codeAny_call_def (fd := fd) (body := body) (binds := ps.zip vs) (by have := r.dp; (clear hlen; omega)) (X _ _ ho) rfl (T.lim.keeps S.base) (codeRec_of X hcd) hbody (hbind _ X) hcell (locs_of hloc) (fun h₀ hns hk₀ => ?_) hco hgen hk
 obtain ⟨o, es, ep, e, hd, hks, hf⟩ := hns
 have S' : St c.B h₀ (((hp.objs.size, NP (ps ++ os) (vs.map some ++ os.map fun _ => none)) :: l) ++ R) :=
  S.new (Nat.le_refl _) hk₀ e ⟨hnd, by simp [hlen], es, ep, hd, hks, fun n => by rw [hf]; exact look_binds ps os vs hlen hnd n⟩
 exact (h hp.objs.size).run S' fun fl s q => q
theorem Room.make {A : Around} {n : Nat} {C : Addr} {rest : List Value} (r : Room A (n + 1)) : Room (A.under (.builtin "type.__call__" ⟨.ref C :: rest, []⟩)) n :=
 ⟨r.hh, by
  have := r.dp
  show A.depth + (Code.builtin "type.__call__" ⟨.ref C :: rest, []⟩).weight + n < _
  have h2 : (Code.builtin "type.__call__" ⟨.ref C :: rest, []⟩).weight = 1 := rfl
  omega, by
  have := r.un
  show A.units + (Code.builtin "type.__call__" ⟨.ref C :: rest, []⟩).cUnits + 10 * n < _
  have h2 : (Code.builtin "type.__call__" ⟨.ref C :: rest, []⟩).cUnits = 1 := rfl
  omega⟩
theorem W.make {C fI : Addr} {rest : List Value} {Q : Value → Led → Prop} (T : Gd c K) (hm : makesIn K C = true) (hi : PySem.W.findIn K (.ref C) "__init__" = some (some (.ref fI))) (hf : typeIn K (.ref fI) = some (.type "function"))
  (h : ∀ x dx, CW c (A.under (.builtin "type.__call__" ⟨.ref C :: rest, []⟩)) fI (.ref x :: rest) [] ((x, Is (instObj C dx)) :: (dx, Is emptyDict) :: l) (fun v l' => v = .none ∧ Q (.ref x) l')) : W c A (call (.ref C) rest) l Q := fun R hp tk S => by
 have X := T.X.keeps S.base
 refine wpAny_call (make_core (makes_of X hm) (looks_findIn X hi) (fun self => bind_fn X self hf) (.inl rfl) ?_)
 have S1 : St c.B (hp.push emptyDict) (((hp.objs.size, Is emptyDict) :: l) ++ R) := S.push emptyDict rfl
 have S2 := S1.push (P := Is (instObj C hp.objs.size)) (instObj C hp.objs.size) rfl
 rw [Heap.size_push] at S2
 refine codeAny_mono (h (hp.objs.size + 1) hp.objs.size R _ tk S2) fun r s' z => ?_
 rcases r with e | (v | _ | _ | _) <;> first | exact z | exact z.elim | skip
 refine X3 ?_ (z)
 intro h' tk' l'
 refine A4 ?_
 intro e S' zz1 q
 subst zz1
 clear z
 exact ⟨rfl, h', tk', l', e, S', q⟩
theorem W.attr {value : Expr} {name : Str} {pos : Pos} {Q : Value → Led → Prop} (h : W c A (eval value env) l (fun o l1 => W c A (getAttr o name true) l1 Q))
  (he : eval (.Attribute value name pos) env = (do
   let o ← eval value env
   PySem.standAt pos.atName
   let r ← PySem.holding [o] (getAttr o name true)
   letTemporaryGo value o r
   Pure.pure r) := by with_unfolding_all rfl) : W c A (eval (.Attribute value name pos) env) l Q := fun R hp tk S =>
 Attribute_any_ (h.run S fun v s F => F.go fun _ p => p) he
theorem instAt {h : Heap} {x dx C : Addr} {o : Obj} (hx : h.get? x = some (instObj C dx)) (hd : h.get? dx = some o) : InstAt h x (instObj C dx) C (some o) := ⟨hx, rfl, rfl, hd⟩
theorem W.getOwn {x dx C : Addr} {name : Str} {v : Value} {attr : Option Value} {expr : Bool} {Q : Value → Led → Prop} (T : Gd c K) (hx : (x, Is (instObj C dx)) ∈ l) (hd : (dx, Fd name v) ∈ l)
  (hg : plainGet K C name = true) (hh : hasDictIn K C = true) (ha : PySem.W.findIn K (.ref C) name = some attr) (hn : noGet K attr = true) (hv : handedIn v = true) (q : Q v l) : W c A (getAttr (.ref x) name expr) l Q := fun R hp tk S => by
 refine X1 ?_ (S.cell (List.mem_append_left R hx))
 intro ox
 refine A2 ?_
 intro ex zz2
 subst zz2
 obtain ⟨od, ed, hsh, t, n, rfl⟩ := S.cell (List.mem_append_left R hd)
 refine get_value (T.X.keeps S.base) (instAt ex ed) (plainGet_of hg).1 (findObj_own hh ha hn ?_) hv ⟨hp, tk + 1, l, rfl, S, q⟩
 rw [lookIn_dict]
 unfold getL
 have : (Value.str name t).isStr name = true := by simp [Value.isStr]
 simp [List.find?, this]
theorem W.setOwn : ∀ {c : Cx} {K : Frag} {A : Around} {l : Led} {l' : Led} {x dx C L : Addr} {name : Str} {names vals} {v : Value} {Q : Unit → Led → Prop} (T : Gd c K) (hL : (L, NP names vals) ∈ l) (hx : (x, Is (instObj C dx)) ∈ l) (hU : Up l dx (Is emptyDict) (Fd name v) l') (hne : L ≠ dx) (hs : PySem.W.findIn K (.ref C) "__setattr__" = some (some (.builtin "object.__setattr__"))) (hp : plainOver K C = true) (ht : takerIn K C name = some none) (hh : hasDictIn K C = true) (q : Q () l'), W c A (setAttr (.ref x) name v) l Q := by
 refine' @E14 _ _ _ _ _ _ _ _ _ _ _ _ _ _ _ (by walk_at "ne") ?_; generalize (z14 _ _).1 = c; generalize (z14 _ _).2.1 = K; generalize (z14 _ _).2.2.1 = A; generalize (z14 _ _).2.2.2.1 = l; generalize (z14 _ _).2.2.2.2.1 = l'; generalize (z14 _ _).2.2.2.2.2.1 = x; generalize (z14 _ _).2.2.2.2.2.2.1 = dx; generalize (z14 _ _).2.2.2.2.2.2.2.1 = C; generalize (z14 _ _).2.2.2.2.2.2.2.2.1 = L; generalize (z14 _ _).2.2.2.2.2.2.2.2.2.1 = name; generalize (z14 _ _).2.2.2.2.2.2.2.2.2.2.1 = names; generalize (z14 _ _).2.2.2.2.2.2.2.2.2.2.2.1 = vals; generalize (z14 _ _).2.2.2.2.2.2.2.2.2.2.2.2.1 = v; generalize (z14 _ _).2.2.2.2.2.2.2.2.2.2.2.2.2 = Q
 intro T hL hx hU hne hs hp ht hh q
 walk_at "E3"; generalize (z3 _ _).1 = R; generalize (z3 _ _).2.1 = h; generalize (z3 _ _).2.2 = tk
 intro S
 refine X1 ?_ (S.cell (List.mem_append_left R hx))
 walk_at "E1"; generalize z1 _ _ = ox
 refine A2 ?_
 intro ex zz3
 subst zz3
 refine X1 ?_ (S.cell (List.mem_append_left R hU.mem))
 walk_at "E1"; generalize z1 _ _ = od
 refine A2 ?_
 intro ed zz4
 subst zz4
 refine X1 ?_ (S.cell (List.mem_append_left R hL))
 walk_at "E1"; generalize z1 _ _ = oL
 refine A2 ?_
 intro eL pL
 let h0 : Heap := { h with objs := #[] }
 have n0 : ∀ b, h0.get? b = none := fun b => by
  generalize e : h0.get? b = zo1
  refine OCn zo1 ?_ ?_
  ·intro ze1a
   subst ze1a
   rfl
  ·walk_at "E1"; generalize z1 _ _ = o
   intro ze1b
   subst ze1b
   exact absurd (Heap.lt_size e) (Nat.not_lt_zero _)
 let post : List (Addr × Obj) := (List.range h.objs.size).filterMap fun b => if b = dx ∨ b = L then none else (h.get? b).map fun o => (b, o)
 have hpost : ∀ p ∈ post, h.get? p.1 = some p.2 ∧ p.1 ≠ dx ∧ p.1 ≠ L := fun p m => by
  refine X1 ?_ (List.mem_filterMap.mp m)
  intro b
  refine A2 ?_
  intro _ e
  by_cases hb : b = dx ∨ b = L
  ·rw [if_pos hb] at e; cases e
  ·rw [if_neg hb] at e
   refine X1 ?_ (Option.map_eq_some_iff.mp e)
   intro o
   refine A2 ?_
   intro e1 zz5
   subst zz5
   exact ⟨e1, fun z => hb (.inl z), fun z => hb (.inr z)⟩
 have inpost : ∀ b o, h.get? b = some o → b ≠ dx → b ≠ L → (b, o) ∈ post := fun b o e h1 h2 => by
  refine List.mem_filterMap.mpr ⟨b, List.mem_range.mpr (Heap.lt_size e), ?_⟩
  rw [if_neg (fun z => z.elim h1 h2), e]; rfl
 have F : Fr h0 L h (posLook names vals) := ⟨pL.ns eL, fun b o e => absurd ((n0 b).symm.trans e) (fun z => nomatch z), Nat.zero_le _⟩
 have N : News h0 L h ([] ++ (dx, emptyDict) :: post) := fun p m => by
  rcases List.mem_cons.mp m with rfl | m
  ·exact ⟨ed, Ne.symm hne, n0 _⟩
  ·exact ⟨(hpost p m).1, (hpost p m).2.2, n0 _⟩
 refine set_plain (T.X.keeps S.base) (instAt ex ed) hs ?_
 refine osa_dict (s := ⟨h, c.g, c.d, tk + 1, c.os⟩) (es := [⟨_, _, _⟩]) F N (T.X.keeps S.base) (instAt ex ed) rfl hp ht hh rfl (fun _ m => nomatch m) (fun p m => (hpost p m).2.1) (putName_dict _ _ _ _ [] 0) rfl (by show 1 ≤ 1000; omega) ?_
 intro h' F' N'
 refine I3 h' _ l' ⟨rfl, ?_, q⟩
 have hc := (hU.append R).cases_mem S.nodup
 have ed' := (N' (dx, _) (.head _)).1
 have same : ∀ b o, h.get? b = some o → b ≠ dx → b ≠ L → h'.get? b = some o := fun b o e h1 h2 => (N' (b, o) (.tail _ (inpost b o e h1 h2))).1
 refine ⟨fun p hp => ?_, by rw [(hU.append R).addrs]; exact S.nodup, fun b o e => ?_, fun p hp => ?_, S.low⟩
 ·rcases hc p hp with rfl | ⟨h1, h2⟩
  ·exact ⟨_, ed', _, _, _, rfl⟩
  ·by_cases hpL : p.1 = L
   ·obtain ⟨oL', es, ep, e1, e2, e3, e4⟩ := F'.ns
    have : p = (L, NP names vals) := by
     have nd := S.nodup
     have m2 : (L, NP names vals) ∈ l ++ R := List.mem_append_left R hL
     obtain ⟨i, hi, ei⟩ := List.getElem_of_mem h1
     obtain ⟨j, hj, ej⟩ := List.getElem_of_mem m2
     have : i = j := by
      have h3 : ((l ++ R).map (·.1))[i]'(by simpa using hi) = ((l ++ R).map (·.1))[j]'(by simpa using hj) := by simp only [List.getElem_map, ei, ej]; exact hpL
      exact (List.getElem_inj nd).mp h3
     subst this
     rw [← ei, ej]
    subst this
    exact ⟨oL', e1, pL.nd, pL.rest.1, es, ep, e2, e3, e4⟩
   ·refine X1 ?_ (S.at_ p h1)
    intro o
    refine A2 ?_
    intro e1 e2
    exact ⟨o, same _ _ e1 h2 hpL, e2⟩
 ·refine same b o (S.base b o e) (fun z => ?_) (fun z => ?_)
  ·have := S.nb (List.mem_append_left R hU.mem)
   rw [← z, e] at this; cases this
  ·have := S.nb (List.mem_append_left R hL)
   rw [← z, e] at this; cases this
 ·rcases hc p hp with rfl | ⟨h1, h2⟩
  ·exact S.above (dx, Is emptyDict) (List.mem_append_left R hU.mem)
  ·exact S.above p h1
theorem W.setAttrSt {o value : Expr} {name : Str} {pos' pos : Pos} {Q : Flow → Led → Prop} (h : W c A (eval value env) l (fun v l1 => W c A (eval o env) l1 (fun ov l2 => W c A (setAttr ov name v) l2 (fun _ l3 => Q .next l3))))
  (hs : swapsWith value (some (.Attribute o name pos')) pos.line env = Pure.pure false := by rfl) : W c A (exec (.Assign [.Attribute o name pos'] value pos) env) l Q := fun R hp tk S =>
 plainObj_wpAny_Assign_Attribute (h.run S fun v s F => F.run (fun _ p => p) fun v s F => F.run (fun _ p => p) fun _ s ⟨h', tk', l', e, S', q⟩ => ⟨h', tk', l', e, S', q⟩) hs
theorem W.methOwn {o e : Expr} {name : Str} {apos pos : Pos} {rest : List Expr} {kws : List Keyword} {x dx C f : Addr} {attr : Str} {av : Value} {Q : Value → Led → Prop} (T : Gd c K) (hg : plainGet K C name = true) (hf : PySem.W.findIn K (.ref C) name = some (some (.ref f))) (ht : isFn K (.ref f) = true) (hna : (attr == name) = false)
  (hk : keepIn K (.ref f) = true) (hall : (backToKw pos (keywordEach kws env)).all (·.1.isSome) = true)
  (h : W c A (eval o env) l (fun ov l1 => ov = .ref x ∧ (x, Is (instObj C dx)) ∈ l1 ∧ (dx, Fd attr av) ∈ l1 ∧ W c A (spliced (backTo pos (starEach (e :: rest) env))) l1 (fun vs l2 => W c A (evalAll ((backToKw pos (keywordEach kws env)).map (·.2))) l2 fun ks l3 => W c A (call (.ref f) (.ref x :: vs) (((backToKw pos (keywordEach kws env)).filterMap (·.1)).zip ks)) l3 Q)))
  (hplain : ((backTo pos (starEach (e :: rest) env)).any (·.1) || (backToKw pos (keywordEach kws env)).any (·.1.isNone)) = false := by rfl) (hst : starEach (e :: rest) env = (false, eval e env) :: starEach rest env := by rfl)
  (pl : Sem Bool) (he : eval (.Call (.Attribute o name apos) (e :: rest) kws pos) env = (do
   let ov ← eval o env
   PySem.standAt apos.atName
   let (f, first) ← PySem.holding [ov] (getMethod ov name pl)
   callWith pos f first (backTo pos (starEach (e :: rest) env)) (backToKw pos (keywordEach kws env)))) : W c A (eval (.Call (.Attribute o name apos) (e :: rest) kws pos) env) l Q := fun R hp' tk S => by
 refine methodCall_KW (pl := pl) (h.run S fun ov s ⟨h1, tk1, l1, e1, S1, e2, hx, hd, w⟩ => ?_) he
 subst e1 e2
 refine X1 ?_ (S1.cell (List.mem_append_left R hx))
 intro ox
 refine A2 ?_
 intro ex zz6
 subst zz6
 obtain ⟨od, ed, hsh, t, n, rfl⟩ := S1.cell (List.mem_append_left R hd)
 refine method_fn (T.X.keeps S1.base) (instAt ex ed) (plainGet_of hg).1 (plainGet_of hg).2 hf (beq_iff_eq.mp ht) ?_ ?_
 ·show (lookIn name (dictOf [⟨hsh, .str attr t, av⟩] n)).map _ = _
  rw [lookIn_dict]
  unfold getL
  have : (Value.str attr t).isStr name = false := hna
  simp [List.find?, this, DictEntry.refKey]
 ·refine callWith_KW (K := K) (h₀ := c.B) T.X hk hall ?_ hplain hst
  refine w.run S1 fun vs s F => F.run (fun _ p => p) ?_
  intro ks s
  refine X3 ?_
  intro h2 tk2 l2
  refine A3 ?_
  intro e S2 w2
  subst e
  exact ⟨T.X.keeps S2.base, w2 R h2 tk2 S2⟩
theorem W.methOwn0 {o : Expr} {name : Str} {apos pos : Pos} {x dx C f : Addr} {attr : Str} {av : Value} {Q : Value → Led → Prop} (T : Gd c K) (hg : plainGet K C name = true) (hf : PySem.W.findIn K (.ref C) name = some (some (.ref f))) (ht : isFn K (.ref f) = true) (hna : (attr == name) = false)
  (hk : keepIn K (.ref f) = true)
  (h : W c A (eval o env) l (fun ov l1 => ov = .ref x ∧ (x, Is (instObj C dx)) ∈ l1 ∧ (dx, Fd attr av) ∈ l1 ∧ W c A (call (.ref f) [.ref x]) l1 Q))
  (pl : Sem Bool) (he : eval (.Call (.Attribute o name apos) [] [] pos) env = (do
   let ov ← eval o env
   PySem.standAt apos.atName
   let (f, first) ← PySem.holding [ov] (getMethod ov name pl)
   callWith pos f first (backTo pos (starEach [] env)) (backToKw pos (keywordEach [] env)))) : W c A (eval (.Call (.Attribute o name apos) [] [] pos) env) l Q := fun R hp' tk S => by
 refine methodCall_KW (pl := pl) (h.run S fun ov s ⟨h1, tk1, l1, e1, S1, e2, hx, hd, w⟩ => ?_) he
 subst e1 e2
 refine X1 ?_ (S1.cell (List.mem_append_left R hx))
 intro ox
 refine A2 ?_
 intro ex zz7
 subst zz7
 obtain ⟨od, ed, hsh, t, n, rfl⟩ := S1.cell (List.mem_append_left R hd)
 refine method_fn (T.X.keeps S1.base) (instAt ex ed) (plainGet_of hg).1 (plainGet_of hg).2 hf (beq_iff_eq.mp ht) ?_ ?_
 ·show (lookIn name (dictOf [⟨hsh, .str attr t, av⟩] n)).map _ = _
  rw [lookIn_dict]
  unfold getL
  have : (Value.str attr t).isStr name = false := hna
  simp [List.find?, this, DictEntry.refKey]
 ·refine callWith_KW0 (K := K) (h₀ := c.B) T.X hk rfl ?_ rfl
  exact wpAny_pure ⟨T.X.keeps S1.base, w R h1 tk1 S1⟩
theorem W.typeOf {v : Value} {Tn : String} {Q : Value → Led → Prop} (y : Ty l v Tn) (hnb : (Value.type Tn == Value.type "builtin_function_or_method") = false) (q : Q (.type Tn) l) : W c A (call (.type "type") [v]) l Q := fun R hp tk S =>
 call_type_of (Ty.is S (y.mono fun p hp => List.mem_append_left R hp)) hnb ⟨hp, tk, l, rfl, S, q⟩
noncomputable abbrev lsI (a : Addr) (i : Nat) : Pr := fun o => o.cls = .type "list_iterator" ∧ o.data = .fields #[.ref a, .int (i : Nat) 0]
theorem W.forT : ∀ {c : Cx} {A : Around} {l : Led} {env : Env} {elts : List Expr} {x1} {tp : Pos} {iter : Expr} {body : List Stmt} {pos : Pos} {Q : Flow → Led → Prop} {a : Addr} {vs : List Value} (J : Nat → Led → Prop) (hh : A.handled = none) (hvs : ∀ v ∈ vs, ∃ T, v = .ref T) (h : W c A (eval iter env) l (fun xv l1 => xv = .ref a ∧ J 0 l1)) (hm : ∀ i l, J i l → (a, Ls vs) ∈ l) (turn : ∀ i v l1, vs[i]? = some v → J i l1 → W c A (PySem.assign (.Tuple elts x1 tp) env v) l1 (fun _ l2 => W c A (execs body env) l2 (fun f l3 => match f with | .next | .cont => J (i + 1) l3 | .brk => Q .next l3 | .ret v => Q (.ret v) l3))) (done : ∀ l1, J vs.length l1 → Q .next l1) (hs : ∀ x, foldedSetIterable iter env x = Pure.pure x := by intro _; rfl), W c A (exec (.For (.Tuple elts x1 tp) iter body [] pos) env) l Q := by
 refine' @E14 _ _ _ _ _ _ _ _ _ _ _ _ _ _ _ (by walk_at "ne") ?_; generalize (z14 _ _).1 = c; generalize (z14 _ _).2.1 = A; generalize (z14 _ _).2.2.1 = l; generalize (z14 _ _).2.2.2.1 = env; generalize (z14 _ _).2.2.2.2.1 = elts; generalize (z14 _ _).2.2.2.2.2.1 = x1; generalize (z14 _ _).2.2.2.2.2.2.1 = tp; generalize (z14 _ _).2.2.2.2.2.2.2.1 = iter; generalize (z14 _ _).2.2.2.2.2.2.2.2.1 = body; generalize (z14 _ _).2.2.2.2.2.2.2.2.2.1 = pos; generalize (z14 _ _).2.2.2.2.2.2.2.2.2.2.1 = Q; generalize (z14 _ _).2.2.2.2.2.2.2.2.2.2.2.1 = a; generalize (z14 _ _).2.2.2.2.2.2.2.2.2.2.2.2.1 = vs; generalize (z14 _ _).2.2.2.2.2.2.2.2.2.2.2.2.2 = J
 intro hh hvs h hm turn done hs
 walk_at "E3"; generalize (z3 _ _).1 = R; generalize (z3 _ _).2.1 = hp; generalize (z3 _ _).2.2 = tk
 intro S
 refine wpAny_For (h.run S ?_) hs
 walk_at "E2"; generalize (z2 _ _).1 = xv; generalize (z2 _ _).2 = s
 refine X3 ?_
 walk_at "E3"; generalize (z3 _ _).1 = h1; generalize (z3 _ _).2.1 = tk1; generalize (z3 _ _).2.2 = l1
 refine A4 ?_
 intro zz8 S1 zz9 j0
 subst zz8
 subst zz9
 refine O1 ?_ (S1.cell (List.mem_append_left R (hm 0 l1 j0)))
 walk_at "Y1"; generalize z1 _ _ = o
 refine A2 ?_
 intro e n
 refine wpAny_pyIter_list (Ls.is e n) ?_
 have S2 : St c.B (h1.push { cls := .type "list_iterator", data := .fields #[.ref a, .int (0 : Nat) 0] }) (((h1.objs.size, lsI a 0) :: l1) ++ R) := S1.push (P := lsI a 0) _ ⟨rfl, rfl⟩
 generalize h1.objs.size = I at S2
 refine codeAny_forLoop_any (fun k s => ∃ h tk i l1, s = ⟨h, c.g, c.d, tk, c.os⟩ ∧ St c.B h (((I, lsI a i) :: l1) ++ R) ∧ J i l1 ∧ i ≤ vs.length ∧ k = vs.length + 1 - i) ?_ (vs.length + 1) ⟨_, tk1, 0, l1, rfl, S2, j0, Nat.zero_le _, rfl⟩
 walk_at "E2"; generalize (z2 _ _).1 = k; generalize (z2 _ _).2 = s
 refine X4 ?_
 refine' @E4 _ _ _ _ _ (by walk_at "ne") ?_; generalize (z4 _ _).1 = h3; generalize (z4 _ _).2.1 = tk3; generalize (z4 _ _).2.2.1 = i; generalize (z4 _ _).2.2.2 = l3
 refine A5 ?_
 intro zz10 S3 j3 hi zz11
 subst zz10
 subst zz11
 refine O1 ?_ (S3.cell (List.mem_append_left R (List.mem_cons_of_mem _ (hm i l3 j3))))
 walk_at "Y1"; generalize z1 _ _ = ol
 refine A2 ?_
 intro el nl
 refine O1 ?_ (S3.cell (List.mem_append_left R (.head _)))
 walk_at "Y1"; generalize z1 _ _ = oi
 refine A2 ?_
 intro ei pi
 by_cases hlt : i < vs.length
 ·refine O1 ?_ (show ∃ v, vs[i]? = some v from ⟨_, List.getElem?_eq_getElem hlt⟩)
  walk_at "Y1"; generalize z1 _ _ = v
  intro hv
  refine wpAny_pyNext_list_item ⟨oi, ei, pi⟩ (Ls.is el nl) (List.getElem?_toArray.trans hv) ?_
  walk_at "E1"; generalize z1 _ _ = h4
  intro hit hsb
  obtain ⟨o2, e2, p2⟩ := hit
  have S4 : St c.B h4 (((I, lsI a (i + 1)) :: l3) ++ R) := S3.upd (Up.append .head R) hsb e2 p2
  refine O1 ?_ (hvs v (List.mem_of_getElem? hv))
  walk_at "Y1"; generalize z1 _ _ = Tt
  intro eT
  subst eT
  have t := (turn i (.ref Tt) l3 hv j3).frame (R := [(I, lsI a (i + 1))])
  refine wpAny_letOwnedTupleGo_listiter (l := a) (i := i + 1) ⟨o2, e2, p2⟩ ?_
  have t' := t.perm take_front
  refine t'.run S4 ?_
  walk_at "E2"; generalize (z2 _ _).1 = zu55; generalize (z2 _ _).2 = s
  refine X3 ?_
  walk_at "E3"; generalize (z3 _ _).1 = h5; generalize (z3 _ _).2.1 = tk5; generalize (z3 _ _).2.2 = l5
  refine A3 ?_
  intro e S5
  refine X1 ?_
  walk_at "E1"; generalize z1 _ _ = l6
  refine A2 ?_
  intro e5 w5
  subst e e5
  have w6 := w5.frame (R := [(I, lsI a (i + 1))])
  refine w6.run S5 ?_
  walk_at "E2"; generalize (z2 _ _).1 = f; generalize (z2 _ _).2 = s
  refine X3 ?_
  walk_at "E3"; generalize (z3 _ _).1 = h6; generalize (z3 _ _).2.1 = tk6; generalize (z3 _ _).2.2 = l7
  refine A3 ?_
  intro e S6
  refine X1 ?_
  walk_at "E1"; generalize z1 _ _ = l8
  refine A2 ?_
  intro e8 q
  subst e e8
  have fwd : St c.B h6 (((I, lsI a (i + 1)) :: l8) ++ R) := S6.perm (take_front.symm.append_right R)
  have bk : St c.B h6 (l8 ++ R) := by
   have := S6.perm (l' := l8 ++ R ++ [(I, lsI a (i + 1))]) (by rw [List.append_assoc, List.append_assoc]; exact List.Perm.append_left _ List.perm_append_comm)
   exact this.left
  cases f with
  | next => exact ⟨vs.length + 1 - (i + 1), by (clear p2 hlt; omega), h6, tk6, i + 1, l8, rfl, fwd, q, hlt, rfl⟩
  | cont => exact ⟨vs.length + 1 - (i + 1), by (clear p2 hlt; omega), h6, tk6, i + 1, l8, rfl, fwd, q, hlt, rfl⟩
  | brk => exact ⟨h6, tk6, l8, rfl, bk, q⟩
  | ret v => exact ⟨h6, tk6, l8, rfl, bk, q⟩
 ·have hin : i = vs.length := by omega
  subst hin
  refine wpAny_pyNext_list_end hh ⟨oi, ei, pi⟩ (Ls.is el nl) (by simp) ?_
  walk_at "E1"; generalize z1 _ _ = h4
  intro hx
  have S4 : St c.B h4 (l3 ++ R) := St.lost (a := I) (P := lsI a vs.length) S3 hx
  exact wpAny_execs_nil ⟨h4, tk3, l3, rfl, S4, done l3 j3⟩
theorem W.lsSlice {a : Addr} {vs : List Value} {value : Expr} {lower upper : Option Expr} {lo hi : Option Int} {p pos : Pos} {Q : Value → Led → Prop}
  (h : W c A (eval value env) l (fun o l1 => W c A (evalPart lower env) l1 (fun lv l2 => W c A (evalPart upper env) l2 (fun uv l3 => o = .ref a ∧ (a, Ls vs) ∈ l3 ∧ IsPart lv lo ∧ IsPart uv hi ∧ vs.length ≤ sizeLine ∧ ∀ d, Q (.ref d) ((d, Ls (slicePick vs.toArray lo hi none).toList) :: l3)))))
  (ht : ∀ o r, letTemporaryGo value o r = Pure.pure () := by intro _ _; rfl) : W c A (eval (.Subscript value (.Slice lower upper none p) pos) env) l Q := fun R hp tk S => by
 refine wpAny_Subscript_Slice slot_list_getitem.lookup (h.run S fun o s F => ?_) ht
 refine wpAny_Slice (F.run (fun _ p => p) fun lv s F => F.run (fun _ p => p) ?_)
 intro uv s
 refine X3 ?_
 intro h1 tk1 l1
 refine A8 ?_
 intro e S1 e1 m pl pu hsz q
 subst e e1
 refine wpAny_pure ?_
 have S2 := S1.skip { cls := .type "slice", data := .fields #[lv, uv, .none] }
 refine X1 ?_ (S2.cell (List.mem_append_left R m))
 intro oa
 refine A2 ?_
 intro ea pa
 refine ⟨(Ls.is ea pa).typeIs, wpAny_getItem_list_slice (Ls.is ea pa) (Heap.IsSliceOf.new _ _ _ _) pl pu .none (by decide) ?_ (by simpa using hsz)⟩
 exact ⟨_, tk1, _, rfl, S2.push (P := Ls (slicePick vs.toArray lo hi none).toList) _ ⟨0, by simp⟩, q _⟩
theorem W.strSlice {x : Str} {value : Expr} {lower upper : Option Expr} (lo hi : Option Int) {p pos : Pos} {Q : Value → Led → Prop}
  (h : W c A (eval value env) l (fun o l1 => W c A (evalPart lower env) l1 (fun lv l2 => W c A (evalPart upper env) l2 (fun uv l3 => ∃ lo' hi' t0, o = .str x t0 ∧ lv = partValue lo' ∧ uv = partValue hi' ∧ lo'.map (·.1) = lo ∧ hi'.map (·.1) = hi ∧ x.length ≤ sizeLine ∧ ∀ t', Q (.str (Txt.slice x lo hi) t') l3))))
  (ht : ∀ o r, letTemporaryGo value o r = Pure.pure () := by intro _ _; rfl) : W c A (eval (.Subscript value (.Slice lower upper none p) pos) env) l Q := fun R hp tk S => by
 refine wpAny_Subscript_str_slice (h.run S fun o s F => F.run (fun _ p => p) fun lv s F => F.run (fun _ p => p) fun uv s ⟨h1, tk1, l1, e, S1, lo', hi', t0, e1, e2, e3, e4, e5, hsz, q⟩ => ?_) ht
 subst e e4 e5
 refine ⟨x, t0, lo', hi', e1, e2, e3, ?_⟩
 have S2 := S1.skip { cls := .type "slice", data := .fields #[lv, uv, .none] }
 exact post_val_or_str ⟨Nat.le_trans (Txt.slice_le x _ _) hsz, fun t' k => ⟨_, k, l1, rfl, S2, q t'⟩⟩
theorem W.copy {a : Addr} {vs : List Value} {value : Expr} {p pos : Pos} {Q : Value → Led → Prop} (h : W c A (eval value env) l (fun o l1 => o = .ref a ∧ (a, Ls vs) ∈ l1 ∧ vs.length ≤ sizeLine ∧ ∀ d, Q (.ref d) ((d, Ls vs) :: l1))) : W c A (eval (.Subscript value (.Slice none none none p) pos) env) l Q := fun R hp tk S => by
 refine Subscript_ (h.run S ?_)
 intro o s
 refine X3 ?_
 intro h1 tk1 l1
 refine A6 ?_
 intro e S1 e1 m hsz q
 subst e e1
 refine wpAny_Slice (wpAny_pure (wpAny_pure (wpAny_pure ?_)))
 have S2 := S1.skip { cls := .type "slice", data := .fields #[.none, .none, .none] }
 refine X1 ?_ (S2.cell (List.mem_append_left R m))
 intro oa
 refine A2 ?_
 intro ea pa
 refine kba_turn (value' := .Name "_" ⟨0, 0, 0, 0⟩) (fun _ => rfl) (subscriptTail_ops (Ls.is ea pa).typeIs slot_list_getitem.lookup (wpAny_getItem_list_slice (Ls.is ea pa) (Heap.IsSliceOf.new _ _ _ _) .none .none .none (by decide) ?_ (by simpa using hsz)) (ops := [_, _]) (by rfl) (fun _ => rfl))
 rw [slicePick_all]
 exact ⟨_, tk1, _, rfl, S2.push (P := Ls vs) _ ⟨0, rfl⟩, q _⟩
theorem W.nd {α : Type} {m : Sem α} {Q : α → Led → Prop} (h : (l.map (·.1)).Nodup → W c A m l Q) : W c A m l Q := fun R hp tk S => h S.left.nodup R hp tk S
theorem Del.mid {a : Addr} {P : Pr} {t : Led} : ∀ (pre : Led), Del (pre ++ (a, P) :: t) a P (pre ++ t)
 | [] => .head
 | _ :: pre => .tail (Del.mid pre)
theorem Take.suffix (pre : Led) : ∀ (t : Led), Take (pre ++ t) t pre
 | [] => by rw [List.append_nil]; exact .nil
 | (a, P) :: t => .cons (Del.mid pre) (Take.suffix pre t)
theorem W.methK {o : Expr} {name : Str} {apos pos : Pos} {args : List Expr} {Tn id : String} {a : Addr} {ob : Obj} {Q : Value → Led → Prop} (T : Gd c K) (hl : K.lookup a = some ob) (hcl : ob.cls = .type Tn) (hdc : ob.dict = none)
  (pa : PlainAttrs Tn) (slot : Slot Tn name id) (hty : PySem.typeOf (.builtin id) = Pure.pure (.type "method_descriptor"))
  (h : W c A (eval o env) l (fun ov l1 => ov = .ref a ∧ W c A (spliced (backTo pos (starEach args env))) l1 (fun vs l2 => W c A (call (.builtin id) (.ref a :: vs)) l2 Q)))
  (hbase : attributeBase o name env (eval o env) = eval o env := by rfl)
  (hfew : ((backTo pos (starEach args env)).all (fun x => !x.1) && (backToKw pos (keywordEach [] env)).all (fun x => x.1.isSome)
   && decide (args.length + ([] : List Keyword).length + (if ([] : List Keyword).isEmpty then 0 else 1) < 30)) = true := by rfl)
  (hline : (apos.endLine == pos.line) = true := by rfl)
  (hp : (backTo pos (starEach args env)).any (·.1) = false := by rfl) : W c A (eval (.Call (.Attribute o name apos) args [] pos) env) l Q := fun R hp' tk S => by
 refine wpAny_Call_method hbase hfew hline pa slot hty (h.run S ?_)
 intro ov s
 refine X3 ?_
 intro h1 tk1 l1
 refine A4 ?_
 intro e S1 y w
 subst e y
 have eo := T.X.keeps S1.base _ _ hl
 refine ⟨⟨ob, eo, hcl⟩, fun a' e => ?_, ?_⟩
 ·cases e; exact ⟨ob, eo, hdc⟩
 ·refine callWith_builtin hp ?_
  exact (W.evalArgs (Q := fun a' l2 => W c A (call (.builtin id) ([.ref a] ++ a'.pos) a'.kw) l2 Q) w hp).run S1 fun a s F => F.go fun _ p => p
end
theorem plainAttrs_rp : PlainAttrs "re.Pattern" :=
 ⟨⟨"object.__getattribute__", by rw [typeLookup_type, builtinLookup_eq_fast]; kernel_rfl, by decide +kernel⟩, by rw [typeLookup_type, builtinLookup_eq_fast]; kernel_rfl⟩
theorem slot_rp_search : Slot "re.Pattern" "search" "re.Pattern.search" :=
 .of (owner := "re.Pattern") (n := "search") (by rw [typeLookup_type, builtinLookup_eq_fast]; kernel_rfl) (by decide +kernel) (by decide +kernel) (by decide +kernel)
  (by first | exact .inl (by decide +kernel) | exact .inr (by decide +kernel)) (by rw [isSubtype_type]; kernel_rfl)
theorem type_rp_search : typeOf (.builtin "re.Pattern.search") = Pure.pure (.type "method_descriptor") := by show builtinType _ = _; rw [builtinType_eq_fast]; kernel_rfl
theorem entry_rp_search : entryFor table "re.Pattern.search" = some Builtin.«re.Pattern.search» := entryFor_of_tree (by kernel_rfl)
theorem args_rp_search (a b : Value) : argsOk "re.Pattern.search" ⟨[a, b], []⟩ := by
 unfold argsOk; kernel_rfl
open PySem.Sre in
theorem adm {m : M} (H : ∀ p seen, p < m.lim → ∃ seen', inSet m.code (m.text.getD p 0) m.code.size 5 true seen = .ok (false, seen')) : ∀ fuel s seen, ∃ seen', M.admitted m fuel s seen = .ok (none, seen')
 | 0, s, seen => ⟨seen, rfl⟩
 | n + 1, s, seen => by
  unfold M.admitted
  by_cases h : s ≥ m.lim
  ·rw [if_pos h]; exact ⟨seen, rfl⟩
  ·rw [if_neg h]
   obtain ⟨seen', e⟩ := H s seen (by omega)
   rw [e]
   exact adm H n (s + 1) seen'
theorem adm_of {m : Sre.M} {fuel s : Nat} {seen : Sre.Seen} {r} (e : Sre.M.admitted m fuel s seen = r) (H : ∀ p seen, p < m.lim → ∃ seen', Sre.inSet m.code (m.text.getD p 0) m.code.size 5 true seen = .ok (false, seen')) : ∃ seen', r = .ok (none, seen') :=
 let ⟨a, b⟩ := adm H fuel s seen
 ⟨a, e ▸ b⟩
theorem search_none {code text : Array Nat} (hI : (match Sre.ops[code.getD 0 0]? with | some .INFO => true | _ => false) = true) (h2 : (code.getD 2 0 == 4) = true)
  (H : ∀ p seen, p < text.size → ∃ seen', Sre.inSet code (text.getD p 0) code.size 5 true seen = .ok (false, seen')) :
  ∃ m : Sre.M, Sre.M.runFor 4 (Sre.forSearch code text 0 0 text.size false) = m ∧ m.outcome = some .failed := by
 refine ⟨_, rfl, ?_⟩
 have key : (Sre.forSearch code text 0 0 text.size false).answer = some false ∧ (Sre.forSearch code text 0 0 text.size false).frames = [] ∧ (Sre.forSearch code text 0 0 text.size false).outcome = none := by
  unfold Sre.forSearch
  dsimp only
  split
  ·exact ⟨rfl, rfl, rfl⟩
  ·unfold Sre.M.attemptFrom
   have hf : ∀ m : Sre.M, m.code = code → m.hasFirstSet = true := fun m e => by
    unfold Sre.M.hasFirstSet
    rw [e, h2]
    rw [Bool.and_true]
    exact hI
   rw [hf _ rfl]
   simp only [Bool.not_true, Bool.false_eq_true, if_false]
   split
   ·rename_i e
    obtain ⟨_, z⟩ := adm_of e (fun p seen hp => H p seen hp)
    cases z
   ·exact ⟨rfl, rfl, rfl⟩
   ·rename_i e
    obtain ⟨_, z⟩ := adm_of e (fun p seen hp => H p seen hp)
    cases z
 generalize Sre.forSearch code text 0 0 text.size false = m at key
 refine A3 ?_ (key)
 intro k1 k2 k3
 clear key
 have s1 : m.step.outcome = some .failed := by
  unfold Sre.M.step
  rw [k3, k1, k2]
  rfl
 unfold Sre.M.runFor
 rw [k3]
 simp only [Option.isSome_none, Bool.false_eq_true, if_false]
 unfold Sre.M.runFor
 rw [s1]
 simp only [Option.isSome_some, if_true, s1]
section
variable {c : Cx} {A : Around} {l : Led} {M : Model} {E : Value → Shared → Prop} {s : Shared}
theorem wpAny_noop {f : Nat → PUnit → Sem (ForInStep PUnit)} (h : ∀ i s (Q : ForInStep PUnit → Shared → Prop), Q (.yield ⟨⟩) s → wpAny M A (f i ⟨⟩) Q E s) : ∀ (L : List Nat) (s : Shared) (Q : PUnit → Shared → Prop), Q ⟨⟩ s → wpAny M A (forIn L ⟨⟩ f) Q E s
 | [], s, Q, q => by
  rw [List.forIn_nil]; exact wpAny_pure q
 | i :: L, s, Q, q => by
  rw [List.forIn_cons]
  refine wpAny_bind (h i s _ ?_)
  exact wpAny_noop h L s Q q
theorem wpAny_drive {m : Sre.M} {Q : Sre.M → Shared → Prop} (h : (m.runFor 4).outcome = some .failed) (q : Q (m.runFor 4) s) : wpAny M A (Builtin.Re.reDrive (2 ^ 64) m) Q E s := by
 have e : Builtin.Re.reDrive (2 ^ 64) m = Pure.pure (m.runFor 4) := by
  rw [show (2 ^ 64 : Nat) = 18446744073709551615 + 1 from rfl]
  unfold Builtin.Re.reDrive
  dsimp only
  rw [show m.runFor Builtin.Re.reTurnSteps = m.runFor 4 from rfl, h]
  rfl
 rw [e]; exact wpAny_pure q
theorem wpAny_toEnd {m : Sre.M} {Q : Option Sre.M → Shared → Prop} (h : (m.runFor 4).outcome = some .failed) (q : Q none s) : wpAny M A (Builtin.Re.reRunToEnd m) Q E s := by
 unfold Builtin.Re.reRunToEnd
 refine wpAny_bind (wpAny_drive h ?_)
 refine wpAny_bind (wpAny_noop (fun i s Q q => ?_) _ _ _ ?_)
 ·split
  ·exact wpAny_bind (wpAny_rule (wpAny_pure q))
  ·exact wpAny_pure q
 ·rw [h]; exact wpAny_pure q
theorem wpAny_rpSearch {prog : Program} {w : World} {p pt : Addr} {v0 v3 v4 : Value} {items : Array Value} {n : Nat} {x : Str} {t t1 t2 t6 : Tok} {f : Int} {Q : Value → Shared → Prop}
  (hp : s.heap.get? p = some { cls := .type "re.Pattern", data := .fields #[v0, .int f t1, .int 0 t2, v3, v4, .ref pt, .int 0 t6] }) (ht : s.heap.get? pt = some { cls := .type "tuple", data := .seq items n })
  {code : Array Nat} (hc : (items.map Builtin.Re.reRawOf).map (·.toNat) = code) (hm : ∃ m : Sre.M, Sre.M.runFor 4 (Sre.forSearch code x.cps 0 0 x.cps.size false) = m ∧ m.outcome = some .failed) (hsz : x.cps.size < 2 ^ 63 - 1) (q : Q .none s) :
  wpAny (model prog w) A (call (.builtin "re.Pattern.search") [.ref p, .str x t]) Q E s := by
 refine wpAny_call_entry slot_rp_search ⟨_, hp, rfl⟩ entry_rp_search ?_ (args_rp_search _ _)
 unfold Builtin.«re.Pattern.search»
 refine wpAny_bind ?_
 unfold Builtin.Re.reTarget
 dsimp only
 have e1 : Builtin.Re.reNamed "re.Pattern.search" "search" ["string", "pos", "endpos"] 1 [.str x t] [] = Pure.pure [some (.str x t), none, none] := by rfl
 rw [e1]
 refine wpAny_bind (wpAny_pure ?_)
 dsimp only
 refine wpAny_bind (wpAny_pure ?_)
 refine wpAny_bind (wpAny_pure ?_)
 refine wpAny_bind (wpAny_fieldsOf hp rfl ?_)
 have e2 : Builtin.Re.reTextOf (.str x t) = Pure.pure (x.cps, 0) := rfl
 rw [e2]
 refine wpAny_bind (wpAny_pure ?_)
 dsimp only
 have c0 : Builtin.Re.reRawNat (#[v0, Value.int f t1, Value.int 0 t2, v3, v4, Value.ref pt, Value.int 0 t6].getD 6 Value.none) = 0 := rfl
 rw [c0, if_neg (by decide), if_neg (by decide)]
 have e3 : Builtin.Re.reNoCollectionInside (.str x t) 0 = Pure.pure () := rfl
 rw [e3]
 refine wpAny_bind (wpAny_pure ?_)
 refine wpAny_bind ?_
 unfold Builtin.Re.reRawItems
 refine wpAny_bind (wpAny_seqItems ht rfl (wpAny_pure (wpAny_pure ?_)))
 unfold Builtin.Re.reAnswer
 dsimp only
 refine X1 ?_ (hm)
 intro m
 refine A2 ?_
 intro e hm
 refine wpAny_bind (wpAny_toEnd ?_ ?_)
 ·have h0 : min (0 : Int).toNat x.cps.size = 0 := by simp
  have h1 : min ((2 : Int) ^ 63 - 1).toNat x.cps.size = x.cps.size := by
   have : ((2 : Int) ^ 63 - 1).toNat = 2 ^ 63 - 1 := by decide
   rw [this]; (clear this h0 e e3 c0 e2 e1 hc hp; omega)
  rw [h0, h1]
  have : (Builtin.Re.reRawNat (#[v0, Value.int f t1, Value.int 0 t2, v3, v4, Value.ref pt, Value.int 0 t6].getD 2 Value.none)) = 0 := rfl
  rw [this]
  rw [← hc] at e
  show (Sre.M.runFor 4 (Sre.forSearch ((items.map Builtin.Re.reRawOf).map (·.toNat)) x.cps 0 0 x.cps.size false)).outcome = _
  rw [e, hm]
 ·exact wpAny_pure ⟨_, rfl, q⟩
end
noncomputable def codeN : Array Nat := #[14, 10, 4, 1, 1, 22, 0, 31, 16, 127, 0, 13, 7, 22, 0, 31, 16, 127, 0, 1]
noncomputable def codeV : Array Nat := #[14, 14, 4, 1, 1, 9, 4294966783, 0, 0, 2147483648, 0, 0, 0, 0, 0, 13, 11, 9, 4294966783, 0, 0, 2147483648, 0, 0, 0, 0, 0, 1]
noncomputable def Calm' (x : Str) : Prop := ∀ i, i < x.cps.size → 32 ≤ x.cps.getD i 0 ∧ x.cps.getD i 0 < 127
theorem setN {ch : Nat} (h1 : 32 ≤ ch) (h2 : ch < 127) (seen : Sre.Seen) : ∃ seen', Sre.inSet codeN ch codeN.size 5 true seen = .ok (false, seen') := by
 have e : codeN.size = 20 := rfl
 rw [e]
 unfold Sre.inSet
 have w : (22 : Nat) = 22 := rfl
 show ∃ seen', (if (0 ≤ ch && ch ≤ 31) = true then _ else _) = _
 rw [if_neg (by simp; (clear w e h2; omega))]
 unfold Sre.inSet
 show ∃ seen', (if (ch == 127) = true then _ else _) = _
 rw [if_neg (by simp; (clear w e h1; omega))]
 exact ⟨_, rfl⟩
theorem setV {ch : Nat} (h1 : 32 ≤ ch) (h2 : ch < 127) (seen : Sre.Seen) : ∃ seen', Sre.inSet codeV ch codeV.size 5 true seen = .ok (false, seen') := by
 have e : codeV.size = 28 := rfl
 rw [e]
 unfold Sre.inSet
 show ∃ seen', (if (ch < 256 && (codeV.getD (5 + (1 + ch / 32)) 0).testBit (ch % 32)) = true then _ else _) = _
 have hb : (codeV.getD (5 + (1 + ch / 32)) 0).testBit (ch % 32) = false := by
  have : ∀ ch, ch < 127 → 32 ≤ ch → (codeV.getD (5 + (1 + ch / 32)) 0).testBit (ch % 32) = false := by decide
  exact this ch h2 h1
 rw [hb, Bool.and_false]
 exact ⟨_, rfl⟩
theorem searchN {x : Str} (h : Calm' x) : ∃ m : Sre.M, Sre.M.runFor 4 (Sre.forSearch codeN x.cps 0 0 x.cps.size false) = m ∧ m.outcome = some .failed :=
 search_none rfl rfl fun p seen hp => setN (h p hp).1 (h p hp).2 seen
theorem searchV {x : Str} (h : Calm' x) : ∃ m : Sre.M, Sre.M.runFor 4 (Sre.forSearch codeV x.cps 0 0 x.cps.size false) = m ∧ m.outcome = some .failed :=
 search_none rfl rfl fun p seen hp => setV (h p hp).1 (h p hp).2 seen
structure Rg (a b s : Int) (o : Obj) : Prop where
 ex : ∃ t u v, o = { cls := .type "range", data := .fields #[.int a t, .int b u, .int s v] }
section
variable {c : Cx} {K : Frag} {A : Around} {l l' : Led} {t u v : Tok} {env : Env}
theorem W.range1 {n : Int} {Q : Value → Led → Prop} (q : ∀ r, Q (.ref r) ((r, Rg 0 n 1) :: l)) : W c A (call (.type "range") [.int n t]) l Q := fun R h tk S =>
 call_range_1 ⟨_, _, _, rfl, S.push (P := Rg 0 n 1) { cls := .type "range", data := .fields #[.int 0 tk, .int n t, .int 1 (tk + 1)] } ⟨tk, t, tk + 1, rfl⟩, q _⟩
theorem W.range3 {a b s : Int} {Q : Value → Led → Prop} (hs : s ≠ 0) (hs2 : s.natAbs < 1073741824) (q : ∀ r, Q (.ref r) ((r, Rg a b s) :: l)) : W c A (call (.type "range") [.int a t, .int b u, .int s v]) l Q := fun R h tk S =>
 call_range_3 hs ⟨_, _, _, rfl, S.push (P := Rg a b s) { cls := .type "range", data := .fields #[.int a t, .int b u, .int s v] } ⟨t, u, v, rfl⟩, q _⟩ (.inl (PyProof.noPylong_small hs2))
theorem Itr.rg {r : Addr} {a b s : Int} {n : Nat} (m : (r, Rg a b s) ∈ l) (hsm : Builtin.Range.small a b s = true) (hn : Builtin.Range.rangeSize a b s = n) : Itr c (.ref r) l n (fun i v => ∃ t, v = .int (a + i * s) t) [] := by
 refine ⟨fun {A Q} hh k R h tk S => ?_⟩
 obtain ⟨o, e, t, u, v, rfl⟩ := S.cell (List.mem_append_left R m)
 refine wpAny_pyIter_range e hsm ?_
 rw [hn]
 refine ⟨_, tk, _, rfl, S.push (P := fun o => o = { cls := .type "range_iterator", data := .fields #[rawInt (a + (0 : Nat) * s), rawInt ((n : Int) - (0 : Nat)), rawInt s] }) _ (by simp), k _ (fun i o => o = { cls := .type "range_iterator", data := .fields #[rawInt (a + (i : Nat) * s), rawInt ((n : Int) - (i : Nat)), rawInt s] }) (Iter.of_walks (fun A hA => ?_) ?_)⟩
 ·have W := Walks.range (prog := c.prog) (w := c.w) hA h.objs.size a s n
  have e : (fun i (h' : Heap) => ∃ o, h'.get? h.objs.size = some o ∧ o = { cls := .type "range_iterator", data := .fields #[rawInt (a + (i : Nat) * s), rawInt ((n : Int) - (i : Nat)), rawInt s] }) = (fun i h' => IsRangeIter h' h.objs.size (a + (i : Nat) * s) ((n : Int) - (i : Nat)) s) := by
   funext i h'
   simp only [exists_eq_right]
  rw [e]; exact W
 ·intro A i l' Q' hq R' h' tk' S'
  refine X1 ?_ (S'.cell (List.mem_append_left R' (.head _)))
  intro oi
  refine A2 ?_
  intro ei pi
  subst pi
  exact wpAny_pyIter_rangeiter ei ⟨h', tk', _, rfl, S', hq⟩
theorem rg1 (n : Nat) (h : n < 2 ^ 40) : Builtin.Range.small 0 n 1 = true ∧ Builtin.Range.rangeSize 0 n 1 = n := by
 refine ⟨small_one (by decide) (by decide) (by (clear h; omega)) (by omega), ?_⟩
 rw [rangeSize_one]
 split <;> (clear h; omega)
noncomputable abbrev intsL (xs : List (Int × Tok)) : List Value := xs.map fun p => .int p.1 p.2
theorem W.sum {a : Addr} {xs : List (Int × Tok)} {Q : Value → Led → Prop} (hh : A.handled = none) (m : (a, Ls (intsL xs)) ∈ l) (q : ∀ t, Q (.int (xs.map (·.1)).sum t) l) : W c A (call (.builtin "sum") [.ref a]) l Q := fun R h tk S => by
 refine X1 ?_ (S.cell (List.mem_append_left R m))
 intro o
 refine A2 ?_
 intro e p
 have hl := Ls.is e p
 have e1 : (intsL xs).toArray = intItems xs.toArray := by simp [intItems, intsL]
 rw [e1] at hl
 refine sum_intListG hh hl fun h' tk' t' hk => ?_
 refine ⟨h', tk', l, rfl, S.keep hk, ?_⟩
 rw [preSum_eq, List.take_of_length_le (by simp)]
 exact q t'
theorem W.max {a : Addr} {xs : List (Int × Tok)} {Q : Value → Led → Prop} (hh : A.handled = none) (m : (a, Ls (intsL xs)) ∈ l) (hne : 0 < xs.length) (q : ∀ M t, M ∈ xs.map (·.1) → (∀ a ∈ xs.map (·.1), a ≤ M) → Q (.int M t) l) : W c A (call (.builtin "max") [.ref a]) l Q := fun R h tk S => by
 refine X1 ?_ (S.cell (List.mem_append_left R m))
 intro o
 refine A2 ?_
 intro e p
 have hl := Ls.is e p
 have e1 : (intsL xs).toArray = intItems xs.toArray := by simp [intItems, intsL]
 rw [e1] at hl
 refine max_intList hh hl (by simpa using hne) fun v h' tk' hv hk => ?_
 obtain ⟨t, rfl⟩ := intItems_at hv
 obtain ⟨h1, h2⟩ := argBest_gt (numAt xs.toArray) (xs.toArray.size - 1)
 have hget : ∀ j, numAt xs.toArray j = (xs.map (·.1)).getD j 0 := fun j => by rw [numAt_eq]
 refine ⟨h', tk', l, rfl, S.keep hk, q _ t ?_ fun a ha => ?_⟩
 ·rw [hget]
  have hj : argBest (fun i j => decide (numAt xs.toArray i > numAt xs.toArray j)) (xs.toArray.size - 1) < (xs.map (·.1)).length := by
   simp at h1 ⊢; (clear hv e1; omega)
  rw [List.getD_eq_getElem?_getD, List.getElem?_eq_getElem hj]
  exact List.getElem_mem _
 ·obtain ⟨j, hj, e⟩ := List.getElem_of_mem ha
  have := h2 j (by simp at hj ⊢; (clear e h1 hv e1 hne; omega))
  rw [hget j, List.getD_eq_getElem?_getD, List.getElem?_eq_getElem hj, e] at this
  exact this
theorem W.pow {a n : Int} {Q : Value → Led → Prop} (hn : 0 ≤ n) (hn2 : n ≤ 1000000) (ha : a.natAbs < 2 ^ 64) (q : ∀ t, Q (.int (a ^ n.toNat) t) l) : W c A (binaryOp .Pow (.int a t) (.int n u)) l Q := fun R h tk S =>
 pow_int_small hn hn2 ha ⟨h, tk + 1, l, rfl, S, q tk⟩
theorem W.sign {x : Str} {k : Nat} {ch : Nat} {Q : Value → Led → Prop} (hk : x.cps[k]? = some ch) (hsz : x.length ≤ 1000000) (q : ∀ t, Q (.str ⟨#[ch]⟩ t) l) : W c A (getItem (.str x t) (.int (k : Nat) u)) l Q := fun R h tk S => by
 have hlt := (Array.getElem?_eq_some_iff.mp hk).1
 have hlt' : k < x.length := hlt
 refine P.getItem_str (c := ch) ?_ ?_ ⟨h, tk + 1, l, rfl, S, q tk⟩
 ·simp; (clear hlt hk; omega)
 ·have e : seqIndex? (k : Int) x.length = some k := by
   have h0 : ¬ ((k : Int) < 0) := by (clear hlt' hlt hsz hk; omega)
   unfold seqIndex?
   simp only [h0, if_false]
   rw [if_pos (by simp; (clear h0 hlt hsz hk; omega))]
   rfl
  rw [e]; exact hk
theorem W.known {α : Type} {m : Sem α} {a : α} {Q : α → Led → Prop} (h : W c A m l (fun b l1 => b = a ∧ l1 = l)) (q : Q a l) : W c A m l Q := h.mono (by rintro _ _ ⟨rfl, rfl⟩; exact q)
end
section
variable {c : Cx} {A : Around} {l : Led} {env : Env}
noncomputable def CL (c : Cx) (A : Around) (code : Code) (l : Led) (Q : Flow → Led → Prop) : Prop :=
 ∀ (R : Led) (h : Heap) (tk : Tok), St c.B h (l ++ R) → codeAny (model c.prog c.w) A code (fun r s' => match r with | .ok f => Fn c R Q f s' | .error _ => False) ⟨h, c.g, c.d, tk, c.os⟩
theorem CL.loop {elt : Expr} {gens : List Comprehension} {scope : Scope} {pos : Pos} {k : Nat} {it acc : Value} {cenv : Env} {Q : Flow → Led → Prop} (J : Nat → Led → Prop) (n : Nat) (h0 : J n l)
  (turn : ∀ n l, J n l → W c A (compTurn (.ListComp elt gens scope pos) k it acc cenv) l (fun fin l' => match fin with | .done f => Q f l' | .again c' => c' = .compLoop (.ListComp elt gens scope pos) k it acc cenv ∧ ∃ m, m < n ∧ J m l')) :
  CL c A (.compLoop (.ListComp elt gens scope pos) k it acc cenv) l Q := fun R h tk S => by
 refine codeAny_loop rfl (fun n s => ∃ h tk l, s = ⟨h, c.g, c.d, tk, c.os⟩ ∧ St c.B h (l ++ R) ∧ J n l) ?_ n ⟨h, tk, l, rfl, S, h0⟩
 intro n s
 refine X3 ?_
 intro h1 tk1 l1
 refine A3 ?_
 intro zz1 S1 j
 subst zz1
 show wpAny _ A ((compTurn (.ListComp elt gens scope pos) k it acc cenv).onRaise (fun x => do noteFrame x cenv; theTreesLotGoes x)) _ _ _
 refine wpAny_noted ?_
 refine (turn n l1 j).run S1 ?_
 intro fin s
 refine X3 ?_
 intro h2 tk2 l2
 refine A3 ?_
 intro e S2 q
 subst e
 cases fin with
 | done f => exact ⟨h2, tk2, l2, rfl, S2, q⟩
 | again c' => exact ⟨q.1, q.2.elim fun m hm => ⟨m, hm.1, h2, tk2, l2, rfl, S2, hm.2⟩⟩
theorem CL.start1 {elt : Expr} {g1 : Comprehension} {target iter : Expr} {ifs : List Expr} {scope : Scope} {pos : Pos} {it acc : Value} {cenv : Env} {Q : Flow → Led → Prop}
  (h0 : CL c A (.compLoop (.ListComp elt [g1, ⟨target, iter, ifs, 0⟩] scope pos) 1 it acc cenv) l Q)
  (h : W c A (pyIter it) l (fun it' l' => CL c A (.compLoop (.ListComp elt [g1, ⟨target, iter, ifs, 0⟩] scope pos) 1 it' acc cenv) l' Q)) :
  CL c A (.compStart (.ListComp elt [g1, ⟨target, iter, ifs, 0⟩] scope pos) 1 it acc cenv) l Q := fun R hp tk S => by
 refine codeAny_of_tree ?_
 show wpAny _ _ ((compStart (.ListComp elt [g1, ⟨target, iter, ifs, 0⟩] scope pos) 1 it acc cenv).onRaise (fun x => do noteFrame x cenv; PySem.standAt theWindowsPlace)) _ _ _
 refine wpAny_notedAt ?_
 unfold compStart
 show wpAny _ _ (ask >>= _) _ _ _
 refine wpAny_bind (wpAny_askSetting (wpAny_ite ?_))
 split
 ·first
   | exact wpAny_bind (wpAny_pure (wpAny_pure (And.intro rfl (h0 R hp tk S))))
   | exact wpAny_pure (And.intro rfl (h0 R hp tk S))
 ·refine wpAny_bind (wpAny_rule ?_)
  have fin : wpAny (model c.prog c.w) A (PySem.standAt iter.pos >>= fun _ => pyIter it >>= fun it' => again (.compLoop (.ListComp elt [g1, ⟨target, iter, ifs, 0⟩] scope pos) 1 it' acc cenv))
    (fun fin s' => match fin with | .done f => Fn c R Q f s' | .again c' => c'.quiet = true ∧ codeAny (model c.prog c.w) A c' (fun r s' => match r with | .ok f => Fn c R Q f s' | .error _ => False) s') (notedBy (model c.prog c.w) A cenv fun x s' => False) ⟨hp, c.g, c.d, tk, c.os⟩ :=
   wpAny_bind (wpAny_standAt (wpAny_bind (h.run S fun it' s ⟨h2, tk2, l2, e, S2, q⟩ => by
    subst e
    exact wpAny_pure ⟨rfl, q R h2 tk2 S2⟩)))
  exact wpAny_mono fin (fun fin s' z => by cases fin <;> exact z) (fun _ _ z => z)
theorem CL.own {code : Code} {Q : Flow → Led → Prop} (h : CL c A code l Q) : W c A (runOwn code env) l Q := fun R hp tk S =>
 wpAny_runOwn (codeAny_mono (h R hp tk S) fun r s' z => by
  cases r with
  | ok f => exact z
  | error e => exact z.elim)
theorem turn0 (elt i1 i2 : Expr) (x y : Str) (px py : Pos) (scope : Scope) (pos : Pos) (it acc : Value) (cenv : Env) :
  compTurn (.ListComp elt [⟨.Name x px, i1, [], 0⟩, ⟨.Name y py, i2, [], 0⟩] scope pos) 0 it acc cenv = (PySem.standAt i1.pos >>= fun _ => pyNext it >>= fun r => match r with
   | none => Pure.pure (.done .next)
   | some v => PySem.assign (.Name x px) cenv v >>= fun _ =>
    eval i2 cenv >>= fun xv => PySem.standAt i2.pos >>= fun _ => foldedSetIterable i2 cenv xv >>= fun xv =>
     PySem.holding [xv] (pyIter xv) >>= fun it2 => runOwn (.compStart (.ListComp elt [⟨.Name x px, i1, [], 0⟩, ⟨.Name y py, i2, [], 0⟩] scope pos) 1 it2 acc cenv) cenv >>= fun _ =>
    again (.compLoop (.ListComp elt [⟨.Name x px, i1, [], 0⟩, ⟨.Name y py, i2, [], 0⟩] scope pos) 0 it acc cenv)) := by rfl
theorem turn1 (elt i1 i2 : Expr) (x y : Str) (px py : Pos) (scope : Scope) (pos : Pos) (it acc : Value) (cenv : Env) :
  compTurn (.ListComp elt [⟨.Name x px, i1, [], 0⟩, ⟨.Name y py, i2, [], 0⟩] scope pos) 1 it acc cenv = (PySem.standAt i2.pos >>= fun _ => pyNext it >>= fun r => match r with
   | none => Pure.pure (.done .next)
   | some v => PySem.assign (.Name y py) cenv v >>= fun _ =>
    (eval elt cenv >>= fun x => call (.builtin "list.append") [acc, x] >>= fun _ => Pure.pure ()) >>= fun _ =>
     again (.compLoop (.ListComp elt [⟨.Name x px, i1, [], 0⟩, ⟨.Name y py, i2, [], 0⟩] scope pos) 1 it acc cenv)) := by rfl
theorem perm_rot2 (x y z : Addr × Pr) (l : Led) : ((x :: l) ++ [y, z]).Perm (x :: z :: y :: l) := by
 refine .cons _ ?_
 exact (List.perm_append_comm (l₁ := l) (l₂ := [y, z])).trans (.swap _ _ _)
theorem perm_rot3 (a x y z : Addr × Pr) (l : Led) : ((x :: l) ++ [a, y, z]).Perm (a :: x :: y :: z :: l) := by
 have h : ((x :: l) ++ [a, y, z]).Perm ([a, y, z] ++ (x :: l)) := List.perm_append_comm
 refine h.trans ?_
 show (a :: y :: z :: x :: l).Perm (a :: x :: y :: z :: l)
 refine .cons _ ?_
 have h2 : ([y, z] ++ x :: l).Perm (x :: ([y, z] ++ l)) := List.perm_middle
 exact h2
end
section
variable {c : Cx} {A : Around} {l : Led} {env : Env}
noncomputable def DoneU (c : Cx) (A : Around) (use : Option (Value → Sem Unit)) (D : Addr) (ys : List Value) (l1 : Led) (Q : Value → Led → Prop) : Prop := match use with
 | none => Q (.ref D) ((D, Ls ys) :: l1)
 | some u => W c A (u (.ref D)) ((D, Ls ys) :: l1) (fun _ l2 => Q .none l2)
theorem post_use {use : Option (Value → Sem Unit)} {D C : Addr} {ys : List Value} {l1 R : Led} {Q : Value → Led → Prop} {ns us} {h : Heap} {tk : Tok} {f : Flow} (d : DoneU c A use D ys l1 Q) (S : St c.B h (((C, NP ns us) :: (D, Ls ys) :: l1) ++ R)) :
  compPost (model c.prog c.w) A (fun _ _ => False) use (Fn c R Q) (.ref D) C (.ok f) ⟨h, c.g, c.d, tk, c.os⟩ := by
 cases use with
 | none =>
  obtain ⟨oC, eC, pC⟩ := S.cell (a := C) (P := NP ns us) (.head _)
  exact ⟨_, pC.ns eC, fun h7 hsb => ⟨h7, tk, (D, Ls ys) :: l1, rfl, S.lost hsb.extBut, d⟩⟩
 | some u =>
  have w : W c A (u (.ref D)) ((C, NP ns us) :: (D, Ls ys) :: l1) (fun _ l' => ∃ l2, l' = (C, NP ns us) :: l2 ∧ Q .none l2) := W.under d (fun v l' q => ⟨l', rfl, q⟩)
  refine w.run S ?_
  intro _ s
  refine X3 ?_
  intro h' tk' l'
  refine A3 ?_
  intro e S'
  refine X1 ?_
  intro l2
  refine A2 ?_
  intro e2 q
  subst e e2
  obtain ⟨oC, eC, pC⟩ := S'.cell (a := C) (P := NP ns us) (.head _)
  exact ⟨_, pC.ns eC, fun h7 hsb => ⟨h7, tk', l2, rfl, S'.lost hsb.extBut, q⟩⟩
theorem W.compG : ∀ {c : Cx} {A : Around} {l : Led} {env : Env} {elt iter : Expr} {x : Str} {px : Pos} {ifs : List Expr} {scope : Scope} {cl : List (Str × Addr)} {pos cpos : Pos} {n : Nat} {P : Nat → Value → Prop} {need : Value → Led} {Q : Value → Led → Prop} (use : Option (Value → Sem Unit)) (J : Value → Nat → List Value → Led → Prop) (hh : A.handled = none) (hclos : closureFor scope env = Pure.pure cl) (hcell : ∀ y ∈ scope.names, y.2 ≠ .cell) (hkind : scope.kind = .function) (hnames : ∀ y ∈ scope.names, y.2 = .local → scope.names.lookup y.1 = some .local) (hx : scope.names.lookup x = some .local) (hsz : n ≤ sizeLine) (h : W c A (eval iter env) l (fun xv l1 => Itr c xv l1 n P (need xv) ∧ J xv 0 [] l1)) (hn : ∀ xv i ys l, J xv i ys l → ∀ p ∈ need xv, p ∈ l) (turn : ∀ xv C i v ys l1, i < n → P i v → J xv i ys l1 → ys.length ≤ i → W c A (tests ifs (compEnvC scope cl C env)) ((C, NP [x] [some v]) :: l1) (fun ok l3 => if ok = true then W c A (eval elt (compEnvC scope cl C env)) l3 (fun y l4 => ∃ l5 u, l4 = (C, NP [x] [u]) :: l5 ∧ J xv (i + 1) (ys ++ [y]) l5) else ∃ l5 u, l3 = (C, NP [x] [u]) :: l5 ∧ J xv (i + 1) ys l5)) (done : ∀ xv D ys l1, J xv n ys l1 → ys.length ≤ n → DoneU c A use D ys l1 Q) (hs : ∀ x, foldedSetIterable iter env x = Pure.pure x := by intro _; rfl), W c A (comprehension (.ListComp elt [⟨.Name x px, iter, ifs, 0⟩] scope pos) scope env cpos (PySem.newList []) false (eval iter env) use) l Q := by
 refine' @E19 _ _ _ _ _ _ _ _ _ _ _ _ _ _ _ _ _ _ _ _ (by walk_at "ne") ?_; generalize (z19 _ _).1 = c; generalize (z19 _ _).2.1 = A; generalize (z19 _ _).2.2.1 = l; generalize (z19 _ _).2.2.2.1 = env; generalize (z19 _ _).2.2.2.2.1 = elt; generalize (z19 _ _).2.2.2.2.2.1 = iter; generalize (z19 _ _).2.2.2.2.2.2.1 = x; generalize (z19 _ _).2.2.2.2.2.2.2.1 = px; generalize (z19 _ _).2.2.2.2.2.2.2.2.1 = ifs; generalize (z19 _ _).2.2.2.2.2.2.2.2.2.1 = scope; generalize (z19 _ _).2.2.2.2.2.2.2.2.2.2.1 = cl; generalize (z19 _ _).2.2.2.2.2.2.2.2.2.2.2.1 = pos; generalize (z19 _ _).2.2.2.2.2.2.2.2.2.2.2.2.1 = cpos; generalize (z19 _ _).2.2.2.2.2.2.2.2.2.2.2.2.2.1 = n; generalize (z19 _ _).2.2.2.2.2.2.2.2.2.2.2.2.2.2.1 = P; generalize (z19 _ _).2.2.2.2.2.2.2.2.2.2.2.2.2.2.2.1 = need; generalize (z19 _ _).2.2.2.2.2.2.2.2.2.2.2.2.2.2.2.2.1 = Q; generalize (z19 _ _).2.2.2.2.2.2.2.2.2.2.2.2.2.2.2.2.2.1 = use; generalize (z19 _ _).2.2.2.2.2.2.2.2.2.2.2.2.2.2.2.2.2.2 = J
 intro hh hclos hcell hkind hnames hx hsz h hn turn done hs
 walk_at "E3"; generalize (z3 _ _).1 = R; generalize (z3 _ _).2.1 = hp; generalize (z3 _ _).2.2 = tk
 intro S
 refine wpAny_comprehension_free (use := use) (cl := cl) rfl hs hclos hkind hnames ?_
 refine h.run S ?_
 walk_at "E2"; generalize (z2 _ _).1 = xv; generalize (z2 _ _).2 = s
 refine X3 ?_
 walk_at "E3"; generalize (z3 _ _).1 = h1; generalize (z3 _ _).2.1 = tk1; generalize (z3 _ _).2.2 = l1
 refine A4 ?_
 intro e S1 hI j0
 subst e
 refine (hI.it (A := A) (Q := fun it l2 => ∃ I It, it = .ref I ∧ Iter c I n P It (need xv) ∧ l2 = (I, It 0) :: l1) hh (fun I It x => ⟨I, It, rfl, x, rfl⟩)).run S1 ?_
 walk_at "E2"; generalize (z2 _ _).1 = it; generalize (z2 _ _).2 = s
 refine X3 ?_
 walk_at "E3"; generalize (z3 _ _).1 = h2; generalize (z3 _ _).2.1 = tk2; generalize (z3 _ _).2.2 = l2
 refine A3 ?_
 intro e S2
 refine X2 ?_
 walk_at "E2"; generalize (z2 _ _).1 = I; generalize (z2 _ _).2 = It
 refine A3 ?_
 intro e1 X e2
 subst e e1 e2
 refine (W.newList (c := c) (A := A) (vs := []) (Q := fun v l3 => ∃ D, v = .ref D ∧ l3 = (D, Ls []) :: (I, It 0) :: l1) (by decide) (fun a => ⟨a, rfl, rfl⟩)).run S2 ?_
 walk_at "E2"; generalize (z2 _ _).1 = acc; generalize (z2 _ _).2 = s
 refine X3 ?_
 walk_at "E3"; generalize (z3 _ _).1 = h3; generalize (z3 _ _).2.1 = tk3; generalize (z3 _ _).2.2 = l3
 refine A3 ?_
 intro e S3
 refine X1 ?_
 walk_at "E1"; generalize z1 _ _ = D
 refine A2 ?_
 intro e1 e2
 subst e e1 e2
 refine wpAny_newFunctionEnv hcell (fun _ hx => nomatch hx) ?_ hkind
 walk_at "E1"; generalize z1 _ _ = h4
 intro hns hsb
 have keep : ∀ b o, h3.get? b = some o → h4.get? b = some o := fun b o e => hsb.extBut b o (Nat.ne_of_lt (Heap.lt_size e)) (Heap.get?_push_of_some _ e)
 obtain ⟨o, es, ep, e, hd, hks, hf⟩ := hns
 have S4 : St c.B h4 (((h3.objs.size, NP [x] [none]) :: (D, Ls []) :: (I, It 0) :: l1) ++ R) :=
  S3.new (Nat.le_refl _) keep e ⟨by simp, rfl, es, ep, hd, hks, fun n => by rw [hf]; show none = _; simp only [posLook]; split <;> rfl⟩
 generalize hC : h3.objs.size = C at S4 e
 clear keep hsb hf
 show codeAny _ _ _ (compPost _ _ _ use (Fn c R Q) (.ref D) C) _
 have main : ∀ h4 tk', St c.B h4 (((C, NP [x] [none]) :: (D, Ls []) :: (I, It 0) :: l1) ++ R) → codeAny (model c.prog c.w) A (.compLoop (.ListComp elt [⟨.Name x px, iter, ifs, 0⟩] scope pos) 0 (.ref I) (.ref D) (compEnvC scope cl C env)) (compPost (model c.prog c.w) A (fun _ _ => False) use (Fn c R Q) (.ref D) C) ⟨h4, c.g, c.d, tk', c.os⟩ := by
  walk_at "E2"; generalize (z2 _ _).1 = h4; generalize (z2 _ _).2 = tk'
  intro S4
  refine codeAny_compLoop_tests (fun k s => ∃ h tk i ys l1 u, s = ⟨h, c.g, c.d, tk, c.os⟩ ∧ St c.B h (((C, NP [x] [u]) :: (D, Ls ys) :: (I, It i) :: l1) ++ R) ∧ J xv i ys l1 ∧ i ≤ n ∧ ys.length ≤ i ∧ k = n + 1 - i) ?_ (n + 1) ⟨h4, tk', 0, [], l1, none, rfl, S4, j0, Nat.zero_le _, Nat.le_refl _, rfl⟩
  walk_at "E2"; generalize (z2 _ _).1 = k; generalize (z2 _ _).2 = s
  refine X6 ?_
  refine' @E6 _ _ _ _ _ _ _ (by walk_at "ne") ?_; generalize (z6 _ _).1 = h5; generalize (z6 _ _).2.1 = tk5; generalize (z6 _ _).2.2.1 = i; generalize (z6 _ _).2.2.2.1 = ys; generalize (z6 _ _).2.2.2.2.1 = l5; generalize (z6 _ _).2.2.2.2.2 = u
  refine A6 ?_
  intro zz1 S5 j5 hi hlen zz2
  subst zz1
  subst zz2
  have S5' : St c.B h5 (((I, It i) :: (C, NP [x] [u]) :: (D, Ls ys) :: l5) ++ R) := S5.perm (by
   refine List.Perm.append_right R ?_
   exact ((List.Perm.swap _ _ _).cons _).trans (List.Perm.swap _ _ _))
  by_cases hlt : i < n
  ·refine (X.next (A := A) (l := (C, NP [x] [u]) :: (D, Ls ys) :: l5) (Q := fun r l4 => ∃ v, r = some v ∧ P i v ∧ l4 = (I, It (i + 1)) :: (C, NP [x] [u]) :: (D, Ls ys) :: l5) hh hlt (fun p hp => .tail _ (.tail _ (hn xv i ys l5 j5 p hp))) fun v pv => ⟨v, rfl, pv, rfl⟩).run S5' ?_
   walk_at "E2"; generalize (z2 _ _).1 = r; generalize (z2 _ _).2 = s
   refine X3 ?_
   walk_at "E3"; generalize (z3 _ _).1 = h6; generalize (z3 _ _).2.1 = tk6; generalize (z3 _ _).2.2 = l6
   refine A3 ?_
   intro e6 S6
   refine X1 ?_
   walk_at "E1"; generalize z1 _ _ = v
   refine A3 ?_
   intro e1 pv e2
   subst e6 e1 e2
   have hst : W c A (storeName (compEnvC scope cl C env) x v) ((I, It (i + 1)) :: (C, NP [x] [u]) :: (D, Ls ys) :: l5) (fun _ l => l = (I, It (i + 1)) :: (C, NP [x] [some v]) :: (D, Ls ys) :: l5) :=
    W.stLocal hkind (lookup_relabel_local hx) (.tail .head) .head rfl
   refine wpAny_assign_Name (hst.run S6 ?_)
   walk_at "E2"; generalize (z2 _ _).1 = zu99; generalize (z2 _ _).2 = s
   refine X3 ?_
   walk_at "E3"; generalize (z3 _ _).1 = h7; generalize (z3 _ _).2.1 = tk7; generalize (z3 _ _).2.2 = l7
   refine A3 ?_
   intro e7 S7 e8
   subst e7 e8
   have S7' : St c.B h7 ((((C, NP [x] [some v]) :: l5) ++ [(D, Ls ys), (I, It (i + 1))]) ++ R) := S7.perm (by
    refine List.Perm.append_right R ?_
    refine (List.Perm.swap _ _ _).trans (.cons _ ?_)
    refine List.Perm.trans ?_ (List.perm_append_comm (l₁ := [(D, Ls ys), (I, It (i + 1))]) (l₂ := l5))
    exact List.Perm.swap _ _ _)
   refine ((turn xv C i v ys l5 hlt pv j5 hlen).frame (R := [(D, Ls ys), (I, It (i + 1))])).run S7' ?_
   walk_at "E2"; generalize (z2 _ _).1 = ok; generalize (z2 _ _).2 = s
   refine X3 ?_
   walk_at "E3"; generalize (z3 _ _).1 = h8; generalize (z3 _ _).2.1 = tk8; generalize (z3 _ _).2.2 = l8
   refine A3 ?_
   intro e8 S8
   refine X1 ?_
   walk_at "E1"; generalize z1 _ _ = l9
   refine A2 ?_
   intro e9 q
   subst e8 e9
   have back : ∀ {hx : Heap} {l10 : Led} {u' : Option Value}, St c.B hx ((((C, NP [x] [u']) :: l10) ++ [(D, Ls ys), (I, It (i + 1))]) ++ R) → St c.B hx (((C, NP [x] [u']) :: (D, Ls ys) :: (I, It (i + 1)) :: l10) ++ R) := fun S => S.perm (by
    refine List.Perm.append_right R (.cons _ ?_)
    exact (List.perm_append_comm (l₁ := [(D, Ls ys), (I, It (i + 1))]) (l₂ := _)).symm)
   cases ok with
   | false =>
    rw [if_neg Bool.false_ne_true] at q ⊢
    refine X2 ?_ (q)
    walk_at "E2"; generalize (z2 _ _).1 = l10; generalize (z2 _ _).2 = u'
    refine A2 ?_
    intro e j
    clear q
    subst e
    exact ⟨n + 1 - (i + 1), by (clear hlt hlen hC hsz; omega), (I6 h8 tk8 (i + 1) ys l10 u' ⟨rfl, back S8, j, hlt, by (clear hlt hi hC hsz; omega), rfl⟩)⟩
   | true =>
    rw [if_pos rfl] at q ⊢
    refine (q.frame (R := [(D, Ls ys), (I, It (i + 1))])).run S8 ?_
    walk_at "E2"; generalize (z2 _ _).1 = y; generalize (z2 _ _).2 = s
    refine X3 ?_
    walk_at "E3"; generalize (z3 _ _).1 = h9; generalize (z3 _ _).2.1 = tk9; generalize (z3 _ _).2.2 = l11
    refine A3 ?_
    intro e9 S9
    refine X1 ?_
    walk_at "E1"; generalize z1 _ _ = l12
    refine A2 ?_
    intro e12
    refine X2 ?_
    walk_at "E2"; generalize (z2 _ _).1 = l10; generalize (z2 _ _).2 = u'
    refine A2 ?_
    intro e j
    subst e9 e12 e
    have hap : W c A (call (.builtin "list.append") [.ref D, y]) ((C, NP [x] [u']) :: (D, Ls ys) :: (I, It (i + 1)) :: l10) (fun _ l => l = (C, NP [x] [u']) :: (D, Ls (ys ++ [y])) :: (I, It (i + 1)) :: l10) :=
     W.append (.tail .head) (by (clear hlt hC; omega)) rfl
    refine hap.run (back S9) ?_
    walk_at "E2"; generalize (z2 _ _).1 = zu135; generalize (z2 _ _).2 = s
    refine X3 ?_
    walk_at "E3"; generalize (z3 _ _).1 = h13; generalize (z3 _ _).2.1 = tk13; generalize (z3 _ _).2.2 = l13
    refine A3 ?_
    intro e13 S13 e14
    subst e13 e14
    exact ⟨n + 1 - (i + 1), by (clear hlt hlen hC hsz; omega), (I6 h13 tk13 (i + 1) (ys ++ [y]) l10 u' ⟨rfl, S13, j, hlt, by simp; (clear hlt hi hC hsz; omega), rfl⟩)⟩
  ·have hin : i = n := by (clear hlen hC hsz; omega)
   subst hin
   refine (X.done (A := A) (l := (C, NP [x] [u]) :: (D, Ls ys) :: l5) (Q := fun r l4 => r = none ∧ l4 = (C, NP [x] [u]) :: (D, Ls ys) :: l5) hh (fun p hp => .tail _ (.tail _ (hn xv i ys l5 j5 p hp))) ⟨rfl, rfl⟩).run S5' ?_
   walk_at "E2"; generalize (z2 _ _).1 = r; generalize (z2 _ _).2 = s
   refine X3 ?_
   walk_at "E3"; generalize (z3 _ _).1 = h6; generalize (z3 _ _).2.1 = tk6; generalize (z3 _ _).2.2 = l6
   refine A4 ?_
   intro e6 S6 e1 e2
   subst e6 e1 e2
   exact post_use (done xv D ys l5 j5 hlen) S6
 refine codeAny_compStart_list (main _ _ S4) ?_
 have S4' : St c.B h4 (((I, It 0) :: (C, NP [x] [none]) :: (D, Ls []) :: l1) ++ R) := S4.perm (by
   refine List.Perm.append_right R ?_
   exact ((List.Perm.swap _ _ _).cons _).trans (List.Perm.swap _ _ _))
 refine (X.self (A := A) (i := 0) (l := (C, NP [x] [none]) :: (D, Ls []) :: l1) (Q := fun v l' => v = .ref I ∧ l' = (I, It 0) :: (C, NP [x] [none]) :: (D, Ls []) :: l1) ⟨rfl, rfl⟩).run S4' ?_
 walk_at "E2"; generalize (z2 _ _).1 = it'; generalize (z2 _ _).2 = s
 refine X3 ?_
 walk_at "E3"; generalize (z3 _ _).1 = h7; generalize (z3 _ _).2.1 = tk7; generalize (z3 _ _).2.2 = l7
 refine A4 ?_
 intro e7 S7 e1 e2
 subst e7 e1 e2
 exact main h7 tk7 (S7.perm (by
   refine List.Perm.append_right R ?_
   exact (List.Perm.swap _ _ _).trans ((List.Perm.swap _ _ _).cons _)))
theorem W.compU (use : Option (Value → Sem Unit)) {elt iter : Expr} {x : Str} {px : Pos} {ifs : List Expr} {scope : Scope} {cl : List (Str × Addr)} {pos cpos : Pos} {n : Nat} {P : Nat → Value → Prop} {need : Led} {Q : Value → Led → Prop} (J : Nat → List Value → Led → Prop) (hh : A.handled = none)
  (hclos : closureFor scope env = Pure.pure cl) (hcell : ∀ y ∈ scope.names, y.2 ≠ .cell) (hkind : scope.kind = .function) (hnames : ∀ y ∈ scope.names, y.2 = .local → scope.names.lookup y.1 = some .local) (hx : scope.names.lookup x = some .local)
  (hsz : n ≤ sizeLine)
  (h : W c A (eval iter env) l (fun xv l1 => Itr c xv l1 n P need ∧ J 0 [] l1)) (hn : ∀ i ys l, J i ys l → ∀ p ∈ need, p ∈ l)
  (turn : ∀ C i v ys l1, i < n → P i v → J i ys l1 → ys.length ≤ i →
   W c A (tests ifs (compEnvC scope cl C env)) ((C, NP [x] [some v]) :: l1) (fun ok l3 => if ok = true then W c A (eval elt (compEnvC scope cl C env)) l3 (fun y l4 => ∃ l5 u, l4 = (C, NP [x] [u]) :: l5 ∧ J (i + 1) (ys ++ [y]) l5)
    else ∃ l5 u, l3 = (C, NP [x] [u]) :: l5 ∧ J (i + 1) ys l5))
  (done : ∀ D ys l1, J n ys l1 → ys.length ≤ n → DoneU c A use D ys l1 Q)
  (hs : ∀ x, foldedSetIterable iter env x = Pure.pure x := by intro _; rfl) :
  W c A (comprehension (.ListComp elt [⟨.Name x px, iter, ifs, 0⟩] scope pos) scope env cpos (PySem.newList []) false (eval iter env) use) l Q :=
 W.compG use (need := fun _ => need) (fun _ => J) hh hclos hcell hkind hnames hx hsz h (fun _ => hn) (fun _ => turn) (fun _ => done) hs
theorem W.comp {elt iter : Expr} {x : Str} {px : Pos} {ifs : List Expr} {scope : Scope} {cl : List (Str × Addr)} {pos : Pos} {n : Nat} {P : Nat → Value → Prop} {need : Led} {Q : Value → Led → Prop} (J : Nat → List Value → Led → Prop) (hh : A.handled = none)
  (hclos : closureFor scope env = Pure.pure cl) (hcell : ∀ y ∈ scope.names, y.2 ≠ .cell) (hkind : scope.kind = .function) (hnames : ∀ y ∈ scope.names, y.2 = .local → scope.names.lookup y.1 = some .local) (hx : scope.names.lookup x = some .local)
  (hsz : n ≤ sizeLine)
  (h : W c A (eval iter env) l (fun xv l1 => Itr c xv l1 n P need ∧ J 0 [] l1)) (hn : ∀ i ys l, J i ys l → ∀ p ∈ need, p ∈ l)
  (turn : ∀ C i v ys l1, i < n → P i v → J i ys l1 → ys.length ≤ i →
   W c A (tests ifs (compEnvC scope cl C env)) ((C, NP [x] [some v]) :: l1) (fun ok l3 => if ok = true then W c A (eval elt (compEnvC scope cl C env)) l3 (fun y l4 => ∃ l5 u, l4 = (C, NP [x] [u]) :: l5 ∧ J (i + 1) (ys ++ [y]) l5)
    else ∃ l5 u, l3 = (C, NP [x] [u]) :: l5 ∧ J (i + 1) ys l5))
  (done : ∀ D ys l1, J n ys l1 → ys.length ≤ n → Q (.ref D) ((D, Ls ys) :: l1))
  (hs : ∀ x, foldedSetIterable iter env x = Pure.pure x := by intro _; rfl) :
  W c A (eval (.ListComp elt [⟨.Name x px, iter, ifs, 0⟩] scope pos) env) l Q := by
 rw [eval_ListComp]
 exact W.compG none (need := fun _ => need) (fun _ => J) hh hclos hcell hkind hnames hx hsz h (fun _ => hn) (fun _ => turn) (fun _ => done) hs
theorem W.compV {elt iter : Expr} {x : Str} {px : Pos} {ifs : List Expr} {scope : Scope} {cl : List (Str × Addr)} {pos : Pos} {n : Nat} {P : Nat → Value → Prop} {need : Value → Led} {Q : Value → Led → Prop} (J : Value → Nat → List Value → Led → Prop) (hh : A.handled = none)
  (hclos : closureFor scope env = Pure.pure cl) (hcell : ∀ y ∈ scope.names, y.2 ≠ .cell) (hkind : scope.kind = .function) (hnames : ∀ y ∈ scope.names, y.2 = .local → scope.names.lookup y.1 = some .local) (hx : scope.names.lookup x = some .local)
  (hsz : n ≤ sizeLine)
  (h : W c A (eval iter env) l (fun xv l1 => Itr c xv l1 n P (need xv) ∧ J xv 0 [] l1)) (hn : ∀ xv i ys l, J xv i ys l → ∀ p ∈ need xv, p ∈ l)
  (turn : ∀ xv C i v ys l1, i < n → P i v → J xv i ys l1 → ys.length ≤ i →
   W c A (tests ifs (compEnvC scope cl C env)) ((C, NP [x] [some v]) :: l1) (fun ok l3 => if ok = true then W c A (eval elt (compEnvC scope cl C env)) l3 (fun y l4 => ∃ l5 u, l4 = (C, NP [x] [u]) :: l5 ∧ J xv (i + 1) (ys ++ [y]) l5)
    else ∃ l5 u, l3 = (C, NP [x] [u]) :: l5 ∧ J xv (i + 1) ys l5))
  (done : ∀ xv D ys l1, J xv n ys l1 → ys.length ≤ n → Q (.ref D) ((D, Ls ys) :: l1))
  (hs : ∀ x, foldedSetIterable iter env x = Pure.pure x := by intro _; rfl) :
  W c A (eval (.ListComp elt [⟨.Name x px, iter, ifs, 0⟩] scope pos) env) l Q := by
 rw [eval_ListComp]
 exact W.compG none (need := need) J hh hclos hcell hkind hnames hx hsz h hn turn done hs
theorem W.comp2U (use : Option (Value → Sem Unit)) {elt i1 i2 : Expr} {x y : Str} {px py : Pos} {scope : Scope} {cl : List (Str × Addr)} {pos cpos : Pos} {n m : Nat} {P P2 : Nat → Value → Prop} {need : Led} {Q : Value → Led → Prop}
  (J0 : Nat → List Value → Led → Prop) (J1 : Nat → Nat → List Value → Led → Prop) (hh : A.handled = none)
  (hclos : closureFor scope env = Pure.pure cl) (hcell : ∀ y ∈ scope.names, y.2 ≠ .cell) (hkind : scope.kind = .function) (hnames : ∀ y ∈ scope.names, y.2 = .local → scope.names.lookup y.1 = some .local)
  (hx : scope.names.lookup x = some .local) (hy : scope.names.lookup y = some .local) (hxy : x ≠ y) (hsz : n * m ≤ 1000000)
  (h : W c A (eval i1 env) l (fun xv l1 => Itr c xv l1 n P need ∧ J0 0 [] l1)) (hn : ∀ i ys l, J0 i ys l → ∀ p ∈ need, p ∈ l)
  (t1 : ∀ C i v u ys l1, i < n → P i v → J0 i ys l1 → W c A (eval i2 (compEnvC scope cl C env)) ((C, NP [x, y] [some v, u]) :: l1) (fun xv l2 => ∃ l3, l2 = (C, NP [x, y] [some v, u]) :: l3 ∧ (∀ l, (∀ p ∈ l3, p ∈ l) → Itr c xv l m P2 []) ∧ J1 i 0 ys l3))
  (t2 : ∀ C i j v w ys l1, i < n → j < m → P i v → P2 j w → J1 i j ys l1 → W c A (eval elt (compEnvC scope cl C env)) ((C, NP [x, y] [some v, some w]) :: l1) (fun val l4 => ∃ l5, l4 = (C, NP [x, y] [some v, some w]) :: l5 ∧ J1 i (j + 1) (ys ++ [val]) l5))
  (t3 : ∀ i ys l, J1 i m ys l → J0 (i + 1) ys l)
  (done : ∀ D ys l1, J0 n ys l1 → ys.length ≤ n * m → DoneU c A use D ys l1 Q)
  (hs : ∀ x, foldedSetIterable i1 env x = Pure.pure x := by intro _; rfl) (hs2 : ∀ C x, foldedSetIterable i2 (compEnvC scope cl C env) x = Pure.pure x := by intro _ _; rfl) :
  W c A (comprehension (.ListComp elt [⟨.Name x px, i1, [], 0⟩, ⟨.Name y py, i2, [], 0⟩] scope pos) scope env cpos (PySem.newList []) false (eval i1 env) use) l Q := fun R hp tk S => by
 refine wpAny_comprehension_free (use := use) (cl := cl) rfl hs hclos hkind hnames ?_
 refine h.run S ?_
 intro xv s
 refine X3 ?_
 intro h1 tk1 l1
 refine A4 ?_
 intro e S1 hI j0
 subst e
 refine (hI.it (A := A) (Q := fun it l2 => ∃ I It, it = .ref I ∧ Iter c I n P It need ∧ l2 = (I, It 0) :: l1) hh (fun I It x => ⟨I, It, rfl, x, rfl⟩)).run S1 ?_
 intro it s
 refine X3 ?_
 intro h2 tk2 l2
 refine A3 ?_
 intro e S2
 refine X2 ?_
 intro I It
 refine A3 ?_
 intro e1 X e2
 subst e e1 e2
 refine (W.newList (c := c) (A := A) (vs := []) (Q := fun v l3 => ∃ D, v = .ref D ∧ l3 = (D, Ls []) :: (I, It 0) :: l1) (by decide) (fun a => ⟨a, rfl, rfl⟩)).run S2 ?_
 intro acc s
 refine X3 ?_
 intro h3 tk3 l3
 refine A3 ?_
 intro e S3
 refine X1 ?_
 intro D
 refine A2 ?_
 intro e1 e2
 subst e e1 e2
 refine wpAny_newFunctionEnv hcell (fun _ hx => nomatch hx) ?_ hkind
 intro h4 hns hsb
 have keep : ∀ b o, h3.get? b = some o → h4.get? b = some o := fun b o e => hsb.extBut b o (Nat.ne_of_lt (Heap.lt_size e)) (Heap.get?_push_of_some _ e)
 obtain ⟨o, es, ep, e, hd, hks, hf⟩ := hns
 have S4 : St c.B h4 (((h3.objs.size, NP [x, y] [none, none]) :: (D, Ls []) :: (I, It 0) :: l1) ++ R) :=
  S3.new (Nat.le_refl _) keep e ⟨by simp [hxy], rfl, es, ep, hd, hks, fun n => by rw [hf]; show none = _; simp only [posLook]; split <;> first | rfl | (split <;> rfl)⟩
 generalize hC : h3.objs.size = C at S4 e
 clear keep hsb hf
 show codeAny _ _ _ (compPost _ _ _ use (Fn c R Q) (.ref D) C) _
 have main : CL c A (.compLoop (.ListComp elt [⟨.Name x px, i1, [], 0⟩, ⟨.Name y py, i2, [], 0⟩] scope pos) 0 (.ref I) (.ref D) (compEnvC scope cl C env)) ((C, NP [x, y] [none, none]) :: (D, Ls []) :: (I, It 0) :: l1)
   (fun _ l => ∃ u w ys l1, l = (C, NP [x, y] [u, w]) :: (D, Ls ys) :: l1 ∧ J0 n ys l1 ∧ ys.length ≤ n * m) := by
  refine CL.loop (fun k l => ∃ i ys l1 u w, l = (C, NP [x, y] [u, w]) :: (D, Ls ys) :: (I, It i) :: l1 ∧ J0 i ys l1 ∧ i ≤ n ∧ ys.length ≤ i * m ∧ k = n + 1 - i) (n + 1) ⟨0, [], l1, none, none, rfl, j0, Nat.zero_le _, by simp, rfl⟩ ?_
  intro k l
  refine X5 ?_
  intro i ys l5 u w
  refine A5 ?_
  intro zz3 j5 hi hlen zz4
  subst zz3
  subst zz4
  rw [turn0]
  refine W.bind (W.standAt (W.bind ?_))
  refine W.perm (l' := (I, It i) :: (C, NP [x, y] [u, w]) :: (D, Ls ys) :: l5) ?_ (((List.Perm.swap _ _ _).cons _).trans (List.Perm.swap _ _ _))
  by_cases hlt : i < n
  ·refine X.next hh hlt (fun p hp => .tail _ (.tail _ (hn i ys l5 j5 p hp))) fun v pv => ?_
   refine W.bind (W.asName (W.stLocal hkind (lookup_relabel_local hx) (.tail .head) .head ?_))
   refine W.bind (W.use (t1 C i v w ys l5 hlt pv j5) (.cons (.tail .head) (Take.suffix [(I, It (i + 1)), (D, Ls ys)] l5)) ?_)
   intro xv l2
   refine X1 ?_
   intro l3
   refine A3 ?_
   intro zz5 hI2 j1
   subst zz5
   refine W.perm (l' := (C, NP [x, y] [some v, w]) :: (D, Ls ys) :: (I, It (i + 1)) :: l3) ?_ (perm_rot2 _ _ _ _)
   refine W.bind (W.standAt (W.bind (W.of_eq (hs2 C xv) (W.pure ?_))))
   refine W.bind (W.holding ((hI2 _ fun p hp => .tail _ (.tail _ (.tail _ hp))).it hh fun I2 It2 X2 => ?_))
   have inner : CL c A (.compLoop (.ListComp elt [⟨.Name x px, i1, [], 0⟩, ⟨.Name y py, i2, [], 0⟩] scope pos) 1 (.ref I2) (.ref D) (compEnvC scope cl C env)) ((I2, It2 0) :: (C, NP [x, y] [some v, w]) :: (D, Ls ys) :: (I, It (i + 1)) :: l3)
     (fun _ l => ∃ w' ys' l3', l = (C, NP [x, y] [some v, w']) :: (D, Ls ys') :: (I, It (i + 1)) :: l3' ∧ J1 i m ys' l3' ∧ ys'.length ≤ i * m + m) := by
    refine CL.loop (fun k l => ∃ j w' ys' l3', l = (I2, It2 j) :: (C, NP [x, y] [some v, w']) :: (D, Ls ys') :: (I, It (i + 1)) :: l3' ∧ J1 i j ys' l3' ∧ j ≤ m ∧ ys'.length ≤ i * m + j ∧ k = m + 1 - j) (m + 1) ⟨0, w, ys, l3, rfl, j1, Nat.zero_le _, by (clear hlt hi hC hsz; omega), rfl⟩ ?_
    intro k l
    refine X4 ?_
    intro j w' ys' l3'
    refine A5 ?_
    intro zz6 jj hj hlen' zz7
    subst zz6
    subst zz7
    rw [turn1]
    refine W.bind (W.standAt (W.bind ?_))
    by_cases hlj : j < m
    ·refine X2.next hh hlj (fun p hp => nomatch hp) fun wv pw => ?_
     refine W.bind (W.asName (W.stLocal hkind (lookup_relabel_local hy) (.tail .head) (.tail .head) ?_))
     refine W.bind (W.bind (W.use (t2 C i j v wv ys' l3' hlt hlj pv pw jj) (.cons (.tail .head) (Take.suffix [(I2, It2 (j + 1)), (D, Ls ys'), (I, It (i + 1))] l3')) ?_))
     intro val l4
     refine X1 ?_
     intro l5'
     refine A2 ?_
     intro zz8 jj'
     subst zz8
     refine W.perm (l' := (I2, It2 (j + 1)) :: (C, NP [x, y] [some v, some wv]) :: (D, Ls ys') :: (I, It (i + 1)) :: l5') ?_ (perm_rot3 _ _ _ _ _)
     have hb : i * m + j ≤ n * m := by
      have h1 : (i + 1) * m ≤ n * m := Nat.mul_le_mul_right m hlt
      rw [Nat.add_mul, Nat.one_mul] at h1
      (clear hlj hlen' hlt hlen hi hC hsz; omega)
     refine W.bind (W.append (.tail (.tail .head)) (by show _ ≤ 16777216; (clear hlj hj hlt hlen hi hC; omega)) (W.pure (W.pure ⟨rfl, m + 1 - (j + 1), by (clear hb hlj hlen' hlt hlen hi hC hsz; omega), j + 1, some wv, ys' ++ [val], l5', rfl, jj', hlj, by simp; (clear hb hlj hj hlt hlen hi hC hsz; omega), rfl⟩)))
    ·have hjm : j = m := by (clear hlen' hlt hlen hi hC hsz; omega)
     subst hjm
     exact X2.done hh (fun p hp => nomatch hp) (W.pure ⟨w', ys', l3', rfl, jj, hlen'⟩)
   refine W.bind ((CL.own (CL.start1 inner (X2.self inner))).mono ?_)
   intro f l6
   refine X3 ?_
   intro w' ys' l3'
   refine A3 ?_
   intro zz9 jj hlen'
   subst zz9
   exact W.pure ⟨rfl, n + 1 - (i + 1), by (clear hlen' hlt hlen hC hsz; omega), i + 1, ys', l3', some v, w', rfl, t3 i ys' l3' jj, hlt, by rw [Nat.add_mul, Nat.one_mul]; exact hlen', rfl⟩
  ·have hin : i = n := by (clear hlen hC hsz; omega)
   subst hin
   exact X.done hh (fun p hp => .tail _ (.tail _ (hn i ys l5 j5 p hp))) (W.pure ⟨u, w, ys, l5, rfl, j5, hlen⟩)
 have post : ∀ r s', (match r with | .ok f => Fn c R (fun _ l => ∃ u w ys l1, l = (C, NP [x, y] [u, w]) :: (D, Ls ys) :: l1 ∧ J0 n ys l1 ∧ ys.length ≤ n * m) f s' | .error _ => False) → compPost (model c.prog c.w) A (fun _ _ => False) use (Fn c R Q) (.ref D) C r s' := by
  intro r s' z
  cases r with
  | error e => exact z.elim
  | ok f =>
   refine X3 ?_ (z)
   intro h6 tk6 l6
   refine A3 ?_
   intro zz10 S6
   refine X4 ?_
   intro u w ys l7
   refine A3 ?_
   intro zz11 j7 hlen
   subst zz10
   subst zz11
   clear z
   exact post_use (done D ys l7 j7 hlen) S6
 refine codeAny_compStart_list (codeAny_mono (main R _ _ S4) post) ?_
 have S4' : St c.B h4 (((I, It 0) :: (C, NP [x, y] [none, none]) :: (D, Ls []) :: l1) ++ R) := S4.perm (by
   refine List.Perm.append_right R ?_
   exact ((List.Perm.swap _ _ _).cons _).trans (List.Perm.swap _ _ _))
 refine (X.self (A := A) (i := 0) (l := (C, NP [x, y] [none, none]) :: (D, Ls []) :: l1) (Q := fun v l' => v = .ref I ∧ l' = (I, It 0) :: (C, NP [x, y] [none, none]) :: (D, Ls []) :: l1) ⟨rfl, rfl⟩).run S4' ?_
 intro it' s
 refine X3 ?_
 intro h7 tk7 l7
 refine A4 ?_
 intro e7 S7 e1 e2
 subst e7 e1 e2
 refine codeAny_mono (main R h7 tk7 (S7.perm (by
   refine List.Perm.append_right R ?_
   exact (List.Perm.swap _ _ _).trans ((List.Perm.swap _ _ _).cons _)))) post
theorem W.setU {x : Str} {pos' pos : Pos} {elt iter : Expr} {target : Expr} {rest : List Comprehension} {ifs : List Expr} {scope : Scope} {lpos : Pos} {Q : Flow → Led → Prop} (hs : swapsWith (.ListComp elt (⟨target, iter, ifs, 0⟩ :: rest) scope lpos) (some (.Name x pos')) pos.line env = Pure.pure true)
  (h : W c A (comprehension (.ListComp elt (⟨target, iter, ifs, 0⟩ :: rest) scope lpos) scope env iter.pos (PySem.newList []) false (eval iter env) (some (PySem.assign (.Name x pos') env))) l (fun _ l1 => Q .next l1)) :
  W c A (exec (.Assign [.Name x pos'] (.ListComp elt (⟨target, iter, ifs, 0⟩ :: rest) scope lpos) pos) env) l Q := by
 rw [exec_Assign_Name_used _ _ _ _ hs]
 exact W.bind (W.standAt (W.bind (W.bind (h.mono fun v l1 q => W.pure (W.pure q)))))
end
theorem pair_uniq {l : Led} {a : Addr} {P P' : Pr} (nd : (l.map (·.1)).Nodup) (m1 : (a, P) ∈ l) (m2 : (a, P') ∈ l) : P = P' := by
 obtain ⟨i, hi, e1⟩ := List.getElem_of_mem m1
 obtain ⟨j, hj, e2⟩ := List.getElem_of_mem m2
 have : i = j := by
  have h3 : (l.map (·.1))[i]'(by simpa using hi) = (l.map (·.1))[j]'(by simpa using hj) := by simp only [List.getElem_map, e1, e2]
  exact (List.getElem_inj nd).mp h3
 subst this
 rw [e1] at e2
 exact (Prod.mk.inj e2).2
theorem Ls.inj {v1 v2 : List Value} (e : Ls v1 = Ls v2) : v1 = v2 := by
 have h : Ls v1 { cls := .type "list", data := .seq v1.toArray 0 } := ⟨0, rfl⟩
 rw [e] at h
 obtain ⟨n, h⟩ := h
 have h2 : Data.seq v1.toArray 0 = Data.seq v2.toArray n := congrArg Obj.data h
 have h3 : v1.toArray = v2.toArray := by injection h2
 exact Array.toList_inj.mpr h3 |> fun x => by simpa using x
theorem ls_uniq {l : Led} {a : Addr} {v1 v2 : List Value} (nd : (l.map (·.1)).Nodup) (m1 : (a, Ls v1) ∈ l) (m2 : (a, Ls v2) ∈ l) : v1 = v2 := Ls.inj (pair_uniq nd m1 m2)
theorem perm_of_mem {l : Led} {x : Addr × Pr} (m : x ∈ l) : ∃ R, l.Perm (x :: R) := by
 refine X2 ?_ (List.append_of_mem m)
 intro s t zz1
 subst zz1
 exact ⟨s ++ t, List.perm_middle⟩
theorem perm_of_mem2 {l : Led} {x y : Addr × Pr} (m : x ∈ l) (m2 : y ∈ l) (hne : y.1 ≠ x.1) : ∃ R, l.Perm (x :: y :: R) := by
 obtain ⟨R, p⟩ := perm_of_mem m
 have : y ∈ R := by
  rcases List.mem_cons.mp (p.mem_iff.mp m2) with e | e
  ·exact absurd (by rw [e]) hne
  ·exact e
 obtain ⟨R', p'⟩ := perm_of_mem this
 exact ⟨R', p.trans (.cons _ p')⟩
theorem Take.prefix : ∀ (t junk : Led), Take (t ++ junk) t junk
 | [], junk => .nil
 | (a, P) :: t, junk => .cons .head (Take.prefix t junk)
theorem Del.app {l l' s : Led} {a : Addr} {P : Pr} (d : Del l a P l') : Del (l ++ s) a P (l' ++ s) := by
 induction d with
 | head => exact .head
 | tail _ ih => exact .tail ih
theorem Take.app {X t R : Led} (s : Led) (k : Take X t R) : Take (X ++ s) (t ++ s) R := by
 induction k with
 | nil => exact Take.suffix _ s
 | cons d _ ih => exact .cons d.app ih
section
variable {c : Cx} {K : Frag} {A : Around} {l : Led} {env : Env} {t u : Tok}
theorem W.closeP {α : Type} {t : Sem α} {Q : α → Led → Prop} (h : W c A t l (fun v l' => ∃ l'' R, l'.Perm (l'' ++ R) ∧ Q v l'')) : W c A t l Q := fun R hp tk S =>
 wpAny_mono (h R hp tk S) (fun _ _ ⟨h', tk', l', e, S', l'', R'', k, q⟩ => ⟨h', tk', l'', e, by
  have S1 : St c.B h' (l'' ++ R ++ R'') := S'.perm ((k.append_right R).trans (by rw [List.append_assoc, List.append_assoc]; exact List.Perm.append_left _ List.perm_append_comm))
  exact S1.left, q⟩) fun _ _ x => x
theorem W.borrow {α : Type} {m : Sem α} {t0 : Led} {P : α → Led → Prop} {Q : α → Led → Prop} (h : W c A m t0 (fun v l' => ∃ new, l' = new ++ t0 ∧ P v new)) (k : ∃ R, l.Perm (t0 ++ R)) (q : ∀ v new, P v new → Q v (new ++ l)) : W c A m l Q := by
 obtain ⟨R, p⟩ := k
 refine W.perm (l' := t0 ++ R) ?_ p
 intro R' hp tk S
 refine wpAny_mono (h.frame (R := R) R' hp tk S) (fun v s' ⟨h', tk', l', e, S', l'', e2, new, e3, pp⟩ => ?_) (fun _ _ z => z)
 subst e2 e3
 refine ⟨h', tk', new ++ l, e, S'.perm ?_, q v new pp⟩
 refine List.Perm.append_right R' ?_
 rw [List.append_assoc]
 exact List.Perm.append_left _ p.symm
theorem ne_nats {pa fa : Addr} {pvs : List Value} {ns : List Nat} {free : List Bool} (nd : (l.map (·.1)).Nodup) (m1 : (pa, Ls pvs) ∈ l) (m2 : (fa, Ls (free.map Value.bool)) ∈ l) (hn : NatsAre pvs ns) (hf : 0 < free.length) : fa ≠ pa := fun e => by
 subst e
 have e2 := ls_uniq nd m1 m2
 have hl : 0 < pvs.length := by rw [e2, List.length_map]; exact hf
 have h1 : 0 < ns.length := by rw [← hn.1]; exact hl
 obtain ⟨t, e3⟩ := hn.2 0 _ (List.getElem?_eq_getElem h1)
 rw [e2, List.getElem?_map, List.getElem?_eq_getElem hf] at e3
 cases e3
noncomputable def nsOf (vs : List Value) : List Nat := vs.map fun v => match v with | .int n _ => n.toNat | _ => 0
theorem NatsAre.ns {vs : List Value} {ns : List Nat} (h : NatsAre vs ns) : nsOf vs = ns := by
 apply List.ext_getElem?
 intro i
 unfold nsOf
 rw [List.getElem?_map]
 cases e : ns[i]? with
 | none =>
  have : vs[i]? = none := by rw [List.getElem?_eq_none_iff] at e ⊢; rw [h.1]; exact e
  rw [this]; rfl
 | some n =>
  obtain ⟨t, e'⟩ := h.2 i n e
  rw [e']; simp
noncomputable def eF (fas : List (Addr × List Value)) (ns : List Nat) : Value → Bool
 | .ref a => fas.any fun e => e.1 == a && nsOf e.2 == ns
 | _ => false
noncomputable def fLed (fas : List (Addr × List Value)) : Led := fas.map fun e => (e.1, Ls e.2)
noncomputable def FIs (fas : List (Addr × List Value)) (found : List (List Nat)) : Prop := fas.length = found.length ∧ ∀ (i : Nat) (ns : List Nat), found[i]? = some ns → ∃ a vs, fas[i]? = some (a, vs) ∧ NatsAre vs ns
theorem FIs.mem {fas found} (h : FIs fas found) {e : Addr × List Value} (m : e ∈ fas) : ∃ ns, ns ∈ found ∧ NatsAre e.2 ns := by
 obtain ⟨i, hi, rfl⟩ := List.getElem_of_mem m
 have hi' : i < found.length := by rw [← h.1]; exact hi
 refine X2 ?_ (h.2 i _ (List.getElem?_eq_getElem hi'))
 intro a vs
 refine A2 ?_
 intro e1 e2
 rw [List.getElem?_eq_getElem hi] at e1
 rw [Option.some.inj e1]
 exact ⟨_, List.getElem_mem hi', e2⟩
theorem FIs.snoc {fas found} (h : FIs fas found) {a : Addr} {vs : List Value} {ns : List Nat} (hn : NatsAre vs ns) : FIs (fas ++ [(a, vs)]) (found ++ [ns]) := by
 refine ⟨by simp [h.1], fun i m hm => ?_⟩
 rcases Nat.lt_or_ge i found.length with hi | hi
 ·rw [List.getElem?_append_left hi] at hm
  rw [List.getElem?_append_left (by rw [h.1]; exact hi)]
  exact h.2 i m hm
 ·rw [List.getElem?_append_right hi] at hm
  rw [List.getElem?_append_right (by rw [h.1]; exact hi), h.1]
  cases hk : i - found.length with
  | zero => rw [hk] at hm; simp at hm; subst hm; exact ⟨a, vs, rfl, hn⟩
  | succ k => rw [hk] at hm; simp at hm
theorem nats_eq {vs ws : List Value} {ns ms : List Nat} (h : NatsAre vs ns) (k : NatsAre ws ms) : (ns == ms) = ((vs.length == ws.length) && (List.range vs.length).all fun j => ((ns.getD j 0 : Nat) : Int) == ((ms.getD j 0 : Nat) : Int)) := by
 rw [h.1, k.1]
 by_cases hl : ns.length = ms.length
 ·rw [show (ns.length == ms.length) = true from beq_iff_eq.mpr hl, Bool.true_and, Bool.eq_iff_iff, beq_iff_eq, List.all_eq_true]
  constructor
  ·rintro rfl j hj
   simp
  ·intro hall
   apply List.ext_getElem hl
   intro i h1 h2
   have := hall i (List.mem_range.mpr h1)
   rw [List.getD_eq_getElem?_getD, List.getD_eq_getElem?_getD, List.getElem?_eq_getElem h1, List.getElem?_eq_getElem h2] at this
   simp at this
   exact Int.ofNat_inj.mp this
 ·rw [show (ns.length == ms.length) = false from beq_eq_false_iff_ne.mpr hl, Bool.false_and, beq_eq_false_iff_ne.mpr fun e => hl (by rw [e])]
theorem eF_at {fas : List (Addr × List Value)} {e : Addr × List Value} {ns : List Nat} (m : e ∈ fas) (hu : ∀ e' ∈ fas, e'.1 = e.1 → e'.2 = e.2) : eF fas ns (.ref e.1) = (nsOf e.2 == ns) := by
 unfold eF
 rw [Bool.eq_iff_iff, List.any_eq_true]
 constructor
 ·refine X1 ?_
  intro e'
  refine A2 ?_
  intro m' h
  simp only [Bool.and_eq_true, beq_iff_eq] at h
  rw [← hu e' m' h.1]; simpa using h.2
 ·intro h
  exact ⟨e, m, by simpa using h⟩
theorem eF_eqs {fas : List (Addr × List Value)} {found : List (List Nat)} {ra : Addr} {rvs : List Value} {ns : List Nat} (hf : FIs fas found) (hl : ∀ e ∈ fas, (e.1, Ls e.2) ∈ l) (hra : (ra, Ls rvs) ∈ l) (hn : NatsAre rvs ns) (nd : (l.map (·.1)).Nodup) :
  ∀ y, y ∈ fas.map (fun e => Value.ref e.1) → Eqs c 1 l y (.ref ra) (eF fas ns y) := by
 intro y hy
 refine X1 ?_ (List.mem_map.mp hy)
 intro e
 refine A2 ?_
 intro he zz2
 subst zz2
 have hu : ∀ e' ∈ fas, e'.1 = e.1 → e'.2 = e.2 := fun e' m' h => ls_uniq nd (h ▸ hl e' m') (hl e he)
 rw [eF_at he hu]
 by_cases hra' : e.1 = ra
 ·have : e.2 = rvs := ls_uniq nd (hra' ▸ hl e he) hra
  rw [this, hn.ns, hra']
  simpa using Eqs.same
 ·refine X1 ?_ (hf.mem he)
  intro ns'
  refine A2 ?_
  intro _ hn'
  refine Eqs.lists hra' (hl e he) hra _ (fun j => ((ns'.getD j 0 : Nat) : Int) == ((ns.getD j 0 : Nat) : Int)) (fun j h1 h2 => ?_) ?_
  ·have h1' : j < ns'.length := by rw [← hn'.1]; exact h1
   have h2' : j < ns.length := by rw [← hn.1]; exact h2
   obtain ⟨t1, e1⟩ := hn'.2 j _ (List.getElem?_eq_getElem h1')
   obtain ⟨t2, e2⟩ := hn.2 j _ (List.getElem?_eq_getElem h2')
   rw [List.getElem?_eq_getElem h1] at e1
   rw [List.getElem?_eq_getElem h2] at e2
   rw [Option.some.inj e1, Option.some.inj e2]
   rw [List.getD_eq_getElem?_getD, List.getD_eq_getElem?_getD, List.getElem?_eq_getElem h1', List.getElem?_eq_getElem h2']
   exact Eqs.int
  ·rw [hn'.ns]
   exact nats_eq hn' hn
theorem eF_any {fas : List (Addr × List Value)} {found : List (List Nat)} {ns : List Nat} (hf : FIs fas found) : (fas.map (fun e => Value.ref e.1)).any (eF fas ns) = found.contains ns := by
 rw [Bool.eq_iff_iff, List.any_map, List.any_eq_true, List.contains_iff_mem]
 constructor
 ·refine X1 ?_
  intro e
  refine A2 ?_
  intro m h
  simp only [Function.comp, eF, List.any_eq_true, Bool.and_eq_true, beq_iff_eq] at h
  refine X1 ?_ (h)
  intro e'
  refine A3 ?_
  intro m' _ h2
  clear h
  refine X1 ?_ (hf.mem m')
  intro ns'
  refine A2 ?_
  intro m2 hn
  rw [hn.ns] at h2
  exact h2 ▸ m2
 ·intro m
  obtain ⟨i, hi, e⟩ := List.getElem_of_mem m
  refine X2 ?_ (hf.2 i ns (by rw [List.getElem?_eq_getElem hi, e]))
  intro a vs
  refine A2 ?_
  intro e1 hn
  refine ⟨(a, vs), List.mem_of_getElem? e1, ?_⟩
  simp only [Function.comp, eF, List.any_eq_true, Bool.and_eq_true, beq_iff_eq]
  exact ⟨(a, vs), List.mem_of_getElem? e1, rfl, hn.ns⟩
end
structure Vw (d : Addr) (o : Obj) : Prop where
 cl : o.cls = .type "dict_values"
 da : o.data = .fields #[.ref d]
structure De (c : Cx) (kvs : List (Str × Value)) (ep : Nat) (o : Obj) : Prop where
 ex : ∃ es, o.ExactDict ∧ o.data = .dict es ep ∧ PySem.KeysOf (PySem.strKind c.prog c.w) es ∧ PySem.Pairs (PySem.strKind c.prog c.w) es.toList kvs ∧ (kvs.map (·.1)).Nodup
section
variable {c : Cx} {K : Frag} {A : Around} {l l' : Led} {env : Env} {t u : Tok}
theorem De.is {h : Heap} {a : Addr} {kvs} {ep : Nat} {o : Obj} (e : h.get? a = some o) (p : De c kvs ep o) : h.DictAt (PySem.strKind c.prog c.w) a kvs ep := let ⟨es, r⟩ := p.ex; ⟨o, es, e, r⟩
theorem De.of {kvs} {ep : Nat} {o : Obj} (p : De c kvs ep o) : Dk c kvs o := let ⟨es, r⟩ := p.ex; ⟨es, ep, r⟩
theorem W.epoch {α : Type} {m : Sem α} {a : Addr} {kvs} {l' : Nat → Led} {Q : α → Led → Prop} (hU : ∀ ep, Up l a (Dk c kvs) (De c kvs ep) (l' ep)) (h : ∀ ep, W c A m (l' ep) Q) : W c A m l Q := fun R hp tk S => by
 refine X1 ?_ (S.cell (List.mem_append_left R (hU 0).mem))
 intro oa
 refine A2 ?_
 intro ea pa
 refine X2 ?_ (pa.ex)
 intro es ep r
 exact h ep R hp tk (S.upd ((hU ep).append R) (Heap.SameBut.refl _ _) ea ⟨es, r⟩)
theorem W.values {a : Addr} {kvs} {ep : Nat} {Q : Value → Led → Prop} (m : (a, De c kvs ep) ∈ l) (q : ∀ v, Q (.ref v) ((v, Vw a) :: l)) : W c A (call (.builtin "dict.values") [.ref a]) l Q := fun R h tk S => by
 refine X1 ?_ (S.cell (List.mem_append_left R m))
 intro oa
 refine A2 ?_
 intro ea pa
 have hs : (a == sysModules) = false := beq_eq_false_iff_ne.mpr (Nat.ne_of_gt (S.hi _ (List.mem_append_left R m)))
 exact call_meetsIn PySem.F.slot_dict_values (Dk.is ea pa.of).typeIs PySem.F.entry_dict_values (PySem.F.args_dict_values_1 _) (meets_dict_values (PySem.strKind c.prog c.w) a hs)
  ⟨⟨kvs, Dk.is ea pa.of⟩, _, _, _, rfl, S.push (P := Vw a) _ ⟨rfl, rfl⟩, q _⟩
theorem Ty.de {a : Addr} {kvs} {ep : Nat} (m : (a, De c kvs ep) ∈ l) : Ty l (.ref a) "dict" := .inr ⟨a, _, rfl, m, fun o p => by obtain ⟨es, ⟨h1, h2, h3⟩, _⟩ := p.ex; exact ⟨h1, h2⟩⟩
theorem Itr.vals {v a : Addr} {kvs : List (Str × Value)} {ep : Nat} (mv : (v, Vw a) ∈ l) (m : (a, De c kvs ep) ∈ l) : Itr c (.ref v) l kvs.length (fun i x => ∃ k, kvs[i]? = some (k, x)) [(a, De c kvs ep)] := by
 refine ⟨fun {A Q} hh k R h tk S => ?_⟩
 refine X1 ?_ (S.cell (List.mem_append_left R mv))
 intro ov
 refine A2 ?_
 intro ev pv
 refine X1 ?_ (S.cell (List.mem_append_left R m))
 intro oa
 refine A2 ?_
 intro ea pa
 refine wpAny_pyIter_values (knd := PySem.strKind c.prog c.w) ⟨ov, ev, pv.1, pv.2⟩ (De.is ea pa) ?_
 refine ⟨_, tk, _, rfl, S.push (P := fun o => o.cls = .type "dict_valueiterator" ∧ o.data = .fields #[.ref a, .int (0 : Nat) 0, .int kvs.length 0, .int ep 0]) _ ⟨rfl, rfl⟩, k _ (fun i o => o.cls = .type "dict_valueiterator" ∧ o.data = .fields #[.ref a, .int (i : Nat) 0, .int kvs.length 0, .int ep 0]) ⟨?_, ?_, ?_⟩⟩
 ·intro A i l' Q' hh hi hn hq R' h' tk' S'
  refine X1 ?_ (S'.cell (List.mem_append_left R' (List.mem_cons_of_mem _ (hn _ (.head _)))))
  intro ol
  refine A2 ?_
  intro el pl
  refine X1 ?_ (S'.cell (List.mem_append_left R' (.head _)))
  intro oi
  refine A2 ?_
  intro ei pi
  refine wpAny_pyNext_values_item (knd := PySem.strKind c.prog c.w) ⟨oi, ei, pi⟩ (De.is el pl) (k := kvs[i].1) (v := kvs[i].2) (by simp [hi]) fun h'' hit hsb => ?_
  obtain ⟨o2, e2, p2⟩ := hit
  exact ⟨h'', tk', _, rfl, S'.upd (Up.append .head R') hsb e2 p2, hq _ ⟨kvs[i].1, by simp [hi]⟩⟩
 ·intro A l' Q' hh hn hq R' h' tk' S'
  refine X1 ?_ (S'.cell (List.mem_append_left R' (List.mem_cons_of_mem _ (hn _ (.head _)))))
  intro ol
  refine A2 ?_
  intro el pl
  refine X1 ?_ (S'.cell (List.mem_append_left R' (.head _)))
  intro oi
  refine A2 ?_
  intro ei pi
  refine wpAny_pyNext_values_end (knd := PySem.strKind c.prog c.w) hh ⟨oi, ei, pi⟩ (De.is el pl) (by simp) fun h'' hx => ?_
  exact ⟨h'', tk', l', rfl, S'.lost hx, hq⟩
 ·intro A i l' Q' hq R' h' tk' S'
  refine X1 ?_ (S'.cell (List.mem_append_left R' (.head _)))
  intro oi
  refine A2 ?_
  intro ei pi
  exact wpAny_pyIter_valiter ⟨oi, ei, pi⟩ ⟨h', tk', _, rfl, S', hq⟩
theorem W.neLs {n : Nat} {a b : Addr} {vs ws : List Value} {e : Bool} {Q : Value → Led → Prop} (r : Room A (n + 1)) (ma : (a, Ls vs) ∈ l) (mb : (b, Ls ws) ∈ l) (es : Nat → Bool)
  (he : ∀ j (h1 : j < vs.length) (h2 : j < ws.length), Eqs c n l vs[j] ws[j] (es j)) (hb : e = !((vs.length == ws.length) && (List.range vs.length).all es)) (q : Q (.bool e) l) : W c A (compareOp .NotEq (.ref a) (.ref b)) l Q := fun R h tk S => by
 refine X1 ?_ (S.cell (List.mem_append_left R ma))
 intro oa
 refine A2 ?_
 intro ea pa
 refine X1 ?_ (S.cell (List.mem_append_left R mb))
 intro ob
 refine A2 ?_
 intro eb pb
 by_cases hl : vs.length = ws.length
 ·have : e = !(List.range vs.toArray.size).all es := by rw [hb]; simp [hl]
  refine SeqAt.RcNeAt.lists (e := es) (Ls.is ea pa) (Ls.is eb pb) (by simpa using hl) r.units (fun j h1 h2 => ?_) _ _ _ _ ⟨h, tk, l, rfl, S, this ▸ q⟩
  have := he j (by simpa using h1) (by simpa using h2) A.in1 r.in1 R h tk S
  simpa using this
 ·have : e = true := by rw [hb, beq_eq_false_iff_ne.mpr hl]; rfl
  exact SeqAt.RcNeAt.lists_lengths (Ls.is ea pa) (Ls.is eb pb) (by simpa using hl) r.units _ _ _ _ ⟨h, tk, l, rfl, S, this ▸ q⟩
theorem Eqs.strs {n : Nat} {x : Str} : Eqs c n l (.str x t) (.str x u) true := by
 have := Eqs.str (c := c) (l := l) (n := n) (x := x) (y := x) (t := t) (u := u)
 rwa [show (x == x) = true by simp] at this
end
theorem Take.skip {x : Addr × Pr} : ∀ {l t R : Led}, Take l t R → Take (x :: l) t (x :: R)
 | _, _, _, .nil => .nil
 | _, _, _, .cons d k => .cons (.tail d) k.skip
theorem Itr.lsN {c : Cx} {l : Led} {a : Addr} {vs : List Value} {n : Nat} (m : (a, Ls vs) ∈ l) (hn : vs.length = n) : Itr c (.ref a) l n (fun i v => vs[i]? = some v) [(a, Ls vs)] := hn ▸ Itr.ls m
theorem perm_row (rc : Addr × Pr) (X Y Z : Led) : (rc :: (X ++ (Y ++ Z))).Perm (X ++ ((Y ++ [rc]) ++ Z)) := by
 refine List.perm_middle.symm.trans (List.Perm.append_left X ?_)
 rw [List.append_assoc]
 exact List.perm_middle.symm
theorem perm_told (A X T : Led) : (A ++ (X ++ T)).Perm ((T ++ A) ++ X) := by
 refine (List.Perm.append_left A List.perm_append_comm).trans ?_
 rw [List.append_assoc]
 exact List.perm_append_comm_assoc A T X
theorem Take.skips : ∀ (A : Led) {l t R : Led}, Take l t R → Take (A ++ l) t (A ++ R)
 | [], _, _, _, k => k
 | _ :: A, _, _, _, k => (Take.skips A k).skip
theorem Take.mid (A T B : Led) : Take (A ++ (T ++ B)) T (A ++ B) := Take.skips A (Take.prefix T B)
theorem Take.self (T : Led) : Take T T [] := Take.suffix [] T
theorem TxtAre.take' {ch : Nat} {vs : List Value} {ws : List Wd} (h : TxtAre ch vs ws) (k : Nat) : TxtAre ch (vs.take k) (ws.take k) := by
 refine ⟨by simp [h.1], fun i n hn => ?_⟩
 rw [List.getElem?_take] at hn ⊢
 split at hn
 ·rename_i hk
  rw [if_pos hk]; exact h.2 i n hn
 ·cases hn
theorem TxtAre.drop' {ch : Nat} {vs : List Value} {ws : List Wd} (h : TxtAre ch vs ws) (k : Nat) : TxtAre ch (vs.drop k) (ws.drop k) := by
 refine ⟨by simp [h.1], fun i n hn => ?_⟩
 rw [List.getElem?_drop] at hn ⊢
 exact h.2 _ n hn
noncomputable def ell3 (got : Wd) (p e : Nat) (ws : List Wd) : Bool := if p > e then false else ellLoop got e ws p
noncomputable def ell2 (got : Wd) (p : Nat) (ws : List Wd) : Bool :=
 if ws.getLastD [] = [] then ell3 got p got.length ws else if (decide ((ws.getLastD []).length ≤ got.length) && got.drop (got.length - (ws.getLastD []).length) == ws.getLastD []) = true then ell3 got p (got.length - (ws.getLastD []).length) ws.dropLast else false
noncomputable def ell1 (got : Wd) (ws : List Wd) : Bool :=
 if ws.headD [] = [] then ell2 got 0 ws else if isPre (ws.headD []) got = true then ell2 got (ws.headD []).length ws.tail else false
theorem ellB_eq (want got : Wd) : ellB want got = if (splitB (want.length + 1) [] want).length ≤ 1 then want == got else ell1 got (splitB (want.length + 1) [] want) := by
 unfold ellB ell1 ell2 ell3
 generalize splitB (want.length + 1) [] want = ws
 by_cases h1 : ws.length ≤ 1
 ·simp [h1]
 ·simp only [h1, if_false]
  by_cases h2 : ws.headD [] = []
  ·rw [if_pos h2, h2]
   simp only [bne_self_eq_false, Bool.false_and, Bool.false_eq_true, if_false]
   by_cases h3 : ws.getLastD [] = []
   ·rw [if_pos h3, h3]; simp
   ·rw [if_neg h3]
    have : (ws.getLastD [] != []) = true := by simpa using h3
    simp only [this, if_true, Bool.true_and]
    cases hq : (decide ((ws.getLastD []).length ≤ got.length) && got.drop (got.length - (ws.getLastD []).length) == ws.getLastD []) <;> simp
  ·rw [if_neg h2]
   have h2' : (ws.headD [] != []) = true := by simpa using h2
   simp only [h2', Bool.true_and, if_true]
   cases hp : isPre (ws.headD []) got
   ·simp
   ·simp only [Bool.not_true, Bool.false_eq_true, if_false, if_true]
    by_cases h3 : ws.tail.getLastD [] = []
    ·rw [if_pos h3, h3]; simp
    ·rw [if_neg h3]
     have : (ws.tail.getLastD [] != []) = true := by simpa using h3
     simp only [this, if_true, Bool.true_and]
     cases hq : (decide ((ws.tail.getLastD []).length ≤ got.length) && got.drop (got.length - (ws.tail.getLastD []).length) == ws.tail.getLastD []) <;> simp
noncomputable abbrev Pt := List (Option Bool)
noncomputable def glob : Pt → Wd → Bool
 | [], w => w.isEmpty
 | some b :: p, w => match w with
  | [] => false
  | a :: w => a == b && glob p w
 | none :: p, w => (List.range (w.length + 1)).any fun k => glob p (w.drop k)
noncomputable def patW : List Wd → Pt
 | [] => []
 | [w] => w.map some
 | w :: ws => w.map some ++ none :: patW ws
noncomputable def tailPat : List Wd → Wd → Pt
 | [], wl => none :: wl.map some
 | w :: ws, wl => none :: (w.map some ++ tailPat ws wl)
theorem glob_lit : ∀ (v : Wd) (p : Pt) (g : Wd), glob (v.map some ++ p) g = (isPre v g && glob p (g.drop v.length))
 | [], p, g => by simp [isPre]
 | b :: v, p, [] => by simp [glob, isPre]
 | b :: v, p, a :: g => by
  simp only [List.map_cons, List.cons_append, glob, isPre, glob_lit v p g, List.length_cons, List.drop_succ_cons, Bool.and_assoc]
  rw [show (a == b) = (b == a) from by cases a <;> cases b <;> rfl]
theorem glob_end : ∀ (v g : Wd), glob (v.map some) g = (v == g)
 | [], g => by cases g <;> rfl
 | b :: v, [] => by simp [glob]
 | b :: v, a :: g => by
  simp only [List.map_cons, glob, glob_end v g]
  cases a <;> cases b <;> simp
theorem glob_star {p : Pt} {g : Wd} : glob (none :: p) g = true ↔ ∃ k, k ≤ g.length ∧ glob p (g.drop k) = true := by
 simp only [glob, List.any_eq_true, List.mem_range]
 exact ⟨fun ⟨k, h, e⟩ => ⟨k, by omega, e⟩, fun ⟨k, h, e⟩ => ⟨k, by omega, e⟩⟩
theorem isPre_len : ∀ {v g : Wd}, isPre v g = true → v.length ≤ g.length
 | [], _, _ => Nat.zero_le _
 | _ :: _, [], h => by simp [isPre] at h
 | b :: v, a :: g, h => by
  simp only [isPre, Bool.and_eq_true] at h
  have := isPre_len h.2
  simp; omega
noncomputable def Mid (g : Wd) (e : Nat) : List Wd → Nat → Prop
 | [], p => p ≤ e
 | w :: ws, p => ∃ q, p ≤ q ∧ q + w.length ≤ e ∧ isPre w (g.drop q) = true ∧ Mid g e ws (q + w.length)
theorem Mid.mono {g : Wd} {e : Nat} : ∀ {ws : List Wd} {p p' : Nat}, p ≤ p' → Mid g e ws p' → Mid g e ws p
 | [], _, _, h, m => Nat.le_trans h m
 | _ :: _, _, _, h, ⟨q, a, b⟩ => ⟨q, Nat.le_trans h a, b⟩
theorem Mid.le {g : Wd} {e : Nat} : ∀ {ws : List Wd} {p : Nat}, Mid g e ws p → p ≤ e
 | [], _, m => m
 | _ :: _, _, ⟨q, a, b, _⟩ => by omega
theorem Mid.nilHead {g : Wd} {e : Nat} {ws : List Wd} {p : Nat} : Mid g e ([] :: ws) p ↔ Mid g e ws p :=
 ⟨fun ⟨q, a, b, c, d⟩ => d.mono (by simpa using a), fun m => ⟨p, Nat.le_refl _, by simpa using m.le, by simp [isPre], by simpa using m⟩⟩
theorem Mid.nilLast {g : Wd} {e : Nat} : ∀ {ws : List Wd} {p : Nat}, Mid g e (ws ++ [[]]) p ↔ Mid g e ws p
 | [], p => Mid.nilHead
 | w :: ws, p => ⟨fun ⟨q, a, b, c, d⟩ => ⟨q, a, b, c, Mid.nilLast.mp d⟩, fun ⟨q, a, b, c, d⟩ => ⟨q, a, b, c, Mid.nilLast.mpr d⟩⟩
theorem findIn_spec (w g : Wd) (e : Nat) : ∀ n k, (∀ q, findIn w g e n k = some q → k ≤ q ∧ q + w.length ≤ e ∧ isPre w (g.drop q) = true ∧ ∀ i, k ≤ i → i < q → isPre w (g.drop i) = false)
  ∧ (findIn w g e n k = none → ∀ i, k ≤ i → i < k + n → i + w.length ≤ e → isPre w (g.drop i) = false)
 | 0, k => ⟨fun q h => by simp [findIn] at h, fun _ i a b => by omega⟩
 | n + 1, k => by
  have ih := findIn_spec w g e n (k + 1)
  unfold findIn
  by_cases h1 : k + w.length ≤ e
  ·rw [if_pos h1]
   cases h2 : isPre w (g.drop k)
   ·simp only [Bool.false_eq_true, if_false]
    refine ⟨fun q h => ?_, fun h i a b c => ?_⟩
    ·refine A4 ?_ (ih.1 q h)
     intro x y z u
     refine ⟨by (clear y h h1 ih; omega), y, z, fun i a b => ?_⟩
     by_cases hk : i = k
     ·rw [hk]; exact h2
     ·exact u i (by (clear b y x h h1 ih; omega)) b
    ·by_cases hk : i = k
     ·rw [hk]; exact h2
     ·exact ih.2 h i (by (clear c b h h1 ih; omega)) (by (clear hk c a h h1 ih; omega)) c
   ·simp only [if_true]
    refine ⟨fun q h => ?_, fun h => (by cases h)⟩
    cases h
    exact ⟨Nat.le_refl _, h1, h2, fun i a b => by (clear h1 ih; omega)⟩
  ·rw [if_neg h1]
   exact ⟨fun q h => (by cases h), fun _ i a b c => by (clear b ih; omega)⟩
theorem ellLoop_mid {g : Wd} {e : Nat} : ∀ {ws : List Wd} {p : Nat}, p ≤ e → (ellLoop g e ws p = true ↔ Mid g e ws p)
 | [], p, h => by simp [ellLoop, Mid, h]
 | w :: ws, p, h => by
  have sp := findIn_spec w g e (e + 1 - p) p
  unfold ellLoop
  cases hf : findIn w g e (e + 1 - p) p with
  | none =>
   refine ⟨fun h => (by cases h), ?_⟩
   rintro ⟨q, a, b, c, d⟩
   have := sp.2 hf q a (by (clear a hf sp h; omega)) b
   rw [c] at this; cases this
  | some q =>
   refine A4 ?_ (sp.1 q hf)
   intro x y z u
   show ellLoop g e ws (q + w.length) = true ↔ _
   rw [ellLoop_mid y]
   refine ⟨fun m => ⟨q, x, y, z, m⟩, fun ⟨q', a, b, c, d⟩ => d.mono ?_⟩
   rcases Nat.lt_or_ge q' q with hl | hl
   ·have := u q' a hl
    rw [c] at this; cases this
   ·(clear b a y x hf sp h; omega)
theorem tail_mid {g wl : Wd} : ∀ {ws : List Wd} {p : Nat}, p ≤ g.length → (glob (tailPat ws wl) (g.drop p) = true ↔ wl.length ≤ g.length ∧ g.drop (g.length - wl.length) = wl ∧ Mid g (g.length - wl.length) ws p)
 | [], p, h => by
  unfold tailPat
  rw [glob_star]
  simp only [glob_end, List.length_drop, List.drop_drop, beq_iff_eq, Mid]
  constructor
  ·refine X1 ?_
   intro k
   refine A2 ?_
   intro hk e
   have hl := congrArg List.length e
   rw [List.length_drop] at hl
   have : g.length - wl.length = p + k := by (clear e; omega)
   rw [this]
   exact ⟨by (clear this e hk h; omega), e.symm, by (clear this hl e hk h; omega)⟩
  ·refine A3 ?_
   intro a b c
   refine ⟨g.length - wl.length - p, by (clear c b a h; omega), ?_⟩
   rw [show p + (g.length - wl.length - p) = g.length - wl.length by (clear b a h; omega)]
   exact b.symm
 | w :: ws, p, h => by
  unfold tailPat
  rw [glob_star]
  simp only [glob_lit, List.length_drop, List.drop_drop, Bool.and_eq_true, Mid]
  constructor
  ·refine X1 ?_
   intro k
   refine A3 ?_
   intro hk h1 h2
   have hl := isPre_len h1
   rw [List.length_drop] at hl
   refine A3 ?_ ((tail_mid (by (clear h2 h1; omega))).mp h2)
   intro a b c
   exact ⟨a, b, p + k, by (clear b a hl h2 h1 hk h; omega), c.le, h1, c⟩
  ·refine A3 ?_
   intro a b
   refine X1 ?_
   intro q
   refine A4 ?_
   intro h1 h2 h3 h4
   refine ⟨q - p, by (clear h1 b a h; omega), ?_⟩
   rw [show p + (q - p) = q by (clear h2 b a h; omega)]
   exact ⟨h3, (tail_mid (by (clear h1 b a h; omega))).mpr ⟨a, b, h4⟩⟩
theorem patW_tail : ∀ (ws : List Wd) (w0 wl : Wd), patW (w0 :: (ws ++ [wl])) = w0.map some ++ tailPat ws wl
 | [], w0, wl => by simp [patW, tailPat]
 | w :: ws, w0, wl => by
  have := patW_tail ws w wl
  simp only [List.cons_append] at this ⊢
  rw [show patW (w0 :: w :: (ws ++ [wl])) = w0.map some ++ none :: patW (w :: (ws ++ [wl])) from rfl, this]
  rfl
theorem ell1_glob (g w0 wl : Wd) (ws : List Wd) : ell1 g (w0 :: (ws ++ [wl])) = glob (patW (w0 :: (ws ++ [wl]))) g := by
 have loop : ∀ (p e : Nat) (vs : List Wd), ell3 g p e vs = true ↔ p ≤ e ∧ Mid g e vs p := by
  intro p e vs
  unfold ell3
  by_cases h : p > e
  ·rw [if_pos h]
   exact ⟨fun h => (by cases h), fun ⟨a, _⟩ => by (clear a; omega)⟩
  ·rw [if_neg h, ellLoop_mid (by omega)]
   exact ⟨fun m => ⟨by omega, m⟩, fun m => m.2⟩
 have two : ∀ (p : Nat) (vs : List Wd), ell2 g p (vs ++ [wl]) = true ↔ wl.length ≤ g.length ∧ g.drop (g.length - wl.length) = wl ∧ Mid g (g.length - wl.length) vs p := by
  intro p vs
  unfold ell2
  rw [show (vs ++ [wl]).getLastD [] = wl by simp, show (vs ++ [wl]).dropLast = vs by simp]
  by_cases h : wl = []
  ·subst h
   rw [if_pos rfl, loop, Mid.nilLast]
   simp only [List.length_nil, Nat.zero_le, Nat.sub_zero, List.drop_length, true_and]
   exact ⟨fun m => m.2, fun m => ⟨m.le, m⟩⟩
  ·rw [if_neg h]
   by_cases h2 : (decide (wl.length ≤ g.length) && g.drop (g.length - wl.length) == wl) = true
   ·rw [if_pos h2, loop]
    simp only [Bool.and_eq_true, decide_eq_true_eq, beq_iff_eq] at h2
    exact ⟨fun m => ⟨h2.1, h2.2, m.2⟩, fun m => ⟨m.2.2.le, m.2.2⟩⟩
   ·rw [if_neg h2]
    refine ⟨fun h => (by cases h), ?_⟩
    refine A3 ?_
    intro a b c
    refine absurd ?_ h2
    simp only [Bool.and_eq_true, decide_eq_true_eq, beq_iff_eq]
    exact ⟨a, b⟩
 rw [Bool.eq_iff_iff, patW_tail, glob_lit, Bool.and_eq_true]
 have e1 : ell1 g (w0 :: (ws ++ [wl])) = if w0 = [] then ell2 g 0 (w0 :: (ws ++ [wl])) else if isPre w0 g = true then ell2 g w0.length (ws ++ [wl]) else false := by
  unfold ell1
  by_cases h : w0 = []
  ·rw [if_pos h, if_pos (show (w0 :: (ws ++ [wl])).headD [] = [] from h)]
  ·rw [if_neg h, if_neg (show ¬ (w0 :: (ws ++ [wl])).headD [] = [] from h)]
   rfl
 rw [e1]
 clear e1
 by_cases h : w0 = []
 ·subst h
  rw [if_pos rfl]
  rw [show ([] :: (ws ++ [wl]) : List Wd) = ([] :: ws) ++ [wl] from rfl, two, Mid.nilHead]
  simp only [isPre, true_and, List.length_nil, List.drop_zero]
  have := tail_mid (g := g) (wl := wl) (ws := ws) (p := 0) (Nat.zero_le _)
  rw [List.drop_zero] at this
  exact this.symm
 ·rw [if_neg h]
  by_cases h2 : isPre w0 g = true
  ·rw [if_pos h2, two, ← tail_mid (isPre_len h2)]
   simp [h2]
  ·rw [if_neg h2]
   simp [h2]
noncomputable def splitOk (want : Wd) : Bool := let ws := splitB (want.length + 1) [] want; decide (2 ≤ ws.length) || patW ws == want.map some
theorem ellB_glob {want : Wd} (h : splitOk want = true) (got : Wd) : ellB want got = glob (patW (splitB (want.length + 1) [] want)) got := by
 rw [ellB_eq]
 unfold splitOk at h
 generalize splitB (want.length + 1) [] want = ws at h ⊢
 by_cases hs : ws.length ≤ 1
 ·rw [if_pos hs]
  have : patW ws = want.map some := by
   simp only [Bool.or_eq_true, decide_eq_true_eq, beq_iff_eq] at h
   rcases h with h | h
   ·omega
   ·exact h
  rw [this, glob_end]
 ·rw [if_neg hs]
  match ws, hs with
  | w0 :: r, hs =>
   have hr : r ≠ [] := by intro e; rw [e] at hs; simp at hs
   rcases List.eq_nil_or_concat r with e | ⟨x, y, e⟩
   ·exact absurd e hr
   ·rw [e, List.concat_eq_append]; exact ell1_glob got w0 y x
  | [], hs => simp at hs
-- a machine for a pattern
noncomputable def stepP : Pt → Bool → List Pt
 | [], _ => []
 | some b :: p, a => if a == b then [p] else []
 | none :: p, a => (none :: p) :: stepP p a
noncomputable def nullP (p : Pt) : Bool := p.all Option.isNone
theorem glob_nil : ∀ (p : Pt), glob p [] = nullP p
 | [] => rfl
 | some b :: p => rfl
 | none :: p => by simp [glob, nullP, glob_nil p, List.range, List.range.loop]
theorem glob_cons : ∀ (p : Pt) (a : Bool) (w : Wd), glob p (a :: w) = (stepP p a).any (fun q => glob q w)
 | [], a, w => rfl
 | some b :: p, a, w => by
  unfold stepP
  show (a == b && glob p w) = _
  cases h : a == b
  ·rw [if_neg Bool.false_ne_true]; rfl
  ·rw [if_pos rfl]; simp
 | none :: p, a, w => by
  rw [Bool.eq_iff_iff]
  unfold stepP
  rw [List.any_cons, Bool.or_eq_true, ← glob_cons p a w, glob_star, glob_star]
  constructor
  ·refine X1 ?_
   intro k
   refine A2 ?_
   intro hk e
   cases k with
   | zero => exact .inr (by simpa using e)
   | succ k => exact .inl ⟨k, by simpa using hk, by simpa using e⟩
  ·rintro (⟨k, hk, e⟩ | e)
   ·exact ⟨k + 1, by simpa using hk, by simpa using e⟩
   ·exact ⟨0, Nat.zero_le _, by simpa using e⟩
noncomputable def subP (S : List Pt) (a : Bool) : List Pt := (S.flatMap fun p => stepP p a).eraseDups
theorem any_eraseDups {f : Pt → Bool} (l : List Pt) : l.eraseDups.any f = l.any f := by
 rw [Bool.eq_iff_iff, List.any_eq_true, List.any_eq_true]
 simp [List.mem_eraseDups]
theorem subP_glob (S : List Pt) (a : Bool) (w : Wd) : (S.any fun p => glob p (a :: w)) = (subP S a).any fun p => glob p w := by
 unfold subP
 rw [any_eraseDups, List.any_flatMap]
 congr 1
 funext p
 exact glob_cons p a w
noncomputable def goM (steps : List Nat) : Nat → Wd → Nat
 | i, [] => i
 | i, b :: w => goM steps (steps.getD (2 * i + b.toNat) 0) w
noncomputable def accM (own : List Bool) (steps : List Nat) (w : Wd) : Bool := own.getD (goM steps 0 w) false
noncomputable def closeC (steps : List Nat) : Nat → List (List Pt × Nat) → List (List Pt × Nat)
 | 0, c => c
 | n + 1, c =>
  let more := c.flatMap fun x => [(subP x.1 false, steps.getD (2 * x.2) 0), (subP x.1 true, steps.getD (2 * x.2 + 1) 0)]
  let new := (more.eraseDups).filter fun x => !c.contains x
  if new.isEmpty then c else closeC steps n (c ++ new)
noncomputable def certOk (own : List Bool) (steps : List Nat) (c : List (List Pt × Nat)) : Bool :=
 c.all fun x => ((x.1.any nullP) == own.getD x.2 false) && c.contains (subP x.1 false, steps.getD (2 * x.2) 0) && c.contains (subP x.1 true, steps.getD (2 * x.2 + 1) 0)
theorem cert_run {own : List Bool} {steps : List Nat} {c : List (List Pt × Nat)} (h : certOk own steps c = true) : ∀ (w : Wd) (S : List Pt) (i : Nat), (S, i) ∈ c → (S.any fun p => glob p w) = own.getD (goM steps i w) false
 | [], S, i, m => by
  have := List.all_eq_true.mp h _ m
  simp only [Bool.and_eq_true, beq_iff_eq] at this
  rw [show goM steps i [] = i from rfl, ← this.1.1]
  congr 1
  funext p
  exact glob_nil p
 | b :: w, S, i, m => by
  have := List.all_eq_true.mp h _ m
  simp only [Bool.and_eq_true, List.contains_iff_mem] at this
  rw [subP_glob]
  cases b
  ·exact cert_run h w _ _ this.1.2
  ·exact cert_run h w _ _ this.2
noncomputable def textOk (want : Wd) (own : List Bool) (steps : List Nat) : Bool :=
 splitOk want && (let c := closeC steps 17 [([patW (splitB (want.length + 1) [] want)], 0)]; c.contains ([patW (splitB (want.length + 1) [] want)], 0) && certOk own steps c)
theorem text_acc {want : Wd} {own : List Bool} {steps : List Nat} (h : textOk want own steps = true) : ellB want = accM own steps := by
 unfold textOk at h
 simp only [Bool.and_eq_true, List.contains_iff_mem] at h
 funext w
 rw [ellB_glob h.1]
 have := cert_run h.2.2 w _ _ h.2.1
 rw [show accM own steps w = _ from this.symm]
 simp
section
variable (f : Wd → Bool)
noncomputable def tabSignF (ends : List Wd) (k : Nat) (st : TS) (sign : Bool) : TS :=
 let word := st.words.getD k [] ++ [sign]
 let row := ends.map fun e => f (word ++ e)
 let (book, told) := setB st.book row word
 let words := if st.words.contains told then st.words else st.words ++ [told]
 ⟨book, words, st.ways ++ [idx words told]⟩
noncomputable def tabTurnF (ends : List Wd) (k : Nat) (st : TS) : TS := tabSignF f ends k (tabSignF f ends k st false) true
noncomputable def tabRunF (ends : List Wd) : Nat → Nat → TS → TS
 | 0, _, st => st
 | n + 1, k, st => if k < st.words.length then tabRunF ends n (k + 1) (tabTurnF f ends k st) else st
noncomputable def tableF (ends : List Wd) : TS :=
 let row := ends.map fun e => f e
 tabRunF f ends 9 0 ⟨[(row, [])], [[]], []⟩
noncomputable def bisF (mixed : List Wd) (answer : Bool) : Nat → Nat → Nat → List Wd → Option (Nat × List Wd)
 | 0, _, _, _ => none
 | n + 1, lo, hi, asked =>
  if lo < hi then do
   let mid := (lo + hi) / 2
   let one ← mixed[mid]?
   if f one == answer then bisF mixed answer n (mid + 1) hi (asked ++ [one])
   else bisF mixed answer n lo mid (asked ++ [one])
  else some (lo, asked)
noncomputable def turnW (own : List Bool) (steps : List Nat) (t : TS) (wrong : Wd) : Option Wd := do
 let answer := f wrong
 let we ← wayEnd wrong steps
 let ow ← own[we]?
 if answer != ow then none else do
 let road ← way wrong t.ways
 let mixed ← (List.range (wrong.length + 1)).mapM fun k => do
  let r ← road[k]?
  let x ← t.words[r]?
  pure (x ++ wrong.drop k)
 let last := wrong.length - 1
 let (place, asked) ← bisF f mixed answer 20 1 (mixed.length - 2) []
 let two ← ((mixed.take (place + 1)).drop (place - 1)).mapM fun one => do
  let e ← wayEnd one steps
  let o ← own[e]?
  pure (o != answer)
 if two != [false, true] then none
 else if asked.any (fun one => !((mixed.take last).drop 1).contains one) then none
 else if asked != [] && decide (2 ^ asked.length > 2 * (last - 1)) then none
 else some (wrong.drop place)
noncomputable def parted (drawn : Wd) (own : List Bool) (steps : List Nat) (t : TS) (yes : List Bool) : Option Bool := do
 let yd ← wayEnd drawn t.ways
 let od ← wayEnd drawn steps
 let yv ← yes[yd]?
 let ov ← own[od]?
 pure (yv != ov)
theorem tabRun_F (text : Wd) (ends : List Wd) : ∀ n k st, tabRun text ends n k st = tabRunF (ellB text) ends n k st
 | 0, _, _ => rfl
 | n + 1, k, st => by
  unfold tabRun tabRunF
  rw [tabRun_F text ends n]
  rfl
theorem table_F (text : Wd) (ends : List Wd) : tableB text ends = tableF (ellB text) ends := tabRun_F ..
theorem bis_F (text : Wd) (mixed : List Wd) (answer : Bool) : ∀ n lo hi asked, bisB text mixed answer n lo hi asked = bisF (ellB text) mixed answer n lo hi asked
 | 0, _, _, _ => rfl
 | n + 1, lo, hi, asked => by
  unfold bisB bisF
  simp only [bis_F text mixed answer n]
end
noncomputable def wrongOk (w : Wd) : Bool := decide (2 ≤ w.length) && decide (w.length ≤ 20)
noncomputable def tabOk (t : TS) : Bool := decide (t.words.length ≤ 19) && decide (t.ways.length ≤ 100) && t.ways.all (fun n => decide (n ≤ 100)) && t.words.all (fun w => decide (w.length ≤ 20))
section
variable (f : Wd → Bool)
noncomputable def turnX (own : List Bool) (steps : List Nat) (t : TS) (wrong : Wd) : Option Wd := if wrongOk wrong then turnW f own steps t wrong else none
noncomputable def TurnsX (drawn : Wd) (due : List Wd) (own : List Bool) (steps : List Nat) : Nat → List Wd → Prop
 | 0, _ => False
 | n + 1, ends => tabOk (tableF f ends) = true ∧ match unlikeB ((tableF f ends).words.map f) (tableF f ends).ways own steps with
  | none => False
  | some none => toldB due own steps ends = some (tableF f ends).book
  | some (some unl) => ∃ b e, parted drawn own steps (tableF f ends) ((tableF f ends).words.map f) = some b ∧ turnX f own steps (tableF f ends) (if b = true then drawn else unl) = some e ∧ TurnsX drawn due own steps n (ends ++ [e])
noncomputable def treeX (due : List Wd) (own : List Bool) (steps : List Nat) : Nat → List Wd → List Wd → Bool
 | 0, _, _ => false
 | n + 1, ends, ds =>
  let t := tableF f ends
  let yes := t.words.map f
  tabOk t && match unlikeB yes t.ways own steps with
  | none => false
  | some none => toldB due own steps ends == some t.book
  | some (some unl) =>
   let eu := turnX f own steps t unl
   let pairs := ds.map fun d => (d, match parted d own steps t yes with | none => none | some true => turnX f own steps t d | some false => eu)
   (pairs.map (·.2)).eraseDups.all fun e => match e with
    | some e => treeX due own steps n (ends ++ [e]) ((pairs.filter (·.2 == some e)).map (·.1))
    | none => false
theorem treeX_ok (due : List Wd) (own : List Bool) (steps : List Nat) : ∀ n ends ds, treeX f due own steps n ends ds = true → ∀ d ∈ ds, TurnsX f d due own steps n ends
 | 0, _, _, h, _, _ => by cases h
 | n + 1, ends, ds, h, d, hd => by
  unfold treeX at h
  unfold TurnsX
  dsimp only at h ⊢
  rw [Bool.and_eq_true] at h
  refine ⟨h.1, ?_⟩
  replace h := h.2
  generalize hU : unlikeB _ _ own steps = U at h ⊢
  cases U with
  | none => cases h
  | some U =>
   cases U with
   | none => simpa only [beq_iff_eq] using h
   | some unl =>
    dsimp only at h ⊢
    have hm := List.all_eq_true.mp h
    have h1 := hm _ (List.mem_eraseDups.mpr (List.mem_map.mpr ⟨_, List.mem_map.mpr ⟨d, hd, rfl⟩, rfl⟩))
    dsimp only at h1
    cases hp : parted d own steps (tableF f ends) ((tableF f ends).words.map f) with
    | none => simp only [hp] at h1; cases h1
    | some b =>
     simp only [hp] at h1
     have hE : ∃ E, (match b with | true => turnX f own steps (tableF f ends) d | false => turnX f own steps (tableF f ends) unl) = E := ⟨_, rfl⟩
     obtain ⟨E, hE⟩ := hE
     have hE' : turnX f own steps (tableF f ends) (if b = true then d else unl) = E := by cases b <;> exact hE
     have hh : (match some b with | none => none | some true => turnX f own steps (tableF f ends) d | some false => turnX f own steps (tableF f ends) unl) = E := by cases b <;> exact hE
     rw [hh] at h1
     cases E with
     | none => cases h1
     | some e =>
      refine ⟨b, e, rfl, hE', treeX_ok due own steps n _ _ h1 d ?_⟩
      refine List.mem_map.mpr ⟨(d, some e), List.mem_filter.mpr ⟨List.mem_map.mpr ⟨d, hd, ?_⟩, by simp⟩, rfl⟩
      rw [hp, hh]
end
theorem way_len {ws : List Nat} : ∀ {w : Wd} {acc road : List Nat}, w.foldlM (wayStep ws) acc = some road → road.length = acc.length + w.length
 | [], acc, road, h => by
  cases (show some acc = some road from h); simp
 | b :: w, acc, road, h => by
  rw [List.foldlM_cons] at h
  unfold wayStep at h
  cases hq : ws[2 * acc.getLastD 0 + b.toNat]? with
  | none => rw [hq] at h; cases h
  | some q =>
   rw [hq] at h
   have := way_len (ws := ws) (w := w) (acc := acc ++ [q]) (road := road) h
   simp at this ⊢
   (clear hq h; omega)
theorem wayEnd_ex {w : Wd} {ws : List Nat} {q : Nat} (h : wayEnd w ws = some q) : ∃ road, way w ws = some road ∧ road.length = w.length + 1 ∧ road.getLastD 0 = q := by
 unfold wayEnd at h
 cases hw : way w ws with
 | none => rw [hw] at h; cases h
 | some road =>
  rw [hw] at h
  have hl := way_len (acc := [0]) hw
  refine ⟨road, rfl, by simp at hl; (clear hw h; omega), ?_⟩
  rw [List.getLastD_eq_getLast?, show road.getLast? = some q from h]; rfl
theorem bisF_bound (f : Wd → Bool) (mixed : List Wd) (answer : Bool) : ∀ n lo hi asked {place as}, bisF f mixed answer n lo hi asked = some (place, as) → lo ≤ place ∧ (place ≤ hi ∨ place = lo)
 | 0, _, _, _, _, _, h => by cases h
 | n + 1, lo, hi, asked, place, as, h => by
  unfold bisF at h
  split at h
  ·rename_i hlt
   cases hm : mixed[(lo + hi) / 2]? with
   | none => simp [hm] at h
   | some one =>
    simp only [hm, Option.bind_eq_bind, Option.bind_some] at h
    split at h
    ·have := bisF_bound f mixed answer n _ _ _ h
     (clear h hm; omega)
    ·have := bisF_bound f mixed answer n _ _ _ h
     (clear h hm hlt; omega)
  ·cases h; omega
theorem mapM_ex {α β : Type} (g : α → Option β) : ∀ {l : List α} {r : List β}, l.mapM g = some r → r.length = l.length ∧ ∀ (i : Nat) (x : α), l[i]? = some x → ∃ y, r[i]? = some y ∧ g x = some y
 | [], r, h => by
  cases (show some [] = some r from h)
  exact ⟨rfl, fun i x h => by simp at h⟩
 | a :: l, r, h => by
  rw [List.mapM_cons] at h
  cases hg : g a with
  | none => rw [hg] at h; cases h
  | some b =>
   cases hm : l.mapM g with
   | none => rw [hg, hm] at h; cases h
   | some r' =>
    rw [hg, hm] at h
    cases (show some (b :: r') = some r from h)
    obtain ⟨h1, h2⟩ := mapM_ex g hm
    refine ⟨by simp [h1], fun i x hx => ?_⟩
    cases i with
    | zero => simp at hx; subst hx; exact ⟨b, rfl, hg⟩
    | succ i => exact h2 i x (by simpa using hx)
theorem turnX_ex : ∀ {f : Wd → Bool} {own : List Bool} {steps : List Nat} {t : TS} {wrong e : Wd} (h : turnX f own steps t wrong = some e), 2 ≤ wrong.length ∧ wrong.length ≤ 20 ∧ ∃ we road mixed place asked, wayEnd wrong steps = some we ∧ own[we]? = some (f wrong) ∧ way wrong t.ways = some road ∧ road.length = wrong.length + 1 ∧ mixed.length = wrong.length + 1 ∧ (∀ k, k < wrong.length + 1 → ∃ r x, road[k]? = some r ∧ t.words[r]? = some x ∧ mixed[k]? = some (x ++ wrong.drop k)) ∧ bisF f mixed (f wrong) 20 1 (mixed.length - 2) [] = some (place, asked) ∧ 1 ≤ place ∧ place ≤ wrong.length - 1 ∧ (∀ (i : Nat) (x : Wd), (((mixed.drop (place - 1)).take 2)[i]? = some x → ∃ q o, wayEnd x steps = some q ∧ own[q]? = some o ∧ ([false, true] : List Bool)[i]? = some (o != f wrong))) ∧ (∀ x ∈ asked, ((mixed.drop 1).take (wrong.length - 2)).contains x = true) ∧ (asked ≠ [] → 2 ^ asked.length ≤ 2 * (wrong.length - 2)) ∧ e = wrong.drop place := by
 refine' @E6 _ _ _ _ _ _ _ (by walk_at "ne") ?_; generalize (z6 _ _).1 = f; generalize (z6 _ _).2.1 = own; generalize (z6 _ _).2.2.1 = steps; generalize (z6 _ _).2.2.2.1 = t; generalize (z6 _ _).2.2.2.2.1 = wrong; generalize (z6 _ _).2.2.2.2.2 = e
 intro h
 unfold turnX at h
 split at h
 ·rename_i hw
  unfold wrongOk at hw
  simp only [Bool.and_eq_true, decide_eq_true_eq] at hw
  refine ⟨hw.1, hw.2, ?_⟩
  unfold turnW at h
  simp only [Option.bind_eq_bind, Option.pure_def] at h
  generalize hwe : wayEnd wrong steps = zo1
  refine OCn zo1 ?_ ?_
  ·intro ze1a
   subst ze1a
   rw [hwe] at h; cases h
  walk_at "E1"; generalize z1 _ _ = we
  intro ze1b
  subst ze1b
  generalize how : own[we]? = zo2
  refine OCn zo2 ?_ ?_
  ·intro ze2a
   subst ze2a
   rw [hwe] at h; simp only [Option.bind_some, how] at h; cases h
  intro ow
  intro ze2b
  subst ze2b
  rw [hwe] at h
  simp only [Option.bind_some, how] at h
  split at h
  ·cases h
  rename_i hne
  have hfo : f wrong = ow := by simpa using hne
  generalize hroad : way wrong t.ways = zo3
  refine OCn zo3 ?_ ?_
  ·intro ze3a
   subst ze3a
   rw [hroad] at h; cases h
  walk_at "E1"; generalize z1 _ _ = road
  intro ze3b
  subst ze3b
  rw [hroad] at h
  simp only [Option.bind_some] at h
  generalize hG : (List.mapM (fun k => (road[k]?).bind fun r => (t.words[r]?).bind fun x => some (x ++ List.drop k wrong)) (List.range (wrong.length + 1)) : Option (List Wd)) = G at h
  refine OCn G ?_ ?_
  ·intro ze4a
   subst ze4a
   cases h
  walk_at "E1"; generalize z1 _ _ = mixed
  intro ze4b
  subst ze4b
  simp only [Option.bind_some] at h
  obtain ⟨hm1, hm2⟩ := mapM_ex _ hG
  rw [List.length_range] at hm1
  generalize hb : bisF f mixed (f wrong) 20 1 (mixed.length - 2) [] = zo5
  refine OCn zo5 ?_ ?_
  ·intro ze5a
   subst ze5a
   rw [hb] at h; cases h
  walk_at "E1"; generalize z1 _ _ = pa
  intro ze5b
  subst ze5b
  refine PRe pa ?_
  walk_at "E2"; generalize (z2 _ _).1 = place; generalize (z2 _ _).2 = asked
  intro zy1
  subst zy1
  rw [hb] at h
  simp only [Option.bind_some] at h
  have hbb := bisF_bound f mixed (f wrong) _ _ _ _ hb
  have hpl : 1 ≤ place ∧ place ≤ wrong.length - 1 := by (clear h hb hG hroad how hwe; omega)
  generalize hG2 : (List.mapM (fun one => (wayEnd one steps).bind fun e => (own[e]?).bind fun o => some (o != f wrong)) (List.drop (place - 1) (List.take (place + 1) mixed)) : Option (List Bool)) = G2 at h
  refine OCn G2 ?_ ?_
  ·intro ze6a
   subst ze6a
   cases h
  walk_at "E1"; generalize z1 _ _ = two
  intro ze6b
  subst ze6b
  simp only [Option.bind_some] at h
  obtain ⟨ht1, ht2⟩ := mapM_ex _ hG2
  split at h
  ·cases h
  rename_i h2
  split at h
  ·cases h
  rename_i h3
  split at h
  ·cases h
  rename_i h4
  cases h
  have h2' : two = [false, true] := by simpa using h2
  subst h2'
  refine I5 we road mixed place asked ⟨rfl, by rw [hfo]; exact how, rfl, by have := way_len (acc := [0]) hroad; simp at this; (clear ht1 hG2 h4 h3 hpl hbb hb hm1 hG hroad how hwe hw; omega), hm1, ?_, hb, hpl.1, hpl.2, ?_, ?_, ?_, rfl⟩
  ·walk_at "E1"; generalize z1 _ _ = k
   intro hk
   refine O1 ?_ (hm2 k k (by rw [List.getElem?_range]; exact hk))
   walk_at "Y1"; generalize z1 _ _ = y
   refine A2 ?_
   intro hy1 hy2
   generalize hr : road[k]? = zo7
   refine OCn zo7 ?_ ?_
   ·intro ze7a
    subst ze7a
    rw [hr] at hy2; cases hy2
   ·walk_at "E1"; generalize z1 _ _ = r
    intro ze7b
    subst ze7b
    rw [hr] at hy2
    simp only [Option.bind_some] at hy2
    generalize hx : t.words[r]? = zo8
    refine OCn zo8 ?_ ?_
    ·intro ze8a
     subst ze8a
     rw [hx] at hy2; cases hy2
    ·walk_at "E1"; generalize z1 _ _ = x
     intro ze8b
     subst ze8b
     rw [hx] at hy2
     cases hy2
     exact I2 r x ⟨rfl, hx, hy1⟩
  ·walk_at "E2"; generalize (z2 _ _).1 = i; generalize (z2 _ _).2 = x
   intro hx
   rw [List.drop_take, show place + 1 - (place - 1) = 2 by (clear hx ht1 hG2 h4 h3 hpl hb hm1 hG hroad how hwe hw; omega)] at ht2
   refine X1 ?_ (ht2 i x hx)
   walk_at "E1"; generalize z1 _ _ = y
   refine A2 ?_
   intro hy1 hy2
   generalize hq : wayEnd x steps = zo9
   refine OCn zo9 ?_ ?_
   ·intro ze9a
    subst ze9a
    rw [hq] at hy2; cases hy2
   ·walk_at "E1"; generalize z1 _ _ = q
    intro ze9b
    subst ze9b
    rw [hq] at hy2
    simp only [Option.bind_some] at hy2
    generalize ho : own[q]? = zo10
    refine OCn zo10 ?_ ?_
    ·intro ze10a
     subst ze10a
     rw [ho] at hy2; cases hy2
    ·intro o
     intro ze10b
     subst ze10b
     rw [ho] at hy2
     cases hy2
     exact I2 q o ⟨rfl, ho, hy1⟩
  ·walk_at "E1"; generalize z1 _ _ = x
   intro hx
   have : ¬ (asked.any (fun one => !((mixed.take (wrong.length - 1)).drop 1).contains one) = true) := h3
   rw [List.any_eq_true] at this
   rw [List.drop_take, show wrong.length - 1 - 1 = wrong.length - 2 by (clear this ht1 hG2 h4 h3 hpl hbb hb hm1 hG hroad how hwe hw; omega)] at this
   cases hc : ((mixed.drop 1).take (wrong.length - 2)).contains x with
   | true => rfl
   | false => exact (this ⟨x, hx, by rw [hc]; rfl⟩).elim
  ·intro hne
   have hne' : (asked != []) = true := by simpa using hne
   rw [hne'] at h4
   simp only [Bool.true_and, decide_eq_true_eq, Nat.not_lt] at h4
   have : ¬ (2 ^ asked.length > 2 * (wrong.length - 1 - 1)) := by simpa using h4
   rw [show wrong.length - 1 - 1 = wrong.length - 2 by (clear this h4 ht1 hG2 h3 hpl hbb hb hm1 hG hroad how hwe hw; omega)] at this
   (clear this ht1 hG2 h3 hpl hbb hb hm1 hG hroad how hwe hw; omega)
 ·cases h
theorem told_ex {due : List Wd} {own : List Bool} {steps : List Nat} {ends : List Wd} {bk : List (List Bool × Wd)} (h : toldB due own steps ends = some bk) :
  bk.length = due.length ∧ ∀ (i : Nat) (w : Wd), due[i]? = some w → ∃ as, bk[i]? = some (as, w) ∧ as.length = ends.length ∧ ∀ (j : Nat) (e : Wd), ends[j]? = some e → ∃ q o, wayEnd (w ++ e) steps = some q ∧ own[q]? = some o ∧ as[j]? = some o := by
 unfold toldB at h
 obtain ⟨h1, h2⟩ := mapM_ex _ h
 refine ⟨h1, fun i w hw => ?_⟩
 refine X1 ?_ (h2 i w hw)
 intro y
 refine A2 ?_
 intro hy1 hy2
 simp only [Option.bind_eq_bind, Option.pure_def] at hy2
 generalize hG : (List.mapM (fun one => (wayEnd (w ++ one) steps).bind fun e => own[e]?) ends : Option (List Bool)) = G at hy2
 cases G with
 | none => cases hy2
 | some as =>
  cases hy2
  obtain ⟨h3, h4⟩ := mapM_ex _ hG
  refine ⟨as, hy1, h3, fun j e he => ?_⟩
  refine X1 ?_ (h4 j e he)
  intro o
  refine A2 ?_
  intro ho1 ho2
  cases hq : wayEnd (w ++ e) steps with
  | none => rw [hq] at ho2; cases ho2
  | some q =>
   rw [hq] at ho2
   exact ⟨q, o, rfl, ho2, ho1⟩
theorem parted_ex {drawn : Wd} {own : List Bool} {steps : List Nat} {t : TS} {yes : List Bool} {b : Bool} (h : parted drawn own steps t yes = some b) :
  ∃ yd od yv ov, wayEnd drawn t.ways = some yd ∧ wayEnd drawn steps = some od ∧ yes[yd]? = some yv ∧ own[od]? = some ov ∧ b = (yv != ov) := by
 unfold parted at h
 simp only [Option.bind_eq_bind, Option.pure_def] at h
 cases h1 : wayEnd drawn t.ways with
 | none => rw [h1] at h; cases h
 | some yd =>
 cases h2 : wayEnd drawn steps with
 | none => rw [h1, h2] at h; cases h
 | some od =>
 cases h3 : yes[yd]? with
 | none => rw [h1, h2] at h; simp only [Option.bind_some, h3] at h; cases h
 | some yv =>
 cases h4 : own[od]? with
 | none => rw [h1, h2] at h; simp only [Option.bind_some, h3, h4] at h; cases h
 | some ov =>
 rw [h1, h2] at h; simp only [Option.bind_some, h3, h4] at h
 cases h
 exact ⟨yd, od, yv, ov, rfl, rfl, h3, h4, rfl⟩
noncomputable def bodyOf (l : List Stmt) (i : Nat) : List Stmt := match l[i]? with
 | some (.FunctionDef _ _ b _ _ _ _ _ _ _) => b
 | some (.ClassDef _ _ _ b _ _ _ _ _ _ _) => b
 | _ => []
noncomputable def bodyA (i : Nat) : List Stmt := bodyOf PySem.Challenge.pw_uk0025_01.main.body i
noncomputable def bodyB (i : Nat) : List Stmt := bodyOf (bodyA 59) i
noncomputable def HK (P : Params) : Frag :=
(nat_lit 2,⟨.none,none,(.dict #[⟨(PyData.keyHash P "\x69mport.loaded._sre"),(.str "\x69mport.loaded._sre" 183),(.bool true)⟩,⟨(PyData.keyHash P "class._frozen_importlib.BuiltinImporter"),(.str "class._frozen_importlib.BuiltinImporter" 185),(.ref 14)⟩,⟨(PyData.keyHash P "watched.\x69mport"),(.str "watched.\x69mport" 206),(.ref 18)⟩,⟨(PyData.keyHash P "class._frozen_importlib.ModuleSpec"),(.str "class._frozen_importlib.ModuleSpec" 216),(.ref 22)⟩,⟨(PyData.keyHash P "sys.modules.booked-epoch"),(.str "sys.modules.booked-epoch" 245),(.int 3 0)⟩,⟨(PyData.keyHash P "\x69mport.later-laid._sre"),(.str "\x69mport.later-laid._sre" 270),(.bool true)⟩,⟨(PyData.keyHash P "watched.library"),(.str "watched.library" 272),(.ref 27)⟩,⟨(PyData.keyHash P "watched.library-objects"),(.str "watched.library-objects" 0),(.str "\x0c" 0)⟩,⟨(PyData.keyHash P "watched.library-deep._sre"),(.str "watched.library-deep._sre" 273),(.str "\x04\x00\x00\x0b\x04\x00\x00\x0b\x04\x00\x00\x03\x04\x00\x00\x0b\x08\x04dict\x02" 0)⟩] 9),#[]⟩)::
(nat_lit 3,⟨(.type "dict"),none,(.dict #[⟨(PyData.keyHash P "__name__"),(.str "__name__" 165),(.str "law_uk0025_01" 733)⟩,⟨(PyData.keyHash P "__doc__"),(.str "__doc__" 166),.none⟩,⟨(PyData.keyHash P "__package__"),(.str "__package__" 167),.none⟩,⟨(PyData.keyHash P "__loader__"),(.str "__loader__" 168),(.builtin "__main__.__loader__#opaque")⟩,⟨(PyData.keyHash P "__spec__"),(.str "__spec__" 169),.none⟩,⟨(PyData.keyHash P "__annotations__"),(.str "__annotations__" 170),(.ref 6)⟩,⟨(PyData.keyHash P "__builtins__"),(.str "__builtins__" 171),(.ref 4)⟩,⟨(PyData.keyHash P "__file__"),(.str "__file__" 173),(.str "/claim/cut.py" 172)⟩,⟨(PyData.keyHash P "__cached__"),(.str "__cached__" 174),.none⟩,⟨(PyData.keyHash P "_sre"),(.str "_sre" 275),(.ref 12)⟩,⟨(PyData.keyHash P "_wall"),(.str "_wall" 288),(.ref 38)⟩,⟨(PyData.keyHash P "ELLIPSIS_MARKER"),(.str "ELLIPSIS_MARKER" 292),(.str "..." 291)⟩,⟨(PyData.keyHash P "_ellipsis_match"),(.str "_ellipsis_match" 304),(.ref 45)⟩,⟨(PyData.keyHash P "bisect_left"),(.str "bisect_left" 320),(.ref 54)⟩,⟨(PyData.keyHash P "LPAR"),(.str "LPAR" 322),(.int 7 321)⟩,⟨(PyData.keyHash P "RPAR"),(.str "RPAR" 324),(.int 8 323)⟩,⟨(PyData.keyHash P "LSQB"),(.str "LSQB" 326),(.int 9 325)⟩,⟨(PyData.keyHash P "RSQB"),(.str "RSQB" 328),(.int 10 327)⟩,⟨(PyData.keyHash P "COLON"),(.str "COLON" 330),(.int 11 329)⟩,⟨(PyData.keyHash P "COMMA"),(.str "COMMA" 332),(.int 12 331)⟩,⟨(PyData.keyHash P "SEMI"),(.str "SEMI" 334),(.int 13 333)⟩,⟨(PyData.keyHash P "PLUS"),(.str "PLUS" 336),(.int 14 335)⟩,⟨(PyData.keyHash P "MINUS"),(.str "MINUS" 338),(.int 15 337)⟩,⟨(PyData.keyHash P "STAR"),(.str "STAR" 340),(.int 16 339)⟩,⟨(PyData.keyHash P "SLASH"),(.str "SLASH" 342),(.int 17 341)⟩,⟨(PyData.keyHash P "VBAR"),(.str "VBAR" 344),(.int 18 343)⟩,⟨(PyData.keyHash P "AMPER"),(.str "AMPER" 346),(.int 19 345)⟩,⟨(PyData.keyHash P "LESS"),(.str "LESS" 348),(.int 20 347)⟩,⟨(PyData.keyHash P "GREATER"),(.str "GREATER" 350),(.int 21 349)⟩,⟨(PyData.keyHash P "EQUAL"),(.str "EQUAL" 352),(.int 22 351)⟩,⟨(PyData.keyHash P "DOT"),(.str "DOT" 354),(.int 23 353)⟩,⟨(PyData.keyHash P "PERCENT"),(.str "PERCENT" 356),(.int 24 355)⟩,⟨(PyData.keyHash P "LBRACE"),(.str "LBRACE" 358),(.int 25 357)⟩,⟨(PyData.keyHash P "RBRACE"),(.str "RBRACE" 360),(.int 26 359)⟩,⟨(PyData.keyHash P "EQEQUAL"),(.str "EQEQUAL" 362),(.int 27 361)⟩,⟨(PyData.keyHash P "NOTEQUAL"),(.str "NOTEQUAL" 364),(.int 28 363)⟩,⟨(PyData.keyHash P "LESSEQUAL"),(.str "LESSEQUAL" 366),(.int 29 365)⟩,⟨(PyData.keyHash P "GREATEREQUAL"),(.str "GREATEREQUAL" 368),(.int 30 367)⟩,⟨(PyData.keyHash P "TILDE"),(.str "TILDE" 370),(.int 31 369)⟩,⟨(PyData.keyHash P "CIRCUMFLEX"),(.str "CIRCUMFLEX" 372),(.int 32 371)⟩,⟨(PyData.keyHash P "LEFTSHIFT"),(.str "LEFTSHIFT" 374),(.int 33 373)⟩,⟨(PyData.keyHash P "RIGHTSHIFT"),(.str "RIGHTSHIFT" 376),(.int 34 375)⟩,⟨(PyData.keyHash P "DOUBLESTAR"),(.str "DOUBLESTAR" 378),(.int 35 377)⟩,⟨(PyData.keyHash P "PLUSEQUAL"),(.str "PLUSEQUAL" 380),(.int 36 379)⟩,⟨(PyData.keyHash P "MINEQUAL"),(.str "MINEQUAL" 382),(.int 37 381)⟩,⟨(PyData.keyHash P "STAREQUAL"),(.str "STAREQUAL" 384),(.int 38 383)⟩,⟨(PyData.keyHash P "SLASHEQUAL"),(.str "SLASHEQUAL" 386),(.int 39 385)⟩,⟨(PyData.keyHash P "PERCENTEQUAL"),(.str "PERCENTEQUAL" 388),(.int 40 387)⟩,⟨(PyData.keyHash P "AMPEREQUAL"),(.str "AMPEREQUAL" 390),(.int 41 389)⟩,⟨(PyData.keyHash P "VBAREQUAL"),(.str "VBAREQUAL" 392),(.int 42 391)⟩,⟨(PyData.keyHash P "CIRCUMFLEXEQUAL"),(.str "CIRCUMFLEXEQUAL" 394),(.int 43 393)⟩,⟨(PyData.keyHash P "LEFTSHIFTEQUAL"),(.str "LEFTSHIFTEQUAL" 396),(.int 44 395)⟩,⟨(PyData.keyHash P "RIGHTSHIFTEQUAL"),(.str "RIGHTSHIFTEQUAL" 398),(.int 45 397)⟩,⟨(PyData.keyHash P "DOUBLESTAREQUAL"),(.str "DOUBLESTAREQUAL" 400),(.int 46 399)⟩,⟨(PyData.keyHash P "DOUBLESLASH"),(.str "DOUBLESLASH" 402),(.int 47 401)⟩,⟨(PyData.keyHash P "DOUBLESLASHEQUAL"),(.str "DOUBLESLASHEQUAL" 404),(.int 48 403)⟩,⟨(PyData.keyHash P "AT"),(.str "AT" 406),(.int 49 405)⟩,⟨(PyData.keyHash P "ATEQUAL"),(.str "ATEQUAL" 408),(.int 50 407)⟩,⟨(PyData.keyHash P "RARROW"),(.str "RARROW" 410),(.int 51 409)⟩,⟨(PyData.keyHash P "ELLIPSIS"),(.str "ELLIPSIS" 412),(.int 52 411)⟩,⟨(PyData.keyHash P "COLONEQUAL"),(.str "COLONEQUAL" 414),(.int 53 413)⟩,⟨(PyData.keyHash P "EXCLAMATION"),(.str "EXCLAMATION" 416),(.int 54 415)⟩,⟨(PyData.keyHash P "EXACT_TOKEN_TYPES"),(.str "EXACT_TOKEN_TYPES" 513),(.ref 55)⟩,⟨(PyData.keyHash P "_name_disallowed_re"),(.str "_name_disallowed_re" 541),(.ref 62)⟩,⟨(PyData.keyHash P "_value_disallowed_re"),(.str "_value_disallowed_re" 575),(.ref 67)⟩,⟨(PyData.keyHash P "Headers"),(.str "Headers" 732),(.ref 190)⟩,⟨(PyData.keyHash P "_law_draw"),(.str "_law_draw" 740),(.ref 199)⟩,⟨(PyData.keyHash P "_law_cut"),(.str "_law_cut" 750),(.ref 206)⟩,⟨(PyData.keyHash P "_law_places"),(.str "_law_places" 756),(.ref 211)⟩,⟨(PyData.keyHash P "_law_ahead"),(.str "_law_ahead" 768),(.ref 218)⟩,⟨(PyData.keyHash P "_law_least"),(.str "_law_least" 774),(.ref 223)⟩,⟨(PyData.keyHash P "_law_way"),(.str "_law_way" 785),(.ref 230)⟩,⟨(PyData.keyHash P "_law_ask"),(.str "_law_ask" 794),(.ref 237)⟩,⟨(PyData.keyHash P "_law_turned"),(.str "_law_turned" 805),(.ref 244)⟩,⟨(PyData.keyHash P "_law_told"),(.str "_law_told" 820),(.ref 251)⟩,⟨(PyData.keyHash P "_law_spelled"),(.str "_law_spelled" 826),(.ref 256)⟩,⟨(PyData.keyHash P "_law_table"),(.str "_law_table" 832),(.ref 261)⟩,⟨(PyData.keyHash P "_law_unlike"),(.str "_law_unlike" 848),(.ref 268)⟩,⟨(PyData.keyHash P "law"),(.str "law" 854),(.ref 273)⟩] 79),#[]⟩)::
(nat_lit 32,⟨(.type "tuple"),none,(.seq #[] 0),#[]⟩)::
(nat_lit 34,⟨(.type "tuple"),none,(.seq #[(.str "k" 285)] 0),#[]⟩)::
(nat_lit 35,⟨(.type "tuple"),none,(.seq #[] 0),#[]⟩)::
(nat_lit 37,⟨(.type "code"),none,(.fields #[(.str "_wall" 282),(.str "_wall" 283),(.str "/claim/cut.py" 284),(.int 2 0),(.int 1 0),(.int 0 0),(.int 0 0),(.int 3 0),(.ref 32),(.bool true),(.int 276 0),(.ref 33),.none,(.ref 34),(.ref 35),(.ref 36),(.int 286 0),(.int 2 0),(.str "/claim/cut.py" 287)]),#[]⟩)::
(nat_lit 38,⟨(.type "function"),none,(.func ⟨"_wall","_wall",⟨[],[⟨"k",none,⟨2,10,2,11⟩⟩],none,[],[],none,[]⟩,(.stmts (bodyA 1)),⟨.function,[("k",.local)],false,false,[]⟩,3,[],.none,.none,.none,(.str "__main__" 164),none,(.ref 37),.none,0⟩),#[]⟩)::
(nat_lit 39,⟨(.type "tuple"),none,(.seq #[] 0),#[]⟩)::
(nat_lit 41,⟨(.type "tuple"),none,(.seq #[(.str "want" 296),(.str "got" 297),(.str "ws" 298),(.str "startpos" 299),(.str "endpos" 300),(.str "w" 301)] 0),#[]⟩)::
(nat_lit 42,⟨(.type "tuple"),none,(.seq #[] 0),#[]⟩)::
(nat_lit 44,⟨(.type "code"),none,(.fields #[(.str "_ellipsis_match" 293),(.str "_ellipsis_match" 294),(.str "/claim/cut.py" 295),(.int 7 0),(.int 2 0),(.int 0 0),(.int 0 0),(.int 3 0),(.ref 39),(.bool true),(.int 276 0),(.ref 40),.none,(.ref 41),(.ref 42),(.ref 43),(.int 302 0),(.int 7 0),(.str "/claim/cut.py" 303)]),#[]⟩)::
(nat_lit 45,⟨(.type "function"),none,(.func ⟨"_ellipsis_match","_ellipsis_match",⟨[],[⟨"want",none,⟨7,20,7,24⟩⟩,⟨"got",none,⟨7,26,7,29⟩⟩],none,[],[],none,[]⟩,(.stmts (bodyA 4)),⟨.function,[("want",.local),("got",.local),("ws",.local),("startpos",.local),("endpos",.local),("w",.local),("ELLIPSIS_MARKER",.globalImplicit),("len",.globalImplicit)],false,false,[]⟩,3,[],.none,.none,.none,(.str "cpy313.doctest" 289),none,(.ref 44),.none,0⟩),#[]⟩)::
(nat_lit 46,⟨(.type "tuple"),none,(.seq #[(.int 0 307),.none] 0),#[]⟩)::
(nat_lit 47,⟨(.type "dict"),none,(.dict #[⟨(PyData.keyHash P "key"),(.str "key" 308),.none⟩] 1),#[]⟩)::
(nat_lit 48,⟨(.type "tuple"),none,(.seq #[] 0),#[]⟩)::
(nat_lit 50,⟨(.type "tuple"),none,(.seq #[(.str "a" 312),(.str "x" 313),(.str "lo" 314),(.str "hi" 315),(.str "key" 316),(.str "mid" 317)] 0),#[]⟩)::
(nat_lit 51,⟨(.type "tuple"),none,(.seq #[] 0),#[]⟩)::
(nat_lit 53,⟨(.type "code"),none,(.fields #[(.str "bisect_left" 309),(.str "bisect_left" 310),(.str "/claim/cut.py" 311),(.int 36 0),(.int 4 0),(.int 0 0),(.int 1 0),(.int 3 0),(.ref 48),(.bool true),(.int 276 0),(.ref 49),.none,(.ref 50),(.ref 51),(.ref 52),(.int 318 0),(.int 36 0),(.str "/claim/cut.py" 319)]),#[]⟩)::
(nat_lit 54,⟨(.type "function"),none,(.func ⟨"bisect_left","bisect_left",⟨[],[⟨"a",none,⟨36,16,36,17⟩⟩,⟨"x",none,⟨36,19,36,20⟩⟩,⟨"lo",none,⟨36,22,36,24⟩⟩,⟨"hi",none,⟨36,28,36,30⟩⟩],none,[⟨"key",none,⟨36,40,36,43⟩⟩],[(some (.Constant .none 0 ⟨36,44,36,48⟩))],none,[(.Constant (.int 0) 0 ⟨36,25,36,26⟩),(.Constant .none 0 ⟨36,31,36,35⟩)]⟩,(.stmts (bodyA 6)),⟨.function,[("a",.local),("x",.local),("lo",.local),("hi",.local),("key",.local),("mid",.local),("ValueError",.globalImplicit),("len",.globalImplicit)],false,false,[]⟩,3,[],(.ref 46),(.ref 47),.none,(.str "cpy313.bisect" 305),none,(.ref 53),.none,0⟩),#[]⟩)::
(nat_lit 55,⟨(.type "dict"),none,(.dict #[⟨(PyData.keyHash P "!"),(.str "!" 417),(.int 54 415)⟩,⟨(PyData.keyHash P "!="),(.str "!=" 419),(.int 28 363)⟩,⟨(PyData.keyHash P "%"),(.str "%" 421),(.int 24 355)⟩,⟨(PyData.keyHash P "%="),(.str "%=" 423),(.int 40 387)⟩,⟨(PyData.keyHash P "&"),(.str "&" 425),(.int 19 345)⟩,⟨(PyData.keyHash P "&="),(.str "&=" 427),(.int 41 389)⟩,⟨(PyData.keyHash P "("),(.str "(" 429),(.int 7 321)⟩,⟨(PyData.keyHash P ")"),(.str ")" 431),(.int 8 323)⟩,⟨(PyData.keyHash P "*"),(.str "*" 433),(.int 16 339)⟩,⟨(PyData.keyHash P "**"),(.str "**" 435),(.int 35 377)⟩,⟨(PyData.keyHash P "**="),(.str "**=" 437),(.int 46 399)⟩,⟨(PyData.keyHash P "*="),(.str "*=" 439),(.int 38 383)⟩,⟨(PyData.keyHash P "+"),(.str "+" 441),(.int 14 335)⟩,⟨(PyData.keyHash P "+="),(.str "+=" 443),(.int 36 379)⟩,⟨(PyData.keyHash P ","),(.str "," 445),(.int 12 331)⟩,⟨(PyData.keyHash P "-"),(.str "-" 447),(.int 15 337)⟩,⟨(PyData.keyHash P "-="),(.str "-=" 449),(.int 37 381)⟩,⟨(PyData.keyHash P "->"),(.str "->" 451),(.int 51 409)⟩,⟨(PyData.keyHash P "."),(.str "." 453),(.int 23 353)⟩,⟨(PyData.keyHash P "..."),(.str "..." 455),(.int 52 411)⟩,⟨(PyData.keyHash P "/"),(.str "/" 457),(.int 17 341)⟩,⟨(PyData.keyHash P "//"),(.str "//" 459),(.int 47 401)⟩,⟨(PyData.keyHash P "//="),(.str "//=" 461),(.int 48 403)⟩,⟨(PyData.keyHash P "/="),(.str "/=" 463),(.int 39 385)⟩,⟨(PyData.keyHash P ":"),(.str ":" 465),(.int 11 329)⟩,⟨(PyData.keyHash P ":="),(.str ":=" 467),(.int 53 413)⟩,⟨(PyData.keyHash P ";"),(.str ";" 469),(.int 13 333)⟩,⟨(PyData.keyHash P "<"),(.str "<" 471),(.int 20 347)⟩,⟨(PyData.keyHash P "<<"),(.str "<<" 473),(.int 33 373)⟩,⟨(PyData.keyHash P "<<="),(.str "<<=" 475),(.int 44 395)⟩,⟨(PyData.keyHash P "<="),(.str "<=" 477),(.int 29 365)⟩,⟨(PyData.keyHash P "="),(.str "=" 479),(.int 22 351)⟩,⟨(PyData.keyHash P "=="),(.str "==" 481),(.int 27 361)⟩,⟨(PyData.keyHash P ">"),(.str ">" 483),(.int 21 349)⟩,⟨(PyData.keyHash P ">="),(.str ">=" 485),(.int 30 367)⟩,⟨(PyData.keyHash P ">>"),(.str ">>" 486),(.int 34 375)⟩,⟨(PyData.keyHash P ">>="),(.str ">>=" 487),(.int 45 397)⟩,⟨(PyData.keyHash P "@"),(.str "@" 488),(.int 49 405)⟩,⟨(PyData.keyHash P "@="),(.str "@=" 489),(.int 50 407)⟩,⟨(PyData.keyHash P "["),(.str "[" 490),(.int 9 325)⟩,⟨(PyData.keyHash P "]"),(.str "]" 491),(.int 10 327)⟩,⟨(PyData.keyHash P "^"),(.str "^" 492),(.int 32 371)⟩,⟨(PyData.keyHash P "^="),(.str "^=" 493),(.int 43 393)⟩,⟨(PyData.keyHash P "{"),(.str "{" 494),(.int 25 357)⟩,⟨(PyData.keyHash P "|"),(.str "|" 495),(.int 18 343)⟩,⟨(PyData.keyHash P "|="),(.str "|=" 496),(.int 42 391)⟩,⟨(PyData.keyHash P "}"),(.str "}" 497),(.int 26 359)⟩,⟨(PyData.keyHash P "~"),(.str "~" 498),(.int 31 369)⟩] 48),#[]⟩)::
(nat_lit 61,⟨(.type "tuple"),none,(.seq #[(.int 14 0),(.int 10 0),(.int 4 0),(.int 1 0),(.int 1 0),(.int 22 0),(.int 0 0),(.int 31 0),(.int 16 0),(.int 127 0),(.int 0 0),(.int 13 0),(.int 7 0),(.int 22 0),(.int 0 0),(.int 31 0),(.int 16 0),(.int 127 0),(.int 0 0),(.int 1 0)] 0),#[]⟩)::
(nat_lit 62,⟨(.type "re.Pattern"),none,(.fields #[(.str "[\\x00-\\x1F\\x7F]" 517),(.int 32 540),(.int 0 0),.none,.none,(.ref 61),(.int 0 0)]),#[]⟩)::
(nat_lit 66,⟨(.type "tuple"),none,(.seq #[(.int 14 0),(.int 14 0),(.int 4 0),(.int 1 0),(.int 1 0),(.int 9 0),(.int 4294966783 0),(.int 0 0),(.int 0 0),(.int 2147483648 0),(.int 0 0),(.int 0 0),(.int 0 0),(.int 0 0),(.int 0 0),(.int 13 0),(.int 11 0),(.int 9 0),(.int 4294966783 0),(.int 0 0),(.int 0 0),(.int 2147483648 0),(.int 0 0),(.int 0 0),(.int 0 0),(.int 0 0),(.int 0 0),(.int 1 0)] 0),#[]⟩)::
(nat_lit 67,⟨(.type "re.Pattern"),none,(.fields #[(.str "[\\x00-\\x08\\x0A-\\x1F\\x7F]" 543),(.int 32 574),(.int 0 0),.none,.none,(.ref 66),(.int 0 0)]),#[]⟩)::
(nat_lit 75,⟨(.type "tuple"),none,(.seq #[.none] 0),#[]⟩)::
(nat_lit 76,⟨(.type "tuple"),none,(.seq #[] 0),#[]⟩)::
(nat_lit 78,⟨(.type "tuple"),none,(.seq #[(.str "self" 591),(.str "headers" 592),(.str "k" 593),(.str "v" 594)] 0),#[]⟩)::
(nat_lit 79,⟨(.type "tuple"),none,(.seq #[] 0),#[]⟩)::
(nat_lit 81,⟨(.type "code"),none,(.fields #[(.str "__init__" 588),(.str "Headers.__init__" 589),(.str "/claim/cut.py" 590),(.int 110 0),(.int 2 0),(.int 0 0),(.int 0 0),(.int 3 0),(.ref 76),(.bool true),(.int 276 0),(.ref 77),.none,(.ref 78),(.ref 79),(.ref 80),(.int 595 0),(.int 110 0),(.str "/claim/cut.py" 596)]),#[]⟩)::
(nat_lit 82,⟨(.type "function"),none,(.func ⟨"__init__","Headers.__init__",⟨[],[⟨"self",none,⟨110,17,110,21⟩⟩,⟨"headers",none,⟨110,23,110,30⟩⟩],none,[],[],none,[(.Constant .none 0 ⟨110,31,110,35⟩)]⟩,(.stmts (bodyB 0)),⟨.function,[("self",.local),("headers",.local),("k",.local),("v",.local),("type",.globalImplicit),("list",.globalImplicit),("TypeError",.globalImplicit),("__debug__",.globalImplicit)],false,false,[]⟩,3,[],(.ref 75),.none,.none,(.str "cpy313.wsgiref.headers" 514),none,(.ref 81),.none,0⟩),#[]⟩)::
(nat_lit 83,⟨(.type "tuple"),none,(.seq #[] 0),#[]⟩)::
(nat_lit 85,⟨(.type "tuple"),none,(.seq #[(.str "self" 601),(.str "value" 602),(.str "name" 603),(.str "regex" 604)] 0),#[]⟩)::
(nat_lit 86,⟨(.type "tuple"),none,(.seq #[] 0),#[]⟩)::
(nat_lit 88,⟨(.type "code"),none,(.fields #[(.str "_convert_string_type" 598),(.str "Headers._convert_string_type" 599),(.str "/claim/cut.py" 600),(.int 120 0),(.int 2 0),(.int 0 0),(.int 1 0),(.int 3 0),(.ref 83),(.bool true),(.int 276 0),(.ref 84),.none,(.ref 85),(.ref 86),(.ref 87),(.int 605 0),(.int 120 0),(.str "/claim/cut.py" 606)]),#[]⟩)::
(nat_lit 89,⟨(.type "function"),none,(.func ⟨"_convert_string_type","Headers._convert_string_type",⟨[],[⟨"self",none,⟨120,29,120,33⟩⟩,⟨"value",none,⟨120,35,120,40⟩⟩],none,[⟨"name",none,⟨120,45,120,49⟩⟩],[none],none,[]⟩,(.stmts (bodyB 1)),⟨.function,[("self",.local),("value",.local),("name",.local),("regex",.local),("type",.globalImplicit),("str",.globalImplicit),("_name_disallowed_re",.globalImplicit),("_value_disallowed_re",.globalImplicit),("ValueError",.globalImplicit),("AssertionError",.globalImplicit),("repr",.globalImplicit)],false,false,[]⟩,3,[],.none,.none,.none,(.str "cpy313.wsgiref.headers" 514),none,(.ref 88),.none,0⟩),#[]⟩)::
(nat_lit 90,⟨(.type "tuple"),none,(.seq #[] 0),#[]⟩)::
(nat_lit 92,⟨(.type "tuple"),none,(.seq #[(.str "self" 611)] 0),#[]⟩)::
(nat_lit 93,⟨(.type "tuple"),none,(.seq #[] 0),#[]⟩)::
(nat_lit 95,⟨(.type "code"),none,(.fields #[(.str "__len__" 608),(.str "Headers.__len__" 609),(.str "/claim/cut.py" 610),(.int 128 0),(.int 1 0),(.int 0 0),(.int 0 0),(.int 3 0),(.ref 90),(.bool true),(.int 276 0),(.ref 91),.none,(.ref 92),(.ref 93),(.ref 94),(.int 612 0),(.int 128 0),(.str "/claim/cut.py" 613)]),#[]⟩)::
(nat_lit 96,⟨(.type "function"),none,(.func ⟨"__len__","Headers.__len__",⟨[],[⟨"self",none,⟨128,16,128,20⟩⟩],none,[],[],none,[]⟩,(.stmts (bodyB 2)),⟨.function,[("self",.local),("len",.globalImplicit)],false,false,[]⟩,3,[],.none,.none,.none,(.str "cpy313.wsgiref.headers" 514),none,(.ref 95),.none,0⟩),#[]⟩)::
(nat_lit 97,⟨(.type "tuple"),none,(.seq #[] 0),#[]⟩)::
(nat_lit 99,⟨(.type "tuple"),none,(.seq #[(.str "self" 618),(.str "name" 619),(.str "val" 620)] 0),#[]⟩)::
(nat_lit 100,⟨(.type "tuple"),none,(.seq #[] 0),#[]⟩)::
(nat_lit 102,⟨(.type "code"),none,(.fields #[(.str "__setitem__" 615),(.str "Headers.__setitem__" 616),(.str "/claim/cut.py" 617),(.int 131 0),(.int 3 0),(.int 0 0),(.int 0 0),(.int 3 0),(.ref 97),(.bool true),(.int 276 0),(.ref 98),.none,(.ref 99),(.ref 100),(.ref 101),(.int 621 0),(.int 131 0),(.str "/claim/cut.py" 622)]),#[]⟩)::
(nat_lit 103,⟨(.type "function"),none,(.func ⟨"__setitem__","Headers.__setitem__",⟨[],[⟨"self",none,⟨131,20,131,24⟩⟩,⟨"name",none,⟨131,26,131,30⟩⟩,⟨"val",none,⟨131,32,131,35⟩⟩],none,[],[],none,[]⟩,(.stmts (bodyB 3)),⟨.function,[("self",.local),("name",.local),("val",.local)],false,false,[]⟩,3,[],.none,.none,.none,(.str "cpy313.wsgiref.headers" 514),none,(.ref 102),.none,0⟩),#[]⟩)::
(nat_lit 104,⟨(.type "tuple"),none,(.seq #[] 0),#[]⟩)::
(nat_lit 107,⟨(.type "code"),none,(.fields #[(.str "__delitem__" 624),(.str "Headers.__delitem__" 625),(.str "/claim/cut.py" 626),(.int 135 0),(.int 2 0),(.int 0 0),(.int 0 0),(.int 3 0),(.ref 104),(.bool true),(.int 276 0),(.ref 105),.none,.none,.none,(.ref 106),(.int 627 0),(.int 135 0),(.str "/claim/cut.py" 628)]),#[]⟩)::
(nat_lit 108,⟨(.type "function"),none,(.func ⟨"__delitem__","Headers.__delitem__",⟨[],[⟨"self",none,⟨135,20,135,24⟩⟩,⟨"name",none,⟨135,26,135,30⟩⟩],none,[],[],none,[]⟩,(.stmts (bodyB 4)),⟨.function,[("self",.local),("name",.cell)],false,false,[("fast",(.str "self")),("fast",(.str "name")),("fast",(.str "kv"))]⟩,3,[],.none,.none,.none,(.str "cpy313.wsgiref.headers" 514),none,(.ref 107),.none,0⟩),#[]⟩)::
(nat_lit 109,⟨(.type "tuple"),none,(.seq #[] 0),#[]⟩)::
(nat_lit 111,⟨(.type "tuple"),none,(.seq #[(.str "self" 633),(.str "name" 634)] 0),#[]⟩)::
(nat_lit 112,⟨(.type "tuple"),none,(.seq #[] 0),#[]⟩)::
(nat_lit 114,⟨(.type "code"),none,(.fields #[(.str "__getitem__" 630),(.str "Headers.__getitem__" 631),(.str "/claim/cut.py" 632),(.int 139 0),(.int 2 0),(.int 0 0),(.int 0 0),(.int 3 0),(.ref 109),(.bool true),(.int 276 0),(.ref 110),.none,(.ref 111),(.ref 112),(.ref 113),(.int 635 0),(.int 139 0),(.str "/claim/cut.py" 636)]),#[]⟩)::
(nat_lit 115,⟨(.type "function"),none,(.func ⟨"__getitem__","Headers.__getitem__",⟨[],[⟨"self",none,⟨139,20,139,24⟩⟩,⟨"name",none,⟨139,26,139,30⟩⟩],none,[],[],none,[]⟩,(.stmts (bodyB 5)),⟨.function,[("self",.local),("name",.local)],false,false,[]⟩,3,[],.none,.none,.none,(.str "cpy313.wsgiref.headers" 514),none,(.ref 114),.none,0⟩),#[]⟩)::
(nat_lit 116,⟨(.type "tuple"),none,(.seq #[] 0),#[]⟩)::
(nat_lit 118,⟨(.type "tuple"),none,(.seq #[(.str "self" 641),(.str "name" 642)] 0),#[]⟩)::
(nat_lit 119,⟨(.type "tuple"),none,(.seq #[] 0),#[]⟩)::
(nat_lit 121,⟨(.type "code"),none,(.fields #[(.str "__contains__" 638),(.str "Headers.__contains__" 639),(.str "/claim/cut.py" 640),(.int 142 0),(.int 2 0),(.int 0 0),(.int 0 0),(.int 3 0),(.ref 116),(.bool true),(.int 276 0),(.ref 117),.none,(.ref 118),(.ref 119),(.ref 120),(.int 643 0),(.int 142 0),(.str "/claim/cut.py" 644)]),#[]⟩)::
(nat_lit 122,⟨(.type "function"),none,(.func ⟨"__contains__","Headers.__contains__",⟨[],[⟨"self",none,⟨142,21,142,25⟩⟩,⟨"name",none,⟨142,27,142,31⟩⟩],none,[],[],none,[]⟩,(.stmts (bodyB 6)),⟨.function,[("self",.local),("name",.local)],false,false,[]⟩,3,[],.none,.none,.none,(.str "cpy313.wsgiref.headers" 514),none,(.ref 121),.none,0⟩),#[]⟩)::
(nat_lit 123,⟨(.type "tuple"),none,(.seq #[] 0),#[]⟩)::
(nat_lit 125,⟨(.type "tuple"),none,(.seq #[(.str "self" 649),(.str "name" 650)] 0),#[]⟩)::
(nat_lit 126,⟨(.type "tuple"),none,(.seq #[] 0),#[]⟩)::
(nat_lit 128,⟨(.type "code"),none,(.fields #[(.str "get_all" 646),(.str "Headers.get_all" 647),(.str "/claim/cut.py" 648),(.int 145 0),(.int 2 0),(.int 0 0),(.int 0 0),(.int 3 0),(.ref 123),(.bool true),(.int 276 0),(.ref 124),.none,(.ref 125),(.ref 126),(.ref 127),(.int 651 0),(.int 145 0),(.str "/claim/cut.py" 652)]),#[]⟩)::
(nat_lit 129,⟨(.type "function"),none,(.func ⟨"get_all","Headers.get_all",⟨[],[⟨"self",none,⟨145,16,145,20⟩⟩,⟨"name",none,⟨145,22,145,26⟩⟩],none,[],[],none,[]⟩,(.stmts (bodyB 7)),⟨.function,[("self",.local),("name",.local),("_wall",.globalImplicit)],false,false,[]⟩,3,[],.none,.none,.none,(.str "cpy313.wsgiref.headers" 514),none,(.ref 128),.none,0⟩),#[]⟩)::
(nat_lit 130,⟨(.type "tuple"),none,(.seq #[.none] 0),#[]⟩)::
(nat_lit 131,⟨(.type "tuple"),none,(.seq #[] 0),#[]⟩)::
(nat_lit 133,⟨(.type "tuple"),none,(.seq #[(.str "self" 657),(.str "name" 658),(.str "default" 659),(.str "k" 660),(.str "v" 661)] 0),#[]⟩)::
(nat_lit 134,⟨(.type "tuple"),none,(.seq #[] 0),#[]⟩)::
(nat_lit 136,⟨(.type "code"),none,(.fields #[(.str "get" 654),(.str "Headers.get" 655),(.str "/claim/cut.py" 656),(.int 148 0),(.int 3 0),(.int 0 0),(.int 0 0),(.int 3 0),(.ref 131),(.bool true),(.int 276 0),(.ref 132),.none,(.ref 133),(.ref 134),(.ref 135),(.int 662 0),(.int 148 0),(.str "/claim/cut.py" 663)]),#[]⟩)::
(nat_lit 137,⟨(.type "function"),none,(.func ⟨"get","Headers.get",⟨[],[⟨"self",none,⟨148,12,148,16⟩⟩,⟨"name",none,⟨148,18,148,22⟩⟩,⟨"default",none,⟨148,24,148,31⟩⟩],none,[],[],none,[(.Constant .none 0 ⟨148,32,148,36⟩)]⟩,(.stmts (bodyB 8)),⟨.function,[("self",.local),("name",.local),("default",.local),("k",.local),("v",.local)],false,false,[]⟩,3,[],(.ref 130),.none,.none,(.str "cpy313.wsgiref.headers" 514),none,(.ref 136),.none,0⟩),#[]⟩)::
(nat_lit 138,⟨(.type "tuple"),none,(.seq #[] 0),#[]⟩)::
(nat_lit 141,⟨(.type "code"),none,(.fields #[(.str "keys" 665),(.str "Headers.keys" 666),(.str "/claim/cut.py" 667),(.int 155 0),(.int 1 0),(.int 0 0),(.int 0 0),(.int 3 0),(.ref 138),(.bool true),(.int 276 0),(.ref 139),.none,.none,.none,(.ref 140),(.int 668 0),(.int 155 0),(.str "/claim/cut.py" 669)]),#[]⟩)::
(nat_lit 142,⟨(.type "function"),none,(.func ⟨"keys","Headers.keys",⟨[],[⟨"self",none,⟨155,13,155,17⟩⟩],none,[],[],none,[]⟩,(.stmts (bodyB 9)),⟨.function,[("self",.local)],false,false,[("fast",(.str "self")),("fast",(.str "k")),("fast",(.str "v"))]⟩,3,[],.none,.none,.none,(.str "cpy313.wsgiref.headers" 514),none,(.ref 141),.none,0⟩),#[]⟩)::
(nat_lit 143,⟨(.type "tuple"),none,(.seq #[] 0),#[]⟩)::
(nat_lit 146,⟨(.type "code"),none,(.fields #[(.str "values" 671),(.str "Headers.values" 672),(.str "/claim/cut.py" 673),(.int 158 0),(.int 1 0),(.int 0 0),(.int 0 0),(.int 3 0),(.ref 143),(.bool true),(.int 276 0),(.ref 144),.none,.none,.none,(.ref 145),(.int 674 0),(.int 158 0),(.str "/claim/cut.py" 675)]),#[]⟩)::
(nat_lit 147,⟨(.type "function"),none,(.func ⟨"values","Headers.values",⟨[],[⟨"self",none,⟨158,15,158,19⟩⟩],none,[],[],none,[]⟩,(.stmts (bodyB 10)),⟨.function,[("self",.local)],false,false,[("fast",(.str "self")),("fast",(.str "k")),("fast",(.str "v"))]⟩,3,[],.none,.none,.none,(.str "cpy313.wsgiref.headers" 514),none,(.ref 146),.none,0⟩),#[]⟩)::
(nat_lit 148,⟨(.type "tuple"),none,(.seq #[] 0),#[]⟩)::
(nat_lit 150,⟨(.type "tuple"),none,(.seq #[(.str "self" 680)] 0),#[]⟩)::
(nat_lit 151,⟨(.type "tuple"),none,(.seq #[] 0),#[]⟩)::
(nat_lit 153,⟨(.type "code"),none,(.fields #[(.str "items" 677),(.str "Headers.items" 678),(.str "/claim/cut.py" 679),(.int 161 0),(.int 1 0),(.int 0 0),(.int 0 0),(.int 3 0),(.ref 148),(.bool true),(.int 276 0),(.ref 149),.none,(.ref 150),(.ref 151),(.ref 152),(.int 681 0),(.int 161 0),(.str "/claim/cut.py" 682)]),#[]⟩)::
(nat_lit 154,⟨(.type "function"),none,(.func ⟨"items","Headers.items",⟨[],[⟨"self",none,⟨161,14,161,18⟩⟩],none,[],[],none,[]⟩,(.stmts (bodyB 11)),⟨.function,[("self",.local)],false,false,[]⟩,3,[],.none,.none,.none,(.str "cpy313.wsgiref.headers" 514),none,(.ref 153),.none,0⟩),#[]⟩)::
(nat_lit 155,⟨(.type "tuple"),none,(.seq #[] 0),#[]⟩)::
(nat_lit 157,⟨(.type "tuple"),none,(.seq #[(.str "self" 687)] 0),#[]⟩)::
(nat_lit 158,⟨(.type "tuple"),none,(.seq #[] 0),#[]⟩)::
(nat_lit 160,⟨(.type "code"),none,(.fields #[(.str "__repr__" 684),(.str "Headers.__repr__" 685),(.str "/claim/cut.py" 686),(.int 164 0),(.int 1 0),(.int 0 0),(.int 0 0),(.int 3 0),(.ref 155),(.bool true),(.int 276 0),(.ref 156),.none,(.ref 157),(.ref 158),(.ref 159),(.int 688 0),(.int 164 0),(.str "/claim/cut.py" 689)]),#[]⟩)::
(nat_lit 161,⟨(.type "function"),none,(.func ⟨"__repr__","Headers.__repr__",⟨[],[⟨"self",none,⟨164,17,164,21⟩⟩],none,[],[],none,[]⟩,(.stmts (bodyB 12)),⟨.function,[("self",.local)],false,false,[]⟩,3,[],.none,.none,.none,(.str "cpy313.wsgiref.headers" 514),none,(.ref 160),.none,0⟩),#[]⟩)::
(nat_lit 162,⟨(.type "tuple"),none,(.seq #[] 0),#[]⟩)::
(nat_lit 165,⟨(.type "code"),none,(.fields #[(.str "__str__" 691),(.str "Headers.__str__" 692),(.str "/claim/cut.py" 693),(.int 167 0),(.int 1 0),(.int 0 0),(.int 0 0),(.int 3 0),(.ref 162),(.bool true),(.int 276 0),(.ref 163),.none,.none,.none,(.ref 164),(.int 694 0),(.int 167 0),(.str "/claim/cut.py" 695)]),#[]⟩)::
(nat_lit 166,⟨(.type "function"),none,(.func ⟨"__str__","Headers.__str__",⟨[],[⟨"self",none,⟨167,16,167,20⟩⟩],none,[],[],none,[]⟩,(.stmts (bodyB 13)),⟨.function,[("self",.local)],false,false,[("fast",(.str "self")),("fast",(.str "kv"))]⟩,3,[],.none,.none,.none,(.str "cpy313.wsgiref.headers" 514),none,(.ref 165),.none,0⟩),#[]⟩)::
(nat_lit 167,⟨(.type "tuple"),none,(.seq #[] 0),#[]⟩)::
(nat_lit 169,⟨(.type "tuple"),none,(.seq #[(.str "self" 700)] 0),#[]⟩)::
(nat_lit 170,⟨(.type "tuple"),none,(.seq #[] 0),#[]⟩)::
(nat_lit 172,⟨(.type "code"),none,(.fields #[(.str "__bytes__" 697),(.str "Headers.__bytes__" 698),(.str "/claim/cut.py" 699),(.int 170 0),(.int 1 0),(.int 0 0),(.int 0 0),(.int 3 0),(.ref 167),(.bool true),(.int 276 0),(.ref 168),.none,(.ref 169),(.ref 170),(.ref 171),(.int 701 0),(.int 170 0),(.str "/claim/cut.py" 702)]),#[]⟩)::
(nat_lit 173,⟨(.type "function"),none,(.func ⟨"__bytes__","Headers.__bytes__",⟨[],[⟨"self",none,⟨170,18,170,22⟩⟩],none,[],[],none,[]⟩,(.stmts (bodyB 14)),⟨.function,[("self",.local),("str",.globalImplicit)],false,false,[]⟩,3,[],.none,.none,.none,(.str "cpy313.wsgiref.headers" 514),none,(.ref 172),.none,0⟩),#[]⟩)::
(nat_lit 174,⟨(.type "tuple"),none,(.seq #[] 0),#[]⟩)::
(nat_lit 176,⟨(.type "tuple"),none,(.seq #[(.str "self" 707),(.str "name" 708),(.str "value" 709),(.str "result" 710)] 0),#[]⟩)::
(nat_lit 177,⟨(.type "tuple"),none,(.seq #[] 0),#[]⟩)::
(nat_lit 179,⟨(.type "code"),none,(.fields #[(.str "setdefault" 704),(.str "Headers.setdefault" 705),(.str "/claim/cut.py" 706),(.int 173 0),(.int 3 0),(.int 0 0),(.int 0 0),(.int 3 0),(.ref 174),(.bool true),(.int 276 0),(.ref 175),.none,(.ref 176),(.ref 177),(.ref 178),(.int 711 0),(.int 173 0),(.str "/claim/cut.py" 712)]),#[]⟩)::
(nat_lit 180,⟨(.type "function"),none,(.func ⟨"setdefault","Headers.setdefault",⟨[],[⟨"self",none,⟨173,19,173,23⟩⟩,⟨"name",none,⟨173,25,173,29⟩⟩,⟨"value",none,⟨173,31,173,36⟩⟩],none,[],[],none,[]⟩,(.stmts (bodyB 15)),⟨.function,[("self",.local),("name",.local),("value",.local),("result",.local)],false,false,[]⟩,3,[],.none,.none,.none,(.str "cpy313.wsgiref.headers" 514),none,(.ref 179),.none,0⟩),#[]⟩)::
(nat_lit 181,⟨(.type "tuple"),none,(.seq #[] 0),#[]⟩)::
(nat_lit 183,⟨(.type "tuple"),none,(.seq #[(.str "self" 717),(.str "_name" 718),(.str "_value" 719),(.str "_params" 720)] 0),#[]⟩)::
(nat_lit 184,⟨(.type "tuple"),none,(.seq #[] 0),#[]⟩)::
(nat_lit 186,⟨(.type "code"),none,(.fields #[(.str "add_header" 714),(.str "Headers.add_header" 715),(.str "/claim/cut.py" 716),(.int 181 0),(.int 3 0),(.int 0 0),(.int 0 0),(.int 11 0),(.ref 181),(.bool true),(.int 276 0),(.ref 182),.none,(.ref 183),(.ref 184),(.ref 185),(.int 721 0),(.int 181 0),(.str "/claim/cut.py" 722)]),#[]⟩)::
(nat_lit 187,⟨(.type "function"),none,(.func ⟨"add_header","Headers.add_header",⟨[],[⟨"self",none,⟨181,19,181,23⟩⟩,⟨"_name",none,⟨181,25,181,30⟩⟩,⟨"_value",none,⟨181,32,181,38⟩⟩],none,[],[],(some ⟨"_params",none,⟨181,42,181,49⟩⟩),[]⟩,(.stmts (bodyB 16)),⟨.function,[("self",.local),("_name",.local),("_value",.local),("_params",.local),("_wall",.globalImplicit)],false,false,[]⟩,3,[],.none,.none,.none,(.str "cpy313.wsgiref.headers" 514),none,(.ref 186),.none,0⟩),#[]⟩)::
(nat_lit 188,⟨(.type "tuple"),none,(.seq #[(.str "_headers" 724)] 0),#[]⟩)::
(nat_lit 189,⟨(.type "dict"),none,(.dict #[⟨(PyData.keyHash P "__module__"),(.str "__module__" 583),(.str "cpy313.wsgiref.headers" 514)⟩,⟨(PyData.keyHash P "__firstlineno__"),(.str "__firstlineno__" 587),(.int 108 586)⟩,⟨(PyData.keyHash P "__init__"),(.str "__init__" 597),(.ref 82)⟩,⟨(PyData.keyHash P "_convert_string_type"),(.str "_convert_string_type" 607),(.ref 89)⟩,⟨(PyData.keyHash P "__len__"),(.str "__len__" 614),(.ref 96)⟩,⟨(PyData.keyHash P "__setitem__"),(.str "__setitem__" 623),(.ref 103)⟩,⟨(PyData.keyHash P "__delitem__"),(.str "__delitem__" 629),(.ref 108)⟩,⟨(PyData.keyHash P "__getitem__"),(.str "__getitem__" 637),(.ref 115)⟩,⟨(PyData.keyHash P "__contains__"),(.str "__contains__" 645),(.ref 122)⟩,⟨(PyData.keyHash P "get_all"),(.str "get_all" 653),(.ref 129)⟩,⟨(PyData.keyHash P "get"),(.str "get" 664),(.ref 137)⟩,⟨(PyData.keyHash P "keys"),(.str "keys" 670),(.ref 142)⟩,⟨(PyData.keyHash P "values"),(.str "values" 676),(.ref 147)⟩,⟨(PyData.keyHash P "items"),(.str "items" 683),(.ref 154)⟩,⟨(PyData.keyHash P "__repr__"),(.str "__repr__" 690),(.ref 161)⟩,⟨(PyData.keyHash P "__str__"),(.str "__str__" 696),(.ref 166)⟩,⟨(PyData.keyHash P "__bytes__"),(.str "__bytes__" 703),(.ref 173)⟩,⟨(PyData.keyHash P "setdefault"),(.str "setdefault" 713),(.ref 180)⟩,⟨(PyData.keyHash P "add_header"),(.str "add_header" 723),(.ref 187)⟩,⟨(PyData.keyHash P "__static_attributes__"),(.str "__static_attributes__" 725),(.ref 188)⟩,⟨(PyData.keyHash P "__dict__"),(.str "__dict__" 727),(.ref 191)⟩,⟨(PyData.keyHash P "__weakref__"),(.str "__weakref__" 729),(.ref 192)⟩,⟨(PyData.keyHash P "__doc__"),(.str "__doc__" 730),.none⟩] 4),#[]⟩)::
(nat_lit 190,⟨(.type "type"),none,(.cls ⟨"Headers",[(.type "object")],[(.ref 190),(.type "object")],189,"Headers",true,[],[],false,none,false⟩),#[none,none,(some (.str "Headers" 576)),(some (.str "Headers" 584)),(some (.builtin "object.__new__")),(some (.bool true))]⟩)::
(nat_lit 191,⟨(.type "getset_descriptor"),none,(.fields #[(.str "__dict__" 726),(.ref 190),(.builtin "function.__dict__"),(.builtin "function.__dict__#set")]),#[]⟩)::
(nat_lit 192,⟨(.type "getset_descriptor"),none,(.fields #[(.str "__weakref__" 728),(.ref 190),(.builtin "ExceptionGroup.__weakref__"),.none]),#[]⟩)::
(nat_lit 195,⟨(.type "tuple"),none,(.seq #[] 0),#[]⟩)::
(nat_lit 198,⟨(.type "code"),none,(.fields #[(.str "_law_draw" 735),(.str "_law_draw" 736),(.str "/claim/cut.py" 737),(.int 184 0),(.int 1 0),(.int 0 0),(.int 0 0),(.int 3 0),(.ref 195),(.bool true),(.int 276 0),(.ref 196),.none,.none,.none,(.ref 197),(.int 738 0),(.int 184 0),(.str "/claim/cut.py" 739)]),#[]⟩)::
(nat_lit 199,⟨(.type "function"),none,(.func ⟨"_law_draw","_law_draw",⟨[],[⟨"script",none,⟨184,14,184,20⟩⟩],none,[],[],none,[]⟩,(.stmts (bodyA 61)),⟨.function,[("script",.cell),("k",.local),("shape",.local),("other",.cell),("signs",.cell),("text",.local),("drawn",.local),("sum",.globalImplicit),("range",.globalImplicit),("len",.globalImplicit)],false,false,[("fast",(.str "script")),("fast",(.str "k")),("fast",(.str "shape")),("fast",(.str "other")),("fast",(.str "signs")),("fast",(.str "text")),("fast",(.str "drawn"))]⟩,3,[],.none,.none,.none,(.str "law_uk0025_01" 733),none,(.ref 198),.none,0⟩),#[]⟩)::
(nat_lit 200,⟨(.type "tuple"),none,(.seq #[] 0),#[]⟩)::
(nat_lit 202,⟨(.type "tuple"),none,(.seq #[(.str "text" 744),(.str "pieces" 745),(.str "place" 746),(.str "size" 747)] 0),#[]⟩)::
(nat_lit 203,⟨(.type "tuple"),none,(.seq #[] 0),#[]⟩)::
(nat_lit 205,⟨(.type "code"),none,(.fields #[(.str "_law_cut" 741),(.str "_law_cut" 742),(.str "/claim/cut.py" 743),(.int 196 0),(.int 1 0),(.int 0 0),(.int 0 0),(.int 3 0),(.ref 200),(.bool true),(.int 276 0),(.ref 201),.none,(.ref 202),(.ref 203),(.ref 204),(.int 748 0),(.int 196 0),(.str "/claim/cut.py" 749)]),#[]⟩)::
(nat_lit 206,⟨(.type "function"),none,(.func ⟨"_law_cut","_law_cut",⟨[],[⟨"text",none,⟨196,13,196,17⟩⟩],none,[],[],none,[]⟩,(.stmts (bodyA 62)),⟨.function,[("text",.local),("pieces",.local),("place",.local),("size",.local),("len",.globalImplicit),("EXACT_TOKEN_TYPES",.globalImplicit)],false,false,[]⟩,3,[],.none,.none,.none,(.str "law_uk0025_01" 733),none,(.ref 205),.none,0⟩),#[]⟩)::
(nat_lit 207,⟨(.type "tuple"),none,(.seq #[] 0),#[]⟩)::
(nat_lit 210,⟨(.type "code"),none,(.fields #[(.str "_law_places" 751),(.str "_law_places" 752),(.str "/claim/cut.py" 753),(.int 206 0),(.int 1 0),(.int 0 0),(.int 0 0),(.int 3 0),(.ref 207),(.bool true),(.int 276 0),(.ref 208),.none,.none,.none,(.ref 209),(.int 754 0),(.int 206 0),(.str "/claim/cut.py" 755)]),#[]⟩)::
(nat_lit 211,⟨(.type "function"),none,(.func ⟨"_law_places","_law_places",⟨[],[⟨"pieces",none,⟨206,16,206,22⟩⟩],none,[],[],none,[]⟩,(.stmts (bodyA 63)),⟨.function,[("pieces",.local),("letters",.local),("free",.local),("piece",.local),("EXACT_TOKEN_TYPES",.globalImplicit)],false,false,[("fast",(.str "pieces")),("fast",(.str "letters")),("fast",(.str "free")),("fast",(.str "piece")),("fast",(.str "sign"))]⟩,3,[],.none,.none,.none,(.str "law_uk0025_01" 733),none,(.ref 210),.none,0⟩),#[]⟩)::
(nat_lit 212,⟨(.type "tuple"),none,(.seq #[] 0),#[]⟩)::
(nat_lit 214,⟨(.type "tuple"),none,(.seq #[(.str "places" 760),(.str "sign" 761),(.str "letters" 762),(.str "free" 763),(.str "row" 764),(.str "k" 765)] 0),#[]⟩)::
(nat_lit 215,⟨(.type "tuple"),none,(.seq #[] 0),#[]⟩)::
(nat_lit 217,⟨(.type "code"),none,(.fields #[(.str "_law_ahead" 757),(.str "_law_ahead" 758),(.str "/claim/cut.py" 759),(.int 216 0),(.int 4 0),(.int 0 0),(.int 0 0),(.int 3 0),(.ref 212),(.bool true),(.int 276 0),(.ref 213),.none,(.ref 214),(.ref 215),(.ref 216),(.int 766 0),(.int 216 0),(.str "/claim/cut.py" 767)]),#[]⟩)::
(nat_lit 218,⟨(.type "function"),none,(.func ⟨"_law_ahead","_law_ahead",⟨[],[⟨"places",none,⟨216,15,216,21⟩⟩,⟨"sign",none,⟨216,23,216,27⟩⟩,⟨"letters",none,⟨216,29,216,36⟩⟩,⟨"free",none,⟨216,38,216,42⟩⟩],none,[],[],none,[]⟩,(.stmts (bodyA 64)),⟨.function,[("places",.local),("sign",.local),("letters",.local),("free",.local),("row",.local),("k",.local),("range",.globalImplicit),("len",.globalImplicit)],false,false,[]⟩,3,[],.none,.none,.none,(.str "law_uk0025_01" 733),none,(.ref 217),.none,0⟩),#[]⟩)::
(nat_lit 219,⟨(.type "tuple"),none,(.seq #[] 0),#[]⟩)::
(nat_lit 222,⟨(.type "code"),none,(.fields #[(.str "_law_least" 769),(.str "_law_least" 770),(.str "/claim/cut.py" 771),(.int 222 0),(.int 3 0),(.int 0 0),(.int 0 0),(.int 3 0),(.ref 219),(.bool true),(.int 276 0),(.ref 220),.none,.none,.none,(.ref 221),(.int 772 0),(.int 222 0),(.str "/claim/cut.py" 773)]),#[]⟩)::
(nat_lit 223,⟨(.type "function"),none,(.func ⟨"_law_least","_law_least",⟨[],[⟨"letters",none,⟨222,15,222,22⟩⟩,⟨"free",none,⟨222,24,222,28⟩⟩,⟨"signs",none,⟨222,30,222,35⟩⟩],none,[],[],none,[]⟩,(.stmts (bodyA 65)),⟨.function,[("letters",.cell),("free",.local),("signs",.local),("found",.cell),("words",.cell),("steps",.cell),("k",.local),("sign",.local),("ahead",.local),("most",.cell),("firsts",.local),("kinds",.cell),("ways",.local),("len",.globalImplicit),("_law_ahead",.globalImplicit),("range",.globalImplicit)],false,false,[("fast",(.str "letters")),("fast",(.str "free")),("fast",(.str "signs")),("fast",(.str "found")),("fast",(.str "words")),("fast",(.str "steps")),("fast",(.str "k")),("fast",(.str "sign")),("fast",(.str "ahead")),("fast",(.str "places")),("fast",(.str "most")),("fast",(.str "i")),("fast",(.str "firsts")),("fast",(.str "kinds")),("fast",(.str "j")),("fast",(.str "ways"))]⟩,3,[],.none,.none,.none,(.str "law_uk0025_01" 733),none,(.ref 222),.none,0⟩),#[]⟩)::
(nat_lit 224,⟨(.type "tuple"),none,(.seq #[] 0),#[]⟩)::
(nat_lit 226,⟨(.type "tuple"),none,(.seq #[(.str "word" 778),(.str "signs" 779),(.str "ways" 780),(.str "road" 781),(.str "sign" 782)] 0),#[]⟩)::
(nat_lit 227,⟨(.type "tuple"),none,(.seq #[] 0),#[]⟩)::
(nat_lit 229,⟨(.type "code"),none,(.fields #[(.str "_law_way" 775),(.str "_law_way" 776),(.str "/claim/cut.py" 777),(.int 240 0),(.int 3 0),(.int 0 0),(.int 0 0),(.int 3 0),(.ref 224),(.bool true),(.int 276 0),(.ref 225),.none,(.ref 226),(.ref 227),(.ref 228),(.int 783 0),(.int 240 0),(.str "/claim/cut.py" 784)]),#[]⟩)::
(nat_lit 230,⟨(.type "function"),none,(.func ⟨"_law_way","_law_way",⟨[],[⟨"word",none,⟨240,13,240,17⟩⟩,⟨"signs",none,⟨240,19,240,24⟩⟩,⟨"ways",none,⟨240,26,240,30⟩⟩],none,[],[],none,[]⟩,(.stmts (bodyA 66)),⟨.function,[("word",.local),("signs",.local),("ways",.local),("road",.local),("sign",.local)],false,false,[]⟩,3,[],.none,.none,.none,(.str "law_uk0025_01" 733),none,(.ref 229),.none,0⟩),#[]⟩)::
(nat_lit 231,⟨(.type "tuple"),none,(.seq #[] 0),#[]⟩)::
(nat_lit 233,⟨(.type "tuple"),none,(.seq #[(.str "text" 789),(.str "word" 790),(.str "known" 791)] 0),#[]⟩)::
(nat_lit 234,⟨(.type "tuple"),none,(.seq #[] 0),#[]⟩)::
(nat_lit 236,⟨(.type "code"),none,(.fields #[(.str "_law_ask" 786),(.str "_law_ask" 787),(.str "/claim/cut.py" 788),(.int 245 0),(.int 3 0),(.int 0 0),(.int 0 0),(.int 3 0),(.ref 231),(.bool true),(.int 276 0),(.ref 232),.none,(.ref 233),(.ref 234),(.ref 235),(.int 792 0),(.int 245 0),(.str "/claim/cut.py" 793)]),#[]⟩)::
(nat_lit 237,⟨(.type "function"),none,(.func ⟨"_law_ask","_law_ask",⟨[],[⟨"text",none,⟨245,13,245,17⟩⟩,⟨"word",none,⟨245,19,245,23⟩⟩,⟨"known",none,⟨245,25,245,30⟩⟩],none,[],[],none,[]⟩,(.stmts (bodyA 67)),⟨.function,[("text",.local),("word",.local),("known",.local),("_ellipsis_match",.globalImplicit)],false,false,[]⟩,3,[],.none,.none,.none,(.str "law_uk0025_01" 733),none,(.ref 236),.none,0⟩),#[]⟩)::
(nat_lit 238,⟨(.type "tuple"),none,(.seq #[] 0),#[]⟩)::
(nat_lit 240,⟨(.type "tuple"),none,(.seq #[(.str "text" 798),(.str "word" 799),(.str "known" 800),(.str "answer" 801),(.str "asked" 802)] 0),#[]⟩)::
(nat_lit 241,⟨(.type "tuple"),none,(.seq #[] 0),#[]⟩)::
(nat_lit 243,⟨(.type "code"),none,(.fields #[(.str "_law_turned" 795),(.str "_law_turned" 796),(.str "/claim/cut.py" 797),(.int 249 0),(.int 5 0),(.int 0 0),(.int 0 0),(.int 3 0),(.ref 238),(.bool true),(.int 276 0),(.ref 239),.none,(.ref 240),(.ref 241),(.ref 242),(.int 803 0),(.int 249 0),(.str "/claim/cut.py" 804)]),#[]⟩)::
(nat_lit 244,⟨(.type "function"),none,(.func ⟨"_law_turned","_law_turned",⟨[],[⟨"text",none,⟨249,16,249,20⟩⟩,⟨"word",none,⟨249,22,249,26⟩⟩,⟨"known",none,⟨249,28,249,33⟩⟩,⟨"answer",none,⟨249,35,249,41⟩⟩,⟨"asked",none,⟨249,43,249,48⟩⟩],none,[],[],none,[]⟩,(.stmts (bodyA 68)),⟨.function,[("text",.local),("word",.local),("known",.local),("answer",.local),("asked",.local),("_law_ask",.globalImplicit),("len",.globalImplicit)],false,false,[]⟩,3,[],.none,.none,.none,(.str "law_uk0025_01" 733),none,(.ref 243),.none,0⟩),#[]⟩)::
(nat_lit 245,⟨(.type "tuple"),none,(.seq #[] 0),#[]⟩)::
(nat_lit 247,⟨(.type "tuple"),none,(.seq #[(.str "text" 809),(.str "mixed" 810),(.str "known" 811),(.str "answer" 812),(.str "asked" 813)] 0),#[]⟩)::
(nat_lit 248,⟨(.type "tuple"),none,(.seq #[(.str "text" 814),(.str "known" 815),(.str "answer" 816),(.str "asked" 817)] 0),#[]⟩)::
(nat_lit 250,⟨(.type "code"),none,(.fields #[(.str "_law_told" 806),(.str "_law_told" 807),(.str "/claim/cut.py" 808),(.int 252 0),(.int 5 0),(.int 0 0),(.int 0 0),(.int 3 0),(.ref 245),(.bool true),(.int 276 0),(.ref 246),.none,(.ref 247),(.ref 248),(.ref 249),(.int 818 0),(.int 252 0),(.str "/claim/cut.py" 819)]),#[]⟩)::
(nat_lit 251,⟨(.type "function"),none,(.func ⟨"_law_told","_law_told",⟨[],[⟨"text",none,⟨252,14,252,18⟩⟩,⟨"mixed",none,⟨252,20,252,25⟩⟩,⟨"known",none,⟨252,27,252,32⟩⟩,⟨"answer",none,⟨252,34,252,40⟩⟩,⟨"asked",none,⟨252,42,252,47⟩⟩],none,[],[],none,[]⟩,(.stmts (bodyA 69)),⟨.function,[("text",.cell),("mixed",.local),("known",.cell),("answer",.cell),("asked",.cell),("bisect_left",.globalImplicit),("len",.globalImplicit)],false,false,[]⟩,3,[],.none,.none,.none,(.str "law_uk0025_01" 733),none,(.ref 250),.none,0⟩),#[]⟩)::
(nat_lit 252,⟨(.type "tuple"),none,(.seq #[] 0),#[]⟩)::
(nat_lit 255,⟨(.type "code"),none,(.fields #[(.str "_law_spelled" 821),(.str "_law_spelled" 822),(.str "/claim/cut.py" 823),(.int 254 0),(.int 2 0),(.int 0 0),(.int 0 0),(.int 3 0),(.ref 252),(.bool true),(.int 276 0),(.ref 253),.none,.none,.none,(.ref 254),(.int 824 0),(.int 254 0),(.str "/claim/cut.py" 825)]),#[]⟩)::
(nat_lit 256,⟨(.type "function"),none,(.func ⟨"_law_spelled","_law_spelled",⟨[],[⟨"answers",none,⟨254,17,254,24⟩⟩,⟨"word",none,⟨254,26,254,30⟩⟩],none,[],[],none,[]⟩,(.stmts (bodyA 70)),⟨.function,[("answers",.local),("word",.local),("row",.local),("len",.globalImplicit)],false,false,[("fast",(.str "answers")),("fast",(.str "word")),("fast",(.str "one")),("fast",(.str "row"))]⟩,3,[],.none,.none,.none,(.str "law_uk0025_01" 733),none,(.ref 255),.none,0⟩),#[]⟩)::
(nat_lit 257,⟨(.type "tuple"),none,(.seq #[] 0),#[]⟩)::
(nat_lit 260,⟨(.type "code"),none,(.fields #[(.str "_law_table" 827),(.str "_law_table" 828),(.str "/claim/cut.py" 829),(.int 257 0),(.int 4 0),(.int 0 0),(.int 0 0),(.int 3 0),(.ref 257),(.bool true),(.int 276 0),(.ref 258),.none,.none,.none,(.ref 259),(.int 830 0),(.int 257 0),(.str "/claim/cut.py" 831)]),#[]⟩)::
(nat_lit 261,⟨(.type "function"),none,(.func ⟨"_law_table","_law_table",⟨[],[⟨"text",none,⟨257,15,257,19⟩⟩,⟨"signs",none,⟨257,21,257,26⟩⟩,⟨"ends",none,⟨257,28,257,32⟩⟩,⟨"known",none,⟨257,34,257,39⟩⟩],none,[],[],none,[]⟩,(.stmts (bodyA 71)),⟨.function,[("text",.cell),("signs",.local),("ends",.local),("known",.cell),("book",.local),("row",.local),("words",.local),("ways",.local),("k",.local),("sign",.local),("word",.cell),("told",.local),("Headers",.globalImplicit),("_law_spelled",.globalImplicit),("len",.globalImplicit)],false,false,[("fast",(.str "text")),("fast",(.str "signs")),("fast",(.str "ends")),("fast",(.str "known")),("fast",(.str "book")),("fast",(.str "one")),("fast",(.str "row")),("fast",(.str "words")),("fast",(.str "ways")),("fast",(.str "k")),("fast",(.str "sign")),("fast",(.str "word")),("fast",(.str "told"))]⟩,3,[],.none,.none,.none,(.str "law_uk0025_01" 733),none,(.ref 260),.none,0⟩),#[]⟩)::
(nat_lit 262,⟨(.type "tuple"),none,(.seq #[] 0),#[]⟩)::
(nat_lit 264,⟨(.type "tuple"),none,(.seq #[(.str "yes" 836),(.str "ways" 837),(.str "own" 838),(.str "steps" 839),(.str "signs" 840),(.str "pairs" 841),(.str "roads" 842),(.str "k" 843),(.str "j" 844),(.str "pair" 845)] 0),#[]⟩)::
(nat_lit 265,⟨(.type "tuple"),none,(.seq #[] 0),#[]⟩)::
(nat_lit 267,⟨(.type "code"),none,(.fields #[(.str "_law_unlike" 833),(.str "_law_unlike" 834),(.str "/claim/cut.py" 835),(.int 273 0),(.int 5 0),(.int 0 0),(.int 0 0),(.int 3 0),(.ref 262),(.bool true),(.int 276 0),(.ref 263),.none,(.ref 264),(.ref 265),(.ref 266),(.int 846 0),(.int 273 0),(.str "/claim/cut.py" 847)]),#[]⟩)::
(nat_lit 268,⟨(.type "function"),none,(.func ⟨"_law_unlike","_law_unlike",⟨[],[⟨"yes",none,⟨273,16,273,19⟩⟩,⟨"ways",none,⟨273,21,273,25⟩⟩,⟨"own",none,⟨273,27,273,30⟩⟩,⟨"steps",none,⟨273,32,273,37⟩⟩,⟨"signs",none,⟨273,39,273,44⟩⟩],none,[],[],none,[]⟩,(.stmts (bodyA 72)),⟨.function,[("yes",.local),("ways",.local),("own",.local),("steps",.local),("signs",.local),("pairs",.local),("roads",.local),("k",.local),("j",.local),("pair",.local),("len",.globalImplicit),("range",.globalImplicit)],false,false,[]⟩,3,[],.none,.none,.none,(.str "law_uk0025_01" 733),none,(.ref 267),.none,0⟩),#[]⟩)::
(nat_lit 269,⟨(.type "tuple"),none,(.seq #[] 0),#[]⟩)::
(nat_lit 272,⟨(.type "code"),none,(.fields #[(.str "law" 849),(.str "law" 850),(.str "/claim/cut.py" 851),(.int 287 0),(.int 1 0),(.int 0 0),(.int 0 0),(.int 3 0),(.ref 269),(.bool true),(.int 276 0),(.ref 270),.none,.none,.none,(.ref 271),(.int 852 0),(.int 287 0),(.str "/claim/cut.py" 853)]),#[]⟩)::
(nat_lit 273,⟨(.type "function"),none,(.func ⟨"law","law",⟨[],[⟨"script",none,⟨287,8,287,14⟩⟩],none,[],[],none,[]⟩,(.stmts (bodyA 73)),⟨.function,(("script",.local)::("text",.cell)::("signs",.cell)::("drawn",.local)::("pieces",.local)::("letters",.local)::("free",.local)::("due",.local)::("own",.cell)::("steps",.cell)::("piece",.local)::("known",.cell)::("ends",.local)::("turn",.local)::("book",.local)::("words",.cell)::("ways",.local)::("word",.cell)::("yes",.local)::("wrong",.cell)::("answer",.cell)::("road",.cell)::("mixed",.cell)::("last",.cell)::("asked",.local)::("place",.local)::("told",.local)::("answers",.local)::("kinds",.local)::("_law_draw",.globalImplicit)::("_law_cut",.globalImplicit)::("_law_places",.globalImplicit)::("_law_least",.globalImplicit)::("len",.globalImplicit)::("EXACT_TOKEN_TYPES",.globalImplicit)::("range",.globalImplicit)::("_law_table",.globalImplicit)::("_law_unlike",.globalImplicit)::("_law_way",.globalImplicit)::("_law_ask",.globalImplicit)::("_law_told",.globalImplicit)::("_law_spelled",.globalImplicit)::[]),false,false,(("fast",(.str "script"))::("fast",(.str "text"))::("fast",(.str "signs"))::("fast",(.str "drawn"))::("fast",(.str "pieces"))::("fast",(.str "letters"))::("fast",(.str "free"))::("fast",(.str "due"))::("fast",(.str "own"))::("fast",(.str "steps"))::("fast",(.str "piece"))::("fast",(.str "known"))::("fast",(.str "ends"))::("fast",(.str "turn"))::("fast",(.str "book"))::("fast",(.str "words"))::("fast",(.str "ways"))::("fast",(.str "word"))::("fast",(.str "yes"))::("fast",(.str "wrong"))::("fast",(.str "answer"))::("fast",(.str "road"))::("fast",(.str "k"))::("fast",(.str "mixed"))::("fast",(.str "last"))::("fast",(.str "asked"))::("fast",(.str "place"))::("fast",(.str "one"))::("fast",(.str "told"))::("fast",(.str "answers"))::("fast",(.str "kinds"))::[])⟩,3,[],.none,.none,.none,(.str "law_uk0025_01" 733),none,(.ref 272),.none,0⟩),#[]⟩)::[]
theorem fillF : (HK = HK ∧ PySem.Challenge.rw_uk0025_01 = PySem.Challenge.rw_uk0025_01) := by
 k_fill
 exact ⟨rfl, rfl⟩
local macro_rules | `(tactic| walk_at "mem") => `(tactic| first | exact List.Mem.head _ | (refine' List.Mem.tail _ ?x; (case x => walk_at "mem")) | (refine' List.mem_append_right _ ?x; (case x => walk_at "mem")))
local macro_rules | `(tactic| walk_at "up") => `(tactic| first | exact Up.head | (refine' Up.tail ?x; (case x => walk_at "up")))
local macro_rules | `(tactic| walk_at "get") => `(tactic| first | with_reducible exact GetAt.head | (refine' GetAt.tail ?x; (case x => walk_at "get")))
local macro_rules | `(tactic| walk_at "setv") => `(tactic| first | with_reducible exact SetAt.head | (refine' SetAt.tail ?x; (case x => walk_at "setv")))
local macro_rules | `(tactic| walk_at "del") => `(tactic| first | exact Del.head | (refine' Del.tail ?x; (case x => walk_at "del")))
local macro_rules | `(tactic| walk_at "take") => `(tactic| first | exact Take.nil | (refine' Take.cons ?d ?e; (case d => walk_at "del"); (case e => walk_at "take")))
local macro_rules | `(tactic| walk_at "sz") => `(tactic| (show _ ≤ 16777216; (try simp only [List.length_cons, List.length_nil, List.length_append, enc_len]); omega))
local macro_rules | `(tactic| walk_at "nm") => `(tactic| (refine' W.name (W.ldLocal rfl rfl ?a ?b ?_) ?c; (case a => walk_at "mem"); (case b => walk_at "get"); (case c => decide +kernel)))
local macro_rules | `(tactic| walk_at "st") => `(tactic| (refine' W.stLocal rfl rfl ?a ?b ?_; (case a => walk_at "up"); (case b => walk_at "setv")))
local macro_rules | `(tactic| walk_at "gl") => `(tactic| (refine' W.glob ‹Gd _ _› ?a rfl rfl rfl ?c ?_; (case a => k_is); (case c => decide +kernel)))
local macro_rules | `(tactic| walk_at "b_len") => `(tactic| (refine' W.blt (v := .builtin "len") ‹Gd _ _› ?a ?b ?d rfl rfl rfl rfl ?c ?_; (case a => k_is); (case b => decide +kernel); (case c => decide +kernel); (case d => decide +kernel)))
local macro_rules | `(tactic| walk_at "b_sum") => `(tactic| (refine' W.blt (v := .builtin "sum") ‹Gd _ _› ?a ?b ?d rfl rfl rfl rfl ?c ?_; (case a => k_is); (case b => decide +kernel); (case c => decide +kernel); (case d => decide +kernel)))
local macro_rules | `(tactic| walk_at "b_max") => `(tactic| (refine' W.blt (v := .builtin "max") ‹Gd _ _› ?a ?b ?d rfl rfl rfl rfl ?c ?_; (case a => k_is); (case b => decide +kernel); (case c => decide +kernel); (case d => decide +kernel)))
local macro_rules | `(tactic| walk_at "b_range") => `(tactic| (refine' W.blt (v := .type "range") ‹Gd _ _› ?a ?b ?d rfl rfl rfl rfl ?c ?_; (case a => k_is); (case b => decide +kernel); (case c => decide +kernel); (case d => decide +kernel)))
local macro_rules | `(tactic| walk_at "b_type") => `(tactic| (refine' W.blt (v := .type "type") ‹Gd _ _› ?a ?b ?d rfl rfl rfl rfl ?c ?_; (case a => k_is); (case b => decide +kernel); (case c => decide +kernel); (case d => decide +kernel)))
local macro_rules | `(tactic| walk_at "fr") => `(tactic| (refine' W.name (W.ldFree rfl rfl rfl ?a ?_) ?c; (case a => walk_at "mem"); (case c => decide +kernel)))
local macro_rules | `(tactic| walk_at "ce") => `(tactic| (refine' W.name (W.ldCell rfl rfl rfl ?a ?_) ?c; (case a => walk_at "mem"); (case c => decide +kernel)))
local macro_rules | `(tactic| walk_at "b_str") => `(tactic| (refine' W.blt (v := .type "str") ‹Gd _ _› ?a ?b ?d rfl rfl rfl rfl ?c ?_; (case a => k_is); (case b => decide +kernel); (case c => decide +kernel); (case d => decide +kernel)))
local macro_rules | `(tactic| walk_at "b_list") => `(tactic| (refine' W.blt (v := .type "list") ‹Gd _ _› ?a ?b ?d rfl rfl rfl rfl ?c ?_; (case a => k_is); (case b => decide +kernel); (case c => decide +kernel); (case d => decide +kernel)))
local macro_rules | `(tactic| walk_at "sc") => `(tactic| (refine' W.stCell rfl rfl rfl ?a ?_; (case a => walk_at "up")))
local macro_rules | `(tactic| walk_at "tkk") => `(tactic| first | with_reducible exact Take.self _ | with_reducible exact Take.prefix _ _ | with_reducible exact Take.suffix _ _ | with_reducible exact Take.mid _ _ _ | with_reducible exact Take.nil | ((with_reducible refine' Take.cons ?d ?e); (case d => walk_at "del"); (case e => walk_at "tkk")) | ((with_reducible refine' Take.skip ?x); (case x => walk_at "tkk")))
local macro_rules | `(tactic| walk_at "tk") => `(tactic| ((try simp only [List.cons_append, List.nil_append]); walk_at "tkk"))
theorem way_ok {c : Cx} (T : Gd c (HK c.w.params)) {A : Around} (r : Room A 2) {ch : Nat} (hch : ch ≠ 46) {word : Wd} {ways : List Nat} {tw ts : Tok} {wa : Addr} {wvs : List Value} (hi : NatsAre wvs ways) (res : List Nat) (hr : way word ways = some res)
  (h1 : word.length ≤ 1000) (h2 : ways.length ≤ 1000) (h3 : ∀ n ∈ ways, n ≤ 1000) :
  W c A (call (.ref 230) [.str (enc ch word) tw, .str (enc ch [false, true]) ts, .ref wa]) [(wa, Ls wvs)] (fun v l' => ∃ ra rvs, v = .ref ra ∧ NatsAre rvs res ∧ l' = [(ra, Ls rvs), (wa, Ls wvs)]) := by
 refine W.close ?_
 refine W.defP (ps := ["word", "signs", "ways"]) (os := ["road", "sign"]) T r (by k_is) (by k_is) (by exact rfl) (by exact rfl) rfl (by decide +kernel) (by decide +kernel) (by decide +kernel) ?_
 intro L
 simp only [List.cons_append, List.nil_append, List.map_cons, List.map_nil]
 refine W.step (W.set (W.mkList (W.spCons (W.kInt fun t => (W.spNil ?_)))))
 refine ⟨by walk_at "sz", fun ra => ?_⟩
 walk_at "st"
 refine ⟨rfl, ?_⟩
 refine W.step (W.for (n := word.length) (P := fun i v => ∃ b u, word[i]? = some b ∧ v = .str (enc ch [b]) u) (need := [])
  (fun i l => ∃ road rvs sv, NatsAre rvs road ∧ (word.take i).foldlM (wayStep ways) [0] = some road ∧ road.length = i + 1 ∧ (∀ n ∈ road, n ≤ 1000) ∧
   l = [(ra, Ls rvs), (L, NP ["word", "signs", "ways", "road", "sign"] [some (.str (enc ch word) tw), some (.str (enc ch [false, true]) ts), some (.ref wa), some (.ref ra), sv]), (wa, Ls wvs)]) r.hh ?_ ?_ ?_ ?_)
 ·walk_at "nm"
  refine ⟨Itr.enc, [0], [.int (0 : Nat) t], none, NatsAre.snoc NatsAre.nil, rfl, rfl, by simp, rfl⟩
 ·intro _ _ _ _ h; cases h
 ·rintro i v l hi' hv ⟨road, rvs, sv, hn, hf, hlen, hle, rfl⟩
  obtain ⟨b, u, hb, rfl⟩ := hv
  obtain ⟨road', hs, hf'⟩ := foldlM_at hr hb hf
  refine W.asName ?_
  walk_at "st"
  refine W.cons (W.expr (W.meth F.plainAttrs_list slot_list_append F.type_list_append ?_))
  walk_at "nm"
  refine ⟨Ty.ls (by walk_at "mem"), W.spCons (W.subs slot_list_getitem.lookup ?_)⟩
  walk_at "nm"
  refine W.binop (W.binop (W.kInt fun _ => (W.subs slot_list_getitem.lookup ?_)))
  walk_at "nm"
  refine W.unary (W.kInt fun _ => W.ineg fun _ => ?_)
  refine ⟨Ty.ls (by walk_at "mem"), ?_⟩
  obtain ⟨t1, e1⟩ := hn.last (by omega)
  have hl := hn.1
  refine W.lsItemN (by walk_at "mem") (by decide) (by omega) e1 (by walk_at "sz") ?_
  refine W.imul (IntMulOk.of_left (by decide +kernel)) fun _ => ?_
  refine W.meth F.plainAttrs_str F.slot_str_index F.type_str_index ?_
  walk_at "nm"
  refine ⟨Ty.s, W.spCons ?_⟩
  walk_at "nm"
  refine W.spNil (W.index hch fun _ => W.iadd fun _ => ⟨Ty.ls (by walk_at "mem"), ?_⟩)
  obtain ⟨q, hq, rfl⟩ : ∃ q, ways[2 * road.getLastD 0 + b.toNat]? = some q ∧ road' = road ++ [q] := by
   unfold wayStep at hs
   cases e : ways[2 * road.getLastD 0 + b.toNat]? with
   | none => rw [e] at hs; cases hs
   | some q => rw [e] at hs; cases hs; exact ⟨q, rfl, rfl⟩
  obtain ⟨t2, e2⟩ := hi.get hq
  have hl2 := hi.1
  refine W.lsItem (by walk_at "mem") (by omega) (v := .int q t2) (by rw [← e2]; congr 1) (by walk_at "sz") ?_
  refine W.spNil (W.append (by walk_at "up") (by walk_at "sz") ?_)
  refine W.nil ⟨_, _, _, hn.snoc, hf', by simp [hlen], ?_, rfl⟩
  intro n hn'
  rcases List.mem_append.mp hn' with h | h
  ·exact hle n h
  ·simp at h; subst h; exact h3 _ (List.mem_of_getElem? hq)
 ·rintro l ⟨road, rvs, sv, hn, hf, hlen, hle, rfl⟩
  refine ⟨rfl, ?_⟩
  refine W.cons (W.ret ?_)
  walk_at "nm"
  refine ⟨_, _, by walk_at "take", ra, rvs, rfl, ?_, rfl⟩
  rw [List.take_length] at hf
  have : road = res := Option.some.inj (hf.symm.trans hr)
  exact this ▸ hn
noncomputable def KnOk (ch : Nat) (t : Wd) (kvs : List (Str × Value)) : Prop := ∀ p ∈ kvs, ∃ w, p.1 = enc ch w ∧ p.2 = .bool (ellB t w)
theorem KnOk.at {ch : Nat} (hch : ch ≠ 46) {t w : Wd} {kvs} {v} (h : KnOk ch t kvs) (e : valueAt kvs (enc ch w) = some v) : v = .bool (ellB t w) := by
 unfold valueAt at e
 obtain ⟨p, hp, rfl⟩ := Option.map_eq_some_iff.mp e
 have h1 := List.mem_of_find?_eq_some hp
 have h2 := List.find?_some hp
 obtain ⟨w', e1, e2⟩ := h p h1
 have : w' = w := enc_inj hch (by rw [← e1]; simpa using h2)
 rw [e2, this]
theorem stored_new {kvs : List (Str × Value)} {k v} (h : valueAt kvs k = none) : stored kvs k v = kvs ++ [(k, v)] := by
 unfold stored
 rw [if_neg]
 intro ha
 obtain ⟨p, hp, e⟩ := List.any_eq_true.mp ha
 unfold valueAt at h
 rw [Option.map_eq_none_iff, List.find?_eq_none] at h
 exact h p hp e
theorem valueAt_new {kvs : List (Str × Value)} {k v} (h : valueAt kvs k = none) : valueAt (kvs ++ [(k, v)]) k = some v := by
 unfold valueAt at h ⊢
 rw [Option.map_eq_none_iff] at h
 rw [List.find?_append, h]
 simp
noncomputable def EllOk (c : Cx) : Prop := ∀ (A : Around) (ch : Nat) (want got : Wd) (t u : Tok), Room A 3 → ch ≠ 46 → want.length ≤ 1000 → got.length ≤ 1000 →
 W c A (call (.ref 45) [.str (enc ch want) t, .str (enc ch got) u]) [] (fun v l' => v = .bool (ellB want got) ∧ l' = [])
theorem ask_ok {c : Cx} (T : Gd c (HK c.w.params)) (he : EllOk c) {A : Around} (r : Room A 4) {ch : Nat} (hch : ch ≠ 46) {text word : Wd} {t u : Tok} {ka : Addr} {kvs : List (Str × Value)}
  (h1 : text.length ≤ 1000) (h2 : word.length ≤ 1000) (h3 : kvs.length ≤ 1000000) (hk : KnOk ch text kvs) :
  W c A (call (.ref 237) [.str (enc ch text) t, .str (enc ch word) u, .ref ka]) [(ka, Dk c kvs)] (fun v l' => ∃ kvs', v = .bool (ellB text word) ∧ KnOk ch text kvs' ∧ kvs'.length ≤ kvs.length + 1 ∧ l' = [(ka, Dk c kvs')]) := by
 refine W.close ?_
 refine W.defP (ps := ["text", "word", "known"]) (os := []) T r (by k_is) (by k_is) (by exact rfl) (by exact rfl) rfl (by decide +kernel) (by decide +kernel) (by decide +kernel) ?_
 intro L
 simp only [List.cons_append, List.nil_append, List.map_cons, List.map_nil]
 have tail : ∀ (kvs' : List (Str × Value)), valueAt kvs' (enc ch word) = some (.bool (ellB text word)) → KnOk ch text kvs' → kvs'.length ≤ kvs.length + 1 → ∀ env : Env, True := fun _ _ _ _ _ => trivial
 refine W.cons (W.cond (W.testCompare ?_))
 walk_at "nm"; walk_at "nm"
 refine W.notInDk (by walk_at "mem") (W.truthyBool ?_)
 cases hv : valueAt kvs (enc ch word) with
 | some v =>
  have := hk.at hch hv
  subst this
  refine W.nil ?_
  refine W.cons (W.ret (W.subs slot_dict_getitem.lookup ?_))
  walk_at "nm"; walk_at "nm"
  refine ⟨Ty.dk (by walk_at "mem"), W.getDk (by walk_at "mem") hv ?_⟩
  exact ⟨_, _, by walk_at "take", kvs, rfl, hk, by (clear h3 h2 h1 hch; omega), rfl⟩
 | none =>
  refine W.step (W.setSub (W.callK T (fv := .ref 45) (by k_is) ?_))
  walk_at "gl"
  refine ⟨rfl, W.spCons ?_⟩
  walk_at "nm"
  refine W.spCons ?_
  walk_at "nm"
  refine W.spNil ?_
  refine W.use (he _ ch text word t u r.deeper hch h1 h2) Take.nil ?_
  rintro v l' ⟨rfl, rfl⟩
  walk_at "nm"; walk_at "nm"
  refine W.setDk (by walk_at "up") (by walk_at "sz") ⟨rfl, W.nil ?_⟩
  rw [stored_new hv]
  refine W.cons (W.ret (W.subs slot_dict_getitem.lookup ?_))
  walk_at "nm"; walk_at "nm"
  refine ⟨Ty.dk (by walk_at "mem"), W.getDk (by walk_at "mem") (valueAt_new hv) ?_⟩
  refine ⟨_, _, by walk_at "take", _, rfl, ?_, by simp, rfl⟩
  intro p hp
  rcases List.mem_append.mp hp with hp | hp
  ·exact hk p hp
  ·simp at hp; subst hp; exact ⟨word, rfl, rfl⟩
theorem turned_ok {c : Cx} (T : Gd c (HK c.w.params)) (he : EllOk c) {A : Around} (r : Room A 5) {ch : Nat} (hch : ch ≠ 46) {text word : Wd} {t u : Tok} {ka aa : Addr} {kvs : List (Str × Value)} {avs : List Value} {answer : Bool}
  (h1 : text.length ≤ 1000) (h2 : word.length ≤ 1000) (h3 : kvs.length ≤ 1000000) (h4 : avs.length ≤ 1000) (hk : KnOk ch text kvs) :
  W c A (call (.ref 244) [.str (enc ch text) t, .str (enc ch word) u, .ref ka, .bool answer, .ref aa]) [(ka, Dk c kvs), (aa, Ls avs)] (fun v l' => ∃ kvs' n t', v = .int n t' ∧ ((n < 2) ↔ (ellB text word = answer)) ∧ KnOk ch text kvs' ∧ kvs'.length ≤ kvs.length + 1 ∧ l' = [(ka, Dk c kvs'), (aa, Ls (avs ++ [.str (enc ch word) u]))]) := by
 refine W.close ?_
 refine W.defP (ps := ["text", "word", "known", "answer", "asked"]) (os := []) T r (by k_is) (by k_is) (by exact rfl) (by exact rfl) rfl (by decide +kernel) (by decide +kernel) (by decide +kernel) ?_
 intro L
 simp only [List.cons_append, List.nil_append, List.map_cons, List.map_nil]
 refine W.cons (W.expr (W.meth F.plainAttrs_list slot_list_append F.type_list_append ?_))
 walk_at "nm"
 refine ⟨Ty.ls (by walk_at "mem"), W.spCons ?_⟩
 walk_at "nm"
 refine W.spNil (W.append (by walk_at "up") (by walk_at "sz") ?_)
 refine W.cons (W.ret (W.ifExp (W.testCompare (W.callK T (fv := .ref 237) (by k_is) ?_))))
 walk_at "gl"
 refine ⟨rfl, W.spCons ?_⟩
 walk_at "nm"
 refine W.spCons ?_
 walk_at "nm"
 refine W.spCons ?_
 walk_at "nm"
 refine W.spNil ?_
 refine W.use (ask_ok T he r.deeper hch h1 h2 h3 hk) (by walk_at "take") ?_
 rintro v l' ⟨kvs', rfl, hk', hl', rfl⟩
 simp only [List.cons_append, List.nil_append]
 walk_at "nm"
 refine W.beq (W.truthyBool ?_)
 by_cases hq : ellB text word = answer
 ·rw [show (ellB text word == answer) = true from by rw [hq]; simp]
  refine W.kInt fun t' => ?_
  exact ⟨_, _, by walk_at "take", kvs', 1, t', rfl, by simp [hq], hk', hl', rfl⟩
 ·rw [show (ellB text word == answer) = false from beq_eq_false_iff_ne.mpr hq]
  refine W.binop (W.kInt fun _ => W.binop (W.callB (id := "len") ?_))
  walk_at "b_len"
  refine ⟨rfl, W.spCons ?_⟩
  walk_at "nm"
  refine W.spNil (W.len (by walk_at "sz") fun _ => W.kInt fun _ => W.imod (by decide) fun _ => W.iadd fun t' => ?_)
  refine ⟨_, _, by walk_at "take", kvs', _, t', rfl, ?_, hk', hl', rfl⟩
  have := Int.fmod_nonneg_of_pos ((enc ch word).length : Int) (b := 2) (by decide)
  constructor
  ·intro; (clear hl' h4 h3 h2 h1 hch; omega)
  ·intro e; exact absurd e hq
theorem spelled_ok {c : Cx} (T : Gd c (HK c.w.params)) {A : Around} (r : Room A 3) {ch : Nat} {word : Wd} {u : Tok} {aa : Addr} {as : List Bool} (h1 : word.length ≤ 1000) (h2 : as.length ≤ 1000) :
  W c A (call (.ref 256) [.ref aa, .str (enc ch word) u]) [(aa, Ls (as.map .bool))] (fun v l' => ∃ t', v = .str (rw' (word.length % 2 == 1) as) t' ∧ l' = [(aa, Ls (as.map .bool))]) := by
 refine W.close ?_
 refine W.defP (ps := ["answers", "word"]) (os := ["row"]) T r (by k_is) (by k_is) (by exact rfl) (by exact rfl) rfl (by decide +kernel) (by decide +kernel) (by decide +kernel) ?_
 intro L
 simp only [List.cons_append, List.nil_append, List.map_cons, List.map_nil]
 refine W.step (W.set (W.meth F.plainAttrs_str F.slot_str_join F.type_str_join (W.kStr fun t0 => ⟨Ty.s, W.spCons ?_⟩)))
 refine W.comp (n := as.length) (P := fun i v => (as.map Value.bool)[i]? = some v) (need := [(aa, Ls (as.map .bool))])
  (fun i ys l => (∃ k : List (Str × Tok), ys = strValues k ∧ k.map (·.1) = (as.take i).map fun b => (⟨#[yn false b]⟩ : Str)) ∧ l = [(L, NP ["answers", "word", "row"] [some (.ref aa), some (.str (enc ch word) u), none]), (aa, Ls (as.map .bool))]) r.hh
  (by exact rfl) (by decide) rfl (by decide) rfl (by walk_at "sz") ?_ ?_ ?_ ?_
 ·walk_at "nm"
  refine ⟨?_, ⟨[], rfl, rfl⟩, rfl⟩
  have := Itr.ls (c := c) (l := [(L, NP ["answers", "word", "row"] [some (.ref aa), some (.str (enc ch word) u), none]), (aa, Ls (as.map .bool))]) (a := aa) (vs := as.map .bool) (by walk_at "mem")
  simpa using this
 ·rintro i ys l ⟨_, rfl⟩ p hp
  simp at hp; subst hp; walk_at "mem"
 ·rintro C i v ys l hi hv ⟨⟨k, rfl, hk⟩, rfl⟩ hlen
  rw [List.getElem?_map] at hv
  obtain ⟨b, hb, rfl⟩ := Option.map_eq_some_iff.mp hv
  refine W.testsNil ?_
  rw [if_pos rfl]
  refine W.ifExp (W.testValue ?_)
  walk_at "nm"
  refine W.truthyBool ?_
  have ht : as.take (i + 1) = as.take i ++ [b] := by rw [List.take_add_one, hb]; rfl
  cases b
  ·refine W.kStr fun t1 => ⟨_, _, rfl, ⟨k ++ [(⟨#[yn false false]⟩, t1)], ?_, ?_⟩, rfl⟩
   ·simp [strValues]; exact rfl
   ·rw [ht]; simp [hk]
  ·refine W.kStr fun t1 => ⟨_, _, rfl, ⟨k ++ [(⟨#[yn false true]⟩, t1)], ?_, ?_⟩, rfl⟩
   ·simp [strValues]; exact rfl
   ·rw [ht]; simp [hk]
 ·rintro D ys l ⟨⟨k, rfl, hk⟩, rfl⟩ hlen
  rw [List.take_length] at hk
  refine W.spNil (W.join (by walk_at "mem") hk ?_ fun t1 => ?_)
  ·have hb : ∀ y ∈ as.map (fun b => (⟨#[yn false b]⟩ : Str)), y.length ≤ 1 := by
    intro y hy
    obtain ⟨b, _, e⟩ := List.mem_map.mp hy
    rw [← e]; exact Nat.le_refl _
   unfold JoinOk
   rw [StrLaws.joinFits hb (by rw [show (Str.ofString "").length = 0 from by decide +kernel, List.length_map]; (clear hlen hk h1; omega))]
   rfl
  ·rw [show Txt.join (Str.ofString "") (as.map fun b => (⟨#[yn false b]⟩ : Str)) = rw' false as from join_signs (yn false) as]
   walk_at "st"
   refine ⟨rfl, W.cons (W.ret (W.ifExp (W.testCompare (W.binop (W.callB (id := "len") ?_)))))⟩
   walk_at "b_len"
   refine ⟨rfl, W.spCons ?_⟩
   walk_at "nm"
   refine W.spNil (W.len (by walk_at "sz") fun _ => W.kInt fun _ => W.imod (by decide) fun _ => W.kInt fun _ => W.ieq (W.truthyBool ?_))
   have hm : (((enc ch word).length : Int).fmod 2 == 1) = (word.length % 2 == 1) := by
    rw [enc_len, Int.fmod_eq_emod_of_nonneg _ (by decide)]
    rw [Bool.eq_iff_iff]; simp; (clear hlen hk h2 h1; omega)
   rw [hm]
   cases hq : (word.length % 2 == 1)
   ·simp only [Bool.false_eq_true, if_false]
    walk_at "nm"
    exact ⟨_, _, by walk_at "take", t1, rfl, rfl⟩
   ·simp only [if_true]
    refine W.meth F.plainAttrs_str F.slot_str_upper F.type_str_upper ?_
    walk_at "nm"
    refine ⟨Ty.s, W.spNil (W.upper ?_ fun t2 => ?_)⟩
    ·rw [rw_len]; (clear hq hm hlen hk h1; omega)
    ·rw [upper_row]
     exact ⟨_, _, by walk_at "take", t2, rfl, rfl⟩
theorem splitB_le : ∀ (n : Nat) (acc r w : Wd), w ∈ splitB n acc r → w.length ≤ acc.length + r.length
 | 0, acc, r, w, h => by simp [splitB] at h; subst h; omega
 | n + 1, acc, [], w, h => by simp [splitB] at h; subst h; omega
 | n + 1, acc, a :: r, w, h => by
  by_cases hp : isPre D3 (a :: r) = true
  ·obtain ⟨rfl, r', rfl⟩ := (isPre3 a r).mp hp
   have h' : w ∈ acc :: splitB n [] r' := h
   rcases List.mem_cons.mp h' with rfl | h'
   ·omega
   ·have := splitB_le n [] r' w h'
    simp at this ⊢; omega
  ·rw [splitB_no hp] at h
   have := splitB_le n _ r w h
   simp at this ⊢; omega
theorem ell_ok : ∀ {c : Cx} (T : Gd c (HK c.w.params)), EllOk c := by
 walk_at "E1"; generalize z1 _ _ = c
 intro T
 refine' @E6 _ _ _ _ _ _ _ (by walk_at "ne") ?_; generalize (z6 _ _).1 = A; generalize (z6 _ _).2.1 = ch; generalize (z6 _ _).2.2.1 = want; generalize (z6 _ _).2.2.2.1 = got; generalize (z6 _ _).2.2.2.2.1 = t; generalize (z6 _ _).2.2.2.2.2 = u
 intro r hch h1 h2
 refine W.close ?_
 refine W.defP (ps := ["want", "got"]) (os := ["ws", "startpos", "endpos", "w"]) T r (by k_is) (by k_is) (by exact rfl) (by exact rfl) rfl (by decide +kernel) (by decide +kernel) (by decide +kernel) ?_
 walk_at "E1"; generalize z1 _ _ = L
 simp only [List.cons_append, List.nil_append, List.map_cons, List.map_nil]
 have hwl : (splitB (want.length + 1) [] want).length ≤ want.length + 2 := by
  have := congrArg List.length (split_enc hch want)
  rw [List.length_map] at this
  rw [← this]
  have h3 := occ_len (enc ch want) (enc ch D3)
  rw [enc_len] at h3
  unfold Txt.split
  split
  ·simp
  ·split
   ·simp
   ·simpa [enc_len] using h3
 have hcont := contains_enc hch want
 rw [ellB_eq]
 refine W.cons (W.cond (W.testCompare ?_))
 walk_at "gl"
 walk_at "nm"
 refine W.notInStr (W.truthyBool ?_)
 rw [show Txt.contains (enc ch want) (Str.ofString "...") = _ from hcont]
 by_cases hs : (splitB (want.length + 1) [] want).length ≤ 1
 ·simp only [hs, decide_true, Bool.not_true, Bool.not_false, if_true]
  refine W.cons (W.ret (W.compare ?_))
  walk_at "nm"; walk_at "nm"
  refine W.seq ?_
  rw [enc_beq hch]
  exact ⟨_, _, by walk_at "take", rfl, rfl⟩
 ·simp only [hs, decide_false, Bool.not_false, Bool.not_true, Bool.false_eq_true, if_false]
  refine W.nil ?_
  refine W.step (W.set (W.meth F.plainAttrs_str F.slot_str_split F.type_str_split ?_))
  walk_at "nm"
  refine ⟨Ty.s, W.spCons ?_⟩
  walk_at "gl"
  refine W.spNil (W.splitE hch (by (clear hs hcont hwl h2 hch; omega)) ?_)
  walk_at "E2"; generalize (z2 _ _).1 = wa; generalize (z2 _ _).2 = k
  intro hk
  have hall : ∀ w ∈ splitB (want.length + 1) [] want, w.length ≤ 1000 := fun w hw => by have := splitB_le _ _ _ _ hw; simp at this; (clear hk hs hcont hwl h2 hch; omega)
  generalize splitB (want.length + 1) [] want = ws at hwl hs hk hall
  have hta := TxtAre.ofK hk
  generalize strValues k = vs at hta
  walk_at "st"
  refine ⟨rfl, W.step (W.asrt (W.testCompare (W.callB (id := "len") ?_)))⟩
  walk_at "b_len"
  refine ⟨rfl, W.spCons ?_⟩
  walk_at "nm"
  have hl := hta.1
  refine W.spNil (W.len' (by walk_at "mem") (by walk_at "sz") ?_)
  walk_at "E1"; generalize z1 _ _ = zu
  refine W.kInt ?_
  walk_at "E1"; generalize z1 _ _ = zu
  refine W.ige (W.truthyBool ⟨by simp; (clear hwl hcont h2 h1 hch; omega), rfl, ?_⟩)
  refine W.step (W.setTupS (names := ["startpos", "endpos"]) r.hh (W.mkTuple (W.spCons (W.kInt ?_))))
  walk_at "E1"; generalize z1 _ _ = t1
  refine W.spCons (W.callB (id := "len") ?_)
  walk_at "b_len"
  refine ⟨rfl, W.spCons ?_⟩
  walk_at "nm"
  refine W.spNil (W.len (by walk_at "sz") ?_)
  walk_at "E1"; generalize z1 _ _ = t2
  refine W.spNil ⟨by walk_at "sz", ?_⟩
  walk_at "E1"; generalize z1 _ _ = ta
  refine ⟨ta, _, rfl, .head _, rfl, ?_⟩
  refine W.inOrderCons (W.bindName ?_)
  walk_at "st"
  refine W.inOrderCons (W.bindName ?_)
  walk_at "st"
  refine W.inOrderNil ⟨rfl, ?_⟩
  have NPe : ∀ (sv : Value) (pv ev : Value), True := fun _ _ _ => trivial
  refine W.sub (l' := [(L, NP ["want", "got", "ws", "startpos", "endpos", "w"] [some (.str (enc ch want) t), some (.str (enc ch got) u), some (.ref wa), some (.int (0 : Nat) t1), some (.int (got.length : Nat) t2), none]), (wa, Ls vs)]) ?_ (by rw [← enc_len ch got]; walk_at "take")
  have h0 : ws[0]? = some (ws.headD []) := by cases ws with | nil => simp at hs | cons a b => rfl
  refine O1 ?_ (hta.2 0 _ h0)
  walk_at "Y1"; generalize z1 _ _ = t3
  intro h0'
  refine W.step (W.set (W.subs slot_list_getitem.lookup ?_))
  walk_at "nm"
  refine W.kInt ?_
  walk_at "E1"; generalize z1 _ _ = zu
  refine ⟨Ty.ls (by walk_at "mem"), W.lsItem (by walk_at "mem") (by decide) h0' (by walk_at "sz") ?_⟩
  walk_at "st"
  refine ⟨rfl, ?_⟩
  have hd0 : (ws.headD []).length ≤ 1000 := hall _ (List.mem_of_getElem? h0)
  refine W.cut (fun l1 => ∃ p ws1 vs1 pv wv, ell1 got ws = ell2 got p ws1 ∧ TxtAre ch vs1 ws1 ∧ 0 < ws1.length ∧ ws1.length ≤ 1002 ∧ (∀ w ∈ ws1, w.length ≤ 1000) ∧ l1 = [(L, NP ["want", "got", "ws", "startpos", "endpos", "w"] [some (.str (enc ch want) t), some (.str (enc ch got) u), some (.ref wa), some (.int (p : Nat) pv), some (.int (got.length : Nat) t2), some wv]), (wa, Ls vs1)]) (W.cond (W.testValue ?_)) ?_
  ·walk_at "nm"
   refine W.truthyStr (by walk_at "sz") ?_
   rw [enc_len]
   by_cases hz : ws.headD [] = []
   ·rw [hz]
    simp only [List.length_nil, bne_self_eq_false, Bool.false_eq_true, if_false]
    refine W.nil ⟨0, ws, vs, t1, _, by unfold ell1; rw [if_pos hz], hta, by (clear hd0 h0' h0 hl hwl hcont h2 h1 hch; omega), by (clear hd0 h0' h0 hl hs hcont h2 hch; omega), hall, rfl⟩
   ·have hz' : ((ws.headD []).length != 0) = true := by simpa using hz
    rw [hz']
    simp only [if_true]
    refine W.cons (W.cond (W.testValue (W.meth F.plainAttrs_str F.slot_str_startswith F.type_str_startswith ?_)))
    walk_at "nm"
    refine ⟨Ty.s, W.spCons ?_⟩
    walk_at "nm"
    refine W.spNil (W.startswith (W.truthyBool ?_))
    rw [starts_enc hch]
    cases hp : isPre (ws.headD []) got
    ·simp only [Bool.false_eq_true, if_false]
     refine W.cons (W.ret (W.kBool ?_))
     refine ⟨_, _, by walk_at "take", ?_, rfl⟩
     unfold ell1; rw [if_neg hz, hp]; rfl
    ·simp only [if_true]
     refine W.step (W.set (W.callB (id := "len") ?_))
     walk_at "b_len"
     refine ⟨rfl, W.spCons ?_⟩
     walk_at "nm"
     refine W.spNil (W.len (by walk_at "sz") ?_)
     walk_at "E1"; generalize z1 _ _ = t4
     walk_at "st"
     refine ⟨rfl, W.step (W.delSub ?_)⟩
     walk_at "nm"
     refine W.kInt ?_
     walk_at "E1"; generalize z1 _ _ = zu
     refine W.delAt (by walk_at "up") (by decide) (seq0 (by (clear hz' hd0 h0' h0 hwl hcont h2 h1 hch; omega))) (by walk_at "sz") ⟨rfl, W.nil (W.nil ?_)⟩
     rw [enc_len]
     refine ⟨_, _, _, _, _, by unfold ell1; rw [if_neg hz, if_pos hp], hta.tail, by simp; (clear hz' hd0 h0' h0 hl hwl hcont h2 h1 hch; omega), by simp; (clear hz' hd0 h0' h0 hl hs hcont h2 hch; omega), fun w hw => hall w (List.mem_of_mem_tail hw), rfl⟩
  ·walk_at "E1"; generalize z1 _ _ = l1
   refine' @Y5 _ _ _ _ _ _ _ (by walk_at "ne") ?_; generalize (z5 _ _).1 = p; generalize (z5 _ _).2.1 = ws1; generalize (z5 _ _).2.2.1 = vs1; generalize (z5 _ _).2.2.2.1 = pv; generalize (z5 _ _).2.2.2.2 = wv
   refine A6 ?_
   intro e1 hta1 hn1 hm1 hall1 zy1
   subst zy1
   rw [e1]
   clear e1 hta hk h0 h0' hl
   have hl := hta1.1
   refine O1 ?_ (hta1.last hn1)
   walk_at "Y1"; generalize z1 _ _ = t5
   intro hlast
   refine W.step (W.set (W.subs slot_list_getitem.lookup ?_))
   walk_at "nm"
   refine W.unary (W.kInt ?_)
   walk_at "E1"; generalize z1 _ _ = zu
   refine W.ineg ?_
   walk_at "E1"; generalize z1 _ _ = zu
   refine ⟨Ty.ls (by walk_at "mem"), W.lsItemN (by walk_at "mem") (by decide) (by (clear hlast hm1 hd0 hs hwl hcont h2 h1 hch; omega)) hlast (by walk_at "sz") ?_⟩
   walk_at "st"
   refine ⟨rfl, ?_⟩
   have hlm : (ws1.getLastD []) ∈ ws1 := by
    rcases List.eq_nil_or_concat ws1 with rfl | ⟨x, y, rfl⟩
    ·cases hn1
    ·simp
   have hlz := hall1 _ hlm
   refine W.cut (fun l1 => ∃ e ws2 vs2 ev wv, ell2 got p ws1 = ell3 got p e ws2 ∧ e ≤ got.length ∧ TxtAre ch vs2 ws2 ∧ ws2.length ≤ 1002 ∧ (∀ w ∈ ws2, w.length ≤ 1000) ∧ l1 = [(L, NP ["want", "got", "ws", "startpos", "endpos", "w"] [some (.str (enc ch want) t), some (.str (enc ch got) u), some (.ref wa), some (.int (p : Nat) pv), some (.int (e : Nat) ev), some wv]), (wa, Ls vs2)]) (W.cond (W.testValue ?_)) ?_
   ·walk_at "nm"
    refine W.truthyStr (by walk_at "sz") ?_
    rw [enc_len]
    by_cases hz : ws1.getLastD [] = []
    ·rw [hz]
     simp only [List.length_nil, bne_self_eq_false, Bool.false_eq_true, if_false]
     refine W.nil ⟨got.length, ws1, vs1, t2, _, by unfold ell2; rw [if_pos hz], Nat.le_refl _, hta1, by (clear hlz hlast hl hn1 hd0 hs hwl hcont h2 h1 hch; omega), hall1, rfl⟩
    ·have hz' : ((ws1.getLastD []).length != 0) = true := by simpa using hz
     rw [hz']
     simp only [if_true]
     refine W.cons (W.cond (W.testValue (W.meth F.plainAttrs_str F.slot_str_endswith F.type_str_endswith ?_)))
     walk_at "nm"
     refine ⟨Ty.s, W.spCons ?_⟩
     walk_at "nm"
     refine W.spNil (W.endswith (W.truthyBool ?_))
     rw [ends_enc hch]
     cases hp : (decide ((ws1.getLastD []).length ≤ got.length) && got.drop (got.length - (ws1.getLastD []).length) == ws1.getLastD [])
     ·simp only [Bool.false_eq_true, if_false]
      refine W.cons (W.ret (W.kBool ?_))
      refine ⟨_, _, by walk_at "take", ?_, rfl⟩
      unfold ell2; rw [if_neg hz, hp]; rfl
     ·simp only [if_true]
      refine W.step (W.aug (W.ldLocal rfl rfl (by walk_at "mem") (by walk_at "get") (W.callB (id := "len") ?_)))
      walk_at "b_len"
      refine ⟨rfl, W.spCons ?_⟩
      walk_at "nm"
      refine W.spNil (W.len (by walk_at "sz") ?_)
      walk_at "E1"; generalize z1 _ _ = t4
      refine W.isubI ?_
      walk_at "E1"; generalize z1 _ _ = t6
      walk_at "st"
      refine ⟨rfl, W.step (W.delSub ?_)⟩
      walk_at "nm"
      refine W.unary (W.kInt ?_)
      walk_at "E1"; generalize z1 _ _ = zu
      refine W.ineg ?_
      walk_at "E1"; generalize z1 _ _ = zu
      refine W.delAt (by walk_at "up") (by decide) (seqL (by (clear hp hz' hlz hlast hm1 hd0 hs hwl hcont h2 h1 hch; omega))) (by walk_at "sz") ⟨rfl, W.nil (W.nil ?_)⟩
      have hle : (ws1.getLastD []).length ≤ got.length := by
       simp only [Bool.and_eq_true, decide_eq_true_eq] at hp; exact hp.1
      rw [enc_len, show ((got.length : Int) - ((ws1.getLastD []).length : Nat)) = ((got.length - (ws1.getLastD []).length : Nat) : Int) by (clear hp hz' hlz hlast hl hm1 hn1 hd0 hs hwl hcont h2 h1 hch; omega)]
      refine ⟨_, _, _, _, _, by unfold ell2; rw [if_neg hz, if_pos hp], by (clear hle hp hz' hlz hlast hl hm1 hn1 hd0 hs hwl hcont h2 h1 hch; omega), hta1.init hn1, by simp; (clear hle hp hz' hlz hlast hl hn1 hd0 hs hwl hcont h2 h1 hch; omega), fun w hw => hall1 w ((List.dropLast_sublist _).subset hw), rfl⟩
   ·walk_at "E1"; generalize z1 _ _ = l1
    refine' @Y5 _ _ _ _ _ _ _ (by walk_at "ne") ?_; generalize (z5 _ _).1 = e; generalize (z5 _ _).2.1 = ws2; generalize (z5 _ _).2.2.1 = vs2; generalize (z5 _ _).2.2.2.1 = ev; generalize (z5 _ _).2.2.2.2 = wv2
    refine A6 ?_
    intro e2 hle hta2 hm2 hall2 zy2
    subst zy2
    rw [e2]
    clear e2 hta1 hlast hl hlm hlz hn1 hall1
    refine W.cons (W.cond (W.testCompare ?_))
    walk_at "nm"; walk_at "nm"
    refine W.igt (W.truthyBool ?_)
    have hl := hta2.1
    unfold ell3
    by_cases hpe : p > e
    ·rw [show decide ((e : Int) < (p : Int)) = true from decide_eq_true (by (clear hl hm2 hle hm1 hd0 hs hwl hcont h2 h1 hch; omega))]
     simp only [if_true, hpe]
     refine W.cons (W.ret (W.kBool ?_))
     exact ⟨_, _, by walk_at "take", rfl, rfl⟩
    ·rw [show decide ((e : Int) < (p : Int)) = false from decide_eq_false (by (clear hl hm2 hle hm1 hd0 hs hwl hcont h2 h1 hch; omega))]
     simp only [Bool.false_eq_true, if_false, hpe]
     refine W.nil ?_
     have ans0 : ellLoop got e ws2 p = ellLoop got e (ws2.drop 0) p := by rw [List.drop_zero]
     generalize ellLoop got e ws2 p = ans at ans0
     refine W.cut (fun l1 => ans = true ∧ ∃ wv3 pv', l1 = [(L, NP ["want", "got", "ws", "startpos", "endpos", "w"] [some (.str (enc ch want) t), some (.str (enc ch got) u), some (.ref wa), some pv', some (.int (e : Nat) ev), some wv3]), (wa, Ls vs2)]) (W.for (n := vs2.length) (P := fun i v => vs2[i]? = some v) (need := [(wa, Ls vs2)])
      (fun i l => ∃ q qv wv3, ans = ellLoop got e (ws2.drop i) q ∧ l = [(L, NP ["want", "got", "ws", "startpos", "endpos", "w"] [some (.str (enc ch want) t), some (.str (enc ch got) u), some (.ref wa), some (.int (q : Nat) qv), some (.int (e : Nat) ev), some wv3]), (wa, Ls vs2)]) r.hh ?_ ?_ ?_ ?_) ?_
     ·walk_at "nm"
      exact ⟨Itr.ls (by walk_at "mem"), p, pv, wv2, ans0, rfl⟩
     ·walk_at "E2"; generalize (z2 _ _).1 = i; generalize (z2 _ _).2 = l
      walk_at "Y3"; generalize (z3 _ _).1 = zu; generalize (z3 _ _).2.1 = zu; generalize (z3 _ _).2.2 = zu
      refine A2 ?_
      intro _ zy3
      subst zy3
      intro q hq
      simp at hq; subst hq; walk_at "mem"
     ·walk_at "E3"; generalize (z3 _ _).1 = i; generalize (z3 _ _).2.1 = v; generalize (z3 _ _).2.2 = l
      intro hi hv
      walk_at "Y3"; generalize (z3 _ _).1 = q; generalize (z3 _ _).2.1 = qv; generalize (z3 _ _).2.2 = wv3
      refine A2 ?_
      intro e3 zy4
      subst zy4
      refine O1 ?_ (hta2.at hv)
      walk_at "Y2"; generalize (z2 _ _).1 = w; generalize (z2 _ _).2 = tw
      refine A2 ?_
      intro hw zy5
      subst zy5
      have hwz := hall2 w (List.mem_of_getElem? hw)
      have hd : ws2.drop i = w :: ws2.drop (i + 1) := (List.getElem?_eq_some_iff.mp hw).2 ▸ List.drop_eq_getElem_cons _
      rw [hd, show ellLoop got e (w :: ws2.drop (i + 1)) q = (match findIn w got e (e + 1 - q) q with | none => false | some q' => ellLoop got e (ws2.drop (i + 1)) (q' + w.length)) from rfl] at e3
      refine W.asName ?_
      walk_at "st"
      refine W.step (W.set (W.meth F.plainAttrs_str F.slot_str_find F.type_str_find ?_))
      walk_at "nm"
      refine ⟨Ty.s, W.spCons ?_⟩
      walk_at "nm"
      refine W.spCons ?_
      walk_at "nm"
      refine W.spCons ?_
      walk_at "nm"
      refine W.spNil (W.find4 hch hle ?_)
      walk_at "E1"; generalize z1 _ _ = t7
      walk_at "st"
      refine ⟨rfl, W.cons (W.cond (W.testCompare ?_))⟩
      walk_at "nm"
      refine W.kInt ?_
      walk_at "E1"; generalize z1 _ _ = zu
      refine W.ilt (W.truthyBool ?_)
      generalize hf : findIn w got e (e + 1 - q) q = zo1
      refine OCn zo1 ?_ ?_
      ·intro ze1a
       subst ze1a
       rw [hf] at e3
       simp only [show decide ((-1 : Int) < 0) = true from rfl, if_true]
       refine W.cons (W.ret (W.kBool ?_))
       rw [e3]
       exact ⟨_, _, by walk_at "take", rfl, rfl⟩
      ·walk_at "E1"; generalize z1 _ _ = j
       intro ze1b
       subst ze1b
       rw [hf] at e3
       simp only [show decide ((j : Int) < 0) = false from decide_eq_false (by (clear hf e3 hd hwz hv hw hi ans0 hpe hl hm2 hle hm1 hd0 hs hwl hcont h2 h1 hch; omega)), Bool.false_eq_true, if_false]
       refine W.nil (W.cons (W.aug (W.ldLocal rfl rfl (by walk_at "mem") (by walk_at "get") (W.callB (id := "len") ?_))))
       walk_at "b_len"
       refine ⟨rfl, W.spCons ?_⟩
       walk_at "nm"
       refine W.spNil (W.len (by walk_at "sz") ?_)
       walk_at "E1"; generalize z1 _ _ = t8
       refine W.iaddI ?_
       walk_at "E1"; generalize z1 _ _ = t9
       walk_at "st"
       refine W.nil ⟨j + w.length, t9, .str (enc ch w) tw, e3, ?_⟩
       rw [enc_len]; rfl
     ·walk_at "E1"; generalize z1 _ _ = l
      walk_at "Y3"; generalize (z3 _ _).1 = q; generalize (z3 _ _).2.1 = qv; generalize (z3 _ _).2.2 = wv3
      refine A2 ?_
      intro e3 zy6
      subst zy6
      rw [hl, List.drop_length] at e3
      exact ⟨e3, _, _, rfl⟩
     ·walk_at "E1"; generalize z1 _ _ = l1
      refine A2 ?_
      intro e3
      walk_at "Y2"; generalize (z2 _ _).1 = wv3; generalize (z2 _ _).2 = pv'
      intro zy7
      subst zy7
      refine W.cons (W.ret (W.kBool ?_))
      rw [e3]
      exact ⟨_, _, by walk_at "take", rfl, rfl⟩
theorem bisect_ok : ∀ {c : Cx} {A : Around} {ch : Nat} {text : Wd} {mixed : List Wd} {answer : Bool} {mvs : List Value} {ma f : Addr} {fo : Obj} {fd : FuncData} {lo hi place : Nat} {asked' : List Wd} {l : Led} {tx tlo thi : Tok} (T : Gd c (HK c.w.params)) (r : Room A 7) (hch : ch ≠ 46) (hfo : fo.data = .func fd) (J : List Wd → Led → Prop) (hm : ∀ asked l, J asked l → (ma, Ls mvs) ∈ l ∧ (f, Is fo) ∈ l) (ht : TxtAre ch mvs mixed) (hsz : mixed.length ≤ 1000) (hkey : ∀ (A : Around) (asked : List Wd) (l : Led) (w : Wd) (t : Tok), Room A 6 → J asked l → asked.length < 20 → w ∈ mixed → W c A (call (.ref f) [.str (enc ch w) t]) l (fun v l' => ∃ n t', v = .int n t' ∧ ((n < 2) ↔ (ellB text w = answer)) ∧ J (asked ++ [w]) l')) (hb : bisB text mixed answer 20 lo hi [] = some (place, asked')) (hJ : J [] l), W c A (call (.ref 54) [.ref ma, .int 2 tx, .int (lo : Nat) tlo, .int (hi : Nat) thi] [(Str.ofString "key", .ref f)]) l (fun v l' => ∃ t', v = .int (place : Nat) t' ∧ J asked' l') := by
 refine' @E19 _ _ _ _ _ _ _ _ _ _ _ _ _ _ _ _ _ _ _ _ (by walk_at "ne") ?_; generalize (z19 _ _).1 = c; generalize (z19 _ _).2.1 = A; generalize (z19 _ _).2.2.1 = ch; generalize (z19 _ _).2.2.2.1 = text; generalize (z19 _ _).2.2.2.2.1 = mixed; generalize (z19 _ _).2.2.2.2.2.1 = answer; generalize (z19 _ _).2.2.2.2.2.2.1 = mvs; generalize (z19 _ _).2.2.2.2.2.2.2.1 = ma; generalize (z19 _ _).2.2.2.2.2.2.2.2.1 = f; generalize (z19 _ _).2.2.2.2.2.2.2.2.2.1 = fo; generalize (z19 _ _).2.2.2.2.2.2.2.2.2.2.1 = fd; generalize (z19 _ _).2.2.2.2.2.2.2.2.2.2.2.1 = lo; generalize (z19 _ _).2.2.2.2.2.2.2.2.2.2.2.2.1 = hi; generalize (z19 _ _).2.2.2.2.2.2.2.2.2.2.2.2.2.1 = place; generalize (z19 _ _).2.2.2.2.2.2.2.2.2.2.2.2.2.2.1 = asked'; generalize (z19 _ _).2.2.2.2.2.2.2.2.2.2.2.2.2.2.2.1 = l; generalize (z19 _ _).2.2.2.2.2.2.2.2.2.2.2.2.2.2.2.2.1 = tx; generalize (z19 _ _).2.2.2.2.2.2.2.2.2.2.2.2.2.2.2.2.2.1 = tlo; generalize (z19 _ _).2.2.2.2.2.2.2.2.2.2.2.2.2.2.2.2.2.2 = thi
 intro T r hch hfo
 walk_at "E1"; generalize z1 _ _ = J
 intro hm ht hsz hkey hb hJ
 refine W.drop1 ?_
 refine W.def (ps := ["a", "x", "lo", "hi", "key"]) (os := ["mid"]) (vs := [.ref ma, .int 2 tx, .int (lo : Nat) tlo, .int (hi : Nat) thi, .ref f]) T r (by k_is) (by k_is) (by exact rfl) ?_ rfl (by decide +kernel) (by decide +kernel) (locs_of (by decide +kernel)) ?_
 ·walk_at "E1"; generalize z1 _ _ = s
  intro X
  exact binds_K (T := 46) X rfl (by k_is) rfl rfl (by exact rfl)
 ·walk_at "E1"; generalize z1 _ _ = L
  simp only [List.cons_append, List.nil_append, List.map_cons, List.map_nil]
  refine W.cons (W.cond (W.testCompare ?_))
  walk_at "nm"
  refine W.kInt ?_
  walk_at "E1"; generalize z1 _ _ = zu
  refine W.ilt (W.truthyBool ?_)
  rw [show decide ((lo : Int) < 0) = false from decide_eq_false (by (clear hb hsz hch; omega))]
  simp only [Bool.false_eq_true, if_false]
  refine W.nil (W.cons (W.cond (W.testCompare ?_)))
  walk_at "nm"
  refine W.kNone (W.isP (by rfl) (W.truthyBool ?_))
  rw [show (Value.int (hi : Int) thi == Value.none) = false from rfl]
  simp only [Bool.false_eq_true, if_false]
  refine W.nil (W.cons (W.cond (W.testCompare ?_)))
  walk_at "nm"
  refine W.kNone (W.isP (by rfl) (W.truthyBool ?_))
  rw [show (Value.ref f == Value.none) = false from rfl]
  simp only [Bool.false_eq_true, if_false]
  have fin : ∀ (l1 : Led) (Q : Flow → Led → Prop), True := fun _ _ => trivial
  refine W.cons (W.while (fun n l1 => ∃ lo hi fuel asked l tlo thi mv, n = hi - lo ∧ bisB text mixed answer fuel lo hi asked = some (place, asked') ∧ J asked l ∧ asked.length + fuel ≤ 20 ∧ l1 = (L, NP ["a", "x", "lo", "hi", "key", "mid"] [some (.ref ma), some (.int 2 tx), some (.int (lo : Nat) tlo), some (.int (hi : Nat) thi), some (.ref f), mv]) :: l) (hi - lo) ⟨lo, hi, 20, [], l, tlo, thi, none, rfl, hb, hJ, by simp, rfl⟩ r.hh ?_)
  walk_at "E2"; generalize (z2 _ _).1 = n; generalize (z2 _ _).2 = l1
  refine' @Y8 _ _ _ _ _ _ _ _ _ _ (by walk_at "ne") ?_; generalize (z8 _ _).1 = lo; generalize (z8 _ _).2.1 = hi; generalize (z8 _ _).2.2.1 = fuel; generalize (z8 _ _).2.2.2.1 = asked; generalize (z8 _ _).2.2.2.2.1 = l; generalize (z8 _ _).2.2.2.2.2.1 = tlo; generalize (z8 _ _).2.2.2.2.2.2.1 = thi; generalize (z8 _ _).2.2.2.2.2.2.2 = mv
  refine A5 ?_
  intro zy1 hb hJ hf zy2
  subst zy1
  subst zy2
  refine NCz fuel ?_ ?_
  ·intro ze1a
   subst ze1a
   cases hb
  ·walk_at "E1"; generalize z1 _ _ = fuel
   intro ze1b
   subst ze1b
   unfold bisB at hb
   refine W.testCompare ?_
   walk_at "nm"; walk_at "nm"
   refine W.ilt (W.truthyBool ?_)
   by_cases hlt : lo < hi
   ·rw [show decide ((lo : Int) < (hi : Int)) = true from decide_eq_true (by (clear hb hf hsz hch; omega))]
    rw [if_pos hlt] at hb
    dsimp only at hb
    simp only [if_true]
    generalize hone : mixed[(lo + hi) / 2]? = zo2
    refine OCn zo2 ?_ ?_
    ·intro ze2a
     subst ze2a
     rw [hone] at hb; cases hb
    ·walk_at "E1"; generalize z1 _ _ = one
     intro ze2b
     subst ze2b
     rw [hone] at hb
     refine W.step (W.set (W.binop (W.binop ?_)))
     walk_at "nm"; walk_at "nm"
     refine W.iadd ?_
     walk_at "E1"; generalize z1 _ _ = zu
     refine W.kInt ?_
     walk_at "E1"; generalize z1 _ _ = zu
     refine W.ifloor (by decide) (by decide) ?_
     walk_at "E1"; generalize z1 _ _ = tm
     rw [show ((lo : Int) + (hi : Int)).fdiv 2 = (((lo + hi) / 2 : Nat) : Int) by rw [Int.fdiv_eq_ediv_of_nonneg _ (by decide)]; (clear hone hb hlt hf hsz hch; omega)]
     walk_at "st"
     refine ⟨rfl, W.cons (W.cond (W.testCompare (W.callF (f := f) hfo ?_)))⟩
     walk_at "nm"
     refine O1 ?_ (ht.2 _ _ hone)
     walk_at "Y1"; generalize z1 _ _ = t1
     intro h1
     have hl := ht.1
     refine ⟨rfl, W.spCons (W.subs slot_list_getitem.lookup ?_)⟩
     walk_at "nm"; walk_at "nm"
     refine ⟨Ty.ls (.tail _ (hm _ _ hJ).1), W.lsItem (.tail _ (hm _ _ hJ).1) (by (clear hl h1 hone hb hlt hf hsz hch; omega)) (v := .str (enc ch one) t1) (by rw [← h1]; congr 1) (by walk_at "sz") (W.spNil ⟨.tail _ (hm _ _ hJ).2, ?_⟩)⟩
     refine W.under (hkey _ asked l one t1 r.deeper hJ (by (clear hl h1 hone hb hlt hsz hch; omega)) (List.mem_of_getElem? hone)) ?_
     walk_at "E2"; generalize (z2 _ _).1 = v; generalize (z2 _ _).2 = l'
     walk_at "Y2"; generalize (z2 _ _).1 = k; generalize (z2 _ _).2 = t'
     refine A3 ?_
     intro zy3 hk hJ'
     subst zy3
     walk_at "nm"
     refine W.ilt (W.truthyBool ?_)
     have hlen : (asked ++ [one]).length + fuel ≤ 20 := by simp; (clear hk hl h1 hone hb hlt hsz hch; omega)
     by_cases hq : ellB text one = answer
     ·rw [show decide ((k : Int) < 2) = true from decide_eq_true (by have := hk.mpr hq; (clear hlen hk hl h1 hone hb hlt hf hsz hch; omega))]
      simp only [if_true]
      have hb' : bisB text mixed answer fuel ((lo + hi) / 2 + 1) hi (asked ++ [one]) = some (place, asked') := by
       have := hb
       simp only [Option.bind_eq_bind, Option.bind_some, hq, beq_self_eq_true, if_true] at this
       exact this
      refine W.cons (W.set (W.binop ?_))
      walk_at "nm"
      refine W.kInt ?_
      walk_at "E1"; generalize z1 _ _ = zu
      refine W.iadd ?_
      walk_at "E1"; generalize z1 _ _ = t2
      walk_at "st"
      refine W.nil (W.nil ⟨_, by (clear hb' hlen hk hl h1 hone hb hf hsz hch; omega), (lo + hi) / 2 + 1, hi, fuel, asked ++ [one], l', t2, thi, _, rfl, hb', hJ', hlen, rfl⟩)
     ·rw [show decide ((k : Int) < 2) = false from decide_eq_false (by intro h; exact hq (hk.mp h))]
      simp only [Bool.false_eq_true, if_false]
      have hb' : bisB text mixed answer fuel lo ((lo + hi) / 2) (asked ++ [one]) = some (place, asked') := by
       have := hb
       have hne : (ellB text one == answer) = false := beq_eq_false_iff_ne.mpr hq
       simp only [Option.bind_eq_bind, Option.bind_some, hne, Bool.false_eq_true, if_false] at this
       exact this
      refine W.cons (W.set ?_)
      walk_at "nm"
      walk_at "st"
      refine W.nil (W.nil ⟨_, by (clear hb' hlen hk hl h1 hone hb hf hsz hch; omega), lo, (lo + hi) / 2, fuel, asked ++ [one], l', tlo, tm, _, rfl, hb', hJ', hlen, rfl⟩)
   ·rw [show decide ((lo : Int) < (hi : Int)) = false from decide_eq_false (by (clear hb hf hsz hch; omega))]
    rw [if_neg hlt] at hb
    cases hb
    simp only [Bool.false_eq_true, if_false]
    refine W.nil (W.cons (W.ret ?_))
    walk_at "nm"
    exact ⟨_, l, rfl, tlo, rfl, hJ⟩
noncomputable abbrev lamPos : Pos := ⟨253, 56, 253, 112⟩
noncomputable abbrev lamQ : Str := Str.ofString "_law_told" ++ ".<locals>." ++ "<lambda>"
theorem W.lamX : ∀ {c : Cx} {K : Frag} {A : Around} {env : Env} {cc P : Addr} {params : Arguments} {body : Expr} {scope : Scope} {clos : List (Str × Addr)} {pos : Pos} {st : Option Addr} {qual : Str} {l : Led} {Q : Value → Led → Prop} (X : Led) (Gg : Gl c K cc P) (hl : l = X ++ tabLed P pos qual st) (hq : env.qual ++ "<lambda>" = qual) (hdef : defaultsOf params env = ([], [])) (hcl : closureFor scope env = Pure.pure clos) (hge0 : env.globals = mainGlobals) (hcode : env.code = .ref cc) (q : ∀ f c' pm ctv, Q (.ref f) ((f, Is (kla_obj "<lambda>" qual params body scope clos pm c' ctv)) :: (tabLed P pos qual (some c') ++ X))), W c A (eval (.Lambda params body scope pos) env) l Q := by
 refine' @E16 _ _ _ _ _ _ _ _ _ _ _ _ _ _ _ _ _ (by walk_at "ne") ?_; generalize (z16 _ _).1 = c; generalize (z16 _ _).2.1 = K; generalize (z16 _ _).2.2.1 = A; generalize (z16 _ _).2.2.2.1 = env; generalize (z16 _ _).2.2.2.2.1 = cc; generalize (z16 _ _).2.2.2.2.2.1 = P; generalize (z16 _ _).2.2.2.2.2.2.1 = params; generalize (z16 _ _).2.2.2.2.2.2.2.1 = body; generalize (z16 _ _).2.2.2.2.2.2.2.2.1 = scope; generalize (z16 _ _).2.2.2.2.2.2.2.2.2.1 = clos; generalize (z16 _ _).2.2.2.2.2.2.2.2.2.2.1 = pos; generalize (z16 _ _).2.2.2.2.2.2.2.2.2.2.2.1 = st; generalize (z16 _ _).2.2.2.2.2.2.2.2.2.2.2.2.1 = qual; generalize (z16 _ _).2.2.2.2.2.2.2.2.2.2.2.2.2.1 = l; generalize (z16 _ _).2.2.2.2.2.2.2.2.2.2.2.2.2.2.1 = Q; generalize (z16 _ _).2.2.2.2.2.2.2.2.2.2.2.2.2.2.2 = X
 intro Gg hl hq hdef hcl hge0 hcode q
 subst hq hl
 exact W.perm (W.lam Gg hdef hcl hge0 hcode q) List.perm_append_comm
theorem W.kwOne {c : Cx} {A : Around} {l : Led} {m : Sem Value} {pos : Pos} {Q : Value → Led → Prop} (h : W c A m l Q) : W c A (do let v ← m; PySem.standAt pos; Pure.pure v) l Q := W.bind (h.mono fun v l1 q => W.bind (W.standAt (W.pure q)))
theorem told_ok : ∀ {c : Cx} {A : Around} {ch : Nat} {text : Wd} {mixed : List Wd} {answer : Bool} {mvs : List Value} {ma ka aa : Addr} {kvs : List (Str × Value)} {t : Tok} {st : Option Addr} {place : Nat} {asked : List Wd} (T : Gd c (HK c.w.params)) (Gg : Gl c (HK c.w.params) 250 246) (he : EllOk c) (r : Room A 8) (hch : ch ≠ 46) (h1 : text.length ≤ 1000) (h2 : ∀ w ∈ mixed, w.length ≤ 1000) (h3 : kvs.length ≤ 999900) (hk : KnOk ch text kvs) (ht : TxtAre ch mvs mixed) (hsz : mixed.length ≤ 1000) (hsz2 : 2 ≤ mixed.length) (hb : bisB text mixed answer 20 1 (mixed.length - 2) [] = some (place, asked)), W c A (call (.ref 251) [.str (enc ch text) t, .ref ma, .ref ka, .bool answer, .ref aa]) (tabLed 246 lamPos lamQ st ++ [(ma, Ls mvs), (ka, Dk c kvs), (aa, Ls [])]) (fun v l' => ∃ t' c' kvs' avs, v = .int (place : Nat) t' ∧ KnOk ch text kvs' ∧ kvs'.length ≤ kvs.length + 20 ∧ TxtAre ch avs asked ∧ asked.length ≤ 20 ∧ l' = tabLed 246 lamPos lamQ (some c') ++ [(ma, Ls mvs), (ka, Dk c kvs'), (aa, Ls avs)]) := by
 refine' @E15 _ _ _ _ _ _ _ _ _ _ _ _ _ _ _ _ (by walk_at "ne") ?_; generalize (z15 _ _).1 = c; generalize (z15 _ _).2.1 = A; generalize (z15 _ _).2.2.1 = ch; generalize (z15 _ _).2.2.2.1 = text; generalize (z15 _ _).2.2.2.2.1 = mixed; generalize (z15 _ _).2.2.2.2.2.1 = answer; generalize (z15 _ _).2.2.2.2.2.2.1 = mvs; generalize (z15 _ _).2.2.2.2.2.2.2.1 = ma; generalize (z15 _ _).2.2.2.2.2.2.2.2.1 = ka; generalize (z15 _ _).2.2.2.2.2.2.2.2.2.1 = aa; generalize (z15 _ _).2.2.2.2.2.2.2.2.2.2.1 = kvs; generalize (z15 _ _).2.2.2.2.2.2.2.2.2.2.2.1 = t; generalize (z15 _ _).2.2.2.2.2.2.2.2.2.2.2.2.1 = st; generalize (z15 _ _).2.2.2.2.2.2.2.2.2.2.2.2.2.1 = place; generalize (z15 _ _).2.2.2.2.2.2.2.2.2.2.2.2.2.2 = asked
 intro T Gg he r hch h1 h2 h3 hk ht hsz hsz2 hb
 refine W.close ?_
 refine W.defC (binds := (["text", "mixed", "known", "answer", "asked"] : List Str).zip [Value.str (enc ch text) t, .ref ma, .ref ka, .bool answer, .ref aa]) (names := ["mixed"]) (cns := ["asked", "answer", "known", "text"]) T r (by k_is) (by k_is) (by exact rfl) (by exact rfl) (by exact rfl) (by decide +kernel) (by exact rfl) (by decide +kernel) (by decide +kernel) (by exact rfl) (by exact rfl) ?_
 walk_at "E2"; generalize (z2 _ _).1 = L; generalize (z2 _ _).2 = as
 intro has
 have zh1 : ∃ a1 a2 a3 a4, as = [a1, a2, a3, a4] := by
  match as, has with
  | [a1, a2, a3, a4], _ => exact ⟨a1, a2, a3, a4, rfl⟩
 refine O1 ?_ (zh1)
 refine' @Y4 _ _ _ _ _ _ (by walk_at "ne") ?_; generalize (z4 _ _).1 = a1; generalize (z4 _ _).2.1 = a2; generalize (z4 _ _).2.2.1 = a3; generalize (z4 _ _).2.2.2 = a4
 intro zy1
 subst zy1
 clear zh1
 refine W.perm (l' := [(L, NP ["mixed"] [some (.ref ma)]), (a1, Ce (some (.ref aa))), (a2, Ce (some (.bool answer))), (a3, Ce (some (.ref ka))), (a4, Ce (some (.str (enc ch text) t))), (ma, Ls mvs), (ka, Dk c kvs), (aa, Ls [])] ++ tabLed 246 lamPos lamQ st) ?_ ?_
 rotate_left
 ·refine List.Perm.trans (List.Perm.append_left _ List.perm_append_comm) ?_
  exact List.Perm.refl _
 simp only [List.cons_append, List.nil_append]
 refine W.cons (W.ret (W.callKw T (fv := .ref 54) (by k_is) (by exact rfl) ?_))
 walk_at "gl"
 refine ⟨rfl, W.spCons ?_⟩
 walk_at "nm"
 refine W.spCons (W.kInt ?_)
 walk_at "E1"; generalize z1 _ _ = tx
 refine W.spCons (W.kInt ?_)
 walk_at "E1"; generalize z1 _ _ = tlo
 refine W.spCons (W.binop (W.callB (id := "len") ?_))
 walk_at "b_len"
 refine ⟨rfl, W.spCons ?_⟩
 walk_at "nm"
 have hl := ht.1
 refine W.spNil (W.len' (by walk_at "mem") (by walk_at "sz") ?_)
 walk_at "E1"; generalize z1 _ _ = zu
 refine W.kInt ?_
 walk_at "E1"; generalize z1 _ _ = zu
 refine W.isub ?_
 walk_at "E1"; generalize z1 _ _ = thi
 refine W.spNil ?_
 rw [show ((mvs.length : Int) - 2) = ((mixed.length - 2 : Nat) : Int) by (clear has hb hsz h3 h1 hch; omega)]
 refine W.evCons (W.kwOne ?_)
 refine W.lamX (st := st) [(L, NP ["mixed"] [some (.ref ma)]), (a1, Ce (some (.ref aa))), (a2, Ce (some (.bool answer))), (a3, Ce (some (.ref ka))), (a4, Ce (some (.str (enc ch text) t))), (ma, Ls mvs), (ka, Dk c kvs), (aa, Ls [])] Gg (by exact rfl) (by exact rfl) (by exact rfl) (by exact rfl) (by exact rfl) (by exact rfl) ?_
 refine' @E4 _ _ _ _ _ (by walk_at "ne") ?_; generalize (z4 _ _).1 = f; generalize (z4 _ _).2.1 = c'; generalize (z4 _ _).2.2.1 = pm; generalize (z4 _ _).2.2.2 = ctv
 refine W.evNil ?_
 simp only [tabLed, List.cons_append, List.nil_append]
 generalize hfo : kla_obj _ _ _ _ _ _ _ _ _ = fo
 refine O1 ?_ (show ∃ fd, fo.data = .func fd from ⟨_, by rw [← hfo]⟩)
 walk_at "Y1"; generalize z1 _ _ = fd
 intro hfd
 refine W.mono (bisect_ok T (r.deeper.less (by (clear hfo hl has hb hsz2 hsz h3 h1 hch; omega))) hch hfd (fun asked l => ∃ kvs' avs, KnOk ch text kvs' ∧ kvs'.length ≤ kvs.length + asked.length ∧ TxtAre ch avs asked ∧ asked.length ≤ 20 ∧ l = [(f, Is fo), (246, Is (tabObj #[rawInt lamPos.line, rawInt lamPos.col, .ref c'])), (c', Cd lamQ), (L, NP ["mixed"] [some (.ref ma)]), (a1, Ce (some (.ref aa))), (a2, Ce (some (.bool answer))), (a3, Ce (some (.ref ka))), (a4, Ce (some (.str (enc ch text) t))), (ma, Ls mvs), (ka, Dk c kvs'), (aa, Ls avs)]) ?_ ht hsz ?_ hb ⟨kvs, [], hk, by simp, TxtAre.nil, by simp, rfl⟩) ?_
 ·walk_at "E2"; generalize (z2 _ _).1 = asked; generalize (z2 _ _).2 = l
  walk_at "Y2"; generalize (z2 _ _).1 = kvs'; generalize (z2 _ _).2 = avs
  refine A5 ?_
  intro _ _ _ _ zy2
  subst zy2
  exact ⟨by walk_at "mem", by walk_at "mem"⟩
 ·walk_at "E5"; generalize (z5 _ _).1 = A; generalize (z5 _ _).2.1 = asked; generalize (z5 _ _).2.2.1 = l; generalize (z5 _ _).2.2.2.1 = w; generalize (z5 _ _).2.2.2.2 = tw
  intro r
  walk_at "Y2"; generalize (z2 _ _).1 = kvs'; generalize (z2 _ _).2 = avs
  refine A5 ?_
  intro hk' hl' hta h20 zy3
  subst zy3
  intro hlen hw
  subst hfo
  refine W.close ?_
  refine W.callLam (binds := []) T r (by walk_at "mem") (by walk_at "mem") (ps := ["one"]) (by exact rfl) rfl (by decide +kernel) (by decide +kernel) (by decide +kernel) ?_
  walk_at "E1"; generalize z1 _ _ = L2
  simp only [List.map_cons, List.map_nil]
  refine W.callK T (fv := .ref 244) (by k_is) ?_
  walk_at "gl"
  refine ⟨rfl, W.spCons ?_⟩
  walk_at "fr"
  refine W.spCons ?_
  walk_at "nm"
  refine W.spCons ?_
  walk_at "fr"
  refine W.spCons ?_
  walk_at "fr"
  refine W.spCons ?_
  walk_at "fr"
  refine W.spNil ?_
  have hal := hta.1
  refine W.use (turned_ok (text := text) (word := w) (kvs := kvs') (avs := avs) T he r.deeper hch h1 (h2 w hw) (by (clear hal hfd hlen hl has hb hsz2 hsz h1 hch; omega)) (by (clear hfd hlen hl' hl has hb hsz2 hsz h3 h1 hch; omega)) hk') (by walk_at "take") ?_
  walk_at "E2"; generalize (z2 _ _).1 = v; generalize (z2 _ _).2 = l'
  walk_at "Y3"; generalize (z3 _ _).1 = kvs2; generalize (z3 _ _).2.1 = n; generalize (z3 _ _).2.2 = t'
  refine A5 ?_
  intro zy4 hn hk2 hl2 zy5
  subst zy4
  subst zy5
  simp only [List.cons_append, List.nil_append]
  refine ⟨_, _, by walk_at "take", n, t', rfl, hn, kvs2, _, hk2, ?_, hta.snoc, by simp; (clear hl2 hn hal hfd h20 hl' hl has hb hsz2 hsz h3 h1 hch; omega), rfl⟩
  simp only [List.length_append, List.length_cons, List.length_nil]
  (clear hn hal hfd hlen h20 hl has hb hsz2 hsz h3 h1 hch; omega)
 ·walk_at "E2"; generalize (z2 _ _).1 = v; generalize (z2 _ _).2 = l'
  walk_at "Y1"; generalize z1 _ _ = t'
  refine A2 ?_
  intro zy6
  walk_at "Y2"; generalize (z2 _ _).1 = kvs'; generalize (z2 _ _).2 = avs
  refine A5 ?_
  intro hk' hl' hta h20 zy7
  subst zy6
  subst zy7
  exact ⟨_, _, by walk_at "take", t', c', kvs', avs, rfl, hk', by (clear hfo hl has hb hsz2 hsz h3 h1 hch; omega), hta, h20, rfl⟩
noncomputable abbrev Row := Addr × Str × Tok × Str × Tok
noncomputable def rowCell (e : Row) : Addr × Pr := (e.1, Tp [.str e.2.1 e.2.2.1, .str e.2.2.2.1 e.2.2.2.2])
noncomputable def bookLed (x dx ha : Addr) (ts : List Row) : Led := (x, Is (instObj 190 dx)) :: (dx, Fd "_headers" (.ref ha)) :: (ha, Ls (ts.map fun e => .ref e.1)) :: ts.map rowCell
noncomputable def BookIs (ch : Nat) (ts : List Row) (b : List (List Bool × Wd)) : Prop := ts.length = b.length ∧ ∀ (i : Nat) (as : List Bool) (w : Wd), b[i]? = some (as, w) → ∃ a t u, ts[i]? = some (a, rw' (w.length % 2 == 1) as, t, enc ch w, u)
theorem calm_rw (up : Bool) (as : List Bool) : Calm' (rw' up as) := fun i hi => by
 have hi' : i < as.length := by simpa [rw'] using hi
 have e : (rw' up as).cps.getD i 0 = yn up as[i] := by simp [rw', Array.getD, hi']
 rw [e]
 cases up <;> cases as[i] <;> decide
theorem calm_enc {ch : Nat} (h1 : 32 ≤ ch) (h2 : ch < 127) (w : Wd) : Calm' (enc ch w) := fun i hi => by
 have hi' : i < w.length := by simpa [enc] using hi
 have e : (enc ch w).cps.getD i 0 = sg ch w[i] := by simp [enc, Array.getD, hi']
 rw [e]
 cases w[i]
 ·show 32 ≤ 46 ∧ 46 < 127; (clear e hi' hi h2 h1; omega)
 ·exact ⟨h1, h2⟩
theorem W.rpN {c : Cx} {A : Around} {l : Led} {x : Str} {t : Tok} {Q : Value → Led → Prop} (T : Gd c (HK c.w.params)) (hs : Calm' x) (hz : x.cps.size ≤ 1000000) (q : Q .none l) : W c A (call (.builtin "re.Pattern.search") [.ref 62, .str x t]) l Q := fun R hp tk S => by
 have X := T.X.keeps S.base
 have h1 := X 62 _ (by k_is)
 have h2 := X 61 _ (by k_is)
 exact wpAny_rpSearch h1 h2 (by decide +kernel) (searchN hs) (by (clear h2 h1; omega)) ⟨hp, tk, l, rfl, S, q⟩
theorem W.rpV {c : Cx} {A : Around} {l : Led} {x : Str} {t : Tok} {Q : Value → Led → Prop} (T : Gd c (HK c.w.params)) (hs : Calm' x) (hz : x.cps.size ≤ 1000000) (q : Q .none l) : W c A (call (.builtin "re.Pattern.search") [.ref 67, .str x t]) l Q := fun R hp tk S => by
 have X := T.X.keeps S.base
 have h1 := X 67 _ (by k_is)
 have h2 := X 66 _ (by k_is)
 exact wpAny_rpSearch h1 h2 (by decide +kernel) (searchV hs) (by (clear h2 h1; omega)) ⟨hp, tk, l, rfl, S, q⟩
theorem W.truthyNone {c : Cx} {A : Around} {l : Led} {Q : Bool → Led → Prop} (q : Q false l) : W c A (truthy .none) l Q := fun R hp tk S => truthy_none ⟨hp, tk, l, rfl, S, q⟩
theorem conv_ok {c : Cx} (T : Gd c (HK c.w.params)) {A : Around} (r : Room A 3) {x : Addr} {s : Str} {t : Tok} {b : Bool} (hs : Calm' s) (hz : s.cps.size ≤ 1000000) :
  W c A (call (.ref 89) [.ref x, .str s t] [(Str.ofString "name", .bool b)]) [] (fun v l' => v = .str s t ∧ l' = []) := by
 refine W.close ?_
 refine W.def (ps := ["self", "value", "name"]) (os := ["regex"]) (vs := [.ref x, .str s t, .bool b]) T r (by k_is) (by k_is) (by exact rfl) (fun s X => BindsTo.of_eq (by exact rfl)) rfl (by decide +kernel) (by decide +kernel) (locs_of (by decide +kernel)) ?_
 intro L
 simp only [List.cons_append, List.nil_append, List.map_cons, List.map_nil]
 refine W.cons (W.cond (W.testCompare (W.callT (id := "type") ?_)))
 walk_at "b_type"
 refine ⟨rfl, W.spCons ?_⟩
 walk_at "nm"
 refine W.spNil (W.typeOf Ty.s (by decide +kernel) ?_)
 walk_at "b_str"
 refine W.isP (by rfl) (W.truthyBool ?_)
 rw [show (Value.type "str" == Value.type "str") = true from by decide +kernel]
 simp only [if_true]
 refine W.step (W.set (W.ifExp (W.testValue ?_)))
 walk_at "nm"
 refine W.truthyBool ?_
 have tail : ∀ (p : Addr) (vs : List (Option Value)), vs = [some (.ref x), some (.str s t), some (.bool b), some (.ref p)] → True := fun _ _ _ => trivial
 cases b
 ·simp only [Bool.false_eq_true, if_false]
  walk_at "gl"
  walk_at "st"
  refine ⟨by first | rfl | trivial, W.step (W.cond (W.testValue (W.methK (a := 67) T (by k_is) rfl rfl plainAttrs_rp slot_rp_search type_rp_search ?_)))⟩
  walk_at "nm"
  refine ⟨rfl, W.spCons ?_⟩
  walk_at "nm"
  refine W.spNil (W.rpV T hs hz (W.truthyNone ?_))
  simp only [Bool.false_eq_true, if_false]
  refine W.nil ⟨by first | rfl | trivial, W.cons (W.ret ?_)⟩
  walk_at "nm"
  exact ⟨_, _, by walk_at "take", rfl, rfl⟩
 ·simp only [if_true]
  walk_at "gl"
  walk_at "st"
  refine ⟨by first | rfl | trivial, W.step (W.cond (W.testValue (W.methK (a := 62) T (by k_is) rfl rfl plainAttrs_rp slot_rp_search type_rp_search ?_)))⟩
  walk_at "nm"
  refine ⟨rfl, W.spCons ?_⟩
  walk_at "nm"
  refine W.spNil (W.rpN T hs hz (W.truthyNone ?_))
  simp only [Bool.false_eq_true, if_false]
  refine W.nil ⟨by first | rfl | trivial, W.cons (W.ret ?_)⟩
  walk_at "nm"
  exact ⟨_, _, by walk_at "take", rfl, rfl⟩
theorem row_mem {x dx ha : Addr} {ts : List Row} {i : Nat} {e : Row} (h : ts[i]? = some e) : rowCell e ∈ bookLed x dx ha ts :=
 .tail _ (.tail _ (.tail _ (List.mem_map.mpr ⟨e, List.mem_of_getElem? h, rfl⟩)))
theorem init_ok : ∀ {c : Cx} {A : Around} {hl : Addr} (T : Gd c (HK c.w.params)) (r : Room A 3), W c A (call (.ref 190) [.ref hl]) [(hl, Ls [])] (fun v l' => ∃ x dx, v = .ref x ∧ l' = bookLed x dx hl []) := by
 walk_at "E3"; generalize (z3 _ _).1 = c; generalize (z3 _ _).2.1 = A; generalize (z3 _ _).2.2 = hl
 intro T r
 refine W.close ?_
 refine W.make T (fI := 82) (by k_is) (by k_is) (by k_is) ?_
 walk_at "E2"; generalize (z2 _ _).1 = x; generalize (z2 _ _).2 = dx
 refine CW.def (ps := ["self", "headers"]) (os := ["k", "v"]) (vs := [.ref x, .ref hl]) (n := 1) T r.make (by k_is) (by k_is) (by exact rfl) (fun s X => ?_) rfl (by decide +kernel) (by decide +kernel) (by decide +kernel) ?_
 ·exact binds_K X rfl (by k_is) rfl rfl (by exact rfl)
 walk_at "E1"; generalize z1 _ _ = L
 simp only [List.cons_append, List.nil_append, List.map_cons, List.map_nil]
 refine W.nd ?_
 intro nd
 refine W.step (W.set (W.ifExp (W.testCompare ?_)))
 walk_at "nm"
 refine W.kNone (W.isntP (by rfl) (W.truthyBool ?_))
 rw [show (!(Value.ref hl == Value.none)) = true from rfl]
 simp only [if_true]
 walk_at "nm"
 walk_at "st"
 refine ⟨by first | rfl | trivial, W.step (W.cond (W.testCompare (W.callT (id := "type") ?_)))⟩
 walk_at "b_type"
 refine ⟨rfl, W.spCons ?_⟩
 walk_at "nm"
 refine W.spNil (W.typeOf (Ty.ls (by walk_at "mem")) (by decide +kernel) ?_)
 walk_at "b_list"
 refine W.isntP (by rfl) (W.truthyBool ?_)
 rw [show (!(Value.type "list" == Value.type "list")) = false from by decide +kernel]
 simp only [Bool.false_eq_true, if_false]
 refine W.nil ⟨by first | rfl | trivial, W.step (W.setAttrSt ?_)⟩
 walk_at "nm"
 walk_at "nm"
 refine W.setOwn (C := 190) T (by walk_at "mem") (by walk_at "mem") (by walk_at "up") ?_ (by k_is) (by k_is) (by k_is) (by k_is) ⟨by first | rfl | trivial, ?_⟩
 ·intro e
  simp [e] at nd
 refine W.step (W.cond (W.testValue (W.kBool (W.truthyBool ?_))))
 simp only [if_true]
 refine W.step (W.forT (a := hl) (vs := []) (fun i l => l = [(L, NP ["self", "headers", "k", "v"] [some (.ref x), some (.ref hl), none, none]), (x, Is (instObj 190 dx)), (dx, Fd "_headers" (.ref hl)), (hl, Ls [])]) r.hh (by simp) ?_ ?_ ?_ ?_)
 ·walk_at "nm"
  exact ⟨rfl, rfl⟩
 ·walk_at "E2"; generalize (z2 _ _).1 = i; generalize (z2 _ _).2 = l
  rintro rfl
  walk_at "mem"
 ·walk_at "E3"; generalize (z3 _ _).1 = i; generalize (z3 _ _).2.1 = v; generalize (z3 _ _).2.2 = l1
  intro h
  cases h
 ·walk_at "E1"; generalize z1 _ _ = l
  rintro rfl
  refine ⟨by first | rfl | trivial, W.nil ⟨by first | rfl | trivial, W.nil ⟨rfl, _, _, by walk_at "take", x, dx, rfl, rfl⟩⟩⟩
theorem rw_beq {as bs : List Bool} : (rw' false as == rw' false bs) = (as == bs) := by
 by_cases h : as = bs
 ·subst h; simp
 ·rw [beq_eq_false_iff_ne.mpr h, beq_eq_false_iff_ne.mpr fun e => h (rw_inj e)]
theorem get_ok : ∀ {c : Cx} {A : Around} {ch : Nat} {x dx ha : Addr} {ts : List Row} {b : List (List Bool × Wd)} {up : Bool} {as : List Bool} {t : Tok} (T : Gd c (HK c.w.params)) (r : Room A 5) (hb : BookIs ch ts b) (hz : ts.length ≤ 1000) (hz2 : as.length ≤ 1000) (hz3 : ∀ p ∈ b, p.1.length ≤ 1000), W c A (call (.ref 137) [.ref x, .str (rw' up as) t]) (bookLed x dx ha ts) (fun v l' => (match b.find? (fun p => p.1 == as) with | some p => ∃ t', v = .str (enc ch p.2) t' | none => v = .none) ∧ l' = bookLed x dx ha ts) := by
 refine' @E11 _ _ _ _ _ _ _ _ _ _ _ _ (by walk_at "ne") ?_; generalize (z11 _ _).1 = c; generalize (z11 _ _).2.1 = A; generalize (z11 _ _).2.2.1 = ch; generalize (z11 _ _).2.2.2.1 = x; generalize (z11 _ _).2.2.2.2.1 = dx; generalize (z11 _ _).2.2.2.2.2.1 = ha; generalize (z11 _ _).2.2.2.2.2.2.1 = ts; generalize (z11 _ _).2.2.2.2.2.2.2.1 = b; generalize (z11 _ _).2.2.2.2.2.2.2.2.1 = up; generalize (z11 _ _).2.2.2.2.2.2.2.2.2.1 = as; generalize (z11 _ _).2.2.2.2.2.2.2.2.2.2 = t
 intro T r hb hz hz2 hz3
 refine W.close ?_
 refine W.def (ps := ["self", "name", "default"]) (os := ["k", "v"]) (vs := [.ref x, .str (rw' up as) t, .none]) T r (by k_is) (by k_is) (by exact rfl) ?_ rfl (by decide +kernel) (by decide +kernel) (locs_of (by decide +kernel)) ?_
 ·walk_at "E1"; generalize z1 _ _ = s
  intro X
  exact binds_K X rfl (by k_is) rfl rfl (by exact rfl)
 walk_at "E1"; generalize z1 _ _ = L
 simp only [List.cons_append, List.nil_append, List.map_cons, List.map_nil]
 refine W.step (W.set (W.methOwn (x := x) (dx := dx) (C := 190) (f := 89) (attr := "_headers") (av := .ref ha) T (by k_is) (by k_is) (by k_is) (by decide +kernel) (by k_is) (by exact rfl) ?_ (by exact rfl) (by exact rfl) _ (by exact rfl)))
 walk_at "nm"
 refine ⟨rfl, .tail _ (.head _), .tail _ (.tail _ (.head _)), W.spCons (W.meth F.plainAttrs_str F.slot_str_lower F.type_str_lower ?_)⟩
 walk_at "nm"
 refine ⟨Ty.s, W.spNil (W.lower ?_ ?_)⟩
 ·rw [rw_len]; (clear hz; omega)
 walk_at "E1"; generalize z1 _ _ = t2
 rw [lower_row]
 refine W.spNil (W.evCons (W.kwOne (W.kBool (W.evNil ?_))))
 have hcz : (rw' false as).cps.size ≤ 1000000 := by have := rw_len false as; show (rw' false as).length ≤ _; (clear hz; omega)
 refine W.use (conv_ok (b := true) (x := x) (t := t2) T (r.deeper.less (by (clear hcz hz2 hz; omega))) (calm_rw false as) hcz) Take.nil ?_
 walk_at "E2"; generalize (z2 _ _).1 = v; generalize (z2 _ _).2 = l'
 refine A2 ?_
 intro zy1 zy2
 subst zy1
 subst zy2
 simp only [List.nil_append]
 walk_at "st"
 refine ⟨by first | rfl | trivial, ?_⟩
 have hfin : ∀ (l : Led) (v : Value), (match b.find? (fun p => p.1 == as) with | some p => ∃ t', v = .str (enc ch p.2) t' | none => v = .none) → ∀ y, l = y :: bookLed x dx ha ts → ∃ l'' R, Take l l'' R ∧ (match b.find? (fun p => p.1 == as) with | some p => ∃ t', v = .str (enc ch p.2) t' | none => v = .none) ∧ l'' = bookLed x dx ha ts := fun l v h y e => by
  subst e
  exact ⟨_, [y], Take.suffix [y] _, h, rfl⟩
 have hlen := hb.1
 refine W.cut (fun l => b.find? (fun p => p.1 == as) = none ∧ ∃ kv vv, l = (L, NP ["self", "name", "default", "k", "v"] [some (.ref x), some (.str (rw' false as) t2), some .none, kv, vv]) :: bookLed x dx ha ts)
  (W.forT (a := ha) (vs := ts.map fun e => .ref e.1) (fun i l => (b.take i).find? (fun p => p.1 == as) = none ∧ ∃ kv vv, l = (L, NP ["self", "name", "default", "k", "v"] [some (.ref x), some (.str (rw' false as) t2), some .none, kv, vv]) :: bookLed x dx ha ts) r.hh ?_ ?_ ?_ ?_ ?_) ?_
 ·walk_at "E1"; generalize z1 _ _ = v
  intro hv
  refine O1 ?_ (List.mem_map.mp hv)
  walk_at "Y1"; generalize z1 _ _ = e
  refine A2 ?_
  intro _ zy3
  subst zy3
  exact ⟨_, rfl⟩
 ·refine W.attr ?_
  walk_at "nm"
  refine W.getOwn (x := x) (dx := dx) (C := 190) (v := .ref ha) T (.tail _ (.head _)) (.tail _ (.tail _ (.head _))) (by k_is) (by k_is) (by k_is) (by k_is) rfl ?_
  exact ⟨rfl, rfl, none, none, rfl⟩
 ·walk_at "E2"; generalize (z2 _ _).1 = i; generalize (z2 _ _).2 = l
  refine A2 ?_
  intro _
  walk_at "Y2"; generalize (z2 _ _).1 = kv; generalize (z2 _ _).2 = vv
  intro zy4
  subst zy4
  exact .tail _ (.tail _ (.tail _ (.head _)))
 ·walk_at "E3"; generalize (z3 _ _).1 = i; generalize (z3 _ _).2.1 = v; generalize (z3 _ _).2.2 = l1
  intro hv
  refine A2 ?_
  intro hno
  walk_at "Y2"; generalize (z2 _ _).1 = kv; generalize (z2 _ _).2 = vv
  intro zy5
  subst zy5
  rw [List.getElem?_map] at hv
  refine O1 ?_ (Option.map_eq_some_iff.mp hv)
  walk_at "Y1"; generalize z1 _ _ = e
  refine A2 ?_
  intro he zy6
  subst zy6
  have hi := (List.getElem?_eq_some_iff.mp he).1
  have hbi : b[i]? = some (b[i]'(by (clear hv he hcz hz2 hz; omega))) := List.getElem?_eq_getElem _
  generalize (b[i]'(by (clear hbi hv he hcz hz2 hz; omega))) = p at hbi
  refine PRe p ?_
  walk_at "E2"; generalize (z2 _ _).1 = asi; generalize (z2 _ _).2 = wi
  intro zy7
  subst zy7
  refine O1 ?_ (hb.2 i asi wi hbi)
  walk_at "Y3"; generalize (z3 _ _).1 = ai; generalize (z3 _ _).2.1 = tk; generalize (z3 _ _).2.2 = tv
  intro he2
  rw [he] at he2
  cases he2
  have hmem : (ai, Tp [.str (rw' (wi.length % 2 == 1) asi) tk, .str (enc ch wi) tv]) ∈ bookLed x dx ha ts := row_mem he
  have hasi := hz3 _ (List.mem_of_getElem? hbi)
  refine W.asTuple r.hh (.tail _ hmem) (by exact rfl) (by exact rfl) ?_
  refine W.inOrderCons (W.asName ?_)
  walk_at "st"
  refine W.inOrderCons (W.asName ?_)
  walk_at "st"
  refine W.inOrderNil ?_
  have ht : b.take (i + 1) = b.take i ++ [(asi, wi)] := by rw [List.take_add_one, hbi]; rfl
  refine W.cons (W.cond (W.testCompare (W.meth F.plainAttrs_str F.slot_str_lower F.type_str_lower ?_)))
  walk_at "nm"
  refine ⟨Ty.s, W.spNil (W.lower ?_ fun t3 => ?_)⟩
  ·rw [rw_len]; dsimp only at hasi; (clear ht hv he hbi hi hlen hcz hz2 hz; omega)
  rw [lower_row]
  walk_at "nm"
  refine W.seq (W.truthyBool ?_)
  rw [rw_beq]
  cases hq : (asi == as)
  ·simp only [Bool.false_eq_true, if_false]
   refine W.nil (W.nil ⟨?_, _, _, rfl⟩)
   rw [ht, List.find?_append, hno]
   simp [hq]
  ·simp only [if_true]
   refine W.cons (W.ret ?_)
   walk_at "nm"
   refine hfin _ _ ?_ _ rfl
   have : b.find? (fun p => p.1 == as) = some (asi, wi) := by
    rw [← List.take_append_drop (i + 1) b, ht, List.find?_append, List.find?_append, hno]
    simp [hq]
   rw [this]
   exact ⟨_, rfl⟩
 ·walk_at "E1"; generalize z1 _ _ = l
  refine A2 ?_
  intro hno
  walk_at "Y2"; generalize (z2 _ _).1 = kv; generalize (z2 _ _).2 = vv
  intro zy8
  subst zy8
  rw [List.length_map, hlen, List.take_length] at hno
  exact ⟨hno, kv, vv, rfl⟩
 ·walk_at "E1"; generalize z1 _ _ = l
  refine A2 ?_
  intro hno
  walk_at "Y2"; generalize (z2 _ _).1 = kv; generalize (z2 _ _).2 = vv
  intro zy9
  subst zy9
  refine W.cons (W.ret ?_)
  walk_at "nm"
  refine hfin _ _ ?_ _ rfl
  rw [hno]
theorem BookIs.snoc {ch : Nat} {ts : List Row} {b : List (List Bool × Wd)} {a : Addr} {as : List Bool} {w : Wd} {t u : Tok} (h : BookIs ch ts b) : BookIs ch (ts ++ [(a, rw' (w.length % 2 == 1) as, t, enc ch w, u)]) (b ++ [(as, w)]) := by
 refine ⟨by simp [h.1], fun i as' w' hm => ?_⟩
 rcases Nat.lt_or_ge i b.length with hi | hi
 ·rw [List.getElem?_append_left hi] at hm
  rw [List.getElem?_append_left (by rw [h.1]; exact hi)]
  exact h.2 i _ _ hm
 ·rw [List.getElem?_append_right hi] at hm
  rw [List.getElem?_append_right (by rw [h.1]; exact hi), h.1]
  cases hk : i - b.length with
  | zero =>
   rw [hk] at hm
   simp at hm
   obtain ⟨rfl, rfl⟩ := hm
   exact ⟨a, t, u, rfl⟩
  | succ k => rw [hk] at hm; simp at hm
theorem set_ok {c : Cx} (T : Gd c (HK c.w.params)) {A : Around} (r : Room A 7) {ch : Nat} (hc1 : 32 ≤ ch) (hc2 : ch < 127) {x dx ha : Addr} {ts : List Row} {b : List (List Bool × Wd)} {w : Wd} {as : List Bool} {t u : Tok}
  (hb : BookIs ch ts b) (hz : ts.length ≤ 900) (hz2 : as.length ≤ 1000) (hz3 : ∀ p ∈ b, p.1.length ≤ 1000) (hz4 : w.length ≤ 1000) :
  W c A (call (.ref 180) [.ref x, .str (rw' (w.length % 2 == 1) as) t, .str (enc ch w) u]) (bookLed x dx ha ts) (fun v l' => ∃ ts' t', v = .str (enc ch (setB b as w).2) t' ∧ BookIs ch ts' (setB b as w).1 ∧ l' = bookLed x dx ha ts') := by
 refine W.close ?_
 refine W.defP (ps := ["self", "name", "value"]) (os := ["result"]) T r (by k_is) (by k_is) (by exact rfl) (by exact rfl) rfl (by decide +kernel) (by decide +kernel) (by decide +kernel) ?_
 intro L
 simp only [List.cons_append, List.nil_append, List.map_cons, List.map_nil]
 have hcz : (rw' (w.length % 2 == 1) as).cps.size ≤ 1000000 := by have := rw_len (w.length % 2 == 1) as; show (rw' (w.length % 2 == 1) as).length ≤ _; (clear hz4 hz hc2 hc1; omega)
 have hcz2 : (enc ch w).cps.size ≤ 1000000 := by rw [enc_size]; (clear hcz hz2 hz hc2 hc1; omega)
 refine W.step (W.set (W.methOwn (x := x) (dx := dx) (C := 190) (f := 137) (attr := "_headers") (av := .ref ha) T (by k_is) (by k_is) (by k_is) (by decide +kernel) (by k_is) (by exact rfl) ?_ (by exact rfl) (by exact rfl) _ (by exact rfl)))
 walk_at "nm"
 refine ⟨rfl, .tail _ (.head _), .tail _ (.tail _ (.head _)), W.spCons ?_⟩
 walk_at "nm"
 refine W.spNil (W.evNil ?_)
 refine W.under (get_ok (x := x) (dx := dx) (ha := ha) (ts := ts) (up := (w.length % 2 == 1)) (as := as) (t := t) T (r.deeper.less (by (clear hcz2 hcz hz4 hz2 hz hc2 hc1; omega))) hb (by (clear hcz2 hcz hz4 hz2 hc2 hc1; omega)) hz2 hz3) ?_
 rintro v l' ⟨hv, rfl⟩
 walk_at "st"
 refine ⟨by first | rfl | trivial, W.cons (W.cond (W.testCompare ?_))⟩
 walk_at "nm"
 unfold setB
 cases hq : b.find? (fun p => p.1 == as) with
 | some p =>
  rw [hq] at hv
  obtain ⟨t', rfl⟩ := hv
  refine W.kNone (W.isP (by rfl) (W.truthyBool ?_))
  rw [show (Value.str (enc ch p.2) t' == Value.none) = false from rfl]
  simp only [Bool.false_eq_true, if_false]
  refine W.cons (W.ret ?_)
  walk_at "nm"
  exact ⟨_, _, Take.suffix [_] _, ts, t', rfl, hb, rfl⟩
 | none =>
  rw [hq] at hv
  subst hv
  refine W.kNone (W.isP (by rfl) (W.truthyBool ?_))
  rw [show (Value.none == Value.none) = true from rfl]
  simp only [if_true]
  refine W.step (W.expr (W.meth F.plainAttrs_list slot_list_append F.type_list_append (W.attr ?_)))
  walk_at "nm"
  refine W.getOwn (x := x) (dx := dx) (C := 190) (v := .ref ha) T (.tail _ (.head _)) (.tail _ (.tail _ (.head _))) (by k_is) (by k_is) (by k_is) (by k_is) rfl ?_
  refine ⟨Ty.ls (.tail _ (.tail _ (.tail _ (.head _)))), W.spCons (W.mkTuple (W.spCons ?_))⟩
  refine W.methOwn (x := x) (dx := dx) (C := 190) (f := 89) (attr := "_headers") (av := .ref ha) T (by k_is) (by k_is) (by k_is) (by decide +kernel) (by k_is) (by exact rfl) ?_ (by exact rfl) (by exact rfl) _ (by exact rfl)
  walk_at "nm"
  refine ⟨rfl, .tail _ (.head _), .tail _ (.tail _ (.head _)), W.spCons ?_⟩
  walk_at "nm"
  refine W.spNil (W.evCons (W.kwOne (W.kBool (W.evNil ?_))))
  refine W.use (conv_ok (b := true) (x := x) (t := t) T (r.deeper.less (by (clear hcz2 hcz hz4 hz2 hz hc2 hc1; omega))) (calm_rw _ as) hcz) Take.nil ?_
  rintro v l' ⟨rfl, rfl⟩
  simp only [List.nil_append]
  refine W.spCons ?_
  refine W.methOwn (x := x) (dx := dx) (C := 190) (f := 89) (attr := "_headers") (av := .ref ha) T (by k_is) (by k_is) (by k_is) (by decide +kernel) (by k_is) (by exact rfl) ?_ (by exact rfl) (by exact rfl) _ (by exact rfl)
  walk_at "nm"
  refine ⟨rfl, .tail _ (.head _), .tail _ (.tail _ (.head _)), W.spCons ?_⟩
  walk_at "nm"
  refine W.spNil (W.evCons (W.kwOne (W.kBool (W.evNil ?_))))
  refine W.use (conv_ok (b := false) (x := x) (t := u) T (r.deeper.less (by (clear hcz2 hcz hz4 hz2 hz hc2 hc1; omega))) (calm_enc hc1 hc2 w) hcz2) Take.nil ?_
  rintro v l' ⟨rfl, rfl⟩
  simp only [List.nil_append]
  refine W.spNil ⟨by show 2 ≤ 16777216; (clear hcz2 hcz hz4 hz2 hz hc2 hc1; omega), fun ta => W.spNil (W.append (.tail (.tail (.tail (.tail .head)))) (by show _ ≤ 16777216; rw [List.length_map]; (clear hcz2 hcz hz4 hz2 hc2 hc1; omega)) ⟨by first | rfl | trivial, ?_⟩)⟩
  refine W.perm (l' := (L, NP ["self", "name", "value", "result"] [some (.ref x), some (.str (rw' (w.length % 2 == 1) as) t), some (.str (enc ch w) u), some .none]) :: bookLed x dx ha (ts ++ [(ta, rw' (w.length % 2 == 1) as, t, enc ch w, u)])) ?_ ?_
  ·refine W.cons (W.ret ?_)
   walk_at "nm"
   exact ⟨_, _, Take.suffix [_] _, _, u, rfl, hb.snoc, rfl⟩
  ·unfold bookLed
   rw [List.map_append, List.map_append]
   exact (List.perm_append_singleton _ _).symm
theorem items_ok {c : Cx} (T : Gd c (HK c.w.params)) {A : Around} (r : Room A 2) {x dx ha : Addr} {ts : List Row} (hz : ts.length ≤ 1000) :
  W c A (call (.ref 154) [.ref x]) (bookLed x dx ha ts) (fun v l' => ∃ d, v = .ref d ∧ l' = (d, Ls (ts.map fun e => .ref e.1)) :: bookLed x dx ha ts) := by
 refine W.close ?_
 refine W.defP (ps := ["self"]) (os := []) T r (by k_is) (by k_is) (by exact rfl) (by exact rfl) rfl (by decide +kernel) (by decide +kernel) (by decide +kernel) ?_
 intro L
 simp only [List.cons_append, List.nil_append, List.map_cons, List.map_nil]
 refine W.cons (W.ret (W.copy (a := ha) (vs := ts.map fun e => .ref e.1) (W.attr ?_)))
 walk_at "nm"
 refine W.getOwn (x := x) (dx := dx) (C := 190) (v := .ref ha) T (.tail _ (.head _)) (.tail _ (.tail _ (.head _))) (by k_is) (by k_is) (by k_is) (by k_is) rfl ?_
 refine ⟨rfl, .tail _ (.tail _ (.tail _ (.head _))), by show _ ≤ 16777216; rw [List.length_map]; omega, fun d => ?_⟩
 exact ⟨_, _, Take.cons .head (Take.suffix [_] _), d, rfl, rfl⟩
noncomputable def eInt (z : Int) : Value → Bool := fun v => match v with | .int a _ => a == z | _ => false
theorem NatsAre.mem {vs : List Value} {ns : List Nat} (h : NatsAre vs ns) {v : Value} (m : v ∈ vs) : ∃ n t, n ∈ ns ∧ v = .int (n : Nat) t := by
 obtain ⟨i, hi, e⟩ := List.getElem_of_mem m
 have hi' : i < ns.length := by rw [← h.1]; exact hi
 obtain ⟨t, e'⟩ := h.2 i _ (List.getElem?_eq_getElem hi')
 rw [List.getElem?_eq_getElem hi, e] at e'
 exact ⟨_, t, List.getElem_mem hi', Option.some.inj e'⟩
theorem NatsAre.any {vs : List Value} {ns : List Nat} (h : NatsAre vs ns) (z : Int) : vs.any (eInt z) = ns.any fun n => (n : Int) == z := by
 rw [Bool.eq_iff_iff, List.any_eq_true, List.any_eq_true]
 constructor
 ·rintro ⟨v, m, e⟩
  obtain ⟨n, t, hn, rfl⟩ := h.mem m
  exact ⟨n, hn, e⟩
 ·rintro ⟨n, m, e⟩
  obtain ⟨i, hi, e2⟩ := List.getElem_of_mem m
  obtain ⟨t, e'⟩ := h.2 i n (by rw [List.getElem?_eq_getElem hi, e2])
  exact ⟨_, List.mem_of_getElem? e', e⟩
theorem NatsAre.eqs {c : Cx} {n : Nat} {l : Led} {vs : List Value} {ns : List Nat} (h : NatsAre vs ns) {z : Int} {t : Tok} : ∀ y, y ∈ vs → Eqs c n l y (.int z t) (eInt z y) := fun y m => by
 obtain ⟨k, u, _, rfl⟩ := h.mem m
 exact Eqs.int
theorem any_nat (ns : List Nat) (k : Nat) : (ns.any fun n => (n : Int) == (k : Int)) = ns.contains k := by
 rw [Bool.eq_iff_iff, List.any_eq_true, List.contains_iff_mem]
 constructor
 ·rintro ⟨n, m, e⟩
  have : n = k := by simp at e; omega
  exact this ▸ m
 ·intro m
  exact ⟨k, m, by simp⟩
theorem any_pred (ns : List Nat) (k : Nat) : (ns.any fun n => (n : Int) == (k : Int) - 1) = (decide (1 ≤ k) && ns.contains (k - 1)) := by
 rcases Nat.eq_zero_or_pos k with rfl | h
 ·rw [Bool.eq_iff_iff, List.any_eq_true]
  constructor
  ·rintro ⟨n, m, e⟩
   exfalso; simp at e <;> omega
  ·intro h
   simp at h
 ·rw [show ((k : Int) - 1) = ((k - 1 : Nat) : Int) by omega, any_nat]
  simp; omega
noncomputable def aheadC (places : List Nat) (sign : Bool) (letters : Wd) (free : List Bool) (k : Nat) : Bool := (places.contains k && free.getD k false) || (decide (1 ≤ k) && places.contains (k - 1) && letters.getD (k - 1) false == sign)
theorem ahead_ok : ∀ {c : Cx} {A : Around} {ch : Nat} {places : List Nat} {sign : Bool} {letters : Wd} {free : List Bool} {pa fa : Addr} {pvs : List Value} {ts tl : Tok} (T : Gd c (HK c.w.params)) (r : Room A 4) (hch : ch ≠ 46) (hp : NatsAre pvs places) (hf : free.length = letters.length + 1) (hz : letters.length ≤ 1000), W c A (call (.ref 218) [.ref pa, .str (enc ch [sign]) ts, .str (enc ch letters) tl, .ref fa]) [(pa, Ls pvs), (fa, Ls (free.map .bool))] (fun v l' => ∃ ra rvs, v = .ref ra ∧ NatsAre rvs (aheadB places sign letters free) ∧ l' = [(ra, Ls rvs), (pa, Ls pvs), (fa, Ls (free.map .bool))]) := by
 refine' @E12 _ _ _ _ _ _ _ _ _ _ _ _ _ (by walk_at "ne") ?_; generalize (z12 _ _).1 = c; generalize (z12 _ _).2.1 = A; generalize (z12 _ _).2.2.1 = ch; generalize (z12 _ _).2.2.2.1 = places; generalize (z12 _ _).2.2.2.2.1 = sign; generalize (z12 _ _).2.2.2.2.2.1 = letters; generalize (z12 _ _).2.2.2.2.2.2.1 = free; generalize (z12 _ _).2.2.2.2.2.2.2.1 = pa; generalize (z12 _ _).2.2.2.2.2.2.2.2.1 = fa; generalize (z12 _ _).2.2.2.2.2.2.2.2.2.1 = pvs; generalize (z12 _ _).2.2.2.2.2.2.2.2.2.2.1 = ts; generalize (z12 _ _).2.2.2.2.2.2.2.2.2.2.2 = tl
 intro T r hch hp hf hz
 refine W.close ?_
 refine W.defP (ps := ["places", "sign", "letters", "free"]) (os := ["row", "k"]) T r (by k_is) (by k_is) (by exact rfl) (by exact rfl) rfl (by decide +kernel) (by decide +kernel) (by decide +kernel) ?_
 walk_at "E1"; generalize z1 _ _ = L
 simp only [List.cons_append, List.nil_append, List.map_cons, List.map_nil]
 refine W.step (W.set (W.mkList (W.spNil ⟨by walk_at "sz", ?_⟩)))
 walk_at "E1"; generalize z1 _ _ = ra
 walk_at "st"
 refine ⟨by first | rfl | trivial, ?_⟩
 have hlf : (free.map Value.bool).length = free.length := List.length_map ..
 obtain ⟨hs1, hs2⟩ := rg1 free.length (by (clear hlf hch; omega))
 refine W.step (W.for (n := free.length) (P := fun i v => ∃ t, v = .int (0 + (i : Nat) * 1) t) (need := [])
  (fun i l => ∃ rr rvs kv, NatsAre rvs ((List.range i).filter (aheadC places sign letters free)) ∧
   l = [(rr, Rg 0 free.length 1), (ra, Ls rvs), (L, NP ["places", "sign", "letters", "free", "row", "k"] [some (.ref pa), some (.str (enc ch [sign]) ts), some (.str (enc ch letters) tl), some (.ref fa), some (.ref ra), kv]), (pa, Ls pvs), (fa, Ls (free.map .bool))]) r.hh ?_ ?_ ?_ ?_)
 ·refine W.callT (id := "range") ?_
  walk_at "b_range"
  refine ⟨rfl, W.spCons (W.callB (id := "len") ?_)⟩
  walk_at "b_len"
  refine ⟨rfl, W.spCons ?_⟩
  walk_at "nm"
  refine W.spNil (W.len' (by walk_at "mem") (by show _ ≤ 16777216; (clear hs2 hs1 hch; omega)) ?_)
  walk_at "E1"; generalize z1 _ _ = zu
  refine W.spNil ?_
  rw [hlf]
  refine W.range1 ?_
  walk_at "E1"; generalize z1 _ _ = rr
  refine ⟨Itr.rg (.head _) hs1 hs2, rr, [], none, NatsAre.nil, rfl⟩
 ·walk_at "E2"; generalize (z2 _ _).1 = zu; generalize (z2 _ _).2 = zu
  intro _
  walk_at "E1"; generalize z1 _ _ = zu
  intro h
  cases h
 ·walk_at "E3"; generalize (z3 _ _).1 = i; generalize (z3 _ _).2.1 = v; generalize (z3 _ _).2.2 = l
  intro hi
  walk_at "Y1"; generalize z1 _ _ = t
  intro zy1
  subst zy1
  walk_at "Y3"; generalize (z3 _ _).1 = rr; generalize (z3 _ _).2.1 = rvs; generalize (z3 _ _).2.2 = kv
  refine A2 ?_
  intro hn zy2
  subst zy2
  rw [show (0 + (i : Nat) * 1 : Int) = ((i : Nat) : Int) by (clear hi hs2 hs1 hlf hz hf hch; omega)]
  have hrl : rvs.length ≤ i := by rw [hn.1]; exact Nat.le_trans (List.length_filter_le ..) (by simp)
  refine W.asName ?_
  walk_at "st"
  refine W.cons (W.cond (W.known (a := aheadC places sign letters free i) ?_ ?_))
  ·have hcond : aheadC places sign letters free i = ((places.contains i && free.getD i false) || ((decide (1 ≤ i) && places.contains (i - 1)) && letters.getD (i - 1) false == sign)) := rfl
   rw [hcond]
   have second : ∀ {A : Around} {env : Env} {l : Led}, True := trivial
   refine W.testBool (W.orCons (W.known (a := places.contains i && free.getD i false) (W.testBool (W.andCons (W.testCompare ?_))) ?_))
   ·walk_at "nm"; walk_at "nm"
    refine W.inLs (n := 1) (r.deeper.less (by (clear hcond hrl hi hs2 hs1 hlf hz hf hch; omega))) (by walk_at "mem") (eInt i) hp.eqs (W.truthyBool ?_)
    rw [hp.any, any_nat]
    cases places.contains i
    ·simp only [Bool.false_eq_true, if_false, Bool.false_and]
     exact ⟨trivial, trivial⟩
    ·simp only [if_true, Bool.true_and]
     refine W.andCons (W.testValue (W.subs slot_list_getitem.lookup ?_))
     walk_at "nm"; walk_at "nm"
     have hfi : (free.map Value.bool)[((i : Nat) : Int).toNat]? = some (.bool (free.getD i false)) := by
      rw [Int.toNat_natCast, List.getElem?_map, List.getD_eq_getElem?_getD, List.getElem?_eq_getElem hi]; rfl
     refine ⟨Ty.ls (by walk_at "mem"), W.lsItem (by walk_at "mem") (by (clear hfi hcond hrl hi hs2 hs1 hlf hz hf hch; omega)) hfi (by show _ ≤ 16777216; (clear hfi hcond hrl hi hs2 hs1 hch; omega)) (W.truthyBool ?_)⟩
     cases free.getD i false
     ·simp only [Bool.false_eq_true, if_false]
      exact ⟨trivial, trivial⟩
     ·simp only [if_true]
      exact W.andNil ⟨rfl, rfl⟩
   ·cases places.contains i && free.getD i false
    ·simp only [Bool.false_eq_true, if_false, Bool.false_or]
     refine W.orCons (W.known (a := (decide (1 ≤ i) && places.contains (i - 1)) && letters.getD (i - 1) false == sign) (W.testBool (W.andCons (W.testCompare (W.binop ?_)))) ?_)
     ·walk_at "nm"
      refine W.kInt ?_
      walk_at "E1"; generalize z1 _ _ = zu
      refine W.isub ?_
      walk_at "E1"; generalize z1 _ _ = t2
      walk_at "nm"
      refine W.inLs (n := 1) (r.deeper.less (by (clear hcond hrl hi hs2 hs1 hlf hz hf hch; omega))) (by walk_at "mem") (eInt (i - 1)) hp.eqs (W.truthyBool ?_)
      rw [hp.any, any_pred]
      cases hq : (decide (1 ≤ i) && places.contains (i - 1))
      ·simp only [Bool.false_eq_true, if_false, Bool.false_and]
       exact ⟨trivial, trivial⟩
      ·simp only [if_true, Bool.true_and]
       have h1 : 1 ≤ i := by simp at hq; exact hq.1
       refine W.andCons (W.testCompare (W.subs F.slot_str_getitem.lookup ?_))
       walk_at "nm"
       refine W.binop ?_
       walk_at "nm"
       refine W.kInt ?_
       walk_at "E1"; generalize z1 _ _ = zu
       refine W.isub ?_
       walk_at "E1"; generalize z1 _ _ = t3
       refine ⟨Ty.s, ?_⟩
       rw [show ((i : Int) - 1) = ((i - 1 : Nat) : Int) by (clear hq hcond hrl hi hs2 hs1 hlf hz hf hch; omega)]
       have hli : i - 1 < letters.length := by (clear hq hcond hrl hs2 hs1 hlf hz hch; omega)
       have hx : (enc ch letters).cps[i - 1]? = some (sg ch (letters.getD (i - 1) false)) := by
        simp [enc, List.getD_eq_getElem?_getD, List.getElem?_eq_getElem hli, hli]
       refine W.sign hx (by rw [enc_len]; (clear hx hli h1 hq hcond hrl hi hs2 hs1 hlf hf hch; omega)) ?_
       walk_at "E1"; generalize z1 _ _ = t4
       walk_at "nm"
       refine W.seq (W.truthyBool ?_)
       rw [show ((⟨#[sg ch (letters.getD (i - 1) false)]⟩ : Str) == enc ch [sign]) = (letters.getD (i - 1) false == sign) from by
        rw [show (⟨#[sg ch (letters.getD (i - 1) false)]⟩ : Str) = enc ch [letters.getD (i - 1) false] from rfl, enc_beq hch]
        cases letters.getD (i - 1) false <;> cases sign <;> rfl]
       cases letters.getD (i - 1) false == sign
       ·simp only [Bool.false_eq_true, if_false]
        exact ⟨trivial, trivial⟩
       ·simp only [if_true]
        exact W.andNil ⟨rfl, rfl⟩
     ·cases ((decide (1 ≤ i) && places.contains (i - 1)) && letters.getD (i - 1) false == sign)
      ·simp only [Bool.false_eq_true, if_false]
       exact W.orNil ⟨rfl, rfl⟩
      ·simp only [if_true]
       exact ⟨trivial, trivial⟩
    ·simp only [if_true, Bool.true_or]
     exact ⟨trivial, trivial⟩
  ·have ht : (List.range (i + 1)).filter (aheadC places sign letters free) = (List.range i).filter (aheadC places sign letters free) ++ if aheadC places sign letters free i = true then [i] else [] := by
    rw [List.range_succ, List.filter_append, List.filter_cons]
    rfl
   cases hq : aheadC places sign letters free i
   ·rw [hq] at ht
    simp only [Bool.false_eq_true, if_false, List.append_nil] at ht ⊢
    refine W.nil (W.nil ⟨rr, rvs, _, ?_, rfl⟩)
    rw [ht]; exact hn
   ·rw [hq] at ht
    simp only [if_true] at ht ⊢
    refine W.cons (W.expr (W.meth F.plainAttrs_list slot_list_append F.type_list_append ?_))
    walk_at "nm"
    refine ⟨Ty.ls (by walk_at "mem"), W.spCons ?_⟩
    walk_at "nm"
    refine W.spNil (W.append (by walk_at "up") (by show _ ≤ 16777216; (clear ht hs2 hs1 hlf hch; omega)) (W.nil (W.nil ⟨rr, _, _, ?_, rfl⟩)))
    rw [ht]; exact hn.snoc
 ·walk_at "E1"; generalize z1 _ _ = l
  walk_at "Y3"; generalize (z3 _ _).1 = rr; generalize (z3 _ _).2.1 = rvs; generalize (z3 _ _).2.2 = kv
  refine A2 ?_
  intro hn zy3
  subst zy3
  refine ⟨by first | rfl | trivial, W.cons (W.ret ?_)⟩
  walk_at "nm"
  exact ⟨_, _, by walk_at "take", ra, rvs, rfl, hn, rfl⟩
noncomputable def opsB : List Nat := (Str.ofString "()[]:,;+-*/|&<>=%{}").cps.toList
noncomputable def dblB (ch : Nat) : Bool := (Str.ofString "*/=<>").cps.toList.contains ch
noncomputable def shorts : List Wd := allW 0 ++ allW 1 ++ allW 2 ++ allW 3
noncomputable def numOf : Option Value → Option Int
 | some (.int i _) => some i
 | _ => none
noncomputable def tokOk (kvs : List (Str × Value)) : Bool := opsB.all fun ch => ch != 46 && decide (32 ≤ ch) && decide (ch < 127) && shorts.all fun w =>
 ((valueAt kvs (enc ch w)).isSome == inT (dblB ch) w) && (numOf (valueAt kvs (enc ch w))).isSome == inT (dblB ch) w
 && (!(inT (dblB ch) w) || ((numOf (valueAt kvs (enc ch w)) == some 52) == (w == [false, false, false])))
 && (w.length != 1 || (match Builtin.Str.occurrences (Str.ofString "()[]:,;+-*/|&<>=.%{}") (enc ch w) 0 20 1 with | [j] => numOf (valueAt kvs (enc ch w)) == some (7 + (j : Int)) | _ => false))
structure Tok5 (c : Cx) (kvs : List (Str × Value)) : Prop where
 at_ : ∃ o, c.B.get? 55 = some o ∧ Dk c kvs o
 ok : tokOk kvs = true
noncomputable def kvsOf (es : List DictEntry) : List (Str × Value) := es.map fun e => ((match e.key with | .str x _ => x | _ => Str.empty), e.val)
theorem pairs_of {c : Cx} : ∀ {es : List DictEntry}, (∀ e ∈ es, ∃ x t, e.key = .str x t ∧ e.hash = hashStr c.w x) → PySem.Pairs (PySem.strKind c.prog c.w) es (kvsOf es)
 | [], _ => .nil
 | e :: es, h => by
  obtain ⟨x, t, h1, _⟩ := h e (.head _)
  refine .cons ?_ rfl (pairs_of fun e he => h e (.tail _ he))
  show (PySem.strKind c.prog c.w).is (match e.key with | .str x _ => x | _ => Str.empty) e.key = true
  rw [h1]; exact strIs
theorem tok_of {c : Cx} {es : List DictEntry} {n : Nat} (X : c.B.get? 55 = some { cls := .type "dict", data := .dict es.toArray n }) (hk : ∀ e ∈ es, ∃ x t, e.key = .str x t ∧ e.hash = hashStr c.w x) (nd : ((kvsOf es).map (·.1)).Nodup) (ok : tokOk (kvsOf es) = true) : ∃ kvs, Tok5 c kvs :=
 ⟨kvsOf es, ⟨_, X, ⟨es.toArray, n, ⟨rfl, rfl, rfl⟩, rfl, fun e he => by
  obtain ⟨x, t, h1, h2⟩ := hk e (by simpa using he)
  exact ⟨x, by rw [h1]; exact strIs, h2⟩, pairs_of hk, nd⟩⟩, ok⟩
theorem tok_ok : ∀ {c : Cx} (T : Gd c (HK c.w.params)), ∃ kvs, Tok5 c kvs := by
 walk_at "E1"; generalize z1 _ _ = c
 intro T
 have X := T.X 55 _ (by k_is)
 refine tok_of X ?keys ?nd ?ok
 case keys =>
  walk_at "E1"; generalize z1 _ _ = e
  intro he
  simp only [List.mem_cons, List.not_mem_nil, or_false] at he
  rcases he with rfl | rfl | rfl | rfl | rfl | rfl | rfl | rfl | rfl | rfl | rfl | rfl | rfl | rfl | rfl | rfl | rfl | rfl | rfl | rfl | rfl | rfl | rfl | rfl | rfl | rfl | rfl | rfl | rfl | rfl | rfl | rfl | rfl | rfl | rfl | rfl | rfl | rfl | rfl | rfl | rfl | rfl | rfl | rfl | rfl | rfl | rfl | rfl <;> exact ⟨_, _, rfl, rfl⟩
 case nd =>
  simp only [kvsOf, List.map_cons, List.map_nil]
  decide +kernel
 case ok =>
  simp only [kvsOf, List.map_cons, List.map_nil]
  decide +kernel
section
variable {c : Cx} {A : Around} {l : Led} {t : Tok} {kvs : List (Str × Value)}
theorem W.notInTok {x : Str} {Q : Value → Led → Prop} (k : Tok5 c kvs) (q : Q (.bool (!(valueAt kvs x).isSome)) l) : W c A (compareOp .NotIn (.str x t) (.ref 55)) l Q := fun R h tk S => by
 obtain ⟨o, e, p⟩ := k.at_
 exact wpAny_notIn_of strIs (by decide) (Dk.is (S.base _ _ e) p).mapOf ⟨h, tk + 1, l, rfl, S, q⟩
theorem W.getTok {x : Str} {v : Value} {Q : Value → Led → Prop} (k : Tok5 c kvs) (hv : valueAt kvs x = some v) (q : Q v l) : W c A (getItem (.ref 55) (.str x t)) l Q := fun R h tk S => by
 obtain ⟨o, e, p⟩ := k.at_
 exact wpAny_getItem_of strIs (Dk.is (S.base _ _ e) p).mapOf hv ⟨h, tk + 1, l, rfl, S, q⟩
end
theorem pick_run {α : Type} (l : List α) (a : Nat) : ∀ k, a + k ≤ l.length → ((List.range k).map (fun i => a + i)).filterMap (fun i => l.toArray[i]?) = (l.drop a).take k
 | 0, _ => by simp
 | k + 1, h => by
  rw [List.range_succ, List.map_append, List.filterMap_append, pick_run l a k (by omega), List.take_add_one, List.getElem?_drop]
  have hlt : a + k < l.length := by omega
  simp [hlt]
theorem idx_clip (a b n : Nat) (hab : a ≤ b) (ha : a ≤ n) : Builtin.Str.strSliceIndices (some (a : Int)) (some (b : Int)) 1 n = (List.range (min b n - a)).map (fun k => a + k) := by
 rw [← StrLaws.strSliceIndices_plain (a := a) (b := min b n) (len := n) (by omega) (by (clear ha hab; omega))]
 unfold Builtin.Str.strSliceIndices
 have h1 : ¬ ((b : Int) < 0) := by (clear ha hab; omega)
 have h2 : ¬ (((min b n : Nat) : Int) < 0) := by (clear h1 ha hab; omega)
 simp only [h1, h2, if_false, show ((1 : Int) > 0) = True from by simp, if_true]
 congr 2
 (clear h2 h1 ha hab; omega)
theorem slice_enc {ch : Nat} (w : Wd) (a b : Nat) (ha : a ≤ w.length) (hab : a ≤ b) : Txt.slice (enc ch w) (some (a : Int)) (some (b : Int)) = enc ch ((w.drop a).take (b - a)) := by
 unfold Txt.slice
 rw [enc_len, idx_clip a b w.length hab ha]
 have hp : ((List.range (min b w.length - a)).map (fun k => a + k)).filterMap ((enc ch w).cps[·]?) = ((w.drop a).take (b - a)).map (sg ch) := by
  have := pick_run (w.map (sg ch)) a (min b w.length - a) (by simp; (clear hab; omega))
  rw [show ((enc ch w).cps[·]?) = (fun i => (w.map (sg ch)).toArray[i]?) from rfl, this, ← List.map_drop, ← List.map_take]
  congr 1
  rcases Nat.le_total b w.length with h | h
  ·rw [Nat.min_eq_left h]
  ·rw [Nat.min_eq_right h, List.take_of_length_le (by simp), List.take_of_length_le (by simp; (clear this hab ha; omega))]
 split
 ·rename_i h
  simp only [List.length_map, List.length_range, Bool.and_eq_true, beq_iff_eq] at h
  have h2 := h.2
  rcases Nat.eq_zero_or_pos w.length with h0 | h0
  ·have : w = [] := List.length_eq_zero_iff.mp h0
   subst this; simp
  ·have ha0 : a = 0 := by (clear h0 h2 hp hab; omega)
   subst ha0
   rw [List.drop_zero, List.take_of_length_le (by (clear h2 hp hab ha h0; omega))]
 ·rw [hp]; rfl
theorem slice_from {ch : Nat} (w : Wd) (a : Nat) (ha : a ≤ w.length) : Txt.slice (enc ch w) (some (a : Int)) none = enc ch (w.drop a) := by
 have := slice_enc (ch := ch) w a w.length ha ha
 have e : Txt.slice (enc ch w) (some (a : Int)) none = Txt.slice (enc ch w) (some (a : Int)) (some (w.length : Int)) := by
  unfold Txt.slice
  rw [enc_len, StrLaws.sliceIdx_none_hi]
 rw [e, this, List.take_of_length_le (by simp)]
theorem shorts_mem {w : Wd} (h : w.length ≤ 3) : w ∈ shorts := by
 match w, h with
 | [], _ => decide
 | [a], _ => revert a; decide
 | [a, b], _ => revert a b; decide
 | [a, b, d], _ => revert a b d; decide
theorem Tok5.all {c : Cx} {kvs : List (Str × Value)} (k : Tok5 c kvs) {ch : Nat} (hc : ch ∈ opsB) {w : Wd} (hw : w.length ≤ 3) :
  (valueAt kvs (enc ch w)).isSome = inT (dblB ch) w ∧ (numOf (valueAt kvs (enc ch w))).isSome = inT (dblB ch) w ∧ (inT (dblB ch) w = true → (numOf (valueAt kvs (enc ch w)) == some 52) = (w == [false, false, false]))
  ∧ (w.length = 1 → ∃ j, Builtin.Str.occurrences (Str.ofString "()[]:,;+-*/|&<>=.%{}") (enc ch w) 0 20 1 = [j] ∧ numOf (valueAt kvs (enc ch w)) = some (7 + (j : Int))) := by
 have h1 := List.all_eq_true.mp k.ok ch hc
 simp only [Bool.and_eq_true] at h1
 have h2 := List.all_eq_true.mp h1.2 w (shorts_mem hw)
 simp only [Bool.and_eq_true, beq_iff_eq, Bool.or_eq_true, bne_iff_ne, Bool.not_eq_true'] at h2
 obtain ⟨⟨⟨a, b⟩, d⟩, e⟩ := h2
 refine ⟨a, b, fun h => ?_, fun h => ?_⟩
 ·rcases d with d | d
  ·rw [h] at d; cases d
  ·exact d
 ·rcases e with e | e
  ·exact absurd h e
  ·split at e
   ·rename_i j hj
    exact ⟨j, hj, by simpa using e⟩
   ·cases e
theorem ops_ok {c : Cx} {kvs : List (Str × Value)} (k : Tok5 c kvs) {ch : Nat} (hc : ch ∈ opsB) : ch ≠ 46 ∧ 32 ≤ ch ∧ ch < 127 := by
 have h1 := List.all_eq_true.mp k.ok ch hc
 simp only [Bool.and_eq_true, bne_iff_ne, decide_eq_true_eq] at h1
 exact ⟨h1.1.1.1, h1.1.1.2, h1.1.2⟩
theorem cutB_step {dbl : Bool} {n : Nat} {r : Wd} (h : r ≠ []) : cutB dbl (n + 1) r = r.take (cutSize dbl r) :: cutB dbl n (r.drop (cutSize dbl r)) := by
 cases r with
 | nil => exact absurd rfl h
 | cons a r => rfl
theorem cut_ok : ∀ {c : Cx} {kvs : List (Str × Value)} {A : Around} {ch : Nat} {text : Wd} {t : Tok} (T : Gd c (HK c.w.params)) (k : Tok5 c kvs) (r : Room A 2) (hc : ch ∈ opsB) (hz : text.length ≤ 1000), W c A (call (.ref 206) [.str (enc ch text) t]) [] (fun v l' => ∃ d dvs, v = .ref d ∧ TxtAre ch dvs (cutB (dblB ch) (text.length + 1) text) ∧ l' = [(d, Ls dvs)]) := by
 refine' @E6 _ _ _ _ _ _ _ (by walk_at "ne") ?_; generalize (z6 _ _).1 = c; generalize (z6 _ _).2.1 = kvs; generalize (z6 _ _).2.2.1 = A; generalize (z6 _ _).2.2.2.1 = ch; generalize (z6 _ _).2.2.2.2.1 = text; generalize (z6 _ _).2.2.2.2.2 = t
 intro T k r hc hz
 refine W.close ?_
 refine W.defP (ps := ["text"]) (os := ["pieces", "place", "size"]) T r (by k_is) (by k_is) (by exact rfl) (by exact rfl) rfl (by decide +kernel) (by decide +kernel) (by decide +kernel) ?_
 walk_at "E1"; generalize z1 _ _ = L
 simp only [List.cons_append, List.nil_append, List.map_cons, List.map_nil]
 refine W.step (W.set (W.mkList (W.spNil ⟨by walk_at "sz", ?_⟩)))
 walk_at "E1"; generalize z1 _ _ = d
 walk_at "st"
 refine ⟨by first | rfl | trivial, W.step (W.set (W.kInt ?_))⟩
 walk_at "E1"; generalize z1 _ _ = t1
 walk_at "st"
 refine ⟨by first | rfl | trivial, ?_⟩
 refine W.cut (fun l => ∃ dvs pv sv, TxtAre ch dvs (cutB (dblB ch) (text.length + 1) text) ∧ l = [(d, Ls dvs), (L, NP ["text", "pieces", "place", "size"] [some (.str (enc ch text) t), some (.ref d), some pv, sv])])
  (W.while (fun n l => ∃ p ps fuel dvs tp sv, n = text.length + 3 - p ∧ p ≤ text.length + 2 ∧ ps ++ cutB (dblB ch) fuel (text.drop p) = cutB (dblB ch) (text.length + 1) text ∧ text.length - p < fuel ∧ ps.length ≤ p ∧ TxtAre ch dvs ps ∧ l = [(d, Ls dvs), (L, NP ["text", "pieces", "place", "size"] [some (.str (enc ch text) t), some (.ref d), some (.int (p : Nat) tp), sv])]) (text.length + 3 - 0) ⟨0, [], text.length + 1, [], t1, none, rfl, by (clear hz; omega), by simp, by (clear hz; omega), by simp, TxtAre.nil, rfl⟩ r.hh ?_) ?_
 ·walk_at "E2"; generalize (z2 _ _).1 = n; generalize (z2 _ _).2 = l
  refine' @Y6 _ _ _ _ _ _ _ _ (by walk_at "ne") ?_; generalize (z6 _ _).1 = p; generalize (z6 _ _).2.1 = ps; generalize (z6 _ _).2.2.1 = fuel; generalize (z6 _ _).2.2.2.1 = dvs; generalize (z6 _ _).2.2.2.2.1 = tp; generalize (z6 _ _).2.2.2.2.2 = sv
  refine A7 ?_
  intro zy1 hp2 hps hfu hpl hta zy2
  subst zy1
  subst zy2
  refine W.testCompare ?_
  walk_at "nm"
  refine W.callB (id := "len") ?_
  walk_at "b_len"
  refine ⟨rfl, W.spCons ?_⟩
  walk_at "nm"
  refine W.spNil (W.len (by walk_at "sz") ?_)
  walk_at "E1"; generalize z1 _ _ = zu
  refine W.ilt (W.truthyBool ?_)
  rw [enc_len]
  by_cases hlt : p < text.length
  ·rw [show decide ((p : Int) < (text.length : Int)) = true from decide_eq_true (by (clear hpl hfu hps hp2 hz; omega))]
   simp only [if_true]
   refine W.step (W.set (W.kInt ?_))
   walk_at "E1"; generalize z1 _ _ = t2
   walk_at "st"
   refine ⟨by first | rfl | trivial, ?_⟩
   have hr : text.drop p ≠ [] := by
    intro e
    have := congrArg List.length e
    rw [List.length_drop] at this
    simp at this; (clear hpl hfu hps hp2 hz; omega)
   have htk : ∀ k, ((text.drop p).take k).length ≤ k := fun k => by rw [List.length_take]; (clear hlt hpl hfu hps hp2 hz; omega)
   refine W.cut (fun l => ∃ ts, l = [(d, Ls dvs), (L, NP ["text", "pieces", "place", "size"] [some (.str (enc ch text) t), some (.ref d), some (.int (p : Nat) tp), some (.int (cutSize (dblB ch) (text.drop p) : Nat) ts)])])
    (W.while (fun n l => ∃ s ts, n = s ∧ 1 ≤ s ∧ s ≤ 3 ∧ (s < 3 → inT (dblB ch) ((text.drop p).take 3) = false) ∧ (s < 2 → inT (dblB ch) ((text.drop p).take 2) = false) ∧ l = [(d, Ls dvs), (L, NP ["text", "pieces", "place", "size"] [some (.str (enc ch text) t), some (.ref d), some (.int (p : Nat) tp), some (.int (s : Nat) ts)])]) 3 ⟨3, t2, rfl, by (clear hlt hpl hfu hps hp2 hz; omega), by (clear hlt hpl hfu hps hp2 hz; omega), by (clear hlt hpl hfu hps hp2 hz; omega), by (clear hlt hpl hfu hps hp2 hz; omega), rfl⟩ r.hh ?_) ?_
   ·walk_at "E2"; generalize (z2 _ _).1 = n; generalize (z2 _ _).2 = l
    walk_at "Y2"; generalize (z2 _ _).1 = s; generalize (z2 _ _).2 = ts
    refine A6 ?_
    intro zy3 hs1 hs3 hn3 hn2 zy4
    subst zy3
    subst zy4
    refine W.testBool (W.known (a := decide (1 < n) && !(inT (dblB ch) ((text.drop p).take n))) (W.andCons (W.testCompare ?_)) ?_)
    ·walk_at "nm"
     refine W.kInt ?_
     walk_at "E1"; generalize z1 _ _ = zu
     refine W.igt (W.truthyBool ?_)
     by_cases h1 : 1 < n
     ·rw [show decide ((1 : Int) < (n : Int)) = true from decide_eq_true (by (clear hs3 hs1 hlt hpl hfu hps hp2 hz; omega)), show decide (1 < n) = true from decide_eq_true h1]
      simp only [if_true, Bool.true_and]
      refine W.andCons (W.testCompare (W.strSlice (x := enc ch text) (some (p : Int)) (some ((p + n : Nat) : Int)) ?_))
      walk_at "nm"
      show W c _ (eval (.Name _ _) _) _ _
      walk_at "nm"
      show W c _ (eval (.BinOp _ _ _ _) _) _ _
      refine W.binop ?_
      walk_at "nm"; walk_at "nm"
      refine W.iadd ?_
      walk_at "E1"; generalize z1 _ _ = t4
      refine ⟨some ((p : Int), tp), some ((p : Int) + n, t4), t, rfl, rfl, rfl, rfl, by simp, by rw [enc_len]; show _ ≤ 16777216; (clear h1 hs3 hs1 hlt hpl hfu hps hp2; omega), ?_⟩
      walk_at "E1"; generalize z1 _ _ = t5
      rw [slice_enc text p (p + n) (by (clear h1 hs3 hs1 hpl hfu hps hp2 hz; omega)) (by (clear h1 hs3 hs1 hlt hpl hfu hps hp2 hz; omega)), show p + n - p = n by (clear h1 hs3 hs1 hlt hpl hfu hps hp2 hz; omega)]
      walk_at "gl"
      refine W.notInTok k (W.truthyBool ?_)
      rw [(k.all hc (Nat.le_trans (htk n) hs3)).1]
      cases inT (dblB ch) ((text.drop p).take n)
      ·simp only [Bool.not_false, if_true]
       exact W.andNil ⟨rfl, rfl⟩
      ·simp only [Bool.not_true, Bool.false_eq_true, if_false]
       exact ⟨trivial, trivial⟩
     ·rw [show decide ((1 : Int) < (n : Int)) = false from decide_eq_false (by (clear hs3 hs1 hlt hpl hfu hps hp2 hz; omega)), show decide (1 < n) = false from decide_eq_false h1]
      simp only [Bool.false_eq_true, if_false, Bool.false_and]
      exact ⟨trivial, trivial⟩
    ·cases hq : (decide (1 < n) && !(inT (dblB ch) ((text.drop p).take n)))
     ·simp only [Bool.false_eq_true, if_false]
      have : n = cutSize (dblB ch) (text.drop p) := by
       simp only [Bool.and_eq_false_iff, decide_eq_false_iff_not, Bool.not_eq_false'] at hq
       unfold cutSize
       rcases hq with hq | hq
       ·have h1 : n = 1 := by (clear hs3 hlt hpl hfu hps hp2 hz; omega)
        rw [hn3 (by (clear h1 hs3 hs1 hlt hpl hfu hps hp2 hz; omega)), hn2 (by (clear h1 hs3 hs1 hlt hpl hfu hps hp2 hz; omega)), h1]; rfl
       ·rcases (by (clear hlt hpl hfu hps hp2 hz; omega) : n = 3 ∨ n = 2 ∨ n = 1) with h | h | h
        ·subst h; rw [hq]; rfl
        ·subst h; rw [hn3 (by (clear hq hs3 hs1 hlt hpl hfu hps hp2 hz; omega)), hq]; rfl
        ·subst h; rw [hn3 (by (clear hq hs3 hs1 hlt hpl hfu hps hp2 hz; omega)), hn2 (by (clear hq hs3 hs1 hlt hpl hfu hps hp2 hz; omega))]; rfl
      rw [← this]
      exact ⟨ts, rfl⟩
     ·simp only [if_true]
      simp only [Bool.and_eq_true, decide_eq_true_eq, Bool.not_eq_true'] at hq
      refine W.cons (W.aug (W.ldLocal rfl rfl (by walk_at "mem") (by walk_at "get") (W.kInt ?_)))
      walk_at "E1"; generalize z1 _ _ = zu
      refine W.isubI ?_
      walk_at "E1"; generalize z1 _ _ = t3
      walk_at "st"
      refine W.nil ⟨n - 1, by (clear hq hs3 hlt hpl hfu hps hp2 hz; omega), n - 1, t3, rfl, by (clear hs3 hs1 hlt hpl hfu hps hp2 hz; omega), by (clear hq hs1 hlt hpl hfu hps hp2 hz; omega), fun h => ?_, fun h => ?_, ?_⟩
      ·rcases (by (clear h hs1 hlt hpl hfu hps hp2 hz; omega) : n = 3 ∨ n = 2) with h' | h'
       ·subst h'; exact hq.2
       ·exact hn3 (by (clear h hq hs3 hs1 hlt hpl hfu hps hp2 hz; omega))
      ·rcases (by (clear h hs1 hlt hpl hfu hps hp2 hz; omega) : n = 3 ∨ n = 2) with h' | h'
       ·(clear hq hs3 hs1 hlt hpl hfu hps hp2 hz; omega)
       ·subst h'; exact hq.2
      ·rw [show ((n : Int) - 1) = ((n - 1 : Nat) : Int) by (clear hq hs3 hlt hpl hfu hps hp2 hz; omega)]
   ·walk_at "E1"; generalize z1 _ _ = l
    walk_at "Y1"; generalize z1 _ _ = ts
    intro zy5
    subst zy5
    have hcs : 1 ≤ cutSize (dblB ch) (text.drop p) ∧ cutSize (dblB ch) (text.drop p) ≤ 3 := by
     unfold cutSize
     split
     ·(clear hlt hpl hfu hps hp2 hz; omega)
     ·split <;> (clear hlt hpl hfu hps hp2 hz; omega)
    generalize hS : cutSize (dblB ch) (text.drop p) = s at hcs
    refine W.cons (W.expr (W.meth F.plainAttrs_list slot_list_append F.type_list_append ?_))
    walk_at "nm"
    refine ⟨Ty.ls (by walk_at "mem"), W.spCons (W.strSlice (x := enc ch text) (some (p : Int)) (some ((p + s : Nat) : Int)) ?_)⟩
    walk_at "nm"
    show W c _ (eval (.Name _ _) _) _ _
    walk_at "nm"
    show W c _ (eval (.BinOp _ _ _ _) _) _ _
    refine W.binop ?_
    walk_at "nm"; walk_at "nm"
    refine W.iadd ?_
    walk_at "E1"; generalize z1 _ _ = t4
    refine ⟨some ((p : Int), tp), some ((p : Int) + s, t4), t, rfl, rfl, rfl, rfl, by simp, by rw [enc_len]; show _ ≤ 16777216; (clear hcs hS hlt hpl hfu hps hp2; omega), ?_⟩
    walk_at "E1"; generalize z1 _ _ = t5
    rw [slice_enc text p (p + s) (by (clear hcs hS hpl hfu hps hp2 hz; omega)) (by (clear hcs hS hlt hpl hfu hps hp2 hz; omega)), show p + s - p = s by (clear hcs hS hlt hpl hfu hps hp2 hz; omega)]
    have hl := hta.1
    refine W.spNil (W.append (by walk_at "up") (by show _ ≤ 16777216; (clear hcs hS hlt hfu hps; omega)) ?_)
    refine W.cons (W.aug (W.ldLocal rfl rfl (by walk_at "mem") (by walk_at "get") ?_))
    walk_at "nm"
    refine W.iaddI ?_
    walk_at "E1"; generalize z1 _ _ = t6
    walk_at "st"
    rw [show ((p : Int) + s) = ((p + s : Nat) : Int) by (clear hl hcs hS hlt hpl hfu hps hp2 hz; omega)]
    refine NCz fuel ?_ ?_
    ·intro ze1a
     subst ze1a
     (clear hps hl hcs hS hlt hpl hp2 hz; omega)
    ·walk_at "E1"; generalize z1 _ _ = fuel
     intro ze1b
     subst ze1b
     rw [cutB_step hr, hS, List.drop_drop] at hps
     refine W.nil ⟨text.length + 3 - (p + s), by (clear hfu hps hl hS hlt hpl hz; omega), p + s, ps ++ [(text.drop p).take s], fuel, _, t6, _, rfl, by (clear hfu hps hl hS hpl hp2 hz; omega), ?_, by (clear hps hl hS hpl hp2 hz; omega), by simp; (clear hfu hps hl hS hlt hp2 hz; omega), hta.snoc, rfl⟩
     rw [List.append_assoc]; exact hps
  ·rw [show decide ((p : Int) < (text.length : Int)) = false from decide_eq_false (by (clear hpl hfu hps hp2 hz; omega))]
   simp only [Bool.false_eq_true, if_false]
   have : cutB (dblB ch) fuel (text.drop p) = [] := by
    rw [List.drop_eq_nil_of_le (by (clear hpl hfu hps hp2 hz; omega))]
    cases fuel <;> rfl
   rw [this, List.append_nil] at hps
   subst hps
   exact ⟨dvs, _, sv, hta, rfl⟩
 ·walk_at "E1"; generalize z1 _ _ = l
  walk_at "Y3"; generalize (z3 _ _).1 = dvs; generalize (z3 _ _).2.1 = pv; generalize (z3 _ _).2.2 = sv
  refine A2 ?_
  intro hta zy6
  subst zy6
  refine W.cons (W.ret ?_)
  walk_at "nm"
  exact ⟨_, _, by walk_at "take", d, dvs, rfl, hta, rfl⟩
noncomputable def plStep : Wd × List Bool → Wd → Wd × List Bool := fun (l, f) p => if p == [false, false, false] then (l, f.dropLast ++ [true]) else (l ++ p, f ++ p.map fun _ => false)
theorem placesB_eq (pieces : List Wd) : placesB pieces = pieces.foldl plStep ([], [false]) := rfl
theorem plStep_len {s : Wd × List Bool} (h : s.2.length = s.1.length + 1) (p : Wd) : (plStep s p).2.length = (plStep s p).1.length + 1 := by
 unfold plStep
 dsimp only
 split
 ·simp; omega
 ·simp; omega
theorem fold_take {α β : Type} (f : β → α → β) (l : List α) (a : β) {i : Nat} {x : α} (h : l[i]? = some x) : (l.take (i + 1)).foldl f a = f ((l.take i).foldl f a) x := by
 rw [List.take_add_one, h, List.foldl_append]; rfl
theorem plFold_len : ∀ (pieces : List Wd) (s : Wd × List Bool), s.2.length = s.1.length + 1 → (pieces.foldl plStep s).2.length = (pieces.foldl plStep s).1.length + 1
 | [], _, h => h
 | p :: ps, s, h => plFold_len ps _ (plStep_len h p)
theorem plFold_le : ∀ (pieces : List Wd) (s : Wd × List Bool), (∀ p ∈ pieces, p.length ≤ 3) → (pieces.foldl plStep s).1.length ≤ s.1.length + 3 * pieces.length
 | [], s, h => by simp
 | p :: ps, s, h => by
  have h1 := plFold_le ps (plStep s p) fun q hq => h q (.tail _ hq)
  have h2 := h p (.head _)
  have h3 : (plStep s p).1.length ≤ s.1.length + 3 := by
   unfold plStep
   dsimp only
   split
   ·simp
   ·simp; (clear h1; omega)
  simp only [List.foldl_cons, List.length_cons]
  (clear h2; omega)
theorem setlast_map (f : List Bool) (h : 0 < f.length) : (f.map Value.bool).set ((f.map Value.bool).length - 1) (.bool true) = (f.dropLast ++ [true]).map Value.bool := by
 rcases List.eq_nil_or_concat f with rfl | ⟨x, y, rfl⟩
 ·cases h
 ·simp
theorem W.subsB {c : Cx} {A : Around} {l : Led} {env : Env} {value slice : PySem.Expr} {pos : Pos} {T id : String} {Q : Value → Led → Prop} (hl : typeLookup (.type T) "__getitem__" = Pure.pure (some (.builtin id)))
  (h : W c A (eval value env) l (fun o l1 => W c A (eval slice env) l1 (fun i l2 => (∃ a ob, o = .ref a ∧ c.B.get? a = some ob ∧ ob.cls = .type T) ∧ W c A (getItem o i) l2 Q))) (hs : ∀ o i, subscripted slice false o i = operate [o, i] (getItem o i) := by intro _ _; rfl) : W c A (eval (.Subscript value slice pos) env) l Q := fun R hp tk S =>
 Subscript_ (h.run S fun o s F => F.run (fun _ p => p) fun i s ⟨h2, tk2, l2, e, S2, y, w⟩ => by
  subst e
  obtain ⟨a, ob, rfl, e1, e2⟩ := y
  exact tail_any (T := T) ⟨ob, S2.base _ _ e1, e2⟩ hl (w R h2 tk2 S2) (hs _ _))
theorem Tok5.dict {c : Cx} {kvs : List (Str × Value)} (k : Tok5 c kvs) : ∃ a ob, Value.ref 55 = .ref a ∧ c.B.get? a = some ob ∧ ob.cls = .type "dict" := by
 obtain ⟨o, e, p⟩ := k.at_
 obtain ⟨es, ep, ⟨h1, h2, h3⟩, _⟩ := p.ex
 exact ⟨55, o, rfl, e, h1⟩
theorem places_ok : ∀ {c : Cx} {kvs : List (Str × Value)} {A : Around} {ch : Nat} {pieces : List Wd} {pa : Addr} {pvs : List Value} (T : Gd c (HK c.w.params)) (k : Tok5 c kvs) (r : Room A 2) (hc : ch ∈ opsB) (hta : TxtAre ch pvs pieces) (hz : pieces.length ≤ 1000) (hp : ∀ p ∈ pieces, p.length ≤ 3 ∧ inT (dblB ch) p = true), W c A (call (.ref 211) [.ref pa]) [(pa, Ls pvs)] (fun v l' => ∃ ta fa t, v = .ref ta ∧ l' = [(ta, Tp [.str (enc ch (placesB pieces).1) t, .ref fa]), (fa, Ls ((placesB pieces).2.map .bool)), (pa, Ls pvs)]) := by
 refine' @E7 _ _ _ _ _ _ _ _ (by walk_at "ne") ?_; generalize (z7 _ _).1 = c; generalize (z7 _ _).2.1 = kvs; generalize (z7 _ _).2.2.1 = A; generalize (z7 _ _).2.2.2.1 = ch; generalize (z7 _ _).2.2.2.2.1 = pieces; generalize (z7 _ _).2.2.2.2.2.1 = pa; generalize (z7 _ _).2.2.2.2.2.2 = pvs
 intro T k r hc hta hz hp
 refine W.close ?_
 refine W.defP (ps := ["pieces"]) (os := ["letters", "free", "piece"]) T r (by k_is) (by k_is) (by exact rfl) (by exact rfl) rfl (by decide +kernel) (by decide +kernel) (by decide +kernel) ?_
 walk_at "E1"; generalize z1 _ _ = L
 simp only [List.cons_append, List.nil_append, List.map_cons, List.map_nil]
 refine W.step (W.set (W.kStr ?_))
 walk_at "E1"; generalize z1 _ _ = t1
 walk_at "st"
 refine ⟨by first | rfl | trivial, W.step (W.set (W.mkList (W.spCons (W.kBool (W.spNil ⟨by walk_at "sz", ?_⟩)))))⟩
 walk_at "E1"; generalize z1 _ _ = fa
 walk_at "st"
 refine ⟨by first | rfl | trivial, ?_⟩
 have hl := hta.1
 refine W.step (W.for (n := pvs.length) (P := fun i v => pvs[i]? = some v) (need := [(pa, Ls pvs)])
  (fun i l => ∃ tl pv, l = [(fa, Ls (((pieces.take i).foldl plStep ([], [false])).2.map .bool)), (L, NP ["pieces", "letters", "free", "piece"] [some (.ref pa), some (.str (enc ch ((pieces.take i).foldl plStep ([], [false])).1) tl), some (.ref fa), pv]), (pa, Ls pvs)]) r.hh ?_ ?_ ?_ ?_)
 ·walk_at "nm"
  exact ⟨Itr.ls (by walk_at "mem"), t1, none, rfl⟩
 ·walk_at "E2"; generalize (z2 _ _).1 = i; generalize (z2 _ _).2 = l
  walk_at "Y2"; generalize (z2 _ _).1 = zu; generalize (z2 _ _).2 = zu
  intro zy1
  subst zy1
  intro q hq
  simp at hq; subst hq; walk_at "mem"
 ·walk_at "E3"; generalize (z3 _ _).1 = i; generalize (z3 _ _).2.1 = v; generalize (z3 _ _).2.2 = l
  intro hi hv
  walk_at "Y2"; generalize (z2 _ _).1 = tl; generalize (z2 _ _).2 = pv
  intro zy2
  subst zy2
  refine O1 ?_ (hta.at hv)
  walk_at "Y2"; generalize (z2 _ _).1 = p; generalize (z2 _ _).2 = tp
  refine A2 ?_
  intro hpi zy3
  subst zy3
  obtain ⟨hp3, hpt⟩ := hp p (List.mem_of_getElem? hpi)
  have hlen := plFold_len (pieces.take i) ([], [false]) rfl
  have hle := plFold_le (pieces.take i) ([], [false]) fun q hq => (hp q (List.mem_of_mem_take hq)).1
  rw [fold_take plStep pieces _ hpi]
  have htl : (pieces.take i).length ≤ 1000 := by rw [List.length_take]; (clear hle hlen hp3 hv hpi hi hl; omega)
  simp only [List.length_nil, Nat.zero_add] at hle
  generalize (pieces.take i).foldl plStep ([], [false]) = st at hlen hle ⊢
  refine PRe st ?_
  walk_at "E2"; generalize (z2 _ _).1 = le; generalize (z2 _ _).2 = fr
  intro zy4
  subst zy4
  dsimp only at hlen hle ⊢
  obtain ⟨k1, k2, k3, _⟩ := k.all hc hp3
  rw [hpt] at k2
  have hval : ∃ n tn, valueAt kvs (enc ch p) = some (.int n tn) ∧ (n == 52) = (p == [false, false, false]) := by
   have k3' := k3 hpt
   revert k2 k3'
   generalize valueAt kvs (enc ch p) = zo1
   refine OCn zo1 ?_ ?_
   ·intro ze1a
    subst ze1a
    intro h
    cases h
   ·walk_at "E1"; generalize z1 _ _ = v
    intro ze1b
    subst ze1b
    cases v <;> intro h <;> first | (cases h; done) | skip
    rename_i n tn
    intro h3
    refine ⟨n, tn, rfl, ?_⟩
    rw [← h3]
    show (n == 52) = (some n == some 52)
    rw [Bool.eq_iff_iff]; simp
  refine O1 ?_ (hval)
  walk_at "Y2"; generalize (z2 _ _).1 = n; generalize (z2 _ _).2 = tn
  refine A2 ?_
  intro hv1 hv2
  clear hval
  refine W.asName ?_
  walk_at "st"
  refine W.cons (W.cond (W.testCompare (W.subsB slot_dict_getitem.lookup ?_)))
  walk_at "gl"
  walk_at "nm"
  refine ⟨k.dict, W.getTok k hv1 (W.kInt ?_)⟩
  walk_at "E1"; generalize z1 _ _ = zu
  refine W.ieq (W.truthyBool ?_)
  rw [hv2]
  unfold plStep
  dsimp only
  cases hq : (p == [false, false, false])
  ·simp only [Bool.false_eq_true, if_false]
   refine W.step (W.aug (W.ldLocal rfl rfl (by walk_at "mem") (by walk_at "get") ?_))
   walk_at "nm"
   refine W.iaddS (by rw [enc_len, enc_len]; show _ ≤ 16777216; (clear hv2 k2 hlen hv hpi hi hl hz; omega)) ?_
   walk_at "E1"; generalize z1 _ _ = t2
   rw [← enc_app]
   walk_at "st"
   refine ⟨by first | rfl | trivial, W.cons (W.expr (W.meth F.plainAttrs_list F.slot_list_extend F.type_list_extend ?_))⟩
   walk_at "nm"
   refine ⟨Ty.ls (.head _), W.spCons ?_⟩
   refine W.comp (n := p.length) (P := fun i v => ∃ b u, p[i]? = some b ∧ v = .str (enc ch [b]) u) (need := [])
    (fun i ys l => ys = (p.take i).map (fun _ => Value.bool false) ∧ l = [(fa, Ls (fr.map .bool)), (L, NP ["pieces", "letters", "free", "piece"] [some (.ref pa), some (.str (enc ch (le ++ p)) t2), some (.ref fa), some (.str (enc ch p) tp)]), (pa, Ls pvs)]) r.hh
    (by exact rfl) (by decide) rfl (by decide) rfl (by show _ ≤ 16777216; (clear hv2 k2 hle hlen htl hv hpi hi hl hz; omega)) ?_ ?_ ?_ ?_
   ·walk_at "nm"
    exact ⟨Itr.enc, rfl, rfl⟩
   ·walk_at "E3"; generalize (z3 _ _).1 = zu; generalize (z3 _ _).2.1 = zu; generalize (z3 _ _).2.2 = zu
    intro _
    walk_at "E1"; generalize z1 _ _ = zu
    intro h
    cases h
   ·walk_at "E5"; generalize (z5 _ _).1 = C; generalize (z5 _ _).2.1 = i; generalize (z5 _ _).2.2.1 = v; generalize (z5 _ _).2.2.2.1 = ys; generalize (z5 _ _).2.2.2.2 = l
    intro hi
    walk_at "Y2"; generalize (z2 _ _).1 = b; generalize (z2 _ _).2 = u
    refine A2 ?_
    intro hb zy5
    subst zy5
    refine A2 ?_
    intro zy6 zy7
    subst zy6
    subst zy7
    intro hlen
    refine W.testsNil ?_
    rw [if_pos rfl]
    refine W.kBool ⟨_, _, rfl, ?_, rfl⟩
    rw [List.take_add_one, hb]; simp
   ·walk_at "E3"; generalize (z3 _ _).1 = D; generalize (z3 _ _).2.1 = ys; generalize (z3 _ _).2.2 = l
    refine A2 ?_
    intro zy8 zy9
    subst zy8
    subst zy9
    intro hlen
    rw [List.take_length]
    refine W.spNil (W.extend (ws := p.map fun _ => Value.bool false) (.tail .head) (by walk_at "mem") (by show _ ≤ 16777216; rw [List.length_map, List.length_map]; (clear hlen hv2 k2 hv hpi hi hl hz; omega)) ?_)
    have e : fr.map Value.bool ++ (p.map fun _ => Value.bool false) = (fr ++ p.map fun _ => false).map Value.bool := by
     rw [List.map_append, List.map_map]; rfl
    rw [e]
    exact W.sub (l' := [(fa, Ls ((fr ++ p.map fun _ => false).map Value.bool)), (L, NP ["pieces", "letters", "free", "piece"] [some (.ref pa), some (.str (enc ch (le ++ p)) t2), some (.ref fa), some (.str (enc ch p) tp)]), (pa, Ls pvs)]) (W.nil (W.nil ⟨t2, _, rfl⟩)) (by walk_at "take")
  ·simp only [if_true]
   refine W.cons (W.setSub (W.kBool ?_))
   walk_at "nm"
   refine W.unary (W.kInt ?_)
   walk_at "E1"; generalize z1 _ _ = zu
   refine W.ineg ?_
   walk_at "E1"; generalize z1 _ _ = zu
   refine W.setLast .head (by rw [List.length_map]; (clear hv2 k2 hle htl hp3 hv hpi hi hl hz; omega)) (by show _ ≤ 16777216; rw [List.length_map]; (clear hv2 k2 hp3 hv hpi hi hl hz; omega)) (W.nil (W.nil ?_))
   rw [setlast_map fr (by (clear hv2 k2 hle htl hp3 hv hpi hi hl hz; omega))]
   exact ⟨tl, _, rfl⟩
 ·walk_at "E1"; generalize z1 _ _ = l
  walk_at "Y2"; generalize (z2 _ _).1 = tl; generalize (z2 _ _).2 = pv
  intro zy10
  subst zy10
  refine ⟨by first | rfl | trivial, W.cons (W.ret (W.mkTuple (W.spCons ?_)))⟩
  walk_at "nm"
  refine W.spCons ?_
  walk_at "nm"
  rw [hl, List.take_length]
  exact W.spNil ⟨by show 2 ≤ 16777216; (clear hl hz; omega), fun ta => ⟨_, _, by walk_at "take", ta, fa, tl, rfl, rfl⟩⟩
noncomputable def leastDone (letters : Wd) (free : List Bool) : Nat → Nat → LS → Bool
 | 0, _, _ => false
 | n + 1, k, st => if k < st.found.length then leastDone letters free n (k + 1) (leastTurn letters free k st) else true
theorem fold_take' {α β : Type} (f : β → α → β) (l : List α) (a : β) {i : Nat} {x : α} (h : l[i]? = some x) : (l.take (i + 1)).foldl f a = f ((l.take i).foldl f a) x := by
 rw [List.take_add_one, h, List.foldl_append]; rfl
noncomputable def mostOf (st : LS) : List Nat := st.found.map mostB
noncomputable def firstP (st : LS) (i : Nat) : Bool := !(((mostOf st).take i).contains ((mostOf st).getD i 0))
noncomputable def firstsOf (st : LS) : List Nat := (List.range st.found.length).filter (firstP st)
noncomputable def kindsOf (st : LS) : List Nat := (firstsOf st).map fun i => (mostOf st).getD i 0
noncomputable def wayOf (st : LS) (i j : Nat) : Nat := idx (kindsOf st) ((mostOf st).getD (st.steps.getD (2 * i + j) 0) 0)
noncomputable def leastChk (st : LS) : Bool := (st.steps.all fun p => decide (p < st.found.length) && (kindsOf st).contains ((mostOf st).getD p 0)) && st.steps.length == 2 * st.found.length && st.words.length == st.found.length && st.found.all fun p => decide (p.length ≤ 1000)
noncomputable def MostAre (vs : List Value) (ns : List Nat) : Prop := vs.length = ns.length ∧ ∀ (i n : Nat), ns[i]? = some n → ∃ t, vs[i]? = some (.int ((n : Int) - 1) t)
theorem MostAre.nil : MostAre [] [] := ⟨rfl, by simp⟩
theorem MostAre.snoc {vs ns} {n : Nat} {t : Tok} (h : MostAre vs ns) : MostAre (vs ++ [.int ((n : Int) - 1) t]) (ns ++ [n]) := by
 refine ⟨by simp [h.1], ?_⟩
 intro i m hm
 rcases Nat.lt_or_ge i ns.length with hi | hi
 ·rw [List.getElem?_append_left hi] at hm
  rw [List.getElem?_append_left (by rw [h.1]; exact hi)]
  exact h.2 i m hm
 ·rw [List.getElem?_append_right hi] at hm
  rw [List.getElem?_append_right (by rw [h.1]; exact hi), h.1]
  cases hk : i - ns.length with
  | zero => rw [hk] at hm; simp at hm; subst hm; exact ⟨t, rfl⟩
  | succ k => rw [hk] at hm; simp at hm
theorem MostAre.mem {vs : List Value} {ns : List Nat} (h : MostAre vs ns) {v : Value} (m : v ∈ vs) : ∃ n t, n ∈ ns ∧ v = .int ((n : Int) - 1) t := by
 obtain ⟨i, hi, e⟩ := List.getElem_of_mem m
 have hi' : i < ns.length := by rw [← h.1]; exact hi
 obtain ⟨t, e'⟩ := h.2 i _ (List.getElem?_eq_getElem hi')
 rw [List.getElem?_eq_getElem hi, e] at e'
 exact I2 _ t ⟨List.getElem_mem hi', Option.some.inj e'⟩
theorem MostAre.take {vs : List Value} {ns : List Nat} (h : MostAre vs ns) (k : Nat) : MostAre (vs.take k) (ns.take k) := by
 refine ⟨by simp [h.1], ?_⟩
 intro i n hn
 rw [List.getElem?_take] at hn ⊢
 split at hn
 ·rename_i hk
  rw [if_pos hk]; exact h.2 i n hn
 ·cases hn
theorem MostAre.any {vs : List Value} {ns : List Nat} (h : MostAre vs ns) (m : Nat) : vs.any (eInt ((m : Int) - 1)) = ns.contains m := by
 rw [Bool.eq_iff_iff, List.any_eq_true, List.contains_iff_mem]
 constructor
 ·rintro ⟨v, hv, e⟩
  obtain ⟨n, t, hn, rfl⟩ := h.mem hv
  have : n = m := by simp [eInt] at e; omega
  exact this ▸ hn
 ·intro hm
  obtain ⟨i, hi, e2⟩ := List.getElem_of_mem hm
  obtain ⟨t, e'⟩ := h.2 i m (by rw [List.getElem?_eq_getElem hi, e2])
  exact ⟨_, List.mem_of_getElem? e', by simp [eInt]⟩
theorem MostAre.eqs {c : Cx} {n : Nat} {l : Led} {vs : List Value} {ns : List Nat} (h : MostAre vs ns) {z : Int} {t : Tok} : ∀ y, y ∈ vs → Eqs c n l y (.int z t) (eInt z y) := fun y m => by
 obtain ⟨k, u, _, rfl⟩ := h.mem m
 exact Eqs.int
theorem NatsAre.ints {vs : List Value} : ∀ {ns : List Nat}, NatsAre vs ns → ∃ xs : List (Int × Tok), vs = intsL xs ∧ xs.map (·.1) = ns.map fun n : Nat => (n : Int) := by
 induction vs with
 | nil =>
  walk_at "E1"; generalize z1 _ _ = ns
  intro h
  have : ns = [] := List.length_eq_zero_iff.mp h.1.symm
  subst this
  exact ⟨[], rfl, rfl⟩
 | cons v vs ih =>
  intro ns h
  cases ns with
  | nil => cases h.1
  | cons n ns =>
   obtain ⟨t, e⟩ := h.2 0 n rfl
   have e' : v = .int n t := by simpa using e
   obtain ⟨xs, e1, e2⟩ := ih (ns := ns) ⟨by simpa using h.1, fun i m hm => by simpa using h.2 (i + 1) m (by simpa using hm)⟩
   exact ⟨((n : Int), t) :: xs, by rw [e', e1]; rfl, by simp [e2]⟩
theorem mostB_fold (ns : List Nat) : ∀ a, (∀ k ∈ ns, k + 1 ≤ ns.foldl (fun a k => max a (k + 1)) a) ∧ a ≤ ns.foldl (fun a k => max a (k + 1)) a ∧ (ns.foldl (fun a k => max a (k + 1)) a = a ∨ ∃ k ∈ ns, ns.foldl (fun a k => max a (k + 1)) a = k + 1) := by
 induction ns with
 | nil => intro a; exact ⟨(fun _ h => nomatch h), Nat.le_refl _, .inl rfl⟩
 | cons n ns ih =>
  intro a
  obtain ⟨h1, h2, h3⟩ := ih (max a (n + 1))
  simp only [List.foldl_cons]
  refine ⟨fun k hk => ?_, by (clear h3; omega), ?_⟩
  ·rcases List.mem_cons.mp hk with rfl | hk
   ·(clear h3; omega)
   ·exact h1 k hk
  ·rcases h3 with h3 | ⟨k, hk, h3⟩
   ·rcases Nat.le_total a (n + 1) with h | h
    ·exact .inr ⟨n, .head _, by rw [h3, Nat.max_eq_right h]⟩
    ·exact .inl (by rw [h3, Nat.max_eq_left h])
   ·exact .inr ⟨k, .tail _ hk, h3⟩
theorem most_eq {ns : List Nat} {M : Int} (h1 : M ∈ (-1 : Int) :: ns.map fun n : Nat => (n : Int)) (h2 : ∀ a ∈ (-1 : Int) :: ns.map (fun n : Nat => (n : Int)), a ≤ M) : M = (mostB ns : Int) - 1 := by
 obtain ⟨a, b, d⟩ := mostB_fold ns 0
 unfold mostB
 generalize ns.foldl (fun a k => max a (k + 1)) 0 = m at a b d
 have hm : ((m : Int) - 1) ∈ (-1 : Int) :: ns.map fun n : Nat => (n : Int) := by
  rcases d with d | ⟨k, hk, d⟩
  ·rw [d]; exact .head _
  ·rw [d]; exact .tail _ (List.mem_map.mpr ⟨k, hk, by (clear d b; omega)⟩)
 have h3 := h2 _ hm
 rcases List.mem_cons.mp h1 with e | e
 ·(clear d b; omega)
 ·obtain ⟨k, hk, e⟩ := List.mem_map.mp e
  have := a k hk
  (clear d b; omega)
theorem idx_lt {l : List (List Nat)} {x : List Nat} (h : l.contains x = true) : idx l x < l.length := by
 unfold idx
 exact List.findIdx_lt_length_of_exists ⟨x, by simpa using h, by simp⟩
theorem least_ok : ∀ {c : Cx} {A : Around} {ch : Nat} {letters : Wd} {free : List Bool} {fa : Addr} {ts tl : Tok} {stF : LS} (T : Gd c (HK c.w.params)) (r : Room A 6) (hch : ch ≠ 46) (hf : free.length = letters.length + 1) (hz : letters.length ≤ 100) (hrun : leastRun letters free 17 0 ⟨[[0]], [[]], []⟩ = stF) (hdone : leastDone letters free 17 0 ⟨[[0]], [[]], []⟩ = true) (hchk : leastChk stF = true), W c A (call (.ref 223) [.str (enc ch letters) tl, .ref fa, .str (enc ch [false, true]) ts]) [(fa, Ls (free.map .bool))] (fun v l' => ∃ ta da oa wa dvs wvs, v = .ref ta ∧ TxtAre ch dvs (leastEnd letters stF).1 ∧ NatsAre wvs (leastEnd letters stF).2.2 ∧ l' = [(ta, Tp [.ref da, .ref oa, .ref wa]), (da, Ls dvs), (oa, Ls ((leastEnd letters stF).2.1.map .bool)), (wa, Ls wvs), (fa, Ls (free.map .bool))]) := by
 refine' @E9 _ _ _ _ _ _ _ _ _ _ (by walk_at "ne") ?_; generalize (z9 _ _).1 = c; generalize (z9 _ _).2.1 = A; generalize (z9 _ _).2.2.1 = ch; generalize (z9 _ _).2.2.2.1 = letters; generalize (z9 _ _).2.2.2.2.1 = free; generalize (z9 _ _).2.2.2.2.2.1 = fa; generalize (z9 _ _).2.2.2.2.2.2.1 = ts; generalize (z9 _ _).2.2.2.2.2.2.2.1 = tl; generalize (z9 _ _).2.2.2.2.2.2.2.2 = stF
 intro T r hch hf hz hrun hdone hchk
 refine W.close ?_
 refine W.defC (binds := (["letters", "free", "signs"] : List Str).zip [Value.str (enc ch letters) tl, .ref fa, .str (enc ch [false, true]) ts]) (names := ["free", "signs", "k", "sign", "ahead", "firsts", "ways"]) (cns := ["kinds", "most", "steps", "words", "found", "letters"]) T r (by k_is) (by k_is) (by exact rfl) (by exact rfl) (by exact rfl) (by decide +kernel) (by exact rfl) (by decide +kernel) (by decide +kernel) (by exact rfl) (by exact rfl) ?_
 walk_at "E2"; generalize (z2 _ _).1 = L; generalize (z2 _ _).2 = as
 intro has
 have zh1 : ∃ a1 a2 a3 a4 a5 a6, as = [a1, a2, a3, a4, a5, a6] := by
  match as, has with
  | [a1, a2, a3, a4, a5, a6], _ => exact ⟨a1, a2, a3, a4, a5, a6, rfl⟩
 refine O1 ?_ (zh1)
 refine' @Y6 _ _ _ _ _ _ _ _ (by walk_at "ne") ?_; generalize (z6 _ _).1 = a1; generalize (z6 _ _).2.1 = a2; generalize (z6 _ _).2.2.1 = a3; generalize (z6 _ _).2.2.2.1 = a4; generalize (z6 _ _).2.2.2.2.1 = a5; generalize (z6 _ _).2.2.2.2.2 = a6
 intro zy1
 subst zy1
 clear zh1
 simp only [List.cons_append, List.nil_append, List.map_cons, List.map_nil, List.zip_cons_cons, List.zip_nil_right]
 refine W.step (W.set (W.mkList (W.spCons (W.mkList (W.spCons (W.kInt ?_))))))
 walk_at "E1"; generalize z1 _ _ = t0
 refine W.spNil ⟨by walk_at "sz", ?_⟩
 walk_at "E1"; generalize z1 _ _ = z0
 refine W.spNil ⟨by walk_at "sz", ?_⟩
 walk_at "E1"; generalize z1 _ _ = fd
 walk_at "sc"
 refine ⟨by first | rfl | trivial, W.step (W.set (W.mkList (W.spCons (W.kStr ?_))))⟩
 walk_at "E1"; generalize z1 _ _ = t1
 refine W.spNil ⟨by walk_at "sz", ?_⟩
 walk_at "E1"; generalize z1 _ _ = wd
 walk_at "sc"
 refine ⟨by first | rfl | trivial, W.step (W.set (W.mkList (W.spNil ⟨by walk_at "sz", ?_⟩)))⟩
 walk_at "E1"; generalize z1 _ _ = sd
 walk_at "sc"
 refine ⟨by first | rfl | trivial, W.step (W.set (W.kInt ?_))⟩
 intro t2
 walk_at "st"
 refine ⟨by first | rfl | trivial, ?_⟩
 refine W.perm (l' := [(sd, Ls []), (wd, Ls [Value.str (enc ch []) t1]), (fd, Ls (([(z0, [Value.int (0 : Nat) t0])] : List (Addr × List Value)).map fun e => .ref e.1)), (L, NP ["free", "signs", "k", "sign", "ahead", "firsts", "ways"] [some (.ref fa), some (.str (enc ch [false, true]) ts), some (.int (0 : Nat) t2), none, none, none, none]), (a1, Ce none), (a2, Ce none), (a3, Ce (some (.ref sd))), (a4, Ce (some (.ref wd))), (a5, Ce (some (.ref fd))), (a6, Ce (some (.str (enc ch letters) tl))), (fa, Ls (free.map .bool))] ++ fLed (([(z0, [Value.int (0 : Nat) t0])] : List (Addr × List Value)))) ?_ ?perm0
 case perm0 =>
  exact (List.perm_middle (l₁ := [_, _, _])).trans (List.perm_append_singleton _ _).symm
 refine W.cut (fun l => ∃ svs wvs fas kv sv av, FIs fas stF.found ∧ TxtAre ch wvs stF.words ∧ NatsAre svs stF.steps ∧ stF.found.length ≤ 35 ∧ (∀ w ∈ stF.words, w.length ≤ 17) ∧ l = [(sd, Ls svs), (wd, Ls wvs), (fd, Ls (fas.map fun e => .ref e.1)), (L, NP ["free", "signs", "k", "sign", "ahead", "firsts", "ways"] [some (.ref fa), some (.str (enc ch [false, true]) ts), kv, sv, av, none, none]), (a1, Ce none), (a2, Ce none), (a3, Ce (some (.ref sd))), (a4, Ce (some (.ref wd))), (a5, Ce (some (.ref fd))), (a6, Ce (some (.str (enc ch letters) tl))), (fa, Ls (free.map .bool))] ++ fLed (fas))
  (W.while (fun n l => ∃ k st svs wvs fas tk sv av, leastRun letters free n k st = stF ∧ leastDone letters free n k st = true ∧ st.found.length + 2 * n ≤ 35 ∧ k + n = 17 ∧ (∀ w ∈ st.words, w.length + n ≤ 17) ∧ st.words.length = st.found.length ∧ st.steps.length = 2 * k ∧ FIs fas st.found ∧ TxtAre ch wvs st.words ∧ NatsAre svs st.steps ∧ l = [(sd, Ls svs), (wd, Ls wvs), (fd, Ls (fas.map fun e => .ref e.1)), (L, NP ["free", "signs", "k", "sign", "ahead", "firsts", "ways"] [some (.ref fa), some (.str (enc ch [false, true]) ts), some (.int (k : Nat) tk), sv, av, none, none]), (a1, Ce none), (a2, Ce none), (a3, Ce (some (.ref sd))), (a4, Ce (some (.ref wd))), (a5, Ce (some (.ref fd))), (a6, Ce (some (.str (enc ch letters) tl))), (fa, Ls (free.map .bool))] ++ fLed (fas)) 17
   ⟨0, ⟨[[0]], [[]], []⟩, [], [Value.str (enc ch []) t1], [(z0, [Value.int (0 : Nat) t0])], t2, none, none, hrun, hdone, by decide, by decide, by simp, rfl, rfl, (FIs.snoc (fas := []) (found := []) ⟨rfl, by simp⟩ (NatsAre.snoc NatsAre.nil)), TxtAre.snoc TxtAre.nil, NatsAre.nil, rfl⟩ r.hh ?turn) ?rest
 case turn =>
  walk_at "E2"; generalize (z2 _ _).1 = n; generalize (z2 _ _).2 = l
  refine' @Y8 _ _ _ _ _ _ _ _ _ _ (by walk_at "ne") ?_; generalize (z8 _ _).1 = k; generalize (z8 _ _).2.1 = st; generalize (z8 _ _).2.2.1 = svs; generalize (z8 _ _).2.2.2.1 = wvs; generalize (z8 _ _).2.2.2.2.1 = fas; generalize (z8 _ _).2.2.2.2.2.1 = tk; generalize (z8 _ _).2.2.2.2.2.2.1 = sv; generalize (z8 _ _).2.2.2.2.2.2.2 = av
  refine A11 ?_
  intro hrun hdone hfl hkn hwl hwf hsl hF hW hS zy2
  subst zy2
  refine NCz n ?_ ?_
  ·intro ze2a
   subst ze2a
   cases hdone
  ·walk_at "E1"; generalize z1 _ _ = n
   intro ze2b
   subst ze2b
   unfold leastRun at hrun
   unfold leastDone at hdone
   have hfl' : (fas.map fun e => Value.ref e.1).length = st.found.length := by rw [List.length_map]; exact hF.1
   refine W.testCompare ?_
   simp only [List.cons_append, List.nil_append]
   walk_at "nm"
   refine W.callB (id := "len") ?_
   walk_at "b_len"
   refine ⟨rfl, W.spCons ?_⟩
   walk_at "ce"
   refine W.spNil (W.len' (by walk_at "mem") (by show _ ≤ 16777216; (clear hdone hrun hkn hsl hwf has hz hf hch; omega)) ?_)
   intro _
   refine W.ilt (W.truthyBool ?_)
   rw [hfl']
   by_cases hlt : k < st.found.length
   ·rw [if_pos hlt] at hrun hdone
    rw [show decide ((k : Int) < (st.found.length : Int)) = true from decide_eq_true (by (clear hfl' hdone hrun hkn hfl hsl hwf has hz hf hch; omega))]
    simp only [if_true]
    have h2 : st.found.length ≤ 33 := by (clear hlt hfl' hdone hrun hkn hsl hwf has hz hf hch; omega)
    refine W.cut (fun l => ∃ st' svs wvs fas sv av, st' = leastTurn letters free k st ∧ st'.found.length ≤ st.found.length + 2 ∧ (∀ w ∈ st'.words, w.length + n ≤ 17) ∧ st'.words.length = st'.found.length ∧ st'.steps.length = 2 * k + 2 ∧ FIs fas st'.found ∧ TxtAre ch wvs st'.words ∧ NatsAre svs st'.steps ∧ l = [(sd, Ls svs), (wd, Ls wvs), (fd, Ls (fas.map fun e => .ref e.1)), (L, NP ["free", "signs", "k", "sign", "ahead", "firsts", "ways"] [some (.ref fa), some (.str (enc ch [false, true]) ts), some (.int (k : Nat) tk), sv, av, none, none]), (a1, Ce none), (a2, Ce none), (a3, Ce (some (.ref sd))), (a4, Ce (some (.ref wd))), (a5, Ce (some (.ref fd))), (a6, Ce (some (.str (enc ch letters) tl))), (fa, Ls (free.map .bool))] ++ fLed (fas))
     (W.for (n := 2) (P := fun i v => ∃ b u, ([false, true] : Wd)[i]? = some b ∧ v = .str (enc ch [b]) u) (need := [])
     (fun i l => ∃ st' svs wvs fas sv av, st' = (([false, true] : Wd).take i).foldl (leastSign letters free k) st ∧ st'.found.length ≤ st.found.length + i ∧ k < st'.found.length ∧ (st'.words.getD k []).length + n + 1 ≤ 17 ∧ (∀ w ∈ st'.words, w.length + n ≤ 17) ∧ st'.words.length = st'.found.length ∧ st'.steps.length = 2 * k + i ∧ FIs fas st'.found ∧ TxtAre ch wvs st'.words ∧ NatsAre svs st'.steps ∧ l = [(sd, Ls svs), (wd, Ls wvs), (fd, Ls (fas.map fun e => .ref e.1)), (L, NP ["free", "signs", "k", "sign", "ahead", "firsts", "ways"] [some (.ref fa), some (.str (enc ch [false, true]) ts), some (.int (k : Nat) tk), sv, av, none, none]), (a1, Ce none), (a2, Ce none), (a3, Ce (some (.ref sd))), (a4, Ce (some (.ref wd))), (a5, Ce (some (.ref fd))), (a6, Ce (some (.str (enc ch letters) tl))), (fa, Ls (free.map .bool))] ++ fLed (fas)) r.hh ?_ ?_ ?_ ?_) ?_
    ·walk_at "nm"
     refine ⟨Itr.enc, st, svs, wvs, fas, sv, av, rfl, by (clear h2 hlt hfl' hdone hrun hkn hfl hsl hwf has hz hf hch; omega), hlt, ?_, fun w hw => by have := hwl w hw; (clear h2 hlt hfl' hdone hrun hkn hfl hsl hwf has hz hf hch; omega), hwf, by (clear h2 hlt hfl' hdone hrun hkn hfl hwf has hz hf hch; omega), hF, hW, hS, rfl⟩
     have hk : k < st.words.length := by (clear h2 hfl' hdone hrun hkn hfl hsl has hz hf hch; omega)
     rw [List.getD_eq_getElem?_getD, List.getElem?_eq_getElem hk]
     have := hwl _ (List.getElem_mem hk)
     show _ + n + 1 ≤ 17
     simpa [Nat.add_assoc] using this
    ·walk_at "E2"; generalize (z2 _ _).1 = zu65; generalize (z2 _ _).2 = zu66
     intro _
     walk_at "E1"; generalize z1 _ _ = zu68
     intro h
     cases h
    ·walk_at "E3"; generalize (z3 _ _).1 = i; generalize (z3 _ _).2.1 = v; generalize (z3 _ _).2.2 = l
     intro hi
     walk_at "Y2"; generalize (z2 _ _).1 = b; generalize (z2 _ _).2 = ub
     refine A2 ?_
     intro hb' zy3
     subst zy3
     refine' @Y6 _ _ _ _ _ _ _ _ (by walk_at "ne") ?_; generalize (z6 _ _).1 = st'; generalize (z6 _ _).2.1 = svs; generalize (z6 _ _).2.2.1 = wvs; generalize (z6 _ _).2.2.2.1 = fas; generalize (z6 _ _).2.2.2.2.1 = sv; generalize (z6 _ _).2.2.2.2.2 = av
     refine A11 ?_
     intro hst hfl3 hk3 hwk hwl3 hwf3 hsl3 hF hW hS zy4
     subst zy4
     have hst2 : (([false, true] : Wd).take (i + 1)).foldl (leastSign letters free k) st = leastSign letters free k st' b := by
      rw [fold_take' _ _ _ hb', ← hst]
     rw [hst2]
     clear hst hst2
     have hi2 : i ≤ 1 := by (clear hsl3 hwf3 hwk hk3 hfl3 hb' h2 hlt hfl' hdone hrun hkn hfl hsl hwf has hz hf hch; omega)
     simp only [List.cons_append, List.nil_append]
     refine W.asName ?_
     walk_at "st"
     have hkf : st'.found[k]? = some (st'.found.getD k []) := by rw [List.getD_eq_getElem?_getD, List.getElem?_eq_getElem hk3]; rfl
     refine O1 ?_ (hF.2 k _ hkf)
     walk_at "Y2"; generalize (z2 _ _).1 = pa; generalize (z2 _ _).2 = pvs
     refine A2 ?_
     intro hpa hpn
     have hpx : (fas.map fun e => Value.ref e.1)[((k : Nat) : Int).toNat]? = some (.ref pa) := by
      rw [Int.toNat_natCast, List.getElem?_map, hpa]; rfl
     have hfz : (fas.map fun e => Value.ref e.1).length = st'.found.length := by rw [List.length_map]; exact hF.1
     refine W.step (W.set (W.callK T (fv := .ref 218) (by k_is) ?_))
     walk_at "gl"
     refine ⟨rfl, W.spCons (W.subs slot_list_getitem.lookup ?_)⟩
     walk_at "ce"
     walk_at "nm"
     refine ⟨Ty.ls (by walk_at "mem"), W.lsItem (by walk_at "mem") (by (clear hfz hpx hpa hkf hi2 hsl3 hwf3 hwk hk3 hfl3 hb' hi h2 hlt hfl' hdone hrun hkn hfl hsl hwf has hz hf hch; omega)) hpx (by show _ ≤ 16777216; (clear hpx hpa hkf hi2 hsl3 hwf3 hwk hk3 hb' h2 hlt hfl' hdone hrun hkn hsl hwf has hz hf hch; omega)) (W.spCons ?_)⟩
     walk_at "nm"
     refine W.spCons ?_
     walk_at "ce"
     refine W.spCons ?_
     walk_at "nm"
     refine W.spNil (W.nd ?_)
     intro nd
     have hin : ∀ e ∈ fas, (e.1, Ls e.2) ∈ fLed fas := fun e he => List.mem_map.mpr ⟨e, he, rfl⟩
     refine W.borrow (t0 := [(pa, Ls pvs), (fa, Ls (free.map .bool))]) (P := fun v new => ∃ ra rvs, v = .ref ra ∧ NatsAre rvs (aheadB (st'.found.getD k []) b letters free) ∧ new = [(ra, Ls rvs)])
      ((ahead_ok T (r.deeper.less (by (clear hfz hpx hpa hkf hi2 hsl3 hwf3 hwk hk3 hfl3 hb' hi h2 hlt hfl' hdone hrun hkn hfl hsl hwf has hz hf hch; omega))) hch hpn hf (by (clear hfz hpx hpa hkf hi2 hsl3 hwf3 hwk hk3 hfl3 hb' hi h2 hlt hfl' hdone hrun hkn hfl hsl hwf has hf hch; omega))).mono (fun v l' ⟨ra, rvs, e, hn, hl⟩ => ⟨[(ra, Ls rvs)], hl, ra, rvs, e, hn, rfl⟩)) ?perm ?_
     case perm =>
      have m1 : (pa, Ls pvs) ∈ [(sd, Ls svs), (wd, Ls wvs), (fd, Ls (fas.map fun e => .ref e.1)), (L, NP ["free", "signs", "k", "sign", "ahead", "firsts", "ways"] [some (.ref fa), some (.str (enc ch [false, true]) ts), some (.int (k : Nat) tk), some (.str (enc ch [b]) ub), av, none, none]), (a1, Ce none), (a2, Ce none), (a3, Ce (some (.ref sd))), (a4, Ce (some (.ref wd))), (a5, Ce (some (.ref fd))), (a6, Ce (some (.str (enc ch letters) tl))), (fa, Ls (free.map .bool))] ++ fLed (fas) := List.mem_append_right _ (hin _ (List.mem_of_getElem? hpa))
      have m2 : (fa, Ls (free.map Value.bool)) ∈ [(sd, Ls svs), (wd, Ls wvs), (fd, Ls (fas.map fun e => .ref e.1)), (L, NP ["free", "signs", "k", "sign", "ahead", "firsts", "ways"] [some (.ref fa), some (.str (enc ch [false, true]) ts), some (.int (k : Nat) tk), some (.str (enc ch [b]) ub), av, none, none]), (a1, Ce none), (a2, Ce none), (a3, Ce (some (.ref sd))), (a4, Ce (some (.ref wd))), (a5, Ce (some (.ref fd))), (a6, Ce (some (.str (enc ch letters) tl))), (fa, Ls (free.map .bool))] ++ fLed (fas) := by simp
      exact perm_of_mem2 m1 m2 (ne_nats nd m1 m2 hpn (by (clear hfz hpx hpa hkf hi2 hsl3 hwf3 hwk hk3 hfl3 hb' hi h2 hlt hfl' hdone hrun hkn hfl hsl hwf has hz hch; omega)))
     intro v
     walk_at "E1"; generalize z1 _ _ = new
     walk_at "Y2"; generalize (z2 _ _).1 = ra; generalize (z2 _ _).2 = rvs
     refine A3 ?_
     intro zy5 hn zy6
     subst zy5
     subst zy6
     simp only [List.cons_append, List.nil_append]
     walk_at "st"
     refine ⟨by first | rfl | trivial, ?_⟩
     generalize haa : aheadB (st'.found.getD k []) b letters free = a at hn
     have hca : st'.found.contains a = st'.found.contains (aheadB (st'.found.getD k []) b letters free) := by rw [haa]
     refine W.cut (fun l1 => ∃ junk svs' wvs' fas', FIs fas' (if st'.found.contains a then st'.found else st'.found ++ [a]) ∧ TxtAre ch wvs' (if st'.found.contains a then st'.words else st'.words ++ [st'.words.getD k [] ++ [b]]) ∧ NatsAre svs' st'.steps ∧ (ra, Ls rvs) ∈ l1 ∧ l1 = [(sd, Ls svs'), (wd, Ls wvs'), (fd, Ls (fas'.map fun e => .ref e.1)), (L, NP ["free", "signs", "k", "sign", "ahead", "firsts", "ways"] [some (.ref fa), some (.str (enc ch [false, true]) ts), some (.int (k : Nat) tk), some (.str (enc ch [b]) ub), some (.ref ra), none, none]), (a1, Ce none), (a2, Ce none), (a3, Ce (some (.ref sd))), (a4, Ce (some (.ref wd))), (a5, Ce (some (.ref fd))), (a6, Ce (some (.str (enc ch letters) tl))), (fa, Ls (free.map .bool))] ++ (fLed fas' ++ junk))
      (W.cond (W.testCompare ?_)) ?_
     ·walk_at "nm"
      walk_at "ce"
      refine W.nd ?_
      intro nd
      refine W.notInLs (n := 1) (r.deeper.less (by (clear hca haa hfz hpx hpa hkf hi2 hsl3 hwf3 hwk hk3 hfl3 hb' hi h2 hlt hfl' hdone hrun hkn hfl hsl hwf has hz hf hch; omega))) (by walk_at "mem") (eF fas a) (eF_eqs hF (fun e he => by
       have := hin e he
       simp [this]) (.head _) hn nd) (W.truthyBool ?_)
      rw [eF_any hF]
      cases hc : st'.found.contains a
      ·simp only [Bool.not_false, if_true, Bool.false_eq_true, if_false]
       refine W.cons (W.expr (W.meth F.plainAttrs_list slot_list_append F.type_list_append ?_))
       walk_at "ce"
       refine ⟨Ty.ls (by walk_at "mem"), W.spCons ?_⟩
       walk_at "nm"
       refine W.spNil (W.append (by walk_at "up") (by show _ ≤ 16777216; (clear hc hca haa hpx hpa hkf hi2 hsl3 hwf3 hwk hk3 hb' h2 hlt hfl' hdone hrun hkn hsl hwf has hz hf hch; omega)) ?_)
       refine W.cons (W.expr (W.meth F.plainAttrs_list slot_list_append F.type_list_append ?_))
       walk_at "ce"
       have hwz := hW.1
       have hkw : st'.words[k]? = some (st'.words.getD k []) := by rw [List.getD_eq_getElem?_getD, List.getElem?_eq_getElem (by (clear hwz hc hca haa hfz hpx hpa hkf hi2 hsl3 hwk hfl3 hb' hi h2 hlt hfl' hdone hrun hkn hfl hsl hwf has hz hf hch; omega))]; rfl
       refine O1 ?_ (hW.2 k _ hkw)
       walk_at "Y1"; generalize z1 _ _ = tw
       intro hwx
       refine ⟨Ty.ls (by walk_at "mem"), W.spCons (W.binop (W.subs slot_list_getitem.lookup ?_))⟩
       walk_at "ce"
       walk_at "nm"
       refine ⟨Ty.ls (by walk_at "mem"), W.lsItem (by walk_at "mem") (by (clear hwx hkw hwz hc hca haa hfz hpx hpa hkf hi2 hsl3 hwf3 hwk hk3 hfl3 hb' hi h2 hlt hfl' hdone hrun hkn hfl hsl hwf has hz hf hch; omega)) (v := .str (enc ch (st'.words.getD k [])) tw) (by rw [Int.toNat_natCast]; exact hwx) (by show _ ≤ 16777216; (clear hwx hkw hc hca haa hfz hpx hpa hkf hi2 hsl3 hwk hk3 hb' h2 hlt hfl' hdone hrun hkn hsl hwf has hz hf hch; omega)) ?_⟩
       walk_at "nm"
       refine W.sadd (by rw [enc_len, enc_len]; show _ ≤ 16777216; simp only [List.length_cons, List.length_nil]; (clear hwx hkw hwz hc hca haa hfz hpx hpa hkf hi2 hsl3 hwf3 hk3 hfl3 hb' hi h2 hlt hfl' hdone hrun hkn hfl hsl hwf has hz hf hch; omega)) ?_
       intro tn
       rw [← enc_app]
       refine W.spNil (W.append (by walk_at "up") (by show _ ≤ 16777216; (clear hwx hkw hc hca haa hfz hpx hpa hkf hi2 hsl3 hwk hk3 hb' h2 hlt hfl' hdone hrun hkn hsl hwf has hz hf hch; omega)) ?_)
       refine W.perm (l' := [(sd, Ls svs), (wd, Ls (wvs ++ [.str (enc ch (st'.words.getD k [] ++ [b])) tn])), (fd, Ls ((fas ++ [(ra, rvs)]).map fun e => .ref e.1)), (L, NP ["free", "signs", "k", "sign", "ahead", "firsts", "ways"] [some (.ref fa), some (.str (enc ch [false, true]) ts), some (.int (k : Nat) tk), some (.str (enc ch [b]) ub), some (.ref ra), none, none]), (a1, Ce none), (a2, Ce none), (a3, Ce (some (.ref sd))), (a4, Ce (some (.ref wd))), (a5, Ce (some (.ref fd))), (a6, Ce (some (.str (enc ch letters) tl))), (fa, Ls (free.map .bool))] ++ (fLed (fas ++ [(ra, rvs)]) ++ [])) (W.nil ?_) ?_
       ·refine I4 ([]) svs _ (fas ++ [(ra, rvs)]) ⟨hF.snoc hn, hW.snoc, hS, ?_, rfl⟩
        simp [fLed]
       ·rw [show ((fas.map fun e => Value.ref e.1) ++ [.ref ra]) = ((fas ++ [(ra, rvs)]).map fun e => Value.ref e.1) by simp]
        rw [show fLed (fas ++ [(ra, rvs)]) ++ [] = fLed fas ++ [(ra, Ls rvs)] by simp [fLed]]
        exact (List.perm_append_singleton _ _).symm
      ·simp only [Bool.not_true, Bool.false_eq_true, if_false, if_true]
       refine W.perm (l' := [(sd, Ls svs), (wd, Ls wvs), (fd, Ls (fas.map fun e => .ref e.1)), (L, NP ["free", "signs", "k", "sign", "ahead", "firsts", "ways"] [some (.ref fa), some (.str (enc ch [false, true]) ts), some (.int (k : Nat) tk), some (.str (enc ch [b]) ub), some (.ref ra), none, none]), (a1, Ce none), (a2, Ce none), (a3, Ce (some (.ref sd))), (a4, Ce (some (.ref wd))), (a5, Ce (some (.ref fd))), (a6, Ce (some (.str (enc ch letters) tl))), (fa, Ls (free.map .bool))] ++ (fLed fas ++ [(ra, Ls rvs)])) (W.nil ?_) ((List.perm_append_singleton _ _).symm)
       exact I4 _ svs wvs fas ⟨hF, hW, hS, by simp, rfl⟩
     ·walk_at "E1"; generalize z1 _ _ = l1
      refine' @Y4 _ _ _ _ _ _ (by walk_at "ne") ?_; generalize (z4 _ _).1 = junk; generalize (z4 _ _).2.1 = svs'; generalize (z4 _ _).2.2.1 = wvs'; generalize (z4 _ _).2.2.2 = fas'
      refine A5 ?_
      intro hF' hW' hS' hra zy7
      subst zy7
      simp only [List.cons_append, List.nil_append] at hra ⊢
      have hlsg : leastSign letters free k st' b = ⟨(if st'.found.contains a then st'.found else st'.found ++ [a]), (if st'.found.contains a then st'.words else st'.words ++ [st'.words.getD k [] ++ [b]]), st'.steps ++ [idx (if st'.found.contains a then st'.found else st'.found ++ [a]) a]⟩ := by
       unfold leastSign
       dsimp only
       rw [haa]
       split <;> rfl
      have hcont : (if st'.found.contains a then st'.found else st'.found ++ [a]).contains a = true := by
       split
       ·assumption
       ·simp
      have hfl4 : (if st'.found.contains a then st'.found else st'.found ++ [a]).length ≤ st'.found.length + 1 ∧ st'.found.length ≤ (if st'.found.contains a then st'.found else st'.found ++ [a]).length ∧ (if st'.found.contains a then st'.words else st'.words ++ [st'.words.getD k [] ++ [b]]).length = (if st'.found.contains a then st'.found else st'.found ++ [a]).length := by
       split
       ·exact ⟨by (clear hcont hlsg hca haa hfz hpx hpa hkf hi2 hsl3 hwf3 hwk hk3 hfl3 hb' hi h2 hlt hfl' hdone hrun hkn hfl hsl hwf has hz hf hch; omega), by (clear hcont hlsg hca haa hfz hpx hpa hkf hi2 hsl3 hwf3 hwk hk3 hfl3 hb' hi h2 hlt hfl' hdone hrun hkn hfl hsl hwf has hz hf hch; omega), hwf3⟩
       ·simp; (clear hcont hlsg hca haa hfz hpx hpa hkf hi2 hsl3 hwk hk3 hfl3 hb' hi h2 hlt hfl' hdone hrun hkn hfl hsl hwf has hz hf hch; omega)
      have hwl4 : ∀ w ∈ (if st'.found.contains a then st'.words else st'.words ++ [st'.words.getD k [] ++ [b]]), w.length + n ≤ 17 := by
       split
       ·exact hwl3
       ·walk_at "E1"; generalize z1 _ _ = w
        intro hw
        rcases List.mem_append.mp hw with hw | hw
        ·exact hwl3 w hw
        ·simp at hw
         subst hw
         simp at hwk ⊢; (clear hfl4 hcont hlsg hca haa hfz hpx hpa hkf hi2 hsl3 hwf3 hk3 hfl3 hb' hi h2 hlt hfl' hdone hrun hkn hfl hsl hwf has hz hf hch; omega)
      have hwk4 : ((if st'.found.contains a then st'.words else st'.words ++ [st'.words.getD k [] ++ [b]]).getD k []).length + n + 1 ≤ 17 := by
       split
       ·exact hwk
       ·rw [List.getD_eq_getElem?_getD, List.getElem?_append_left (by (clear hfl4 hcont hlsg hca haa hfz hpx hpa hkf hi2 hsl3 hwk hfl3 hb' hi h2 hlt hfl' hdone hrun hkn hfl hsl hwf has hz hf hch; omega)), ← List.getD_eq_getElem?_getD]
        exact hwk
      rw [hlsg]
      generalize (if st'.found.contains a then st'.found else st'.found ++ [a]) = found' at hF' hcont hfl4 ⊢
      generalize (if st'.found.contains a then st'.words else st'.words ++ [st'.words.getD k [] ++ [b]]) = words' at hW' hfl4 hwl4 hwk4 ⊢
      have hfz' : (fas'.map fun e => Value.ref e.1).length = found'.length := by rw [List.length_map]; exact hF'.1
      have hsz' := hS'.1
      refine W.cons (W.expr (W.meth F.plainAttrs_list slot_list_append F.type_list_append ?_))
      walk_at "ce"
      refine ⟨Ty.ls (by walk_at "mem"), W.spCons (W.meth F.plainAttrs_list F.slot_list_index F.type_list_index ?_)⟩
      walk_at "ce"
      refine ⟨Ty.ls (by walk_at "mem"), W.spCons ?_⟩
      walk_at "nm"
      have hin' : ∀ e ∈ fas', (e.1, Ls e.2) ∈ ([(sd, Ls svs'), (wd, Ls wvs'), (fd, Ls (fas'.map fun e => .ref e.1)), (L, NP ["free", "signs", "k", "sign", "ahead", "firsts", "ways"] [some (.ref fa), some (.str (enc ch [false, true]) ts), some (.int (k : Nat) tk), some (.str (enc ch [b]) ub), some (.ref ra), none, none]), (a1, Ce none), (a2, Ce none), (a3, Ce (some (.ref sd))), (a4, Ce (some (.ref wd))), (a5, Ce (some (.ref fd))), (a6, Ce (some (.str (enc ch letters) tl))), (fa, Ls (free.map .bool))] ++ (fLed fas' ++ junk)) := fun e he => by
       have : (e.1, Ls e.2) ∈ fLed fas' := List.mem_map.mpr ⟨e, he, rfl⟩
       simp [this]
      have hj := idx_lt hcont
      refine W.spNil (W.nd ?_)
      intro nd
      have hat : ∀ i (hi : i < found'.length) (hi2 : i < (fas'.map fun e => Value.ref e.1).length), eF fas' a ((fas'.map fun e => Value.ref e.1)[i]) = (found'[i] == a) := fun i hi hi2 => by
       obtain ⟨ai, vi, e1, e2⟩ := hF'.2 i _ (List.getElem?_eq_getElem hi)
       have hi3 : i < fas'.length := by rw [hF'.1]; exact hi
       rw [List.getElem?_eq_getElem hi3] at e1
       have e1' := Option.some.inj e1
       have hm : fas'[i] ∈ fas' := List.getElem_mem hi3
       rw [List.getElem_map, eF_at hm (fun e' m' h => ls_uniq nd (h ▸ hin' e' m') (hin' _ hm)), e1', e2.ns]
      refine W.lsIndex (n := 1) (j := idx found' a) (r.deeper.less (by (clear hj hsz' hfz' hwk4 hfl4 hcont hlsg hca haa hfz hpx hpa hkf hi2 hsl3 hwf3 hwk hk3 hfl3 hb' hi h2 hlt hfl' hdone hrun hkn hfl hsl hwf has hz hf hch; omega))) (by walk_at "mem") (eF fas' a) (eF_eqs hF' hin' hra hn nd) (by show _ ≤ 16777216; (clear hj hsz' hwk4 hcont hlsg hca haa hfz hpx hpa hkf hi2 hsl3 hwf3 hwk hk3 hb' h2 hlt hfl' hdone hrun hkn hsl hwf has hz hf hch; omega)) (by (clear hsz' hwk4 hfl4 hcont hlsg hca haa hfz hpx hpa hkf hi2 hsl3 hwf3 hwk hk3 hfl3 hb' hi h2 hlt hfl' hdone hrun hkn hfl hsl hwf has hz hf hch; omega)) ?_ ?_ fun ti => ?_
      ·rw [hat _ hj (by (clear hsz' hwk4 hfl4 hcont hlsg hca haa hfz hpx hpa hkf hi2 hsl3 hwf3 hwk hk3 hfl3 hb' hi h2 hlt hfl' hdone hrun hkn hfl hsl hwf has hz hf hch; omega))]
       have := List.findIdx_getElem (w := hj)
       exact this
      ·walk_at "E1"; generalize z1 _ _ = i
       intro hi hlt'
       rw [hat i (by (clear hlt' hj hsz' hwk4 hfl4 hcont hlsg hca haa hfz hpx hpa hkf hi2 hsl3 hwf3 hwk hk3 hfl3 hb' h2 hlt hfl' hdone hrun hkn hfl hsl hwf has hz hf hch; omega)) hi]
       have := List.not_of_lt_findIdx hlt'
       simpa using this
      refine W.spNil (W.append (by walk_at "up") (by show _ ≤ 16777216; (clear hj hfz' hwk4 hfl4 hcont hlsg hca haa hfz hpx hpa hkf hi2 hwf3 hwk hk3 hfl3 hb' h2 hlt hfl' hdone hrun hfl hsl hwf has hz hf hch; omega)) ?_)
      refine W.sub (R := junk) (l' := [(sd, Ls (svs' ++ [.int (idx found' a : Nat) ti])), (wd, Ls wvs'), (fd, Ls (fas'.map fun e => .ref e.1)), (L, NP ["free", "signs", "k", "sign", "ahead", "firsts", "ways"] [some (.ref fa), some (.str (enc ch [false, true]) ts), some (.int (k : Nat) tk), some (.str (enc ch [b]) ub), some (.ref ra), none, none]), (a1, Ce none), (a2, Ce none), (a3, Ce (some (.ref sd))), (a4, Ce (some (.ref wd))), (a5, Ce (some (.ref fd))), (a6, Ce (some (.str (enc ch letters) tl))), (fa, Ls (free.map .bool))] ++ fLed fas') (W.nil ⟨_, _, wvs', fas', _, _, rfl, by dsimp only; (clear hj hsz' hfz' hwk4 hcont hlsg hca haa hfz hpx hpa hkf hi2 hsl3 hwf3 hwk hk3 hb' hi h2 hlt hfl' hdone hrun hkn hfl hsl hwf has hz hf hch; omega), by dsimp only; (clear hj hsz' hfz' hwk4 hcont hlsg hca haa hfz hpx hpa hkf hi2 hsl3 hwf3 hwk hfl3 hb' hi h2 hlt hfl' hdone hrun hkn hfl hsl hwf has hz hf hch; omega), by dsimp only; exact hwk4, by dsimp only; exact hwl4, by dsimp only; exact hfl4.2.2, by simp; (clear hj hsz' hfz' hwk4 hfl4 hcont hlsg hca haa hfz hpx hpa hkf hi2 hwf3 hwk hk3 hfl3 hb' hi h2 hlt hfl' hdone hrun hkn hfl hsl hwf has hz hf hch; omega), hF', hW', hS'.snoc, rfl⟩) ?_
      have := Take.prefix ([(sd, Ls (svs' ++ [.int (idx found' a : Nat) ti])), (wd, Ls wvs'), (fd, Ls (fas'.map fun e => .ref e.1)), (L, NP ["free", "signs", "k", "sign", "ahead", "firsts", "ways"] [some (.ref fa), some (.str (enc ch [false, true]) ts), some (.int (k : Nat) tk), some (.str (enc ch [b]) ub), some (.ref ra), none, none]), (a1, Ce none), (a2, Ce none), (a3, Ce (some (.ref sd))), (a4, Ce (some (.ref wd))), (a5, Ce (some (.ref fd))), (a6, Ce (some (.str (enc ch letters) tl))), (fa, Ls (free.map .bool))] ++ fLed fas') junk
      rw [List.append_assoc] at this
      exact this
    ·walk_at "E1"; generalize z1 _ _ = l
     refine' @Y6 _ _ _ _ _ _ _ _ (by walk_at "ne") ?_; generalize (z6 _ _).1 = st'; generalize (z6 _ _).2.1 = svs; generalize (z6 _ _).2.2.1 = wvs; generalize (z6 _ _).2.2.2.1 = fas; generalize (z6 _ _).2.2.2.2.1 = sv; generalize (z6 _ _).2.2.2.2.2 = av
     refine A11 ?_
     intro hst hfl3 hk3 hwk hwl3 hwf3 hsl3 hF hW hS zy8
     subst zy8
     exact I6 st' svs wvs fas sv av ⟨hst, hfl3, hwl3, hwf3, hsl3, hF, hW, hS, rfl⟩
    ·walk_at "E1"; generalize z1 _ _ = l
     refine' @Y6 _ _ _ _ _ _ _ _ (by walk_at "ne") ?_; generalize (z6 _ _).1 = st'; generalize (z6 _ _).2.1 = svs; generalize (z6 _ _).2.2.1 = wvs; generalize (z6 _ _).2.2.2.1 = fas; generalize (z6 _ _).2.2.2.2.1 = sv; generalize (z6 _ _).2.2.2.2.2 = av
     refine A9 ?_
     intro zy9 hfl3 hwl3 hwf3 hsl3 hF hW hS zy10
     subst zy9
     subst zy10
     simp only [List.cons_append, List.nil_append]
     refine W.cons (W.aug (W.ldLocal rfl rfl (by walk_at "mem") (by walk_at "get") (W.kInt ?_)))
     intro _
     refine W.iaddI ?_
     intro t5
     walk_at "st"
     refine W.nil ?_
     refine ⟨n, by (clear hsl3 hwf3 hfl3 h2 hlt hfl' hdone hrun hkn hfl hsl hwf has hz hf hch; omega), (I8 (k + 1) _ svs wvs fas t5 sv av ⟨hrun, hdone, by (clear hsl3 hwf3 h2 hlt hfl' hdone hrun hkn hsl hwf has hz hf hch; omega), by (clear hsl3 hwf3 hfl3 h2 hlt hfl' hdone hrun hfl hsl hwf has hz hf hch; omega), hwl3, hwf3, by (clear hwf3 hfl3 h2 hlt hfl' hdone hrun hkn hfl hsl hwf has hz hf hch; omega), hF, hW, hS, rfl⟩)⟩
   ·rw [if_neg hlt] at hrun
    subst hrun
    rw [show decide ((k : Int) < (st.found.length : Int)) = false from decide_eq_false (by (clear hrun hfl' hdone hkn hfl hsl hwf has hz hf hch; omega))]
    simp only [Bool.false_eq_true, if_false]
    exact I6 svs wvs fas _ sv av ⟨hF, hW, hS, by (clear hrun hlt hfl' hdone hkn hsl hwf has hz hf hch; omega), fun w hw => by have := hwl w hw; (clear hrun hlt hfl' hdone hkn hfl hsl hwf has hz hf hch; omega), rfl⟩
 case rest =>
  walk_at "E1"; generalize z1 _ _ = l
  refine' @Y6 _ _ _ _ _ _ _ _ (by walk_at "ne") ?_; generalize (z6 _ _).1 = svs; generalize (z6 _ _).2.1 = wvs; generalize (z6 _ _).2.2.1 = fas; generalize (z6 _ _).2.2.2.1 = kv; generalize (z6 _ _).2.2.2.2.1 = sv; generalize (z6 _ _).2.2.2.2.2 = av
  refine A6 ?_
  intro hF hW hS hfl hwl zy11
  subst zy11
  have hchk' := hchk
  unfold leastChk at hchk'
  simp only [Bool.and_eq_true, beq_iff_eq] at hchk'
  obtain ⟨⟨⟨hst, hsl⟩, hwz⟩, hpz⟩ := hchk'
  have hfz : (fas.map fun e => Value.ref e.1).length = stF.found.length := by rw [List.length_map]; exact hF.1
  have hmz : (mostOf stF).length = stF.found.length := List.length_map ..
  refine W.step (W.set ?_)
  refine W.comp (n := (fas.map fun e => Value.ref e.1).length) (P := fun i v => (fas.map fun e => Value.ref e.1)[i]? = some v) (need := [(fd, Ls (fas.map fun e => .ref e.1))])
   (fun i ys l => MostAre ys ((mostOf stF).take i) ∧ l = [(sd, Ls svs), (wd, Ls wvs), (fd, Ls (fas.map fun e => .ref e.1)), (L, NP ["free", "signs", "k", "sign", "ahead", "firsts", "ways"] [some (.ref fa), some (.str (enc ch [false, true]) ts), kv, sv, av, none, none]), (a1, Ce none), (a2, Ce none), (a3, Ce (some (.ref sd))), (a4, Ce (some (.ref wd))), (a5, Ce (some (.ref fd))), (a6, Ce (some (.str (enc ch letters) tl))), (fa, Ls (free.map .bool))] ++ fLed (fas)) r.hh
   (by exact rfl) (by decide) rfl (by decide) rfl (by show _ ≤ 16777216; (clear hmz hsl hst hwz hpz has hdone hrun hz hf hch; omega)) ?_ ?_ ?_ ?_
  ·simp only [List.cons_append, List.nil_append]
   walk_at "ce"
   exact ⟨Itr.ls (by walk_at "mem"), MostAre.nil, rfl⟩
  ·walk_at "E3"; generalize (z3 _ _).1 = i; generalize (z3 _ _).2.1 = ys; generalize (z3 _ _).2.2 = l
   refine A2 ?_
   intro _ zy12
   subst zy12
   walk_at "E1"; generalize z1 _ _ = p
   intro hp
   simp at hp; subst hp; simp
  ·walk_at "E5"; generalize (z5 _ _).1 = C; generalize (z5 _ _).2.1 = i; generalize (z5 _ _).2.2.1 = v; generalize (z5 _ _).2.2.2.1 = ys; generalize (z5 _ _).2.2.2.2 = l
   intro hi hv
   refine A2 ?_
   intro hms zy13
   subst zy13
   intro hlen
   rw [List.getElem?_map] at hv
   refine O1 ?_ (Option.map_eq_some_iff.mp hv)
   walk_at "Y1"; generalize z1 _ _ = e
   refine A2 ?_
   intro he zy14
   subst zy14
   have hi' : i < stF.found.length := by (clear hv he hlen hmz hsl hst hwz hpz hfl has hdone hrun hz hf hch; omega)
   refine O1 ?_ (show ∃ f0, stF.found[i]? = some f0 from ⟨_, List.getElem?_eq_getElem hi'⟩)
   walk_at "Y1"; generalize z1 _ _ = f0
   intro hf0
   refine O1 ?_ (hF.2 i _ hf0)
   walk_at "Y2"; generalize (z2 _ _).1 = pa; generalize (z2 _ _).2 = pvs
   refine A2 ?_
   intro hpa hpn
   rw [he] at hpa
   cases hpa
   have hmem : (pa, Ls pvs) ∈ fLed fas := List.mem_map.mpr ⟨_, List.mem_of_getElem? he, rfl⟩
   refine O1 ?_ (hpn.ints)
   walk_at "Y1"; generalize z1 _ _ = xs
   refine A2 ?_
   intro hx1 hx2
   refine W.testsNil ?_
   rw [if_pos rfl]
   refine W.close ?_
   simp only [List.cons_append, List.nil_append]
   refine W.callB (id := "max") ?_
   walk_at "b_max"
   refine ⟨rfl, W.spCons (W.binop (W.mkList (W.spCons (W.unary (W.kInt ?_)))))⟩
   intro tz
   refine W.ineg ?_
   walk_at "E1"; generalize z1 _ _ = tm
   refine W.spNil ⟨by walk_at "sz", ?_⟩
   walk_at "E1"; generalize z1 _ _ = d1
   walk_at "nm"
   have hxz : pvs.length ≤ 1000 := by
    rw [hpn.1]
    exact of_decide_eq_true (List.all_eq_true.mp hpz _ (List.mem_of_getElem? hf0))
   refine W.addLs (ws := pvs) (.head _) (by simp [hmem]) (by show _ ≤ 16777216; simp only [List.length_cons, List.length_nil]; (clear hx2 hv he hf0 hi' hlen hi hmz hfz hsl hst hwz hpz hfl has hdone hrun hz hf hch; omega)) ?_
   walk_at "E1"; generalize z1 _ _ = d2
   refine W.spNil ?_
   rw [show ([Value.int (-1) tm] ++ pvs) = intsL (((-1 : Int), tm) :: xs) by rw [hx1]; rfl]
   refine W.max r.hh (.head _) (by simp) ?_
   walk_at "E2"; generalize (z2 _ _).1 = M; generalize (z2 _ _).2 = t
   intro hM hmax
   have hM' := most_eq (by simpa [hx2] using hM) (by simpa [hx2] using hmax)
   subst hM'
   refine I2 _ _ ⟨Take.suffix [_, _] _, (I2 _ _ ⟨rfl, ?_, rfl⟩)⟩
   have ht : (mostOf stF).take (i + 1) = (mostOf stF).take i ++ [mostB f0] := by
    rw [List.take_add_one]
    unfold mostOf
    rw [List.getElem?_map, hf0]; rfl
   rw [ht]
   exact hms.snoc
  ·walk_at "E3"; generalize (z3 _ _).1 = md; generalize (z3 _ _).2.1 = mvs; generalize (z3 _ _).2.2 = l
   refine A2 ?_
   intro hms zy15
   subst zy15
   intro hlen
   rw [hfz, ← hmz, List.take_length] at hms
   simp only [List.cons_append, List.nil_append]
   walk_at "sc"
   refine ⟨by first | rfl | trivial, ?_⟩
   have hs1 := (rg1 stF.found.length (by (clear hlen hmz hfz hsl hst hwz hpz has hdone hrun hz hf hch; omega))).1
   have hs2 := (rg1 stF.found.length (by (clear hs1 hlen hmz hfz hsl hst hwz hpz has hdone hrun hz hf hch; omega))).2
   have hmvz : mvs.length = stF.found.length := by rw [hms.1, hmz]
   have hmat : ∀ i, i < stF.found.length → ∃ t, mvs[i]? = some (.int (((mostOf stF).getD i 0 : Nat) - 1) t) := fun i hi => by
    have : (mostOf stF)[i]? = some ((mostOf stF).getD i 0) := by rw [List.getD_eq_getElem?_getD, List.getElem?_eq_getElem (by (clear hmvz hs2 hs1 hlen hfz hsl hst hwz hpz hfl has hdone hrun hz hf hch; omega))]; rfl
    exact hms.2 i _ this
   refine W.step (W.setU (by exact rfl) ?_)
   refine W.compU _ (n := stF.found.length) (P := fun i v => ∃ t, v = .int (0 + (i : Nat) * 1) t) (need := [])
    (fun i ys l => ∃ rr, NatsAre ys ((List.range i).filter (firstP stF)) ∧ l = (rr, Rg 0 stF.found.length 1) :: (md, Ls mvs) :: ([(sd, Ls svs), (wd, Ls wvs), (fd, Ls (fas.map fun e => .ref e.1)), (L, NP ["free", "signs", "k", "sign", "ahead", "firsts", "ways"] [some (.ref fa), some (.str (enc ch [false, true]) ts), kv, sv, av, none, none]), (a1, Ce none), (a2, Ce (some (.ref md))), (a3, Ce (some (.ref sd))), (a4, Ce (some (.ref wd))), (a5, Ce (some (.ref fd))), (a6, Ce (some (.str (enc ch letters) tl))), (fa, Ls (free.map .bool))] ++ fLed (fas))) r.hh
    (by exact rfl) (by decide) rfl (by decide) rfl (by show _ ≤ 16777216; (clear hmvz hs2 hs1 hlen hmz hfz hsl hst hwz hpz has hdone hrun hz hf hch; omega)) ?_ ?_ ?_ ?_
   ·refine W.callT (id := "range") ?_
    walk_at "b_range"
    refine ⟨rfl, W.spCons (W.callB (id := "len") ?_)⟩
    walk_at "b_len"
    refine ⟨rfl, W.spCons ?_⟩
    walk_at "ce"
    refine W.spNil (W.len' (by walk_at "mem") (by show _ ≤ 16777216; (clear hmvz hs2 hs1 hlen hmz hsl hst hwz hpz has hdone hrun hz hf hch; omega)) ?_)
    intro _
    refine W.spNil ?_
    rw [hfz]
    exact W.range1 fun rr => ⟨Itr.rg (.head _) hs1 hs2, rr, NatsAre.nil, rfl⟩
   ·walk_at "E3"; generalize (z3 _ _).1 = zu154; generalize (z3 _ _).2.1 = zu155; generalize (z3 _ _).2.2 = zu156
    intro _
    walk_at "E1"; generalize z1 _ _ = zu158
    intro h
    cases h
   ·walk_at "E5"; generalize (z5 _ _).1 = C; generalize (z5 _ _).2.1 = i; generalize (z5 _ _).2.2.1 = v; generalize (z5 _ _).2.2.2.1 = ys; generalize (z5 _ _).2.2.2.2 = l
    intro hi
    walk_at "Y1"; generalize z1 _ _ = t
    intro zy16
    subst zy16
    walk_at "Y1"; generalize z1 _ _ = rr
    refine A2 ?_
    intro hys zy17
    subst zy17
    intro hlen
    rw [show (0 + (i : Nat) * 1 : Int) = ((i : Nat) : Int) by (clear hlen hi hmvz hs2 hs1 hmz hfz hsl hst hwz hpz hfl has hdone hrun hz hf hch; omega)]
    simp only [List.cons_append, List.nil_append]
    refine O1 ?_ (hmat i hi)
    walk_at "Y1"; generalize z1 _ _ = tm
    intro hmi
    refine W.testsOne (W.close (W.testCompare (W.subs slot_list_getitem.lookup ?_)))
    walk_at "ce"
    walk_at "nm"
    refine ⟨Ty.ls (by walk_at "mem"), W.lsItem (by walk_at "mem") (by (clear hmi hlen hi hmvz hs2 hs1 hmz hfz hsl hst hwz hpz hfl has hdone hrun hz hf hch; omega)) (by rw [Int.toNat_natCast]; exact hmi) (by show _ ≤ 16777216; (clear hmi hlen hi hmvz hs2 hs1 hmz hsl hst hwz hpz has hdone hrun hz hf hch; omega)) ?_⟩
    refine W.lsSlice (a := md) (vs := mvs) (lo := none) (hi := some (i : Int)) ?_
    walk_at "ce"
    refine W.pure ?_
    show W c _ (eval (.Name _ _) _) _ _
    walk_at "nm"
    refine ⟨rfl, by walk_at "mem", .none, .int _ _, by show _ ≤ 16777216; (clear hmi hlen hi hmvz hs2 hs1 hmz hsl hst hwz hpz has hdone hrun hz hf hch; omega), ?_⟩
    intro d
    rw [slicePick_upto', show (mvs.toArray.toList.take i).toArray.toList = mvs.take i from rfl]
    refine W.notInLs (n := 1) (r.deeper.less (by (clear hmi hlen hi hmvz hs2 hs1 hmz hfz hsl hst hwz hpz hfl has hdone hrun hz hf hch; omega))) (.head _) (eInt (((mostOf stF).getD i 0 : Nat) - 1)) (hms.take i).eqs (W.truthyBool ?_)
    rw [(hms.take i).any]
    have ht : (List.range (i + 1)).filter (firstP stF) = (List.range i).filter (firstP stF) ++ if firstP stF i = true then [i] else [] := by
     rw [List.range_succ, List.filter_append, List.filter_cons]
     rfl
    show ∃ l'' R, _ ∧ (if firstP stF i = true then _ else _)
    cases hq : firstP stF i
    ·rw [hq] at ht
     simp only [Bool.false_eq_true, if_false, List.append_nil] at ht ⊢
     refine I2 _ _ ⟨Take.suffix [_] _, (I2 _ _ ⟨rfl, rr, ?_, rfl⟩)⟩
     rw [ht]; exact hys
    ·rw [hq] at ht
     simp only [if_true] at ht ⊢
     refine I2 _ _ ⟨Take.suffix [_] _, ?_⟩
     walk_at "nm"
     refine I2 _ _ ⟨rfl, rr, ?_, rfl⟩
     rw [ht]; exact hys.snoc
   ·walk_at "E3"; generalize (z3 _ _).1 = qd; generalize (z3 _ _).2.1 = qvs; generalize (z3 _ _).2.2 = l
    walk_at "Y1"; generalize z1 _ _ = rr
    refine A2 ?_
    intro hqs zy18
    subst zy18
    intro hlen
    rw [show (List.range stF.found.length).filter (firstP stF) = firstsOf stF from rfl] at hqs
    have hqz : (firstsOf stF).length ≤ 35 := by
     refine Nat.le_trans (List.length_filter_le ..) ?_
     rw [List.length_range]; exact hfl
    have hqb : ∀ q ∈ firstsOf stF, q < stF.found.length := fun q hq => List.mem_range.mp (List.mem_filter.mp hq).1
    simp only [List.cons_append, List.nil_append]
    show W c _ (PySem.assign (.Name _ _) _ _) _ _
    refine W.asName ?_
    walk_at "st"
    refine ⟨by first | rfl | trivial, ?_⟩
    refine W.step (W.set ?_)
    refine W.comp (n := qvs.length) (P := fun i v => qvs[i]? = some v) (need := [(qd, Ls qvs)])
     (fun i ys l => MostAre ys (((firstsOf stF).take i).map fun i => (mostOf stF).getD i 0) ∧ l = (qd, Ls qvs) :: (rr, Rg 0 stF.found.length 1) :: (md, Ls mvs) :: ([(sd, Ls svs), (wd, Ls wvs), (fd, Ls (fas.map fun e => .ref e.1)), (L, NP ["free", "signs", "k", "sign", "ahead", "firsts", "ways"] [some (.ref fa), some (.str (enc ch [false, true]) ts), kv, sv, av, some (.ref qd), none]), (a1, Ce none), (a2, Ce (some (.ref md))), (a3, Ce (some (.ref sd))), (a4, Ce (some (.ref wd))), (a5, Ce (some (.ref fd))), (a6, Ce (some (.str (enc ch letters) tl))), (fa, Ls (free.map .bool))] ++ fLed (fas))) r.hh
     (by exact rfl) (by decide) rfl (by decide) rfl (by have := hqs.1; show _ ≤ 16777216; (clear this hqz hmvz hs2 hs1 hmz hfz hsl hst hwz hpz has hdone hrun hz hf hch; omega)) ?_ ?_ ?_ ?_
    ·walk_at "nm"
     exact ⟨Itr.ls (by walk_at "mem"), MostAre.nil, rfl⟩
    ·walk_at "E3"; generalize (z3 _ _).1 = i; generalize (z3 _ _).2.1 = ys; generalize (z3 _ _).2.2 = l
     refine A2 ?_
     intro _ zy19
     subst zy19
     walk_at "E1"; generalize z1 _ _ = p
     intro hp
     simp at hp; subst hp; simp
    ·walk_at "E5"; generalize (z5 _ _).1 = C; generalize (z5 _ _).2.1 = i; generalize (z5 _ _).2.2.1 = v; generalize (z5 _ _).2.2.2.1 = ys; generalize (z5 _ _).2.2.2.2 = l
     intro hi hv
     refine A2 ?_
     intro hks zy20
     subst zy20
     intro hlen
     have hi' : i < (firstsOf stF).length := by rw [← hqs.1]; exact hi
     refine O1 ?_ (show ∃ q0, (firstsOf stF)[i]? = some q0 from ⟨_, List.getElem?_eq_getElem hi'⟩)
     walk_at "Y1"; generalize z1 _ _ = q0
     intro hq0
     refine O1 ?_ (hqs.2 i _ hq0)
     walk_at "Y1"; generalize z1 _ _ = tq
     intro hqi
     rw [hv] at hqi
     cases hqi
     have hqlt := hqb _ (List.mem_of_getElem? hq0)
     refine O1 ?_ (hmat _ hqlt)
     walk_at "Y1"; generalize z1 _ _ = tm
     intro hmi
     simp only [List.cons_append, List.nil_append]
     refine W.testsNil ?_
     rw [if_pos rfl]
     refine W.subs slot_list_getitem.lookup ?_
     walk_at "ce"
     walk_at "nm"
     refine ⟨Ty.ls (by walk_at "mem"), W.lsItem (by walk_at "mem") (by (clear hmi hqlt hv hq0 hi' hlen hi hqz hmvz hs2 hs1 hmz hfz hsl hst hwz hpz hfl has hdone hrun hz hf hch; omega)) (by rw [Int.toNat_natCast]; exact hmi) (by show _ ≤ 16777216; (clear hmi hqlt hv hq0 hi' hlen hi hqz hmvz hs2 hs1 hmz hsl hst hwz hpz has hdone hrun hz hf hch; omega)) ?_⟩
     refine I2 _ _ ⟨rfl, ?_, rfl⟩
     rw [List.take_add_one, hq0, List.map_append]
     exact hks.snoc
    ·walk_at "E3"; generalize (z3 _ _).1 = kd; generalize (z3 _ _).2.1 = kvs; generalize (z3 _ _).2.2 = l
     refine A2 ?_
     intro hks zy21
     subst zy21
     intro hlen
     rw [hqs.1, List.take_length] at hks
     rw [show (firstsOf stF).map (fun i => (mostOf stF).getD i 0) = kindsOf stF from rfl] at hks
     have hkz : (kindsOf stF).length = (firstsOf stF).length := List.length_map ..
     have hkvz := hks.1
     simp only [List.cons_append, List.nil_append]
     walk_at "sc"
     refine ⟨by first | rfl | trivial, ?_⟩
     refine W.step (W.setU (by exact rfl) ?_)
     refine W.comp2U _ (n := qvs.length) (m := 2) (P := fun i v => qvs[i]? = some v) (P2 := fun j v => ∃ t, v = .int (0 + (j : Nat) * 1) t) (need := [(qd, Ls qvs)])
      (fun i ys l => ∃ junk, NatsAre ys (((firstsOf stF).take i).flatMap fun i => [0, 1].map (wayOf stF i)) ∧ l = ((kd, Ls kvs) :: (qd, Ls qvs) :: (rr, Rg 0 stF.found.length 1) :: (md, Ls mvs) :: [(sd, Ls svs), (wd, Ls wvs), (fd, Ls (fas.map fun e => .ref e.1)), (L, NP ["free", "signs", "k", "sign", "ahead", "firsts", "ways"] [some (.ref fa), some (.str (enc ch [false, true]) ts), kv, sv, av, some (.ref qd), none]), (a1, Ce (some (.ref kd))), (a2, Ce (some (.ref md))), (a3, Ce (some (.ref sd))), (a4, Ce (some (.ref wd))), (a5, Ce (some (.ref fd))), (a6, Ce (some (.str (enc ch letters) tl))), (fa, Ls (free.map .bool))]) ++ (fLed fas ++ junk))
      (fun i j ys l => ∃ junk, i < (firstsOf stF).length ∧ NatsAre ys ((((firstsOf stF).take i).flatMap fun i => [0, 1].map (wayOf stF i)) ++ ([0, 1].take j).map (wayOf stF ((firstsOf stF).getD i 0))) ∧ l = ((kd, Ls kvs) :: (qd, Ls qvs) :: (rr, Rg 0 stF.found.length 1) :: (md, Ls mvs) :: [(sd, Ls svs), (wd, Ls wvs), (fd, Ls (fas.map fun e => .ref e.1)), (L, NP ["free", "signs", "k", "sign", "ahead", "firsts", "ways"] [some (.ref fa), some (.str (enc ch [false, true]) ts), kv, sv, av, some (.ref qd), none]), (a1, Ce (some (.ref kd))), (a2, Ce (some (.ref md))), (a3, Ce (some (.ref sd))), (a4, Ce (some (.ref wd))), (a5, Ce (some (.ref fd))), (a6, Ce (some (.str (enc ch letters) tl))), (fa, Ls (free.map .bool))]) ++ (fLed fas ++ junk)) r.hh
      (by exact rfl) (by decide) rfl (by decide) rfl rfl (by decide) (by have := hqs.1; (clear this hkvz hkz hlen hqz hmvz hs2 hs1 hmz hfz hsl hst hwz hpz has hdone hrun hz hf hch; omega)) ?_ ?_ ?_ ?_ ?_ ?_
     ·walk_at "nm"
      exact ⟨Itr.ls (by walk_at "mem"), [], NatsAre.nil, by simp⟩
     ·walk_at "E3"; generalize (z3 _ _).1 = i; generalize (z3 _ _).2.1 = ys; generalize (z3 _ _).2.2 = l
      walk_at "Y1"; generalize z1 _ _ = junk
      refine A2 ?_
      intro _ zy22
      subst zy22
      walk_at "E1"; generalize z1 _ _ = p
      intro hp
      simp at hp; subst hp; simp
     ·refine' @E6 _ _ _ _ _ _ _ (by walk_at "ne") ?_; generalize (z6 _ _).1 = C; generalize (z6 _ _).2.1 = i; generalize (z6 _ _).2.2.1 = v; generalize (z6 _ _).2.2.2.1 = u; generalize (z6 _ _).2.2.2.2.1 = ys; generalize (z6 _ _).2.2.2.2.2 = l1
      intro hi hv
      walk_at "Y1"; generalize z1 _ _ = junk
      refine A2 ?_
      intro hys zy23
      subst zy23
      have hi' : i < (firstsOf stF).length := by rw [← hqs.1]; exact hi
      refine O1 ?_ (show ∃ q0, (firstsOf stF)[i]? = some q0 from ⟨_, List.getElem?_eq_getElem hi'⟩)
      walk_at "Y1"; generalize z1 _ _ = q0
      intro hq0
      refine W.closeP ?_
      refine W.callT (id := "range") ?_
      walk_at "b_range"
      refine ⟨rfl, W.spCons (W.kInt ?_)⟩
      intro _
      refine W.spNil (W.range1 ?_)
      intro rr2
      refine ⟨(C, NP ["i", "j"] [some v, u]) :: (((kd, Ls kvs) :: (qd, Ls qvs) :: (rr, Rg 0 stF.found.length 1) :: (md, Ls mvs) :: [(sd, Ls svs), (wd, Ls wvs), (fd, Ls (fas.map fun e => .ref e.1)), (L, NP ["free", "signs", "k", "sign", "ahead", "firsts", "ways"] [some (.ref fa), some (.str (enc ch [false, true]) ts), kv, sv, av, some (.ref qd), none]), (a1, Ce (some (.ref kd))), (a2, Ce (some (.ref md))), (a3, Ce (some (.ref sd))), (a4, Ce (some (.ref wd))), (a5, Ce (some (.ref fd))), (a6, Ce (some (.str (enc ch letters) tl))), (fa, Ls (free.map .bool))]) ++ (fLed fas ++ (junk ++ [(rr2, Rg 0 2 1)]))), [], ?_, _, rfl, fun l hl => Itr.rg (r := rr2) (a := 0) (b := 2) (s := 1) (n := 2) (hl _ (by simp)) (by decide) (by decide), junk ++ [(rr2, Rg 0 2 1)], hi', by simpa using hys, rfl⟩
      have := (List.perm_append_singleton (rr2, Rg 0 2 1) ((C, NP ["i", "j"] [some v, u]) :: (((kd, Ls kvs) :: (qd, Ls qvs) :: (rr, Rg 0 stF.found.length 1) :: (md, Ls mvs) :: [(sd, Ls svs), (wd, Ls wvs), (fd, Ls (fas.map fun e => .ref e.1)), (L, NP ["free", "signs", "k", "sign", "ahead", "firsts", "ways"] [some (.ref fa), some (.str (enc ch [false, true]) ts), kv, sv, av, some (.ref qd), none]), (a1, Ce (some (.ref kd))), (a2, Ce (some (.ref md))), (a3, Ce (some (.ref sd))), (a4, Ce (some (.ref wd))), (a5, Ce (some (.ref fd))), (a6, Ce (some (.str (enc ch letters) tl))), (fa, Ls (free.map .bool))]) ++ (fLed fas ++ junk)))).symm
      simpa [List.append_assoc] using this
     ·refine' @E7 _ _ _ _ _ _ _ _ (by walk_at "ne") ?_; generalize (z7 _ _).1 = C; generalize (z7 _ _).2.1 = i; generalize (z7 _ _).2.2.1 = j; generalize (z7 _ _).2.2.2.1 = v; generalize (z7 _ _).2.2.2.2.1 = w; generalize (z7 _ _).2.2.2.2.2.1 = ys; generalize (z7 _ _).2.2.2.2.2.2 = l1
      intro hi hj hv
      walk_at "Y1"; generalize z1 _ _ = t
      intro zy24
      subst zy24
      walk_at "Y1"; generalize z1 _ _ = junk
      refine A3 ?_
      intro hi' hys zy25
      subst zy25
      refine O1 ?_ (show ∃ q, (firstsOf stF)[i]? = some q from ⟨_, List.getElem?_eq_getElem hi'⟩)
      walk_at "Y1"; generalize z1 _ _ = q
      intro hq0
      refine O1 ?_ (hqs.2 i _ hq0)
      walk_at "Y1"; generalize z1 _ _ = tq
      intro hqi
      rw [hv] at hqi
      cases hqi
      have hqlt := hqb _ (List.mem_of_getElem? hq0)
      have hgd : (firstsOf stF).getD i 0 = q := by rw [List.getD_eq_getElem?_getD, hq0]; rfl
      rw [hgd] at hys
      have hsi : 2 * q + j < stF.steps.length := by (clear hgd hv hq0 hi' hi hkvz hkz hlen hqz hmvz hs2 hs1 hmz hfz hst hwz hpz hfl has hdone hrun hz hf hch; omega)
      refine O1 ?_ (show ∃ p, stF.steps[2 * q + j]? = some p from ⟨_, List.getElem?_eq_getElem hsi⟩)
      walk_at "Y1"; generalize z1 _ _ = p
      intro hp0
      refine O1 ?_ (hS.2 _ _ hp0)
      walk_at "Y1"; generalize z1 _ _ = tp
      intro hpi
      have hgs : stF.steps.getD (2 * q + j) 0 = p := by rw [List.getD_eq_getElem?_getD, hp0]; rfl
      have hck := List.all_eq_true.mp hst _ (List.mem_of_getElem? hp0)
      simp only [Bool.and_eq_true, decide_eq_true_eq] at hck
      have hw : wayOf stF q j = idx (kindsOf stF) ((mostOf stF).getD p 0) := by unfold wayOf; rw [hgs]
      have hsvz := hS.1
      refine O1 ?_ (hmat p hck.1)
      walk_at "Y1"; generalize z1 _ _ = tm
      intro hmi
      simp only [List.cons_append, List.nil_append]
      refine W.meth F.plainAttrs_list F.slot_list_index F.type_list_index ?_
      walk_at "ce"
      refine ⟨Ty.ls (by walk_at "mem"), W.spCons (W.subs slot_list_getitem.lookup ?_)⟩
      walk_at "ce"
      refine W.subs slot_list_getitem.lookup ?_
      walk_at "ce"
      refine W.binop (W.binop (W.kInt ?_))
      intro _
      walk_at "nm"
      refine W.imul (IntMulOk.of_left (by decide +kernel)) ?_
      intro _
      walk_at "nm"
      refine W.iadd ?_
      intro _
      refine ⟨Ty.ls (by walk_at "mem"), ?_⟩
      rw [show (2 * (q : Int) + (0 + (j : Nat) * 1)) = ((2 * q + j : Nat) : Int) by (clear hmi hsvz hw hck hgs hpi hp0 hsi hgd hqlt hv hq0 hi' hj hi hkvz hkz hlen hqz hmvz hs2 hs1 hmz hfz hsl hst hwz hpz hfl has hdone hrun hz hf hch; omega)]
      refine W.lsItem (by walk_at "mem") (by (clear hmi hsvz hw hck hgs hpi hp0 hsi hgd hqlt hv hq0 hi' hj hi hkvz hkz hlen hqz hmvz hs2 hs1 hmz hfz hsl hst hwz hpz hfl has hdone hrun hz hf hch; omega)) (by rw [Int.toNat_natCast]; exact hpi) (by show _ ≤ 16777216; (clear hmi hw hck hgs hpi hp0 hsi hgd hqlt hv hq0 hi' hj hi hkvz hkz hlen hqz hmvz hs2 hs1 hmz hfz hst hwz hpz has hdone hrun hz hf hch; omega)) ⟨Ty.ls (by walk_at "mem"), ?_⟩
      refine W.lsItem (by walk_at "mem") (by (clear hmi hsvz hw hck hgs hpi hp0 hsi hgd hqlt hv hq0 hi' hj hi hkvz hkz hlen hqz hmvz hs2 hs1 hmz hfz hsl hst hwz hpz hfl has hdone hrun hz hf hch; omega)) (by rw [Int.toNat_natCast]; exact hmi) (by show _ ≤ 16777216; (clear hmi hsvz hw hck hgs hpi hp0 hsi hgd hqlt hv hq0 hi' hj hi hkvz hkz hlen hqz hmvz hs2 hs1 hmz hsl hst hwz hpz has hdone hrun hz hf hch; omega)) (W.spNil ?_)
      generalize (mostOf stF).getD p 0 = mm at hck hw
      have hlt : idx (kindsOf stF) mm < (kindsOf stF).length := List.findIdx_lt_length_of_exists ⟨mm, by simpa using hck.2, by simp⟩
      have hat : ∀ i (hi : i < kvs.length) (hi2 : i < (kindsOf stF).length), eInt ((mm : Int) - 1) kvs[i] = ((kindsOf stF)[i] == mm) := fun i hi hi2 => by
       obtain ⟨tt, e1⟩ := hks.2 i _ (List.getElem?_eq_getElem hi2)
       rw [List.getElem?_eq_getElem hi] at e1
       rw [Option.some.inj e1]
       show ((((kindsOf stF)[i] : Nat) : Int) - 1 == (mm : Int) - 1) = _
       rw [Bool.eq_iff_iff, beq_iff_eq, beq_iff_eq]
       (clear e1 hi hlt hw hck hmi hsvz hgs hpi hp0 hsi hgd hqlt hv hq0 hi' hj hkvz hkz hlen hqz hmvz hs2 hs1 hmz hfz hsl hst hwz hpz hfl has hdone hrun hz hf hch; omega)
      refine W.lsIndex (n := 1) (j := idx (kindsOf stF) mm) (r.deeper.less (by (clear hlt hw hck hmi hsvz hgs hpi hp0 hsi hgd hqlt hv hq0 hi' hj hi hkvz hkz hlen hqz hmvz hs2 hs1 hmz hfz hsl hst hwz hpz hfl has hdone hrun hz hf hch; omega))) (by walk_at "mem") (eInt ((mm : Int) - 1)) hks.eqs (by show _ ≤ 16777216; (clear hlt hw hck hmi hsvz hgs hpi hp0 hsi hgd hqlt hv hq0 hi' hj hi hkvz hkz hqz hmvz hs2 hs1 hmz hfz hsl hst hwz hpz has hdone hrun hz hf hch; omega)) (by (clear hw hck hmi hsvz hgs hpi hp0 hsi hgd hqlt hv hq0 hi' hj hi hkz hlen hqz hmvz hs2 hs1 hmz hfz hsl hst hwz hpz hfl has hdone hrun hz hf hch; omega)) ?_ ?_ fun ti => ?_
      ·rw [hat _ (by (clear hw hck hmi hsvz hgs hpi hp0 hsi hgd hqlt hv hq0 hi' hj hi hkz hlen hqz hmvz hs2 hs1 hmz hfz hsl hst hwz hpz hfl has hdone hrun hz hf hch; omega)) hlt]
       exact List.findIdx_getElem (w := hlt)
      ·walk_at "E1"; generalize z1 _ _ = i
       intro hi hlt'
       rw [hat i hi (by (clear hlt' hlt hw hck hmi hsvz hgs hpi hp0 hsi hgd hqlt hv hq0 hi' hj hkz hlen hqz hmvz hs2 hs1 hmz hfz hsl hst hwz hpz hfl has hdone hrun hz hf hch; omega))]
       have := List.not_of_lt_findIdx hlt'
       simpa using this
      ·refine ⟨_, rfl, junk, hi', ?_, rfl⟩
       have hta : ([0, 1].take (j + 1)).map (wayOf stF q) = ([0, 1].take j).map (wayOf stF q) ++ [wayOf stF q j] := by
        rcases (by (clear hlt hw hck hmi hsvz hgs hpi hp0 hsi hgd hqlt hv hq0 hi' hi hkvz hkz hlen hqz hmvz hs2 hs1 hmz hfz hsl hst hwz hpz hfl has hdone hrun hz hf hch; omega) : j = 0 ∨ j = 1) with rfl | rfl <;> rfl
       rw [hgd, hta, ← List.append_assoc, hw]
       exact hys.snoc
     ·walk_at "E3"; generalize (z3 _ _).1 = i; generalize (z3 _ _).2.1 = ys; generalize (z3 _ _).2.2 = l
      walk_at "Y1"; generalize z1 _ _ = junk
      refine A3 ?_
      intro hi' hys zy26
      subst zy26
      refine ⟨junk, ?_, rfl⟩
      rw [List.take_add_one, List.getElem?_eq_getElem hi', List.flatMap_append]
      rw [List.getD_eq_getElem?_getD, List.getElem?_eq_getElem hi'] at hys
      simpa using hys
     ·walk_at "E3"; generalize (z3 _ _).1 = wa; generalize (z3 _ _).2.1 = ways; generalize (z3 _ _).2.2 = l
      walk_at "Y1"; generalize z1 _ _ = junk
      refine A2 ?_
      intro hys zy27
      subst zy27
      intro hlen
      rw [hqs.1, List.take_length] at hys
      simp only [List.cons_append, List.nil_append]
      show W c _ (PySem.assign (.Name _ _) _ _) _ _
      refine W.asName ?_
      walk_at "st"
      refine ⟨by first | rfl | trivial, W.cons (W.ret (W.mkTuple (W.spCons ?_)))⟩
      refine W.comp (n := qvs.length) (P := fun i v => qvs[i]? = some v) (need := [(qd, Ls qvs)])
       (fun i ys l => TxtAre ch ys (((firstsOf stF).take i).map fun i => stF.words.getD i []) ∧ l = (wa, Ls ways) :: ((kd, Ls kvs) :: (qd, Ls qvs) :: (rr, Rg 0 stF.found.length 1) :: (md, Ls mvs) :: [(sd, Ls svs), (wd, Ls wvs), (fd, Ls (fas.map fun e => .ref e.1)), (L, NP ["free", "signs", "k", "sign", "ahead", "firsts", "ways"] [some (.ref fa), some (.str (enc ch [false, true]) ts), kv, sv, av, some (.ref qd), some (.ref wa)]), (a1, Ce (some (.ref kd))), (a2, Ce (some (.ref md))), (a3, Ce (some (.ref sd))), (a4, Ce (some (.ref wd))), (a5, Ce (some (.ref fd))), (a6, Ce (some (.str (enc ch letters) tl))), (fa, Ls (free.map .bool))] ++ (fLed fas ++ junk))) r.hh
       (by exact rfl) (by decide) rfl (by decide) rfl (by have := hqs.1; show _ ≤ 16777216; (clear this hlen hkvz hkz hqz hmvz hs2 hs1 hmz hfz hsl hst hwz hpz has hdone hrun hz hf hch; omega)) ?_ ?_ ?_ ?_
      ·walk_at "nm"
       exact ⟨Itr.ls (by walk_at "mem"), TxtAre.nil, rfl⟩
      ·walk_at "E3"; generalize (z3 _ _).1 = i; generalize (z3 _ _).2.1 = ys; generalize (z3 _ _).2.2 = l
       refine A2 ?_
       intro _ zy28
       subst zy28
       walk_at "E1"; generalize z1 _ _ = p
       intro hp
       simp at hp; subst hp; simp
      ·walk_at "E5"; generalize (z5 _ _).1 = C; generalize (z5 _ _).2.1 = i; generalize (z5 _ _).2.2.1 = v; generalize (z5 _ _).2.2.2.1 = ys; generalize (z5 _ _).2.2.2.2 = l
       intro hi hv
       refine A2 ?_
       intro hks2 zy29
       subst zy29
       intro hlen
       have hi' : i < (firstsOf stF).length := by rw [← hqs.1]; exact hi
       refine O1 ?_ (show ∃ q0, (firstsOf stF)[i]? = some q0 from ⟨_, List.getElem?_eq_getElem hi'⟩)
       walk_at "Y1"; generalize z1 _ _ = q0
       intro hq0
       refine O1 ?_ (hqs.2 i _ hq0)
       walk_at "Y1"; generalize z1 _ _ = tq
       intro hqi
       rw [hv] at hqi
       cases hqi
       have hqlt := hqb _ (List.mem_of_getElem? hq0)
       have hwg : stF.words[q0]? = some (stF.words.getD q0 []) := by rw [List.getD_eq_getElem?_getD, List.getElem?_eq_getElem (by (clear hv hq0 hi' hlen hi hkvz hkz hqz hmvz hs2 hs1 hmz hfz hsl hst hpz hfl has hdone hrun hz hf hch; omega))]; rfl
       refine O1 ?_ (hW.2 _ _ hwg)
       walk_at "Y1"; generalize z1 _ _ = tw
       intro hwi
       have hwvz := hW.1
       simp only [List.cons_append, List.nil_append]
       refine W.testsNil ?_
       rw [if_pos rfl]
       refine W.subs slot_list_getitem.lookup ?_
       walk_at "ce"
       walk_at "nm"
       refine ⟨Ty.ls (by walk_at "mem"), W.lsItem (by walk_at "mem") (by (clear hwvz hwi hwg hqlt hv hq0 hi' hlen hi hkvz hkz hqz hmvz hs2 hs1 hmz hfz hsl hst hwz hpz hfl has hdone hrun hz hf hch; omega)) (by rw [Int.toNat_natCast]; exact hwi) (by show _ ≤ 16777216; (clear hwi hwg hqlt hv hq0 hi' hlen hi hkvz hkz hqz hmvz hs2 hs1 hmz hfz hsl hst hpz has hdone hrun hz hf hch; omega)) ?_⟩
       refine I2 _ _ ⟨rfl, ?_, rfl⟩
       rw [List.take_add_one, hq0, List.map_append]
       exact hks2.snoc
      ·walk_at "E3"; generalize (z3 _ _).1 = da; generalize (z3 _ _).2.1 = dvs; generalize (z3 _ _).2.2 = l
       refine A2 ?_
       intro hdv zy30
       subst zy30
       intro hlen
       rw [hqs.1, List.take_length] at hdv
       simp only [List.cons_append, List.nil_append]
       refine W.spCons ?_
       refine W.comp (n := qvs.length) (P := fun i v => qvs[i]? = some v) (need := [(qd, Ls qvs)])
        (fun i ys l => ys = ((((firstsOf stF).take i).map fun i => (stF.found.getD i []).contains letters.length).map Value.bool) ∧ l = (da, Ls dvs) :: (wa, Ls ways) :: ((kd, Ls kvs) :: (qd, Ls qvs) :: (rr, Rg 0 stF.found.length 1) :: (md, Ls mvs) :: [(sd, Ls svs), (wd, Ls wvs), (fd, Ls (fas.map fun e => .ref e.1)), (L, NP ["free", "signs", "k", "sign", "ahead", "firsts", "ways"] [some (.ref fa), some (.str (enc ch [false, true]) ts), kv, sv, av, some (.ref qd), some (.ref wa)]), (a1, Ce (some (.ref kd))), (a2, Ce (some (.ref md))), (a3, Ce (some (.ref sd))), (a4, Ce (some (.ref wd))), (a5, Ce (some (.ref fd))), (a6, Ce (some (.str (enc ch letters) tl))), (fa, Ls (free.map .bool))] ++ (fLed fas ++ junk))) r.hh
        (by exact rfl) (by decide) rfl (by decide) rfl (by have := hqs.1; show _ ≤ 16777216; (clear this hlen hkvz hkz hqz hmvz hs2 hs1 hmz hfz hsl hst hwz hpz has hdone hrun hz hf hch; omega)) ?_ ?_ ?_ ?_
       ·walk_at "nm"
        exact ⟨Itr.ls (by walk_at "mem"), rfl, rfl⟩
       ·walk_at "E3"; generalize (z3 _ _).1 = i; generalize (z3 _ _).2.1 = ys; generalize (z3 _ _).2.2 = l
        refine A2 ?_
        intro _ zy31
        subst zy31
        walk_at "E1"; generalize z1 _ _ = p
        intro hp
        simp at hp; subst hp; simp
       ·walk_at "E5"; generalize (z5 _ _).1 = C; generalize (z5 _ _).2.1 = i; generalize (z5 _ _).2.2.1 = v; generalize (z5 _ _).2.2.2.1 = ys; generalize (z5 _ _).2.2.2.2 = l
        intro hi hv
        refine A2 ?_
        intro zy32 zy33
        subst zy32
        subst zy33
        intro hlen
        have hi' : i < (firstsOf stF).length := by rw [← hqs.1]; exact hi
        refine O1 ?_ (show ∃ q0, (firstsOf stF)[i]? = some q0 from ⟨_, List.getElem?_eq_getElem hi'⟩)
        walk_at "Y1"; generalize z1 _ _ = q0
        intro hq0
        refine O1 ?_ (hqs.2 i _ hq0)
        walk_at "Y1"; generalize z1 _ _ = tq
        intro hqi
        rw [hv] at hqi
        cases hqi
        have hqlt := hqb _ (List.mem_of_getElem? hq0)
        have hfg : stF.found[q0]? = some (stF.found.getD q0 []) := by rw [List.getD_eq_getElem?_getD, List.getElem?_eq_getElem hqlt]; rfl
        refine O1 ?_ (hF.2 _ _ hfg)
        walk_at "Y2"; generalize (z2 _ _).1 = pa; generalize (z2 _ _).2 = pvs
        refine A2 ?_
        intro hpa hpn
        have hpx : (fas.map fun e => Value.ref e.1)[q0]? = some (.ref pa) := by
         rw [List.getElem?_map, hpa]; rfl
        have hmem : (pa, Ls pvs) ∈ fLed fas := List.mem_map.mpr ⟨_, List.mem_of_getElem? hpa, rfl⟩
        simp only [List.cons_append, List.nil_append]
        refine W.testsNil ?_
        rw [if_pos rfl]
        refine W.compare (W.callB (id := "len") ?_)
        walk_at "b_len"
        refine ⟨rfl, W.spCons ?_⟩
        walk_at "ce"
        refine W.spNil (W.len (by walk_at "sz") ?_)
        intro tl2
        refine W.subs slot_list_getitem.lookup ?_
        rw [enc_len]
        walk_at "ce"
        walk_at "nm"
        refine ⟨Ty.ls (by walk_at "mem"), W.lsItem (by walk_at "mem") (by (clear hpx hpa hfg hqlt hv hq0 hi' hlen hi hkvz hkz hqz hmvz hs2 hs1 hmz hfz hsl hst hwz hpz hfl has hdone hrun hz hf hch; omega)) (by rw [Int.toNat_natCast]; exact hpx) (by show _ ≤ 16777216; (clear hpx hpa hfg hqlt hv hq0 hi' hlen hi hkvz hkz hqz hmvz hs2 hs1 hmz hsl hst hwz hpz has hdone hrun hz hf hch; omega)) ?_⟩
        refine W.inLs (vs := pvs) (n := 1) (r.deeper.less (by (clear hpx hpa hfg hqlt hv hq0 hi' hlen hi hkvz hkz hqz hmvz hs2 hs1 hmz hfz hsl hst hwz hpz hfl has hdone hrun hz hf hch; omega))) (by simp [hmem]) (eInt (letters.length : Nat)) hpn.eqs ?_
        rw [hpn.any, any_nat]
        refine I2 _ _ ⟨rfl, ?_, rfl⟩
        rw [List.take_add_one, hq0, List.map_append, List.map_append]
        rfl
       ·walk_at "E3"; generalize (z3 _ _).1 = oa; generalize (z3 _ _).2.1 = ovs; generalize (z3 _ _).2.2 = l
        refine A2 ?_
        intro zy34 zy35
        subst zy34
        subst zy35
        intro hlen
        rw [hqs.1, List.take_length]
        simp only [List.cons_append, List.nil_append]
        refine W.spCons ?_
        walk_at "nm"
        refine W.spNil ⟨by show 3 ≤ 16777216; (clear hlen hkvz hkz hqz hmvz hs2 hs1 hmz hfz hsl hst hwz hpz hfl has hdone hrun hz hf hch; omega), ?_⟩
        intro ta
        refine ⟨_, _, by walk_at "take", ta, da, oa, wa, dvs, ways, rfl, hdv, hys, rfl⟩
theorem Tp.inj {v1 v2 : List Value} (e : Tp v1 = Tp v2) : v1 = v2 := by
 have h : Tp v1 { cls := .type "tuple", data := .seq v1.toArray 0 } := ⟨0, rfl⟩
 rw [e] at h
 obtain ⟨n, h⟩ := h
 have h2 : Data.seq v1.toArray 0 = Data.seq v2.toArray n := congrArg Obj.data h
 have h3 : v1.toArray = v2.toArray := by injection h2
 exact Array.toList_inj.mpr h3 |> fun x => by simpa using x
theorem Ty.tp {l : Led} {a : Addr} {vs : List Value} (m : (a, Tp vs) ∈ l) : Ty l (.ref a) "tuple" := .inr ⟨a, _, rfl, m, fun o ⟨n, e⟩ => by rw [e]; exact ⟨rfl, rfl⟩⟩
theorem W.tpItem {c : Cx} {A : Around} {l : Led} {t : Tok} {a : Addr} {vs : List Value} {k : Int} {v : Value} {Q : Value → Led → Prop} (m : (a, Tp vs) ∈ l) (h0 : 0 ≤ k) (hx : vs[k.toNat]? = some v) (hsz : vs.length ≤ 1000) (q : Q v l) : W c A (getItem (.ref a) (.int k t)) l Q := fun R h tk S => by
 obtain ⟨o, e, p⟩ := S.cell (List.mem_append_left R m)
 have := (List.getElem?_eq_some_iff.mp hx).1
 have hk : seqIndex? k vs.toArray.size = some k.toNat := by
  have h0' : ¬ (k < 0) := by (clear this hsz hx; omega)
  unfold seqIndex?
  simp only [h0', if_false]
  rw [if_pos (by simp; (clear h0' hsz hx; omega))]
 exact PyProof.Rows.getItem_tuple (Tp.is e p) (by (clear hk this hsz hx; omega)) (by (clear hk hx h0; omega)) hk (by simpa using hx) ⟨h, tk, l, rfl, S, q⟩
noncomputable abbrev PRow := Addr × Nat × Tok × Nat × Tok
noncomputable def pCell (e : PRow) : Addr × Pr := (e.1, Tp [.int (e.2.1 : Nat) e.2.2.1, .int (e.2.2.2.1 : Nat) e.2.2.2.2])
noncomputable def pLed (pas : List PRow) : Led := pas.map pCell
noncomputable def PIs (pas : List PRow) (pairs : List (Nat × Nat)) : Prop := pas.length = pairs.length ∧ ∀ (i p q : Nat), pairs[i]? = some (p, q) → ∃ a t u, pas[i]? = some (a, p, t, q, u)
theorem PIs.mem {pas pairs} (h : PIs pas pairs) {e : PRow} (m : e ∈ pas) : (e.2.1, e.2.2.2.1) ∈ pairs := by
 obtain ⟨i, hi, rfl⟩ := List.getElem_of_mem m
 have hi' : i < pairs.length := by rw [← h.1]; exact hi
 obtain ⟨a, t, u, e1⟩ := h.2 i _ _ (List.getElem?_eq_getElem hi')
 rw [List.getElem?_eq_getElem hi] at e1
 rw [Option.some.inj e1]
 exact List.getElem_mem hi'
theorem PIs.snoc {pas pairs} (h : PIs pas pairs) {a : Addr} {p q : Nat} {t u : Tok} : PIs (pas ++ [(a, p, t, q, u)]) (pairs ++ [(p, q)]) := by
 refine ⟨by simp [h.1], ?_⟩
 intro i p' q' hm
 rcases Nat.lt_or_ge i pairs.length with hi | hi
 ·rw [List.getElem?_append_left hi] at hm
  rw [List.getElem?_append_left (by rw [h.1]; exact hi)]
  exact h.2 i _ _ hm
 ·rw [List.getElem?_append_right hi] at hm
  rw [List.getElem?_append_right (by rw [h.1]; exact hi), h.1]
  cases hk : i - pairs.length with
  | zero =>
   rw [hk] at hm
   simp at hm
   obtain ⟨rfl, rfl⟩ := hm
   exact I3 a t u rfl
  | succ k => rw [hk] at hm; simp at hm
noncomputable def eP (pas : List PRow) (pq : Nat × Nat) : Value → Bool
 | .ref a => pas.any fun e => e.1 == a && (e.2.1, e.2.2.2.1) == pq
 | _ => false
theorem eP_any {pas : List PRow} {pairs : List (Nat × Nat)} {pq : Nat × Nat} (hf : PIs pas pairs) : (pas.map (fun e => Value.ref e.1)).any (eP pas pq) = pairs.contains pq := by
 rw [Bool.eq_iff_iff, List.any_map, List.any_eq_true, List.contains_iff_mem]
 constructor
 ·rintro ⟨e, m, h⟩
  simp only [Function.comp, eP, List.any_eq_true, Bool.and_eq_true, beq_iff_eq] at h
  obtain ⟨e', m', _, h2⟩ := h
  exact h2 ▸ hf.mem m'
 ·intro m
  obtain ⟨i, hi, e⟩ := List.getElem_of_mem m
  obtain ⟨a, t, u, e1⟩ := hf.2 i pq.1 pq.2 (by rw [List.getElem?_eq_getElem hi, e])
  refine ⟨(a, pq.1, t, pq.2, u), List.mem_of_getElem? e1, ?_⟩
  simp only [Function.comp, eP, List.any_eq_true, Bool.and_eq_true, beq_iff_eq]
  exact ⟨_, List.mem_of_getElem? e1, rfl, rfl⟩
theorem eP_eqs {c : Cx} {l : Led} {pas : List PRow} {ta : Addr} {p q : Nat} {t u : Tok} (hl : ∀ e ∈ pas, pCell e ∈ l) (hra : (ta, Tp [.int (p : Nat) t, .int (q : Nat) u]) ∈ l) (nd : (l.map (·.1)).Nodup) :
  ∀ y, y ∈ pas.map (fun e => Value.ref e.1) → Eqs c 1 l y (.ref ta) (eP pas (p, q) y) := by
 intro y hy
 obtain ⟨e, he, rfl⟩ := List.mem_map.mp hy
 have hv : ∀ e' ∈ pas, e'.1 = e.1 → e'.2.1 = e.2.1 ∧ e'.2.2.2.1 = e.2.2.2.1 := fun e' m' h => by
  have h1 := hl e' m'
  have h2 := hl e he
  unfold pCell at h1 h2
  rw [h] at h1
  have h3 := Tp.inj (pair_uniq nd h1 h2)
  simp at h3
  exact ⟨Int.ofNat_inj.mp h3.1.1, Int.ofNat_inj.mp h3.2.1⟩
 have hat : eP pas (p, q) (.ref e.1) = (e.2.1 == p && e.2.2.2.1 == q) := by
  unfold eP
  rw [Bool.eq_iff_iff, List.any_eq_true]
  constructor
  ·rintro ⟨e', m', h⟩
   simp only [Bool.and_eq_true, beq_iff_eq, Prod.mk.injEq] at h
   obtain ⟨h1, h2, h3⟩ := h
   have := hv e' m' h1
   simp [← this.1, ← this.2, h2, h3]
  ·intro h
   refine ⟨e, he, ?_⟩
   simpa using h
 rw [hat]
 by_cases hr : e.1 = ta
 ·have h1 := hl e he
  unfold pCell at h1
  rw [hr] at h1
  have h3 := Tp.inj (pair_uniq nd h1 hra)
  simp at h3
  rw [hr, Int.ofNat_inj.mp h3.1.1, Int.ofNat_inj.mp h3.2.1]
  simpa using Eqs.same
 ·refine Eqs.tuples hr (hl e he) hra _ (fun j => match j with | 0 => (((e.2.1 : Nat) : Int) == ((p : Nat) : Int)) | _ => (((e.2.2.2.1 : Nat) : Int) == ((q : Nat) : Int))) (fun j h1 h2 => ?_) ?_
  ·match j, h1 with
   | 0, _ => exact Eqs.int
   | 1, _ => exact Eqs.int
  ·have a1 : ((e.2.1 : Nat) == p) = (((e.2.1 : Nat) : Int) == ((p : Nat) : Int)) := by rw [Bool.eq_iff_iff, beq_iff_eq, beq_iff_eq]; (clear hr hat; omega)
   have a2 : ((e.2.2.2.1 : Nat) == q) = (((e.2.2.2.1 : Nat) : Int) == ((q : Nat) : Int)) := by rw [Bool.eq_iff_iff, beq_iff_eq, beq_iff_eq]; (clear a1 hr hat; omega)
   rw [a1, a2]
   simp [List.range, List.range.loop]
noncomputable def seqU (st st1 st2 : US) : Nat → US := fun i => if i = 0 then st else if i = 1 then st1 else st2
theorem unlike_ok : ∀ {c : Cx} {A : Around} {ch : Nat} {yes own : List Bool} {ways steps : List Nat} {wvs svs : List Value} {ya wa oa sa : Addr} {ts : Tok} {res : Option Wd} (T : Gd c (HK c.w.params)) (r : Room A 4) (hch : ch ≠ 46) (hw : NatsAre wvs ways) (hsn : NatsAre svs steps) (hz1 : yes.length ≤ 1000) (hz2 : own.length ≤ 1000) (hz3 : ways.length ≤ 1000) (hz4 : steps.length ≤ 1000) (hres : unlikeB yes ways own steps = some res), W c A (call (.ref 268) [.ref ya, .ref wa, .ref oa, .ref sa, .str (enc ch [false, true]) ts]) [(ya, Ls (yes.map .bool)), (wa, Ls wvs), (oa, Ls (own.map .bool)), (sa, Ls svs)] (fun v l' => (match (generalizing := false) res with | some w => ∃ t, v = .str (enc ch w) t | none => v = .none) ∧ l' = [(ya, Ls (yes.map .bool)), (wa, Ls wvs), (oa, Ls (own.map .bool)), (sa, Ls svs)]) := by
 refine' @E15 _ _ _ _ _ _ _ _ _ _ _ _ _ _ _ _ (by walk_at "ne") ?_; generalize (z15 _ _).1 = c; generalize (z15 _ _).2.1 = A; generalize (z15 _ _).2.2.1 = ch; generalize (z15 _ _).2.2.2.1 = yes; generalize (z15 _ _).2.2.2.2.1 = own; generalize (z15 _ _).2.2.2.2.2.1 = ways; generalize (z15 _ _).2.2.2.2.2.2.1 = steps; generalize (z15 _ _).2.2.2.2.2.2.2.1 = wvs; generalize (z15 _ _).2.2.2.2.2.2.2.2.1 = svs; generalize (z15 _ _).2.2.2.2.2.2.2.2.2.1 = ya; generalize (z15 _ _).2.2.2.2.2.2.2.2.2.2.1 = wa; generalize (z15 _ _).2.2.2.2.2.2.2.2.2.2.2.1 = oa; generalize (z15 _ _).2.2.2.2.2.2.2.2.2.2.2.2.1 = sa; generalize (z15 _ _).2.2.2.2.2.2.2.2.2.2.2.2.2.1 = ts; generalize (z15 _ _).2.2.2.2.2.2.2.2.2.2.2.2.2.2 = res
 intro T r hch hw hsn hz1 hz2 hz3 hz4 hres
 refine W.close ?_
 refine W.defP (ps := ["yes", "ways", "own", "steps", "signs"]) (os := ["pairs", "roads", "k", "j", "pair"]) T r (by k_is) (by k_is) (by exact rfl) (by exact rfl) rfl (by decide +kernel) (by decide +kernel) (by decide +kernel) ?_
 walk_at "E1"; generalize z1 _ _ = L
 simp only [List.cons_append, List.nil_append, List.map_cons, List.map_nil]
 refine W.step (W.set (W.mkList (W.spCons (W.mkTuple (W.spCons (W.kInt ?_))))))
 walk_at "E1"; generalize z1 _ _ = t0
 refine W.spCons (W.kInt ?_)
 walk_at "E1"; generalize z1 _ _ = t1
 refine W.spNil ⟨by walk_at "sz", ?_⟩
 walk_at "E1"; generalize z1 _ _ = z0
 refine W.spNil ⟨by walk_at "sz", ?_⟩
 walk_at "E1"; generalize z1 _ _ = pd
 walk_at "st"
 refine ⟨by first | rfl | trivial, W.step (W.set (W.mkList (W.spCons (W.kStr ?_))))⟩
 walk_at "E1"; generalize z1 _ _ = t2
 refine W.spNil ⟨by walk_at "sz", ?_⟩
 walk_at "E1"; generalize z1 _ _ = rd
 walk_at "st"
 refine ⟨by first | rfl | trivial, W.step (W.set (W.kInt ?_))⟩
 intro t3
 walk_at "st"
 refine ⟨by first | rfl | trivial, ?_⟩
 refine W.perm (l' := [(rd, Ls [Value.str (enc ch []) t2]), (pd, Ls (([(z0, 0, t0, 0, t1)] : List PRow).map fun e => .ref e.1)), (L, NP ["yes", "ways", "own", "steps", "signs", "pairs", "roads", "k", "j", "pair"] [some (.ref ya), some (.ref wa), some (.ref oa), some (.ref sa), some (.str (enc ch [false, true]) ts), some (.ref pd), some (.ref rd), some (.int (0 : Nat) t3), none, none]), (ya, Ls (yes.map .bool)), (wa, Ls wvs), (oa, Ls (own.map .bool)), (sa, Ls svs)] ++ (pLed [(z0, 0, t0, 0, t1)] ++ [])) ?_ ?perm0
 case perm0 =>
  exact (List.perm_middle (l₁ := [_, _])).trans (List.perm_append_singleton _ _).symm
 refine W.cut (fun l => res = none ∧ ∃ rvs pas junk kv jv pv, l = [(rd, Ls rvs), (pd, Ls (pas.map fun e => .ref e.1)), (L, NP ["yes", "ways", "own", "steps", "signs", "pairs", "roads", "k", "j", "pair"] [some (.ref ya), some (.ref wa), some (.ref oa), some (.ref sa), some (.str (enc ch [false, true]) ts), some (.ref pd), some (.ref rd), kv, jv, pv]), (ya, Ls (yes.map .bool)), (wa, Ls wvs), (oa, Ls (own.map .bool)), (sa, Ls svs)] ++ (pLed pas ++ junk)) (W.while (fun n l => ∃ k st rvs pas junk tk jv pv, unRun yes ways own steps n k st = some res ∧ k + n = 82 ∧ st.pairs.length + 2 * n ≤ 165 ∧ (∀ w ∈ st.roads, w.length + n ≤ 82) ∧ st.roads.length = st.pairs.length ∧ PIs pas st.pairs ∧ TxtAre ch rvs st.roads ∧ l = [(rd, Ls rvs), (pd, Ls (pas.map fun e => .ref e.1)), (L, NP ["yes", "ways", "own", "steps", "signs", "pairs", "roads", "k", "j", "pair"] [some (.ref ya), some (.ref wa), some (.ref oa), some (.ref sa), some (.str (enc ch [false, true]) ts), some (.ref pd), some (.ref rd), some (.int (k : Nat) tk), jv, pv]), (ya, Ls (yes.map .bool)), (wa, Ls wvs), (oa, Ls (own.map .bool)), (sa, Ls svs)] ++ (pLed pas ++ junk)) 82
  ⟨0, ⟨[(0, 0)], [[]]⟩, [Value.str (enc ch []) t2], [(z0, 0, t0, 0, t1)], [], t3, none, none, hres, by decide, by decide, by simp, rfl, (PIs.snoc (pas := []) (pairs := []) ⟨rfl, by simp⟩), TxtAre.snoc TxtAre.nil, rfl⟩ r.hh ?turn) ?rest
 case turn =>
  walk_at "E2"; generalize (z2 _ _).1 = n; generalize (z2 _ _).2 = l
  refine' @Y8 _ _ _ _ _ _ _ _ _ _ (by walk_at "ne") ?_; generalize (z8 _ _).1 = k; generalize (z8 _ _).2.1 = st; generalize (z8 _ _).2.2.1 = rvs; generalize (z8 _ _).2.2.2.1 = pas; generalize (z8 _ _).2.2.2.2.1 = junk; generalize (z8 _ _).2.2.2.2.2.1 = tk; generalize (z8 _ _).2.2.2.2.2.2.1 = jv; generalize (z8 _ _).2.2.2.2.2.2.2 = pv
  refine A8 ?_
  intro hrun hkn hpl hwl hrl hP hR zy1
  subst zy1
  have hpz : (pas.map fun e => Value.ref e.1).length = st.pairs.length := by rw [List.length_map]; exact hP.1
  have hrz := hR.1
  refine NCz n ?_ ?_
  ·intro ze2a
   subst ze2a
   cases hrun
  ·walk_at "E1"; generalize z1 _ _ = n
   intro ze2b
   subst ze2b
   unfold unRun at hrun
   simp only [List.cons_append, List.nil_append]
   refine W.testCompare ?_
   walk_at "nm"
   refine W.callB (id := "len") ?_
   walk_at "b_len"
   refine ⟨rfl, W.spCons ?_⟩
   walk_at "nm"
   refine W.spNil (W.len' (by walk_at "mem") (by show _ ≤ 16777216; (clear hrun hkn hrz hrl hz4 hz3 hz2 hz1 hch; omega)) ?_)
   intro _
   refine W.ilt (W.truthyBool ?_)
   rw [hpz]
   by_cases hlt : k < st.pairs.length
   ·rw [if_pos hlt] at hrun
    rw [show decide ((k : Int) < (st.pairs.length : Int)) = true from decide_eq_true (by (clear hrun hpl hkn hrz hpz hrl hz4 hz3 hz2 hz1 hch; omega))]
    simp only [if_true]
    refine O1 ?_ (show ∃ p0, st.pairs[k]? = some p0 from ⟨_, List.getElem?_eq_getElem hlt⟩)
    walk_at "Y1"; generalize z1 _ _ = p0
    intro hpk
    refine PRe p0 ?_
    walk_at "E2"; generalize (z2 _ _).1 = a; generalize (z2 _ _).2 = b
    intro zy2
    subst zy2
    refine O1 ?_ (hP.2 k a b hpk)
    walk_at "Y3"; generalize (z3 _ _).1 = pa; generalize (z3 _ _).2.1 = ta; generalize (z3 _ _).2.2 = tb
    intro hpa
    have hpx : (pas.map fun e => Value.ref e.1)[((k : Nat) : Int).toNat]? = some (.ref pa) := by
     rw [Int.toNat_natCast, List.getElem?_map, hpa]; rfl
    have hmem : (pa, Tp [.int (a : Nat) ta, .int (b : Nat) tb]) ∈ pLed pas := List.mem_map.mpr ⟨_, List.mem_of_getElem? hpa, rfl⟩
    have hrk : st.roads[k]? = some (st.roads.getD k []) := by rw [List.getD_eq_getElem?_getD, List.getElem?_eq_getElem (by (clear hpx hpa hpk hrun hpl hkn hrz hpz hz4 hz3 hz2 hz1 hch; omega))]; rfl
    refine O1 ?_ (hR.2 k _ hrk)
    walk_at "Y1"; generalize z1 _ _ = tr
    intro hrx
    rw [hpk] at hrun
    simp only [Option.bind_eq_bind, Option.bind_some] at hrun
    generalize hya : yes[a]? = zo3
    refine OCn zo3 ?_ ?_
    ·intro ze3a
     subst ze3a
     rw [hya] at hrun; cases hrun
    ·walk_at "E1"; generalize z1 _ _ = y
     intro ze3b
     subst ze3b
     rw [hya] at hrun
     simp only [Option.bind_some] at hrun
     generalize hob : own[b]? = zo4
     refine OCn zo4 ?_ ?_
     ·intro ze4a
      subst ze4a
      rw [hob] at hrun; cases hrun
     ·intro o
      intro ze4b
      subst ze4b
      rw [hob] at hrun
      simp only [Option.bind_some] at hrun
      refine W.cons (W.cond (W.testCompare (W.subs slot_list_getitem.lookup ?_)))
      walk_at "nm"
      refine W.subs slot_tuple_getitem.lookup (W.subs slot_list_getitem.lookup ?_)
      walk_at "nm"
      walk_at "nm"
      refine ⟨Ty.ls (by walk_at "mem"), W.lsItem (by walk_at "mem") (by (clear hob hrun hya hrx hrk hpx hpa hpk hlt hpl hkn hrz hpz hrl hz4 hz3 hz2 hz1 hch; omega)) hpx (by show _ ≤ 16777216; (clear hob hrun hya hrx hrk hpx hpa hpk hlt hkn hrz hrl hz4 hz3 hz2 hz1 hch; omega)) (W.kInt ?_)⟩
      intro _
      refine ⟨Ty.tp (vs := [.int (a : Nat) ta, .int (b : Nat) tb]) (by simp [hmem]), W.tpItem (vs := [.int (a : Nat) ta, .int (b : Nat) tb]) (by simp [hmem]) (by decide) rfl (by simp) ⟨Ty.ls (by walk_at "mem"), ?_⟩⟩
      refine W.lsItem (v := .bool y) (by walk_at "mem") (by (clear hob hrun hya hrx hrk hpx hpa hpk hlt hpl hkn hrz hpz hrl hz4 hz3 hz2 hz1 hch; omega)) (by rw [Int.toNat_natCast, List.getElem?_map, hya]; rfl) (by rw [List.length_map]; show _ ≤ 16777216; (clear hob hrun hya hrx hrk hpx hpa hpk hlt hpl hkn hrz hpz hrl hz4 hz3 hz2 hch; omega)) (W.subs slot_list_getitem.lookup ?_)
      walk_at "nm"
      refine W.subs slot_tuple_getitem.lookup (W.subs slot_list_getitem.lookup ?_)
      walk_at "nm"
      walk_at "nm"
      refine ⟨Ty.ls (by walk_at "mem"), W.lsItem (by walk_at "mem") (by (clear hob hrun hya hrx hrk hpx hpa hpk hlt hpl hkn hrz hpz hrl hz4 hz3 hz2 hz1 hch; omega)) hpx (by show _ ≤ 16777216; (clear hob hrun hya hrx hrk hpx hpa hpk hlt hkn hrz hrl hz4 hz3 hz2 hz1 hch; omega)) (W.kInt ?_)⟩
      intro _
      refine ⟨Ty.tp (vs := [.int (a : Nat) ta, .int (b : Nat) tb]) (by simp [hmem]), W.tpItem (vs := [.int (a : Nat) ta, .int (b : Nat) tb]) (by simp [hmem]) (by decide) rfl (by simp) ⟨Ty.ls (by walk_at "mem"), ?_⟩⟩
      refine W.lsItem (v := .bool o) (by walk_at "mem") (by (clear hob hrun hya hrx hrk hpx hpa hpk hlt hpl hkn hrz hpz hrl hz4 hz3 hz2 hz1 hch; omega)) (by rw [Int.toNat_natCast, List.getElem?_map, hob]; rfl) (by rw [List.length_map]; show _ ≤ 16777216; (clear hob hrun hya hrx hrk hpx hpa hpk hlt hpl hkn hrz hpz hrl hz4 hz3 hz1 hch; omega)) (W.bne (W.truthyBool ?_))
      cases hyo : (y != o)
      ·rw [hyo] at hrun
       simp only [Bool.false_eq_true, if_false] at hrun ⊢
       generalize hu0 : unSign ways steps k st false = zo5
       refine OCn zo5 ?_ ?_
       ·intro ze5a
        subst ze5a
        rw [hu0] at hrun; cases hrun
       ·walk_at "E1"; generalize z1 _ _ = st1
        intro ze5b
        subst ze5b
        rw [hu0] at hrun
        simp only [Option.bind_some] at hrun
        generalize hu1 : unSign ways steps k st1 true = zo6
        refine OCn zo6 ?_ ?_
        ·intro ze6a
         subst ze6a
         rw [hu1] at hrun; cases hrun
        ·walk_at "E1"; generalize z1 _ _ = st2
         intro ze6b
         subst ze6b
         rw [hu1] at hrun
         simp only [Option.bind_some] at hrun
         have hseq : ∀ j, j < 2 → unSign ways steps k (seqU st st1 st2 j) (j == 1) = some (seqU st st1 st2 (j + 1)) := fun j hj => by
          rcases (by (clear hrun hob hya hrx hrk hpx hpa hpk hlt hpl hkn hrz hpz hrl hz4 hz3 hz2 hz1 hch; omega) : j = 0 ∨ j = 1) with rfl | rfl
          ·exact hu0
          ·exact hu1
         refine W.nil ?_
         refine W.cut (fun l => ∃ rvs pas junk jv pv, st2.pairs.length + 2 * n ≤ 165 ∧ (∀ w ∈ st2.roads, w.length + n ≤ 82) ∧ st2.roads.length = st2.pairs.length ∧ PIs pas st2.pairs ∧ TxtAre ch rvs st2.roads ∧ l = [(rd, Ls rvs), (pd, Ls (pas.map fun e => .ref e.1)), (L, NP ["yes", "ways", "own", "steps", "signs", "pairs", "roads", "k", "j", "pair"] [some (.ref ya), some (.ref wa), some (.ref oa), some (.ref sa), some (.str (enc ch [false, true]) ts), some (.ref pd), some (.ref rd), some (.int (k : Nat) tk), jv, pv]), (ya, Ls (yes.map .bool)), (wa, Ls wvs), (oa, Ls (own.map .bool)), (sa, Ls svs)] ++ (pLed pas ++ junk))
          (W.for (n := 2) (P := fun i v => ∃ t, v = .int (0 + (i : Nat) * 1) t) (need := [])
          (fun i l => ∃ rvs pas junk jv pv, (seqU st st1 st2 i).pairs.length ≤ st.pairs.length + i ∧ k < (seqU st st1 st2 i).pairs.length ∧ (seqU st st1 st2 i).pairs[k]? = some (a, b) ∧ ((seqU st st1 st2 i).roads.getD k []).length + n + 1 ≤ 82 ∧ (∀ w ∈ (seqU st st1 st2 i).roads, w.length + n ≤ 82) ∧ (seqU st st1 st2 i).roads.length = (seqU st st1 st2 i).pairs.length ∧ PIs pas (seqU st st1 st2 i).pairs ∧ TxtAre ch rvs (seqU st st1 st2 i).roads ∧ l = [(rd, Ls rvs), (pd, Ls (pas.map fun e => .ref e.1)), (L, NP ["yes", "ways", "own", "steps", "signs", "pairs", "roads", "k", "j", "pair"] [some (.ref ya), some (.ref wa), some (.ref oa), some (.ref sa), some (.str (enc ch [false, true]) ts), some (.ref pd), some (.ref rd), some (.int (k : Nat) tk), jv, pv]), (ya, Ls (yes.map .bool)), (wa, Ls wvs), (oa, Ls (own.map .bool)), (sa, Ls svs)] ++ (pLed pas ++ junk)) r.hh ?_ ?_ ?_ ?_) ?_
         ·refine W.closeP ?_
          refine W.callT (id := "range") ?_
          walk_at "b_range"
          refine ⟨rfl, W.spCons (W.kInt ?_)⟩
          intro _
          refine W.spNil (W.range1 ?_)
          intro rr2
          refine ⟨[(rd, Ls rvs), (pd, Ls (pas.map fun e => .ref e.1)), (L, NP ["yes", "ways", "own", "steps", "signs", "pairs", "roads", "k", "j", "pair"] [some (.ref ya), some (.ref wa), some (.ref oa), some (.ref sa), some (.str (enc ch [false, true]) ts), some (.ref pd), some (.ref rd), some (.int (k : Nat) tk), jv, pv]), (ya, Ls (yes.map .bool)), (wa, Ls wvs), (oa, Ls (own.map .bool)), (sa, Ls svs)] ++ (pLed pas ++ (junk ++ [(rr2, Rg 0 2 1)])), [], ?_, Itr.rg (r := rr2) (a := 0) (b := 2) (s := 1) (n := 2) (by simp) (by decide) (by decide), rvs, pas, junk ++ [(rr2, Rg 0 2 1)], jv, pv, by show st.pairs.length ≤ _; (clear hrun hob hya hrx hrk hpx hpa hpk hlt hpl hkn hrz hpz hrl hz4 hz3 hz2 hz1 hch; omega), hlt, hpk, ?_, fun w hw => by have := hwl w hw; (clear hrun hob hya hrx hrk hpx hpa hpk hlt hpl hkn hrz hpz hrl hz4 hz3 hz2 hz1 hch; omega), hrl, hP, hR, rfl⟩
          ·have := (List.perm_append_singleton (rr2, Rg 0 2 1) ([(rd, Ls rvs), (pd, Ls (pas.map fun e => .ref e.1)), (L, NP ["yes", "ways", "own", "steps", "signs", "pairs", "roads", "k", "j", "pair"] [some (.ref ya), some (.ref wa), some (.ref oa), some (.ref sa), some (.str (enc ch [false, true]) ts), some (.ref pd), some (.ref rd), some (.int (k : Nat) tk), jv, pv]), (ya, Ls (yes.map .bool)), (wa, Ls wvs), (oa, Ls (own.map .bool)), (sa, Ls svs)] ++ (pLed pas ++ junk))).symm
           simpa [List.append_assoc] using this
          ·have := hwl _ (List.mem_of_getElem? hrk)
           show (st.roads.getD k []).length + n + 1 ≤ 82
           (clear hrun hob hya hrx hrk hpx hpa hpk hlt hpl hkn hrz hpz hrl hz4 hz3 hz2 hz1 hch; omega)
         ·walk_at "E2"; generalize (z2 _ _).1 = zu88; generalize (z2 _ _).2 = zu89
          intro _
          walk_at "E1"; generalize z1 _ _ = zu91
          intro h
          cases h
         ·walk_at "E3"; generalize (z3 _ _).1 = i; generalize (z3 _ _).2.1 = v; generalize (z3 _ _).2.2 = l
          intro hi
          walk_at "Y1"; generalize z1 _ _ = t
          intro zy3
          subst zy3
          refine' @Y5 _ _ _ _ _ _ _ (by walk_at "ne") ?_; generalize (z5 _ _).1 = rvs; generalize (z5 _ _).2.1 = pas; generalize (z5 _ _).2.2.1 = junk; generalize (z5 _ _).2.2.2.1 = jv; generalize (z5 _ _).2.2.2.2 = pv
          refine A9 ?_
          intro hpl3 hk3 hpk3 hwk3 hwl3 hrl3 hP hR zy4
          subst zy4
          have hst := hseq i hi
          rw [show (0 + (i : Nat) * 1 : Int) = ((i : Nat) : Int) by (clear hst hrl3 hwk3 hpk3 hk3 hpl3 hi hrun hob hya hrx hrk hpx hpa hpk hlt hpl hkn hrz hpz hrl hz4 hz3 hz2 hz1 hch; omega)]
          have hpz : (pas.map fun e => Value.ref e.1).length = (seqU st st1 st2 i).pairs.length := by rw [List.length_map]; exact hP.1
          have hrz := hR.1
          have hwz := hw.1
          have hsz := hsn.1
          have hplb : (seqU st st1 st2 i).pairs.length ≤ 200 := by (clear hsz hwz hrz hpz hst hrl3 hwk3 hpk3 hk3 hrun hob hya hrx hrk hpx hpa hpk hlt hkn hrl hz4 hz3 hz2 hz1 hch; omega)
          generalize seqU st st1 st2 (i + 1) = stn at hst ⊢
          generalize seqU st st1 st2 i = st3 at hst hpl3 hk3 hpk3 hwk3 hwl3 hrl3 hP hR hpz hrz hplb
          have hrk3 : st3.roads[k]? = some (st3.roads.getD k []) := by rw [List.getD_eq_getElem?_getD, List.getElem?_eq_getElem (by (clear hplb hrz hpz hwk3 hpk3 hpl3 hst hsz hwz hi hrun hob hya hrx hrk hpx hpa hpk hlt hpl hkn hrl hz4 hz3 hz2 hz1 hch; omega))]; rfl
          unfold unSign at hst
          rw [hpk3, hrk3] at hst
          have hbi : (i == 1).toNat = i := by rcases (by (clear hrk3 hplb hrz hpz hrl3 hwk3 hpk3 hk3 hpl3 hst hsz hwz hrun hob hya hrx hrk hpx hpa hpk hlt hpl hkn hrl hz4 hz3 hz2 hz1 hch; omega) : i = 0 ∨ i = 1) with rfl | rfl <;> rfl
          simp only [Option.bind_eq_bind, Option.bind_some, hbi] at hst
          generalize hwa : ways[2 * a + i]? = zo7
          refine OCn zo7 ?_ ?_
          ·intro ze7a
           subst ze7a
           rw [hwa] at hst; cases hst
          ·walk_at "E1"; generalize z1 _ _ = p
           intro ze7b
           subst ze7b
           rw [hwa] at hst
           simp only [Option.bind_some] at hst
           generalize hsb : steps[2 * b + i]? = zo8
           refine OCn zo8 ?_ ?_
           ·intro ze8a
            subst ze8a
            rw [hsb] at hst; cases hst
           ·walk_at "E1"; generalize z1 _ _ = q
            intro ze8b
            subst ze8b
            rw [hsb] at hst
            simp only [Option.bind_some] at hst
            refine O1 ?_ (hP.2 k a b hpk3)
            walk_at "Y3"; generalize (z3 _ _).1 = pa; generalize (z3 _ _).2.1 = ta; generalize (z3 _ _).2.2 = tb
            intro hpa
            have hpx : (pas.map fun e => Value.ref e.1)[((k : Nat) : Int).toNat]? = some (.ref pa) := by
             rw [Int.toNat_natCast, List.getElem?_map, hpa]; rfl
            have hmem : (pa, Tp [.int (a : Nat) ta, .int (b : Nat) tb]) ∈ pLed pas := List.mem_map.mpr ⟨_, List.mem_of_getElem? hpa, rfl⟩
            have hwlt := (List.getElem?_eq_some_iff.mp hwa).1
            have hslt := (List.getElem?_eq_some_iff.mp hsb).1
            refine O1 ?_ (hw.2 _ _ hwa)
            walk_at "Y1"; generalize z1 _ _ = tp
            intro hwx
            refine O1 ?_ (hsn.2 _ _ hsb)
            walk_at "Y1"; generalize z1 _ _ = tq
            intro hsx
            simp only [List.cons_append, List.nil_append]
            refine W.asName ?_
            walk_at "st"
            refine W.step (W.set (W.mkTuple (W.spCons (W.subs slot_list_getitem.lookup ?_))))
            walk_at "nm"
            refine W.binop (W.binop (W.kInt ?_))
            walk_at "E1"; generalize z1 _ _ = zu108
            refine W.subs slot_tuple_getitem.lookup (W.subs slot_list_getitem.lookup ?_)
            walk_at "nm"
            walk_at "nm"
            refine ⟨Ty.ls (by walk_at "mem"), W.lsItem (by walk_at "mem") (by (clear hsx hwx hslt hwlt hpx hpa hsb hst hwa hbi hrk3 hplb hrz hpz hrl3 hwk3 hpk3 hk3 hpl3 hsz hwz hi hrun hob hya hrx hrk hpk hlt hpl hkn hrl hz4 hz3 hz2 hz1 hch; omega)) hpx (by show _ ≤ 16777216; (clear hsx hwx hslt hwlt hpx hpa hsb hst hwa hbi hrk3 hplb hrz hrl3 hwk3 hpk3 hk3 hsz hwz hrun hob hya hrx hrk hpk hlt hkn hrl hz4 hz3 hz2 hz1 hch; omega)) (W.kInt ?_)⟩
            intro _
            refine ⟨Ty.tp (vs := [.int (a : Nat) ta, .int (b : Nat) tb]) (by simp [hmem]), W.tpItem (vs := [.int (a : Nat) ta, .int (b : Nat) tb]) (by simp [hmem]) (by decide) rfl (by simp) ?_⟩
            refine W.imul (IntMulOk.of_left (by decide +kernel)) ?_
            intro _
            walk_at "nm"
            refine W.iadd ?_
            intro _
            refine ⟨Ty.ls (by walk_at "mem"), ?_⟩
            rw [show (2 * (a : Int) + (i : Nat)) = ((2 * a + i : Nat) : Int) by (clear hsx hwx hslt hwlt hpx hpa hsb hst hwa hbi hrk3 hplb hrz hpz hrl3 hwk3 hpk3 hk3 hpl3 hsz hwz hi hrun hob hya hrx hrk hpk hlt hpl hkn hrl hz4 hz3 hz2 hz1 hch; omega)]
            refine W.lsItem (by walk_at "mem") (by (clear hsx hwx hslt hwlt hpx hpa hsb hst hwa hbi hrk3 hplb hrz hpz hrl3 hwk3 hpk3 hk3 hpl3 hsz hwz hi hrun hob hya hrx hrk hpk hlt hpl hkn hrl hz4 hz3 hz2 hz1 hch; omega)) (by rw [Int.toNat_natCast]; exact hwx) (by show _ ≤ 16777216; (clear hsx hwx hslt hwlt hpx hpa hsb hst hwa hbi hrk3 hplb hrz hpz hrl3 hwk3 hpk3 hk3 hpl3 hsz hi hrun hob hya hrx hrk hpk hlt hpl hkn hrl hz4 hz2 hz1 hch; omega)) (W.spCons (W.subs slot_list_getitem.lookup ?_))
            walk_at "nm"
            refine W.binop (W.binop (W.kInt ?_))
            walk_at "E1"; generalize z1 _ _ = zu112
            refine W.subs slot_tuple_getitem.lookup (W.subs slot_list_getitem.lookup ?_)
            walk_at "nm"
            walk_at "nm"
            refine ⟨Ty.ls (by walk_at "mem"), W.lsItem (by walk_at "mem") (by (clear hsx hwx hslt hwlt hpx hpa hsb hst hwa hbi hrk3 hplb hrz hpz hrl3 hwk3 hpk3 hk3 hpl3 hsz hwz hi hrun hob hya hrx hrk hpk hlt hpl hkn hrl hz4 hz3 hz2 hz1 hch; omega)) hpx (by show _ ≤ 16777216; (clear hsx hwx hslt hwlt hpx hpa hsb hst hwa hbi hrk3 hplb hrz hrl3 hwk3 hpk3 hk3 hsz hwz hrun hob hya hrx hrk hpk hlt hkn hrl hz4 hz3 hz2 hz1 hch; omega)) (W.kInt ?_)⟩
            intro _
            refine ⟨Ty.tp (vs := [.int (a : Nat) ta, .int (b : Nat) tb]) (by simp [hmem]), W.tpItem (vs := [.int (a : Nat) ta, .int (b : Nat) tb]) (by simp [hmem]) (by decide) rfl (by simp) ?_⟩
            refine W.imul (IntMulOk.of_left (by decide +kernel)) ?_
            intro _
            walk_at "nm"
            refine W.iadd ?_
            intro _
            refine ⟨Ty.ls (by walk_at "mem"), ?_⟩
            rw [show (2 * (b : Int) + (i : Nat)) = ((2 * b + i : Nat) : Int) by (clear hsx hwx hslt hwlt hpx hpa hsb hst hwa hbi hrk3 hplb hrz hpz hrl3 hwk3 hpk3 hk3 hpl3 hsz hwz hi hrun hob hya hrx hrk hpk hlt hpl hkn hrl hz4 hz3 hz2 hz1 hch; omega)]
            refine W.lsItem (by walk_at "mem") (by (clear hsx hwx hslt hwlt hpx hpa hsb hst hwa hbi hrk3 hplb hrz hpz hrl3 hwk3 hpk3 hk3 hpl3 hsz hwz hi hrun hob hya hrx hrk hpk hlt hpl hkn hrl hz4 hz3 hz2 hz1 hch; omega)) (by rw [Int.toNat_natCast]; exact hsx) (by show _ ≤ 16777216; (clear hsx hwx hslt hwlt hpx hpa hsb hst hwa hbi hrk3 hplb hrz hpz hrl3 hwk3 hpk3 hk3 hpl3 hwz hi hrun hob hya hrx hrk hpk hlt hpl hkn hrl hz3 hz2 hz1 hch; omega)) (W.spNil ⟨by show 2 ≤ 16777216; (clear hsx hwx hslt hwlt hpx hpa hsb hst hwa hbi hrk3 hplb hrz hpz hrl3 hwk3 hpk3 hk3 hpl3 hsz hwz hi hrun hob hya hrx hrk hpk hlt hpl hkn hrl hz4 hz3 hz2 hz1 hch; omega), ?_⟩)
            walk_at "E1"; generalize z1 _ _ = nt
            walk_at "st"
            refine ⟨by first | rfl | trivial, W.cons (W.cond (W.testCompare ?_))⟩
            walk_at "nm"
            walk_at "nm"
            refine W.nd ?_
            intro nd
            refine W.notInLs (n := 1) (r.deeper.less (by (clear hsx hwx hslt hwlt hpx hpa hsb hst hwa hbi hrk3 hplb hrz hpz hrl3 hwk3 hpk3 hk3 hpl3 hsz hwz hi hrun hob hya hrx hrk hpk hlt hpl hkn hrl hz4 hz3 hz2 hz1 hch; omega))) (by walk_at "mem") (eP pas (p, q)) (eP_eqs (fun e he => by
             have : pCell e ∈ pLed pas := List.mem_map.mpr ⟨e, he, rfl⟩
             simp [this]) (.head _) nd) (W.truthyBool ?_)
            rw [eP_any hP]
            cases hc : st3.pairs.contains (p, q)
            ·rw [hc] at hst
             simp only [Bool.false_eq_true, if_false, Option.some.injEq] at hst
             subst hst
             simp only [Bool.not_false, if_true]
             refine O1 ?_ (hR.2 k _ hrk3)
             walk_at "Y1"; generalize z1 _ _ = tr
             intro hrx
             refine W.cons (W.expr (W.meth F.plainAttrs_list slot_list_append F.type_list_append ?_))
             walk_at "nm"
             refine ⟨Ty.ls (by walk_at "mem"), W.spCons ?_⟩
             walk_at "nm"
             refine W.spNil (W.append (by walk_at "up") (by show _ ≤ 16777216; (clear hrx hc hsx hwx hslt hwlt hpx hpa hsb hwa hbi hrk3 hplb hrz hrl3 hwk3 hpk3 hk3 hsz hwz hrun hob hya hrk hpk hlt hkn hrl hz4 hz3 hz2 hz1 hch; omega)) ?_)
             refine W.cons (W.expr (W.meth F.plainAttrs_list slot_list_append F.type_list_append ?_))
             walk_at "nm"
             refine ⟨Ty.ls (by walk_at "mem"), W.spCons (W.binop (W.subs slot_list_getitem.lookup ?_))⟩
             walk_at "nm"
             walk_at "nm"
             refine ⟨Ty.ls (by walk_at "mem"), W.lsItem (by walk_at "mem") (by (clear hrx hc hsx hwx hslt hwlt hpx hpa hsb hwa hbi hrk3 hplb hrz hpz hrl3 hwk3 hpk3 hk3 hpl3 hsz hwz hi hrun hob hya hrk hpk hlt hpl hkn hrl hz4 hz3 hz2 hz1 hch; omega)) (by rw [Int.toNat_natCast]; exact hrx) (by show _ ≤ 16777216; (clear hrx hc hsx hwx hslt hwlt hpx hpa hsb hwa hbi hrk3 hplb hpz hwk3 hpk3 hk3 hsz hwz hrun hob hya hrk hpk hlt hkn hrl hz4 hz3 hz2 hz1 hch; omega)) (W.subs F.slot_str_getitem.lookup ?_)⟩
             walk_at "nm"
             walk_at "nm"
             have hsg : (enc ch [false, true]).cps[i]? = some (sg ch (i == 1)) := by
              rcases (by (clear hrx hc hsx hwx hslt hwlt hpx hpa hsb hwa hbi hrk3 hplb hrz hpz hrl3 hwk3 hpk3 hk3 hpl3 hsz hwz hrun hob hya hrk hpk hlt hpl hkn hrl hz4 hz3 hz2 hz1 hch; omega) : i = 0 ∨ i = 1) with rfl | rfl <;> rfl
             refine ⟨Ty.s, W.sign hsg (by rw [enc_len]; decide) ?_⟩
             intro t6
             rw [show (⟨#[sg ch (i == 1)]⟩ : Str) = enc ch [i == 1] from rfl]
             refine W.sadd (by rw [enc_len, enc_len]; show _ ≤ 16777216; simp only [List.length_cons, List.length_nil]; (clear hsg hrx hc hsx hwx hslt hwlt hpx hpa hsb hwa hbi hrk3 hplb hrz hpz hrl3 hpk3 hk3 hpl3 hsz hwz hi hrun hob hya hrk hpk hlt hpl hkn hrl hz4 hz3 hz2 hz1 hch; omega)) ?_
             intro tn
             rw [← enc_app]
             refine W.spNil (W.append (by walk_at "up") (by show _ ≤ 16777216; (clear hsg hrx hc hsx hwx hslt hwlt hpx hpa hsb hwa hbi hrk3 hplb hpz hwk3 hpk3 hk3 hsz hwz hrun hob hya hrk hpk hlt hkn hrl hz4 hz3 hz2 hz1 hch; omega)) ?_)
             refine W.perm (l' := [(rd, Ls (rvs ++ [.str (enc ch (st3.roads.getD k [] ++ [i == 1])) tn])), (pd, Ls ((pas ++ [(nt, p, tp, q, tq)]).map fun e => .ref e.1)), (L, NP ["yes", "ways", "own", "steps", "signs", "pairs", "roads", "k", "j", "pair"] [some (.ref ya), some (.ref wa), some (.ref oa), some (.ref sa), some (.str (enc ch [false, true]) ts), some (.ref pd), some (.ref rd), some (.int (k : Nat) tk), some (.int (i : Nat) t), some (.ref nt)]), (ya, Ls (yes.map .bool)), (wa, Ls wvs), (oa, Ls (own.map .bool)), (sa, Ls svs)] ++ (pLed (pas ++ [(nt, p, tp, q, tq)]) ++ junk)) (W.nil (W.nil ?_)) ?_
             ·refine I5 _ (pas ++ [(nt, p, tp, q, tq)]) junk _ _ ⟨by simp; (clear hsg hrx hc hsx hwx hslt hwlt hpx hpa hsb hwa hbi hrk3 hplb hrz hpz hrl3 hwk3 hpk3 hk3 hsz hwz hi hrun hob hya hrk hpk hlt hpl hkn hrl hz4 hz3 hz2 hz1 hch; omega), by simp; (clear hsg hrx hc hsx hwx hslt hwlt hpx hpa hsb hwa hbi hrk3 hplb hrz hpz hrl3 hwk3 hpk3 hpl3 hsz hwz hi hrun hob hya hrk hpk hlt hpl hkn hrl hz4 hz3 hz2 hz1 hch; omega), ?_, ?_, ?_, by simp; (clear hsg hrx hc hsx hwx hslt hwlt hpx hpa hsb hwa hbi hrk3 hplb hrz hpz hwk3 hpk3 hk3 hpl3 hsz hwz hi hrun hob hya hrk hpk hlt hpl hkn hrl hz4 hz3 hz2 hz1 hch; omega), hP.snoc, hR.snoc, rfl⟩
              ·rw [List.getElem?_append_left hk3]; exact hpk3
              ·rw [List.getD_eq_getElem?_getD, List.getElem?_append_left (by (clear hsg hrx hc hsx hwx hslt hwlt hpx hpa hsb hwa hbi hrk3 hplb hrz hpz hwk3 hpk3 hpl3 hsz hwz hi hrun hob hya hrk hpk hlt hpl hkn hrl hz4 hz3 hz2 hz1 hch; omega)), ← List.getD_eq_getElem?_getD]; exact hwk3
              ·walk_at "E1"; generalize z1 _ _ = w
               intro hw
               rcases List.mem_append.mp hw with hw | hw
               ·exact hwl3 w hw
               ·simp at hw
                subst hw
                simp at hwk3 ⊢; (clear hsg hrx hc hsx hwx hslt hwlt hpx hpa hsb hwa hbi hrk3 hplb hrz hpz hrl3 hpk3 hk3 hpl3 hsz hwz hi hrun hob hya hrk hpk hlt hpl hkn hrl hz4 hz3 hz2 hz1 hch; omega)
             ·rw [show ((pas.map fun e => Value.ref e.1) ++ [.ref nt]) = ((pas ++ [(nt, p, tp, q, tq)]).map fun e => Value.ref e.1) by simp]
              rw [show pLed (pas ++ [(nt, p, tp, q, tq)]) = pLed pas ++ [pCell (nt, p, tp, q, tq)] by simp [pLed]]
              have h1 : ((pLed pas ++ [pCell (nt, p, tp, q, tq)]) ++ junk).Perm (pCell (nt, p, tp, q, tq) :: (pLed pas ++ junk)) := by
               rw [List.append_assoc]
               exact List.perm_middle
              refine List.Perm.trans ?_ (List.Perm.append_left _ h1).symm
              exact (List.perm_middle (l₁ := [(rd, Ls (rvs ++ [.str (enc ch (st3.roads.getD k [] ++ [i == 1])) tn])), (pd, Ls ((pas ++ [(nt, p, tp, q, tq)]).map fun e => .ref e.1)), (L, NP ["yes", "ways", "own", "steps", "signs", "pairs", "roads", "k", "j", "pair"] [some (.ref ya), some (.ref wa), some (.ref oa), some (.ref sa), some (.str (enc ch [false, true]) ts), some (.ref pd), some (.ref rd), some (.int (k : Nat) tk), some (.int (i : Nat) t), some (.ref nt)]), (ya, Ls (yes.map .bool)), (wa, Ls wvs), (oa, Ls (own.map .bool)), (sa, Ls svs)]) (a := pCell (nt, p, tp, q, tq)) (l₂ := pLed pas ++ junk)).symm
            ·rw [hc] at hst
             simp only [if_true, Option.some.injEq] at hst
             subst hst
             simp only [Bool.not_true, Bool.false_eq_true, if_false]
             refine W.perm (l' := [(rd, Ls rvs), (pd, Ls (pas.map fun e => .ref e.1)), (L, NP ["yes", "ways", "own", "steps", "signs", "pairs", "roads", "k", "j", "pair"] [some (.ref ya), some (.ref wa), some (.ref oa), some (.ref sa), some (.str (enc ch [false, true]) ts), some (.ref pd), some (.ref rd), some (.int (k : Nat) tk), some (.int (i : Nat) t), some (.ref nt)]), (ya, Ls (yes.map .bool)), (wa, Ls wvs), (oa, Ls (own.map .bool)), (sa, Ls svs)] ++ (pLed pas ++ (junk ++ [(nt, Tp [.int (p : Nat) tp, .int (q : Nat) tq])]))) (W.nil (W.nil ?_)) ?_
             ·exact I5 rvs pas (junk ++ [(nt, Tp [.int (p : Nat) tp, .int (q : Nat) tq])]) _ _ ⟨by (clear hc hsx hwx hslt hwlt hpx hpa hsb hwa hbi hrk3 hplb hrz hpz hrl3 hwk3 hpk3 hk3 hsz hwz hi hrun hob hya hrx hrk hpk hlt hpl hkn hrl hz4 hz3 hz2 hz1 hch; omega), hk3, hpk3, hwk3, hwl3, hrl3, hP, hR, rfl⟩
             ·have := (List.perm_append_singleton (nt, Tp [.int (p : Nat) tp, .int (q : Nat) tq]) ([(rd, Ls rvs), (pd, Ls (pas.map fun e => .ref e.1)), (L, NP ["yes", "ways", "own", "steps", "signs", "pairs", "roads", "k", "j", "pair"] [some (.ref ya), some (.ref wa), some (.ref oa), some (.ref sa), some (.str (enc ch [false, true]) ts), some (.ref pd), some (.ref rd), some (.int (k : Nat) tk), some (.int (i : Nat) t), some (.ref nt)]), (ya, Ls (yes.map .bool)), (wa, Ls wvs), (oa, Ls (own.map .bool)), (sa, Ls svs)] ++ (pLed pas ++ junk))).symm
              simpa [List.append_assoc] using this
         ·walk_at "E1"; generalize z1 _ _ = l
          refine' @Y5 _ _ _ _ _ _ _ (by walk_at "ne") ?_; generalize (z5 _ _).1 = rvs; generalize (z5 _ _).2.1 = pas; generalize (z5 _ _).2.2.1 = junk; generalize (z5 _ _).2.2.2.1 = jv; generalize (z5 _ _).2.2.2.2 = pv
          refine A9 ?_
          intro hpl3 hk3 hpk3 hwk3 hwl3 hrl3 hP hR zy5
          subst zy5
          have e2 : seqU st st1 st2 2 = st2 := rfl
          rw [e2] at hpl3 hwl3 hrl3 hP hR
          exact I5 rvs pas junk jv pv ⟨by (clear e2 hrl3 hwk3 hpk3 hk3 hrun hob hya hrx hrk hpx hpa hpk hlt hkn hrz hpz hrl hz4 hz3 hz2 hz1 hch; omega), hwl3, hrl3, hP, hR, rfl⟩
         ·walk_at "E1"; generalize z1 _ _ = l
          refine' @Y5 _ _ _ _ _ _ _ (by walk_at "ne") ?_; generalize (z5 _ _).1 = rvs; generalize (z5 _ _).2.1 = pas; generalize (z5 _ _).2.2.1 = junk; generalize (z5 _ _).2.2.2.1 = jv; generalize (z5 _ _).2.2.2.2 = pv
          refine A6 ?_
          intro hpl3 hwl3 hrl3 hP hR zy6
          subst zy6
          simp only [List.cons_append, List.nil_append]
          refine W.cons (W.aug (W.ldLocal rfl rfl (by walk_at "mem") (by walk_at "get") (W.kInt ?_)))
          intro _
          refine W.iaddI ?_
          intro t5
          walk_at "st"
          refine W.nil ?_
          refine ⟨n, by (clear hrl3 hpl3 hrun hob hya hrx hrk hpx hpa hpk hlt hpl hkn hrz hpz hrl hz4 hz3 hz2 hz1 hch; omega), (I8 (k + 1) st2 rvs pas junk t5 jv pv ⟨hrun, by (clear hrl3 hpl3 hrun hob hya hrx hrk hpx hpa hpk hlt hpl hrz hpz hrl hz4 hz3 hz2 hz1 hch; omega), by (clear hrl3 hrun hob hya hrx hrk hpx hpa hpk hlt hpl hkn hrz hpz hrl hz4 hz3 hz2 hz1 hch; omega), hwl3, hrl3, hP, hR, rfl⟩)⟩
      ·rw [hyo, hrk] at hrun
       simp only [if_true, Option.map_some, Option.some.injEq] at hrun ⊢
       subst hrun
       refine W.cons (W.ret (W.subs slot_list_getitem.lookup ?_))
       walk_at "nm"
       walk_at "nm"
       refine ⟨Ty.ls (by walk_at "mem"), W.lsItem (by walk_at "mem") (by (clear hob hya hrx hrk hpx hpa hpk hlt hpl hkn hrz hpz hrl hz4 hz3 hz2 hz1 hch; omega)) (by rw [Int.toNat_natCast]; exact hrx) (by show _ ≤ 16777216; (clear hob hya hrx hrk hpx hpa hpk hlt hkn hpz hz4 hz3 hz2 hz1 hch; omega)) ?_⟩
       exact I2 _ _ ⟨by walk_at "take", ⟨tr, rfl⟩, rfl⟩
   ·rw [if_neg hlt] at hrun
    cases hrun
    rw [show decide ((k : Int) < (st.pairs.length : Int)) = false from decide_eq_false (by (clear hpl hkn hrz hpz hrl hz4 hz3 hz2 hz1 hch; omega))]
    simp only [Bool.false_eq_true, if_false]
    exact ⟨by first | rfl | trivial, (I6 rvs pas junk _ jv pv rfl)⟩
 case rest =>
  walk_at "E1"; generalize z1 _ _ = l
  refine A2 ?_
  intro zy7
  refine' @Y6 _ _ _ _ _ _ _ _ (by walk_at "ne") ?_; generalize (z6 _ _).1 = rvs; generalize (z6 _ _).2.1 = pas; generalize (z6 _ _).2.2.1 = junk; generalize (z6 _ _).2.2.2.1 = kv; generalize (z6 _ _).2.2.2.2.1 = jv; generalize (z6 _ _).2.2.2.2.2 = pv
  intro zy8
  subst zy7
  subst zy8
  simp only [List.cons_append, List.nil_append]
  refine W.cons (W.ret (W.kNone ?_))
  exact I2 _ _ ⟨by walk_at "take", rfl, rfl⟩
theorem fold_takeT {α β : Type} (f : β → α → β) (l : List α) (a : β) {i : Nat} {x : α} (h : l[i]? = some x) : (l.take (i + 1)).foldl f a = f ((l.take i).foldl f a) x := by
 rw [List.take_add_one, h, List.foldl_append]; rfl
noncomputable def eS (x : Str) : Value → Bool := fun v => match v with | .str y _ => y == x | _ => false
theorem TxtAre.eqs {c : Cx} {n : Nat} {l : Led} {ch : Nat} {vs : List Value} {ws : List Wd} (h : TxtAre ch vs ws) {x : Str} {t : Tok} : ∀ y, y ∈ vs → Eqs c n l y (.str x t) (eS x y) := fun y m => by
 obtain ⟨w, u, _, rfl⟩ := h.mem m
 exact Eqs.str
theorem TxtAre.any {ch : Nat} (hch : ch ≠ 46) {vs : List Value} {ws : List Wd} (h : TxtAre ch vs ws) (w : Wd) : vs.any (eS (enc ch w)) = ws.contains w := h.anyEq hch
theorem TxtAre.idx : ∀ {c : Cx} {A : Around} {l : Led} {ch : Nat} {vs : List Value} {ws : List Wd} {w : Wd} {n : Nat} {a : Addr} {t : Tok} {Q : Value → Led → Prop} (hch : ch ≠ 46) (h : TxtAre ch vs ws) (hw : ws.contains w = true) (r : Room A (n + 2)) (m : (a, Ls vs) ∈ l) (hz : ws.length ≤ 1000) (q : ∀ t, Q (.int (Mine.idx ws w : Nat) t) l), W c A (call (.builtin "list.index") [.ref a, .str (enc ch w) t]) l Q := by
 refine' @E11 _ _ _ _ _ _ _ _ _ _ _ _ (by walk_at "ne") ?_; generalize (z11 _ _).1 = c; generalize (z11 _ _).2.1 = A; generalize (z11 _ _).2.2.1 = l; generalize (z11 _ _).2.2.2.1 = ch; generalize (z11 _ _).2.2.2.2.1 = vs; generalize (z11 _ _).2.2.2.2.2.1 = ws; generalize (z11 _ _).2.2.2.2.2.2.1 = w; generalize (z11 _ _).2.2.2.2.2.2.2.1 = n; generalize (z11 _ _).2.2.2.2.2.2.2.2.1 = a; generalize (z11 _ _).2.2.2.2.2.2.2.2.2.1 = t; generalize (z11 _ _).2.2.2.2.2.2.2.2.2.2 = Q
 intro hch h hw r m hz q
 have hl := h.1
 have hlt : Mine.idx ws w < ws.length := List.findIdx_lt_length_of_exists ⟨w, by simpa using hw, by simp⟩
 have hat : ∀ i (hi : i < vs.length) (hi2 : i < ws.length), eS (enc ch w) vs[i] = (ws[i] == w) := fun i hi hi2 => by
  obtain ⟨tt, e1⟩ := h.2 i _ (List.getElem?_eq_getElem hi2)
  rw [List.getElem?_eq_getElem hi] at e1
  rw [Option.some.inj e1]
  show (enc ch ws[i] == enc ch w) = _
  exact enc_beq hch _ _
 refine W.lsIndex (j := Mine.idx ws w) r m (eS (enc ch w)) h.eqs (by show _ ≤ 16777216; (clear hlt hch; omega)) (by (clear hz hch; omega)) ?_ ?_ q
 ·rw [hat _ (by (clear hz hch; omega)) hlt]
  exact List.findIdx_getElem (w := hlt)
 ·walk_at "E1"; generalize z1 _ _ = i
  intro hi hlt'
  rw [hat i hi (by (clear hlt' hlt hz hch; omega))]
  have := List.not_of_lt_findIdx hlt'
  simpa using this
theorem table_ok : ∀ {c : Cx} {A : Around} {ch : Nat} {text : Wd} {ends : List Wd} {evs : List Value} {ea ka : Addr} {kvs0 : List (Str × Value)} {tt ts : Tok} (T : Gd c (HK c.w.params)) (he : EllOk c) (r : Room A 9) (hch : ch ≠ 46) (hc1 : 32 ≤ ch) (hc2 : ch < 127) (hE : TxtAre ch evs ends) (hz1 : text.length ≤ 900) (hz2 : ends.length ≤ 40) (hz3 : ∀ e ∈ ends, e.length ≤ 900) (hz4 : kvs0.length ≤ 900000) (hk : KnOk ch text kvs0), W c A (call (.ref 261) [.str (enc ch text) tt, .str (enc ch [false, true]) ts, .ref ea, .ref ka]) [(ka, Dk c kvs0), (ea, Ls evs)] (fun v l' => ∃ ta x dx ha wd yd rows wvs yvs kvs, v = .ref ta ∧ BookIs ch rows (tableB text ends).book ∧ TxtAre ch wvs (tableB text ends).words ∧ NatsAre yvs (tableB text ends).ways ∧ KnOk ch text kvs ∧ kvs.length ≤ kvs0.length + 760 ∧ rows.length ≤ 19 ∧ l' = [(ta, Tp [.ref x, .ref wd, .ref yd]), (wd, Ls wvs), (yd, Ls yvs), (ka, Dk c kvs), (ea, Ls evs)] ++ bookLed x dx ha rows) := by
 refine' @E11 _ _ _ _ _ _ _ _ _ _ _ _ (by walk_at "ne") ?_; generalize (z11 _ _).1 = c; generalize (z11 _ _).2.1 = A; generalize (z11 _ _).2.2.1 = ch; generalize (z11 _ _).2.2.2.1 = text; generalize (z11 _ _).2.2.2.2.1 = ends; generalize (z11 _ _).2.2.2.2.2.1 = evs; generalize (z11 _ _).2.2.2.2.2.2.1 = ea; generalize (z11 _ _).2.2.2.2.2.2.2.1 = ka; generalize (z11 _ _).2.2.2.2.2.2.2.2.1 = kvs0; generalize (z11 _ _).2.2.2.2.2.2.2.2.2.1 = tt; generalize (z11 _ _).2.2.2.2.2.2.2.2.2.2 = ts
 intro T he r hch hc1 hc2 hE hz1 hz2 hz3 hz4 hk
 refine W.closeP ?_
 refine W.defC (binds := (["text", "signs", "ends", "known"] : List Str).zip [Value.str (enc ch text) tt, .str (enc ch [false, true]) ts, .ref ea, .ref ka]) (names := ["signs", "ends", "book", "row", "words", "ways", "k", "sign", "told"]) (cns := ["word", "known", "text"]) T r (by k_is) (by k_is) (by exact rfl) (by exact rfl) (by exact rfl) (by decide +kernel) (by exact rfl) (by decide +kernel) (by decide +kernel) (by exact rfl) (by exact rfl) ?_
 walk_at "E2"; generalize (z2 _ _).1 = L; generalize (z2 _ _).2 = as
 intro has
 have zh1 : ∃ a1 a2 a3, as = [a1, a2, a3] := by
  match as, has with
  | [a1, a2, a3], _ => exact ⟨a1, a2, a3, rfl⟩
 refine O1 ?_ (zh1)
 walk_at "Y3"; generalize (z3 _ _).1 = a1; generalize (z3 _ _).2.1 = a2; generalize (z3 _ _).2.2 = a3
 intro zy1
 subst zy1
 clear zh1
 simp only [List.cons_append, List.nil_append, List.map_cons, List.map_nil, List.zip_cons_cons, List.zip_nil_right]
 have hel := hE.1
 refine W.step (W.set (W.callK T (fv := .ref 190) (by k_is) ?_))
 walk_at "gl"
 refine ⟨rfl, W.spCons (W.mkList (W.spNil ⟨by walk_at "sz", ?_⟩))⟩
 walk_at "E1"; generalize z1 _ _ = ha
 refine W.spNil ?_
 refine W.use (init_ok T (r.deeper.less (by (clear hel has hz4 hz2 hz1 hc2 hc1 hch; omega))) (hl := ha)) (by walk_at "take") ?_
 walk_at "E2"; generalize (z2 _ _).1 = v; generalize (z2 _ _).2 = l'
 walk_at "Y2"; generalize (z2 _ _).1 = x; generalize (z2 _ _).2 = dx
 refine A2 ?_
 intro zy2 zy3
 subst zy2
 subst zy3
 unfold bookLed
 simp only [List.cons_append, List.nil_append, List.map_nil]
 walk_at "st"
 refine ⟨by first | rfl | trivial, ?_⟩
 refine W.sub (l' := ((ka, Dk c kvs0) :: ([(L, NP ["signs", "ends", "book", "row", "words", "ways", "k", "sign", "told"] [some (.str (enc ch [false, true]) ts), some (.ref ea), some (.ref x), none, none, none, none, none, none]), (a1, Ce none), (a2, Ce (some (.ref ka))), (a3, Ce (some (.str (enc ch text) tt))), (ea, Ls evs)] ++ bookLed x dx ha []))) ?_ (by unfold bookLed; simp only [List.cons_append, List.nil_append, List.map_nil]; walk_at "take")
 simp only [List.cons_append, List.nil_append]
 refine W.step (W.set (W.callK T (fv := .ref 256) (by k_is) ?_))
 walk_at "gl"
 refine ⟨rfl, W.spCons ?_⟩
 refine W.comp (n := evs.length) (P := fun i v => evs[i]? = some v) (need := [(ea, Ls evs)])
  (fun i ys l => ∃ kvs, KnOk ch text kvs ∧ kvs.length ≤ kvs0.length + i ∧ ys = ((ends.take i).map fun e => ellB text e).map Value.bool ∧ l = ((ka, Dk c kvs) :: ([(L, NP ["signs", "ends", "book", "row", "words", "ways", "k", "sign", "told"] [some (.str (enc ch [false, true]) ts), some (.ref ea), some (.ref x), none, none, none, none, none, none]), (a1, Ce none), (a2, Ce (some (.ref ka))), (a3, Ce (some (.str (enc ch text) tt))), (ea, Ls evs)] ++ bookLed x dx ha []))) r.hh
  (by exact rfl) (by decide) rfl (by decide) rfl (by show _ ≤ 16777216; (clear has hz4 hz1 hc2 hc1 hch; omega)) ?_ ?_ ?_ ?_
 ·walk_at "nm"
  exact ⟨Itr.ls (by walk_at "mem"), kvs0, hk, by (clear hel has hz4 hz2 hz1 hc2 hc1 hch; omega), rfl, rfl⟩
 ·walk_at "E3"; generalize (z3 _ _).1 = i; generalize (z3 _ _).2.1 = ys; generalize (z3 _ _).2.2 = l
  walk_at "Y1"; generalize z1 _ _ = kvs
  refine A4 ?_
  intro _ _ _ zy4
  subst zy4
  walk_at "E1"; generalize z1 _ _ = p
  intro hp
  simp at hp; subst hp; simp
 ·walk_at "E5"; generalize (z5 _ _).1 = C; generalize (z5 _ _).2.1 = i; generalize (z5 _ _).2.2.1 = v; generalize (z5 _ _).2.2.2.1 = ys; generalize (z5 _ _).2.2.2.2 = l
  intro hi hv
  walk_at "Y1"; generalize z1 _ _ = kvs
  refine A4 ?_
  intro hk' hkl zy5 zy6
  subst zy5
  subst zy6
  intro hlen
  refine O1 ?_ (hE.at hv)
  walk_at "Y2"; generalize (z2 _ _).1 = e; generalize (z2 _ _).2 = te
  refine A2 ?_
  intro hei zy7
  subst zy7
  have hez := hz3 e (List.mem_of_getElem? hei)
  refine W.testsNil ?_
  rw [if_pos rfl]
  refine W.closeP (W.callK T (fv := .ref 237) (by k_is) ?_)
  simp only [List.cons_append, List.nil_append]
  walk_at "gl"
  refine ⟨rfl, W.spCons ?_⟩
  walk_at "ce"
  refine W.spCons ?_
  walk_at "nm"
  refine W.spCons ?_
  walk_at "ce"
  refine W.spNil ?_
  refine W.use (ask_ok (text := text) (word := e) (kvs := kvs) T he (r.deeper.less (by (clear hez hv hei hlen hkl hi hel has hz4 hz2 hz1 hc2 hc1 hch; omega))) hch (by (clear hez hv hei hlen hkl hi hel has hz4 hz2 hc2 hc1 hch; omega)) (by (clear hv hei hlen hkl hi hel has hz4 hz2 hz1 hc2 hc1 hch; omega)) (by (clear hez hv hei hlen has hz1 hc2 hc1 hch; omega)) hk') (.cons (.tail .head) .nil) ?_
  walk_at "E2"; generalize (z2 _ _).1 = v; generalize (z2 _ _).2 = l'
  walk_at "Y1"; generalize z1 _ _ = kvs2
  refine A4 ?_
  intro zy8 hk2 hl2 zy9
  subst zy8
  subst zy9
  refine I2 ((C, NP ["one"] [some (.str (enc ch e) te)]) :: ((ka, Dk c kvs2) :: ([(L, NP ["signs", "ends", "book", "row", "words", "ways", "k", "sign", "told"] [some (.str (enc ch [false, true]) ts), some (.ref ea), some (.ref x), none, none, none, none, none, none]), (a1, Ce none), (a2, Ce (some (.ref ka))), (a3, Ce (some (.str (enc ch text) tt))), (ea, Ls evs)] ++ bookLed x dx ha []))) ([]) ⟨?_, (I2 _ _ ⟨rfl, kvs2, hk2, by (clear hez hv hei hlen hi hel has hz4 hz2 hz1 hc2 hc1 hch; omega), ?_, rfl⟩)⟩
  ·rw [List.append_nil]; exact List.Perm.swap _ _ _
  ·rw [List.take_add_one, hei, List.map_append, List.map_append]; rfl
 ·walk_at "E3"; generalize (z3 _ _).1 = D; generalize (z3 _ _).2.1 = ys; generalize (z3 _ _).2.2 = l
  walk_at "Y1"; generalize z1 _ _ = kvs
  refine A4 ?_
  intro hk' hkl zy10 zy11
  subst zy10
  subst zy11
  intro hlen
  rw [hel, List.take_length]
  refine W.spCons (W.kStr ?_)
  intro t1
  refine W.spNil ?_
  refine W.use (spelled_ok (ch := ch) (word := []) (as := ends.map fun e => ellB text e) (u := t1) T (r.deeper.less (by (clear hlen hkl hel has hz4 hz2 hz1 hc2 hc1 hch; omega))) (by simp) (by rw [List.length_map]; (clear hlen hkl hel has hz4 hz1 hc2 hc1 hch; omega))) (.cons .head .nil) ?_
  walk_at "E2"; generalize (z2 _ _).1 = v; generalize (z2 _ _).2 = l'
  walk_at "Y1"; generalize z1 _ _ = t2
  refine A2 ?_
  intro zy12 zy13
  subst zy12
  subst zy13
  simp only [List.cons_append, List.nil_append]
  walk_at "st"
  refine ⟨by first | rfl | trivial, W.step (W.set (W.mkList (W.spCons ?_)))⟩
  refine W.methOwn (x := x) (dx := dx) (C := 190) (f := 180) (attr := "_headers") (av := .ref ha) T (by k_is) (by k_is) (by k_is) (by decide +kernel) (by k_is) (by exact rfl) ?_ (by exact rfl) (by exact rfl) _ (by exact rfl)
  walk_at "nm"
  refine ⟨rfl, by unfold bookLed; simp, by unfold bookLed; simp, W.spCons ?_⟩
  walk_at "nm"
  refine W.spCons (W.kStr ?_)
  intro t3
  refine W.spNil (W.evNil ?_)
  generalize hrow : (ends.map fun e => ellB text e) = row0
  have hrz : row0.length ≤ 40 := by rw [← hrow, List.length_map]; exact hz2
  refine W.use (t0 := bookLed x dx ha []) (set_ok (ch := ch) (b := []) (w := []) (as := row0) (t := t2) (u := t3) T (r.deeper.less (by (clear hrz hlen hkl hel has hz4 hz2 hz1 hc2 hc1 hch; omega))) hc1 hc2 ⟨rfl, by simp⟩ (by simp) (by (clear hlen hkl hel has hz4 hz2 hz1 hc2 hc1 hch; omega)) (by simp) (by simp)) (Take.suffix [(D, Ls (row0.map Value.bool)), (ka, Dk c kvs), (L, NP ["signs", "ends", "book", "row", "words", "ways", "k", "sign", "told"] [some (.str (enc ch [false, true]) ts), some (.ref ea), some (.ref x), some (.str (rw' (([] : Wd).length % 2 == 1) row0) t2), none, none, none, none, none]), (a1, Ce none), (a2, Ce (some (.ref ka))), (a3, Ce (some (.str (enc ch text) tt))), (ea, Ls evs)] _) ?_
  walk_at "E2"; generalize (z2 _ _).1 = v; generalize (z2 _ _).2 = l'
  walk_at "Y2"; generalize (z2 _ _).1 = rows; generalize (z2 _ _).2 = t4
  refine A3 ?_
  intro zy14 hB zy15
  subst zy14
  subst zy15
  refine W.spNil ⟨by show 1 ≤ 16777216; (clear hrz hlen hkl hel has hz4 hz2 hz1 hc2 hc1 hch; omega), ?_⟩
  walk_at "E1"; generalize z1 _ _ = wd
  refine W.perm (l' := (wd, Ls [.str (enc ch []) t4]) :: ([(D, Ls (row0.map Value.bool)), (ka, Dk c kvs), (L, NP ["signs", "ends", "book", "row", "words", "ways", "k", "sign", "told"] [some (.str (enc ch [false, true]) ts), some (.ref ea), some (.ref x), some (.str (rw' (([] : Wd).length % 2 == 1) row0) t2), none, none, none, none, none]), (a1, Ce none), (a2, Ce (some (.ref ka))), (a3, Ce (some (.str (enc ch text) tt))), (ea, Ls evs)] ++ bookLed x dx ha rows)) ?_ (.cons _ List.perm_append_comm)
  simp only [List.cons_append, List.nil_append]
  walk_at "st"
  refine ⟨by first | rfl | trivial, W.step (W.set (W.mkList (W.spNil ⟨by walk_at "sz", ?_⟩)))⟩
  walk_at "E1"; generalize z1 _ _ = yd
  walk_at "st"
  refine ⟨by first | rfl | trivial, W.step (W.set (W.kInt ?_))⟩
  intro t5
  walk_at "st"
  refine ⟨by first | rfl | trivial, ?_⟩
  refine W.sub (l' := [(ka, Dk c kvs), (yd, Ls []), (wd, Ls [.str (enc ch []) t4]), (L, NP ["signs", "ends", "book", "row", "words", "ways", "k", "sign", "told"] [some (.str (enc ch [false, true]) ts), some (.ref ea), some (.ref x), some (.str (rw' (([] : Wd).length % 2 == 1) row0) t2), some (.ref wd), some (.ref yd), some (.int (0 : Nat) t5), none, none]), (a1, Ce none), (a2, Ce (some (.ref ka))), (a3, Ce (some (.str (enc ch text) tt))), (ea, Ls evs)] ++ bookLed x dx ha rows) ?_ (Take.app (X := [(yd, Ls []), (wd, Ls [.str (enc ch []) t4]), (D, Ls (row0.map Value.bool)), (ka, Dk c kvs), (L, NP ["signs", "ends", "book", "row", "words", "ways", "k", "sign", "told"] [some (.str (enc ch [false, true]) ts), some (.ref ea), some (.ref x), some (.str (rw' (([] : Wd).length % 2 == 1) row0) t2), some (.ref wd), some (.ref yd), some (.int (0 : Nat) t5), none, none]), (a1, Ce none), (a2, Ce (some (.ref ka))), (a3, Ce (some (.str (enc ch text) tt))), (ea, Ls evs)]) _ (by walk_at "take"))
  refine W.cut (fun l => ∃ rows kvs yvs wvs rv cv kv sv tv, BookIs ch rows (tableB text ends).book ∧ (tableB text ends).book.length ≤ 19 ∧ TxtAre ch wvs (tableB text ends).words ∧ NatsAre yvs (tableB text ends).ways ∧ KnOk ch text kvs ∧ kvs.length ≤ kvs0.length + 760 ∧ l = [(ka, Dk c kvs), (yd, Ls yvs), (wd, Ls wvs), (L, NP ["signs", "ends", "book", "row", "words", "ways", "k", "sign", "told"] [some (.str (enc ch [false, true]) ts), some (.ref ea), some (.ref x), rv, some (.ref wd), some (.ref yd), kv, sv, tv]), (a1, Ce cv), (a2, Ce (some (.ref ka))), (a3, Ce (some (.str (enc ch text) tt))), (ea, Ls evs)] ++ bookLed x dx ha rows)
   (W.while (fun n l => ∃ k st rows kvs yvs wvs rv cv tk sv tv, tabRun text ends n k st = tableB text ends ∧ k + n = 9 ∧ BookIs ch rows st.book ∧ (∀ p ∈ st.book, p.1.length ≤ 40 ∧ p.2.length + n ≤ 9) ∧ (∀ w ∈ st.words, w.length + n ≤ 9) ∧ TxtAre ch wvs st.words ∧ NatsAre yvs st.ways ∧ st.words.length ≤ 1 + 2 * k ∧ st.ways.length ≤ 2 * k ∧ st.book.length ≤ 1 + 2 * k ∧ KnOk ch text kvs ∧ kvs.length ≤ kvs0.length + ends.length * (1 + 2 * k) ∧ l = [(ka, Dk c kvs), (yd, Ls yvs), (wd, Ls wvs), (L, NP ["signs", "ends", "book", "row", "words", "ways", "k", "sign", "told"] [some (.str (enc ch [false, true]) ts), some (.ref ea), some (.ref x), rv, some (.ref wd), some (.ref yd), some (.int (k : Nat) tk), sv, tv]), (a1, Ce cv), (a2, Ce (some (.ref ka))), (a3, Ce (some (.str (enc ch text) tt))), (ea, Ls evs)] ++ bookLed x dx ha rows) 9
    ⟨0, ⟨[(row0, [])], [[]], []⟩, rows, kvs, [], [.str (enc ch []) t4], _, none, t5, none, none, by rw [← hrow]; rfl, by decide, hB, by intro p hp; simp at hp; subst hp; exact ⟨hrz, by simp⟩, by simp, TxtAre.snoc TxtAre.nil, NatsAre.nil, by simp, by simp, by simp, hk', by (clear hrz hlen has hz4 hz2 hz1 hc2 hc1 hch; omega), rfl⟩ r.hh ?turn) ?rest
  case turn =>
   walk_at "E2"; generalize (z2 _ _).1 = n; generalize (z2 _ _).2 = l
   refine' @Y11 _ _ _ _ _ _ _ _ _ _ _ _ _ (by walk_at "ne") ?_; generalize (z11 _ _).1 = k; generalize (z11 _ _).2.1 = st; generalize (z11 _ _).2.2.1 = rows; generalize (z11 _ _).2.2.2.1 = kvs; generalize (z11 _ _).2.2.2.2.1 = yvs; generalize (z11 _ _).2.2.2.2.2.1 = wvs; generalize (z11 _ _).2.2.2.2.2.2.1 = rv; generalize (z11 _ _).2.2.2.2.2.2.2.1 = cv; generalize (z11 _ _).2.2.2.2.2.2.2.2.1 = tk; generalize (z11 _ _).2.2.2.2.2.2.2.2.2.1 = sv; generalize (z11 _ _).2.2.2.2.2.2.2.2.2.2 = tv
   refine A13 ?_
   intro hrun hkn hB hbl hwl hW hY hwz hyz hbz hK hkz zy16
   subst zy16
   have hwvz := hW.1
   simp only [List.cons_append, List.nil_append]
   refine W.testBool (W.known (a := decide (k < st.words.length) && decide (k < 9)) (W.andCons (W.testCompare ?_)) ?_)
   ·walk_at "nm"
    refine W.callB (id := "len") ?_
    walk_at "b_len"
    refine ⟨rfl, W.spCons ?_⟩
    walk_at "nm"
    refine W.spNil (W.len' (by walk_at "mem") (by show _ ≤ 16777216; (clear hkz hbz hyz hrz hlen hkl hel has hz4 hz2 hz1 hc2 hc1 hch; omega)) ?_)
    intro _
    refine W.ilt (W.truthyBool ?_)
    rw [hwvz]
    by_cases hlt : k < st.words.length
    ·rw [show decide ((k : Int) < (st.words.length : Int)) = true from decide_eq_true (by (clear hwvz hkz hbz hyz hwz hkn hrz hlen hkl hel has hz4 hz2 hz1 hc2 hc1 hch; omega)), show decide (k < st.words.length) = true from decide_eq_true hlt]
     simp only [if_true, Bool.true_and]
     refine W.andCons (W.testCompare ?_)
     walk_at "nm"
     refine W.kInt ?_
     intro _
     refine W.ilt (W.truthyBool ?_)
     by_cases h9 : k < 9
     ·rw [show decide ((k : Int) < (9 : Int)) = true from decide_eq_true (by (clear hlt hwvz hkz hbz hyz hwz hkn hrz hlen hkl hel has hz4 hz2 hz1 hc2 hc1 hch; omega)), show decide (k < 9) = true from decide_eq_true h9]
      simp only [if_true]
      exact W.andNil ⟨rfl, rfl⟩
     ·rw [show decide ((k : Int) < (9 : Int)) = false from decide_eq_false (by (clear hlt hwvz hkz hbz hyz hwz hkn hrz hlen hkl hel has hz4 hz2 hz1 hc2 hc1 hch; omega)), show decide (k < 9) = false from decide_eq_false h9]
      simp only [Bool.false_eq_true, if_false]
      exact ⟨trivial, trivial⟩
    ·rw [show decide ((k : Int) < (st.words.length : Int)) = false from decide_eq_false (by (clear hwvz hkz hbz hyz hwz hkn hrz hlen hkl hel has hz4 hz2 hz1 hc2 hc1 hch; omega)), show decide (k < st.words.length) = false from decide_eq_false hlt]
     simp only [Bool.false_eq_true, if_false, Bool.false_and]
     exact ⟨trivial, trivial⟩
   have hez40 : ends.length * (1 + 2 * k) ≤ 40 * 19 := Nat.mul_le_mul hz2 (by (clear hwvz hkz hbz hyz hwz hrz hlen hkl hel has hz4 hz2 hz1 hc2 hc1 hch; omega))
   cases hq : (decide (k < st.words.length) && decide (k < 9))
   ·simp only [Bool.false_eq_true, if_false]
    have hend : st = tableB text ends := by
     refine NCz n ?_ ?_
     ·intro ze1a
      subst ze1a
      exact hrun
     ·walk_at "E1"; generalize z1 _ _ = n
      intro ze1b
      subst ze1b
      unfold tabRun at hrun
      have : ¬ (k < st.words.length) := by
       simp only [Bool.and_eq_false_iff, decide_eq_false_iff_not] at hq
       rcases hq with hq | hq <;> (clear hrun hez40 hwvz hkz hbz hyz hwz hrz hlen hkl hel has hz4 hz2 hz1 hc2 hc1 hch; omega)
      rw [if_neg this] at hrun
      exact hrun
    subst hend
    exact I9 rows kvs yvs wvs rv cv _ sv tv ⟨hB, by (clear hq hwvz hyz hwz hez40 hkz hrz hlen hkl hel has hz4 hz2 hz1 hc2 hc1 hch; omega), hW, hY, hK, by (clear hq hwvz hbz hyz hwz hkn hrz hlen hkl hel has hz4 hz2 hz1 hc2 hc1 hch; omega), rfl⟩
   ·simp only [if_true]
    simp only [Bool.and_eq_true, decide_eq_true_eq] at hq
    obtain ⟨hlt, h9⟩ := hq
    refine NCz n ?_ ?_
    ·intro ze2a
     subst ze2a
     (clear hrun hlt hez40 hwvz hkz hbz hyz hwz hrz hlen hkl hel has hz4 hz2 hz1 hc2 hc1 hch; omega)
    ·walk_at "E1"; generalize z1 _ _ = n
     intro ze2b
     subst ze2b
     unfold tabRun at hrun
     rw [if_pos hlt] at hrun
     refine W.cut (fun l => ∃ st' rows kvs yvs wvs rv cv sv tv, st' = tabTurn text ends k st ∧ BookIs ch rows st'.book ∧ (∀ p ∈ st'.book, p.1.length ≤ 40 ∧ p.2.length + n ≤ 9) ∧ (∀ w ∈ st'.words, w.length + n ≤ 9) ∧ TxtAre ch wvs st'.words ∧ NatsAre yvs st'.ways ∧ st'.words.length ≤ 3 + 2 * k ∧ st'.ways.length ≤ 2 + 2 * k ∧ st'.book.length ≤ 3 + 2 * k ∧ KnOk ch text kvs ∧ kvs.length ≤ kvs0.length + ends.length * (3 + 2 * k) ∧ l = [(ka, Dk c kvs), (yd, Ls yvs), (wd, Ls wvs), (L, NP ["signs", "ends", "book", "row", "words", "ways", "k", "sign", "told"] [some (.str (enc ch [false, true]) ts), some (.ref ea), some (.ref x), rv, some (.ref wd), some (.ref yd), some (.int (k : Nat) tk), sv, tv]), (a1, Ce cv), (a2, Ce (some (.ref ka))), (a3, Ce (some (.str (enc ch text) tt))), (ea, Ls evs)] ++ bookLed x dx ha rows)
      (W.for (n := 2) (P := fun i v => ∃ b u, ([false, true] : Wd)[i]? = some b ∧ v = .str (enc ch [b]) u) (need := [])
      (fun i l => ∃ st' rows kvs yvs wvs rv cv sv tv, st' = (([false, true] : Wd).take i).foldl (tabSign text ends k) st ∧ k < st'.words.length ∧ (st'.words.getD k []).length + n + 1 ≤ 9 ∧ BookIs ch rows st'.book ∧ (∀ p ∈ st'.book, p.1.length ≤ 40 ∧ p.2.length + n ≤ 9) ∧ (∀ w ∈ st'.words, w.length + n ≤ 9) ∧ TxtAre ch wvs st'.words ∧ NatsAre yvs st'.ways ∧ st'.words.length ≤ 1 + 2 * k + i ∧ st'.ways.length ≤ 2 * k + i ∧ st'.book.length ≤ 1 + 2 * k + i ∧ KnOk ch text kvs ∧ kvs.length ≤ kvs0.length + ends.length * (1 + 2 * k + i) ∧ l = [(ka, Dk c kvs), (yd, Ls yvs), (wd, Ls wvs), (L, NP ["signs", "ends", "book", "row", "words", "ways", "k", "sign", "told"] [some (.str (enc ch [false, true]) ts), some (.ref ea), some (.ref x), rv, some (.ref wd), some (.ref yd), some (.int (k : Nat) tk), sv, tv]), (a1, Ce cv), (a2, Ce (some (.ref ka))), (a3, Ce (some (.str (enc ch text) tt))), (ea, Ls evs)] ++ bookLed x dx ha rows) r.hh ?_ ?_ ?_ ?_) ?_
     ·walk_at "nm"
      refine ⟨Itr.enc, st, rows, kvs, yvs, wvs, rv, cv, sv, tv, rfl, hlt, ?_, hB, fun p hp => ⟨(hbl p hp).1, by have := (hbl p hp).2; (clear hrun hkn h9 hlt hez40 hwvz hkz hbz hyz hwz hrz hlen hkl hel has hz4 hz2 hz1 hc2 hc1 hch; omega)⟩, fun w hw => by have := hwl w hw; (clear hrun hkn h9 hlt hez40 hwvz hkz hbz hyz hwz hrz hlen hkl hel has hz4 hz2 hz1 hc2 hc1 hch; omega), hW, hY, by (clear hrun hkn h9 hlt hez40 hwvz hkz hbz hyz hrz hlen hkl hel has hz4 hz2 hz1 hc2 hc1 hch; omega), by (clear hrun hkn h9 hlt hez40 hwvz hkz hbz hwz hrz hlen hkl hel has hz4 hz2 hz1 hc2 hc1 hch; omega), by (clear hrun hkn h9 hlt hez40 hwvz hkz hyz hwz hrz hlen hkl hel has hz4 hz2 hz1 hc2 hc1 hch; omega), hK, by simpa using hkz, rfl⟩
      rw [List.getD_eq_getElem?_getD, List.getElem?_eq_getElem hlt]
      have := hwl _ (List.getElem_mem hlt)
      simp only [Option.getD_some]
      (clear hrun hkn h9 hez40 hwvz hkz hbz hyz hwz hrz hlen hkl hel has hz4 hz2 hz1 hc2 hc1 hch; omega)
     ·walk_at "E2"; generalize (z2 _ _).1 = zu114; generalize (z2 _ _).2 = zu115
      intro _
      walk_at "E1"; generalize z1 _ _ = zu117
      intro h
      cases h
     ·walk_at "E3"; generalize (z3 _ _).1 = i; generalize (z3 _ _).2.1 = v; generalize (z3 _ _).2.2 = l
      intro hi
      walk_at "Y2"; generalize (z2 _ _).1 = b; generalize (z2 _ _).2 = ub
      refine A2 ?_
      intro hb' zy17
      subst zy17
      refine' @Y9 _ _ _ _ _ _ _ _ _ _ _ (by walk_at "ne") ?_; generalize (z9 _ _).1 = st'; generalize (z9 _ _).2.1 = rows; generalize (z9 _ _).2.2.1 = kvs; generalize (z9 _ _).2.2.2.1 = yvs; generalize (z9 _ _).2.2.2.2.1 = wvs; generalize (z9 _ _).2.2.2.2.2.1 = rv; generalize (z9 _ _).2.2.2.2.2.2.1 = cv; generalize (z9 _ _).2.2.2.2.2.2.2.1 = sv; generalize (z9 _ _).2.2.2.2.2.2.2.2 = tv
      refine A14 ?_
      intro hst hk3 hwk hB hbl3 hwl3 hW hY hwz3 hyz3 hbz3 hK hkz3 zy18
      subst zy18
      have hst2 : (([false, true] : Wd).take (i + 1)).foldl (tabSign text ends k) st = tabSign text ends k st' b := by
       rw [fold_takeT _ _ _ hb', ← hst]
      rw [hst2]
      clear hst hst2
      have hi2 : i ≤ 1 := by
       have : i < 2 := hi
       (clear this hkz3 hbz3 hyz3 hwz3 hwk hk3 hb' hrun hkn h9 hlt hez40 hwvz hkz hbz hyz hwz hrz hlen hkl hel has hz4 hz2 hz1 hc2 hc1 hch; omega)
      have hwvz := hW.1
      have hyvz := hY.1
      have hgd : st'.words[k]? = some (st'.words.getD k []) := by rw [List.getD_eq_getElem?_getD, List.getElem?_eq_getElem hk3]; rfl
      refine O1 ?_ (hW.2 k _ hgd)
      walk_at "Y1"; generalize z1 _ _ = t7
      intro hwx
      have hts : tabSign text ends k st' b = ⟨(setB st'.book (ends.map fun e => ellB text ((st'.words.getD k [] ++ [b]) ++ e)) (st'.words.getD k [] ++ [b])).1,
       (if st'.words.contains (setB st'.book (ends.map fun e => ellB text ((st'.words.getD k [] ++ [b]) ++ e)) (st'.words.getD k [] ++ [b])).2 then st'.words else st'.words ++ [(setB st'.book (ends.map fun e => ellB text ((st'.words.getD k [] ++ [b]) ++ e)) (st'.words.getD k [] ++ [b])).2]),
       st'.ways ++ [idx (if st'.words.contains (setB st'.book (ends.map fun e => ellB text ((st'.words.getD k [] ++ [b]) ++ e)) (st'.words.getD k [] ++ [b])).2 then st'.words else st'.words ++ [(setB st'.book (ends.map fun e => ellB text ((st'.words.getD k [] ++ [b]) ++ e)) (st'.words.getD k [] ++ [b])).2]) (setB st'.book (ends.map fun e => ellB text ((st'.words.getD k [] ++ [b]) ++ e)) (st'.words.getD k [] ++ [b])).2]⟩ := rfl
      rw [hts]
      clear hts
      simp only [List.cons_append, List.nil_append]
      refine W.asName ?_
      walk_at "st"
      refine W.step (W.set (W.binop (W.subs slot_list_getitem.lookup ?_)))
      walk_at "nm"
      walk_at "nm"
      refine ⟨Ty.ls (by walk_at "mem"), W.lsItem (by walk_at "mem") (by (clear hwx hgd hyvz hwvz hi2 hkz3 hbz3 hyz3 hwz3 hwk hk3 hb' hi hrun hkn h9 hlt hez40 hkz hbz hyz hwz hrz hlen hkl hel has hz4 hz2 hz1 hc2 hc1 hch; omega)) (by rw [Int.toNat_natCast]; exact hwx) (by show _ ≤ 16777216; (clear hwx hgd hyvz hi2 hkz3 hbz3 hyz3 hwk hk3 hb' hrun hkn hlt hez40 hkz hbz hyz hwz hrz hlen hkl hel has hz4 hz2 hz1 hc2 hc1 hch; omega)) ?_⟩
      walk_at "nm"
      refine W.sadd (by rw [enc_len, enc_len]; show _ ≤ 16777216; simp only [List.length_cons, List.length_nil]; (clear hwx hgd hyvz hwvz hi2 hkz3 hbz3 hyz3 hwz3 hk3 hb' hi hrun hkn h9 hlt hez40 hkz hbz hyz hwz hrz hlen hkl hel has hz4 hz2 hz1 hc2 hc1 hch; omega)) ?_
      walk_at "E1"; generalize z1 _ _ = t8
      rw [← enc_app]
      have hwk' : (st'.words.getD k [] ++ [b]).length + n ≤ 9 := by simp at hwk ⊢; (clear hwx hgd hyvz hwvz hi2 hkz3 hbz3 hyz3 hwz3 hk3 hb' hi hrun hkn h9 hlt hez40 hkz hbz hyz hwz hrz hlen hkl hel has hz4 hz2 hz1 hc2 hc1 hch; omega)
      have hgdk : (st'.words.getD k []).length + n + 1 ≤ 9 := hwk
      generalize hw0 : st'.words.getD k [] ++ [b] = w at hwk' ⊢
      walk_at "sc"
      refine ⟨by first | rfl | trivial, W.step (W.set (W.callK T (fv := .ref 256) (by k_is) ?_))⟩
      walk_at "gl"
      refine ⟨rfl, W.spCons ?_⟩
      have hez2 : ends.length * (1 + 2 * k + i) ≤ 40 * 18 := Nat.mul_le_mul hz2 (by (clear hwk' hgdk hwx hgd hyvz hwvz hi2 hkz3 hbz3 hyz3 hwz3 hwk hk3 hb' hrun hkn hlt hez40 hkz hbz hyz hwz hrz hlen hkl hel has hz4 hz2 hz1 hc2 hc1 hch; omega))
      refine W.comp (n := evs.length) (P := fun i v => evs[i]? = some v) (need := [(ea, Ls evs)])
       (fun i ys l => ∃ kvs', KnOk ch text kvs' ∧ kvs'.length ≤ kvs.length + i ∧ ys = ((ends.take i).map fun e => ellB text (w ++ e)).map Value.bool ∧ l = [(ka, Dk c kvs'), (yd, Ls yvs), (wd, Ls wvs), (L, NP ["signs", "ends", "book", "row", "words", "ways", "k", "sign", "told"] [some (.str (enc ch [false, true]) ts), some (.ref ea), some (.ref x), rv, some (.ref wd), some (.ref yd), some (.int (k : Nat) tk), some (.str (enc ch [b]) ub), tv]), (a1, Ce (some (.str (enc ch w) t8))), (a2, Ce (some (.ref ka))), (a3, Ce (some (.str (enc ch text) tt))), (ea, Ls evs)] ++ bookLed x dx ha rows) r.hh
       (by exact rfl) (by decide) rfl (by decide) rfl (by show _ ≤ 16777216; (clear hez2 hwk' hgdk hwx hgd hyvz hwvz hi2 hkz3 hbz3 hyz3 hwz3 hwk hk3 hb' hi hrun hkn h9 hlt hez40 hkz hbz hyz hwz hrz hlen hkl has hz4 hz1 hc2 hc1 hch; omega)) ?_ ?_ ?_ ?_
      ·walk_at "nm"
       exact ⟨Itr.ls (by walk_at "mem"), kvs, hK, by (clear hez2 hwk' hgdk hwx hgd hyvz hwvz hi2 hkz3 hbz3 hyz3 hwz3 hwk hk3 hb' hi hrun hkn h9 hlt hez40 hkz hbz hyz hwz hrz hlen hkl hel has hz4 hz2 hz1 hc2 hc1 hch; omega), rfl, rfl⟩
      ·walk_at "E3"; generalize (z3 _ _).1 = i; generalize (z3 _ _).2.1 = ys; generalize (z3 _ _).2.2 = l
       walk_at "Y1"; generalize z1 _ _ = kvs
       refine A4 ?_
       intro _ _ _ zy19
       subst zy19
       walk_at "E1"; generalize z1 _ _ = p
       intro hp
       simp at hp; subst hp; simp
      ·walk_at "E5"; generalize (z5 _ _).1 = C; generalize (z5 _ _).2.1 = i; generalize (z5 _ _).2.2.1 = v; generalize (z5 _ _).2.2.2.1 = ys; generalize (z5 _ _).2.2.2.2 = l
       intro hi' hv
       walk_at "Y1"; generalize z1 _ _ = kvs'
       refine A4 ?_
       intro hk' hkl zy20 zy21
       subst zy20
       subst zy21
       intro hlen
       refine O1 ?_ (hE.at hv)
       walk_at "Y2"; generalize (z2 _ _).1 = e; generalize (z2 _ _).2 = te
       refine A2 ?_
       intro hei zy22
       subst zy22
       have hez := hz3 e (List.mem_of_getElem? hei)
       refine W.testsNil ?_
       rw [if_pos rfl]
       refine W.closeP (W.callK T (fv := .ref 237) (by k_is) ?_)
       simp only [List.cons_append, List.nil_append]
       walk_at "gl"
       refine ⟨rfl, W.spCons ?_⟩
       walk_at "ce"
       refine W.spCons (W.binop ?_)
       walk_at "ce"
       walk_at "nm"
       refine W.sadd (by rw [enc_len, enc_len]; show _ ≤ 16777216; (clear hv hei hlen hkl hi' hez2 hgdk hwx hgd hyvz hwvz hi2 hkz3 hbz3 hyz3 hwz3 hwk hk3 hb' hi hrun hkn h9 hlt hez40 hkz hbz hyz hwz hrz hel has hz4 hz2 hz1 hc2 hc1 hch; omega)) ?_
       intro t9
       refine W.spCons ?_
       rw [← enc_app]
       walk_at "ce"
       refine W.spNil ?_
       refine W.use (ask_ok (text := text) (word := w ++ e) (kvs := kvs') T he (r.deeper.less (by (clear hez hv hei hlen hkl hi' hez2 hwk' hgdk hwx hgd hyvz hwvz hi2 hkz3 hbz3 hyz3 hwz3 hwk hk3 hb' hi hrun hkn h9 hlt hez40 hkz hbz hyz hwz hrz hel has hz4 hz2 hz1 hc2 hc1 hch; omega))) hch (by (clear hez hv hei hlen hkl hi' hez2 hwk' hgdk hwx hgd hyvz hwvz hi2 hkz3 hbz3 hyz3 hwz3 hwk hk3 hb' hi hrun hkn h9 hlt hez40 hkz hbz hyz hwz hrz hel has hz4 hz2 hc2 hc1 hch; omega)) (by rw [List.length_append]; (clear hv hei hlen hkl hi' hez2 hgdk hwx hgd hyvz hwvz hi2 hkz3 hbz3 hyz3 hwz3 hwk hk3 hb' hi hrun hkn h9 hlt hez40 hkz hbz hyz hwz hrz hel has hz4 hz2 hz1 hc2 hc1 hch; omega)) (by (clear hez hv hei hlen hwk' hgdk hwx hgd hyvz hwvz hi2 hbz3 hyz3 hwz3 hwk hk3 hb' hi hrun hkn h9 hlt hez40 hkz hbz hyz hwz hrz has hz1 hc2 hc1 hch; omega)) hk') (.cons (.tail .head) .nil) ?_
       walk_at "E2"; generalize (z2 _ _).1 = v; generalize (z2 _ _).2 = l'
       walk_at "Y1"; generalize z1 _ _ = kvs2
       refine A4 ?_
       intro zy23 hk2 hl2 zy24
       subst zy23
       subst zy24
       refine I2 ((C, NP ["one"] [some (.str (enc ch e) te)]) :: ([(ka, Dk c kvs2), (yd, Ls yvs), (wd, Ls wvs), (L, NP ["signs", "ends", "book", "row", "words", "ways", "k", "sign", "told"] [some (.str (enc ch [false, true]) ts), some (.ref ea), some (.ref x), rv, some (.ref wd), some (.ref yd), some (.int (k : Nat) tk), some (.str (enc ch [b]) ub), tv]), (a1, Ce (some (.str (enc ch w) t8))), (a2, Ce (some (.ref ka))), (a3, Ce (some (.str (enc ch text) tt))), (ea, Ls evs)] ++ bookLed x dx ha rows)) ([]) ⟨?_, (I2 _ _ ⟨rfl, kvs2, hk2, by (clear hez hv hei hlen hi' hez2 hwk' hgdk hwx hgd hyvz hwvz hi2 hkz3 hbz3 hyz3 hwz3 hwk hk3 hb' hi hrun hkn h9 hlt hez40 hkz hbz hyz hwz hrz hel has hz4 hz2 hz1 hc2 hc1 hch; omega), ?_, rfl⟩)⟩
       ·rw [List.append_nil]; exact List.Perm.swap _ _ _
       ·rw [List.take_add_one, hei, List.map_append, List.map_append]; rfl
      ·walk_at "E3"; generalize (z3 _ _).1 = D; generalize (z3 _ _).2.1 = ys; generalize (z3 _ _).2.2 = l
       walk_at "Y1"; generalize z1 _ _ = kvs'
       refine A4 ?_
       intro hk' hkl zy25 zy26
       subst zy25
       subst zy26
       intro hlen'
       rw [hel, List.take_length]
       simp only [List.cons_append, List.nil_append]
       refine W.spCons ?_
       walk_at "ce"
       refine W.spNil ?_
       generalize hrow2 : (ends.map fun e => ellB text (w ++ e)) = row2
       have hrz2 : row2.length ≤ 40 := by rw [← hrow2, List.length_map]; exact hz2
       refine W.use (spelled_ok (ch := ch) (word := w) (as := row2) T (r.deeper.less (by (clear hrz2 hlen' hkl hez2 hwk' hgdk hwx hgd hyvz hwvz hi2 hkz3 hbz3 hyz3 hwz3 hwk hk3 hb' hi hrun hkn h9 hlt hez40 hkz hbz hyz hwz hrz hlen hel has hz4 hz2 hz1 hc2 hc1 hch; omega))) (by (clear hrz2 hlen' hkl hez2 hgdk hwx hgd hyvz hwvz hi2 hkz3 hbz3 hyz3 hwz3 hwk hk3 hb' hi hrun hkn h9 hlt hez40 hkz hbz hyz hwz hrz hlen hel has hz4 hz2 hz1 hc2 hc1 hch; omega)) (by (clear hlen' hkl hez2 hwk' hgdk hwx hgd hyvz hwvz hi2 hkz3 hbz3 hyz3 hwz3 hwk hk3 hb' hi hrun hkn h9 hlt hez40 hkz hbz hyz hwz hrz hlen hel has hz4 hz2 hz1 hc2 hc1 hch; omega))) (.cons .head .nil) ?_
       walk_at "E2"; generalize (z2 _ _).1 = v; generalize (z2 _ _).2 = l'
       walk_at "Y1"; generalize z1 _ _ = t10
       refine A2 ?_
       intro zy27 zy28
       subst zy27
       subst zy28
       simp only [List.cons_append, List.nil_append]
       walk_at "st"
       refine ⟨by first | rfl | trivial, W.step (W.set ?_)⟩
       refine W.methOwn (x := x) (dx := dx) (C := 190) (f := 180) (attr := "_headers") (av := .ref ha) T (by k_is) (by k_is) (by k_is) (by decide +kernel) (by k_is) (by exact rfl) ?_ (by exact rfl) (by exact rfl) _ (by exact rfl)
       walk_at "nm"
       refine ⟨rfl, by unfold bookLed; simp, by unfold bookLed; simp, W.spCons ?_⟩
       walk_at "nm"
       refine W.spCons ?_
       walk_at "ce"
       refine W.spNil (W.evNil ?_)
       have hbz := hB.1
       refine W.use (t0 := bookLed x dx ha rows) (set_ok (ch := ch) (b := st'.book) (w := w) (as := row2) T (r.deeper.less (by (clear hbz hrz2 hlen' hkl hez2 hwk' hgdk hwx hgd hyvz hwvz hi2 hkz3 hbz3 hyz3 hwz3 hwk hk3 hb' hi hrun hkn h9 hlt hez40 hkz hyz hwz hrz hlen hel has hz4 hz2 hz1 hc2 hc1 hch; omega))) hc1 hc2 hB (by (clear hrz2 hlen' hkl hez2 hwk' hgdk hwx hgd hyvz hwvz hi2 hkz3 hyz3 hwz3 hwk hk3 hb' hrun hkn hlt hez40 hkz hyz hwz hrz hlen hel has hz4 hz2 hz1 hc2 hc1 hch; omega)) (by (clear hbz hlen' hkl hez2 hwk' hgdk hwx hgd hyvz hwvz hi2 hkz3 hbz3 hyz3 hwz3 hwk hk3 hb' hi hrun hkn h9 hlt hez40 hkz hyz hwz hrz hlen hel has hz4 hz2 hz1 hc2 hc1 hch; omega)) (fun p hp => by have := (hbl3 p hp).1; (clear hbz hrz2 hlen' hkl hez2 hwk' hgdk hwx hgd hyvz hwvz hi2 hkz3 hbz3 hyz3 hwz3 hwk hk3 hb' hi hrun hkn h9 hlt hez40 hkz hyz hwz hrz hlen hel has hz4 hz2 hz1 hc2 hc1 hch; omega)) (by (clear hbz hrz2 hlen' hkl hez2 hgdk hwx hgd hyvz hwvz hi2 hkz3 hbz3 hyz3 hwz3 hwk hk3 hb' hi hrun hkn h9 hlt hez40 hkz hyz hwz hrz hlen hel has hz4 hz2 hz1 hc2 hc1 hch; omega))) (Take.suffix ((D, Ls (row2.map Value.bool)) :: [(ka, Dk c kvs'), (yd, Ls yvs), (wd, Ls wvs), (L, NP ["signs", "ends", "book", "row", "words", "ways", "k", "sign", "told"] [some (.str (enc ch [false, true]) ts), some (.ref ea), some (.ref x), some (.str (rw' (w.length % 2 == 1) row2) t10), some (.ref wd), some (.ref yd), some (.int (k : Nat) tk), some (.str (enc ch [b]) ub), tv]), (a1, Ce (some (.str (enc ch w) t8))), (a2, Ce (some (.ref ka))), (a3, Ce (some (.str (enc ch text) tt))), (ea, Ls evs)]) _) ?_
       walk_at "E2"; generalize (z2 _ _).1 = v; generalize (z2 _ _).2 = l'
       walk_at "Y2"; generalize (z2 _ _).1 = rows'; generalize (z2 _ _).2 = t11
       refine A3 ?_
       intro zy29 hB' zy30
       subst zy29
       subst zy30
       refine W.perm (l' := ((D, Ls (row2.map Value.bool)) :: [(ka, Dk c kvs'), (yd, Ls yvs), (wd, Ls wvs), (L, NP ["signs", "ends", "book", "row", "words", "ways", "k", "sign", "told"] [some (.str (enc ch [false, true]) ts), some (.ref ea), some (.ref x), some (.str (rw' (w.length % 2 == 1) row2) t10), some (.ref wd), some (.ref yd), some (.int (k : Nat) tk), some (.str (enc ch [b]) ub), tv]), (a1, Ce (some (.str (enc ch w) t8))), (a2, Ce (some (.ref ka))), (a3, Ce (some (.str (enc ch text) tt))), (ea, Ls evs)]) ++ bookLed x dx ha rows') ?_ List.perm_append_comm
       simp only [List.cons_append, List.nil_append]
       walk_at "st"
       refine ⟨by first | rfl | trivial, ?_⟩
       have hset : (∀ p ∈ (setB st'.book row2 w).1, p.1.length ≤ 40 ∧ p.2.length + n ≤ 9) ∧ (setB st'.book row2 w).2.length + n ≤ 9 ∧ (setB st'.book row2 w).1.length ≤ st'.book.length + 1 := by
        unfold setB
        generalize hq : st'.book.find? (fun p => p.1 == row2) = zo3
        refine OCs zo3 ?_ ?_
        ·walk_at "E1"; generalize z1 _ _ = p
         intro ze3a
         subst ze3a
         exact ⟨hbl3, (hbl3 p (List.mem_of_find?_eq_some hq)).2, by simp⟩
        ·intro ze3b
         subst ze3b
         refine ⟨fun p hp => ?_, hwk', by simp⟩
         rcases List.mem_append.mp hp with hp | hp
         ·exact hbl3 p hp
         ·simp at hp; subst hp; exact ⟨hrz2, hwk'⟩
       generalize (setB st'.book row2 w).1 = book' at hB' hset ⊢
       generalize (setB st'.book row2 w).2 = told at hset ⊢
       obtain ⟨hs1, hs2, hs3⟩ := hset
       refine W.sub (l' := [(ka, Dk c kvs'), (yd, Ls yvs), (wd, Ls wvs), (L, NP ["signs", "ends", "book", "row", "words", "ways", "k", "sign", "told"] [some (.str (enc ch [false, true]) ts), some (.ref ea), some (.ref x), some (.str (rw' (w.length % 2 == 1) row2) t10), some (.ref wd), some (.ref yd), some (.int (k : Nat) tk), some (.str (enc ch [b]) ub), some (.str (enc ch told) t11)]), (a1, Ce (some (.str (enc ch w) t8))), (a2, Ce (some (.ref ka))), (a3, Ce (some (.str (enc ch text) tt))), (ea, Ls evs)] ++ bookLed x dx ha rows') ?_ (Take.app (X := (D, Ls (row2.map Value.bool)) :: [(ka, Dk c kvs'), (yd, Ls yvs), (wd, Ls wvs), (L, NP ["signs", "ends", "book", "row", "words", "ways", "k", "sign", "told"] [some (.str (enc ch [false, true]) ts), some (.ref ea), some (.ref x), some (.str (rw' (w.length % 2 == 1) row2) t10), some (.ref wd), some (.ref yd), some (.int (k : Nat) tk), some (.str (enc ch [b]) ub), some (.str (enc ch told) t11)]), (a1, Ce (some (.str (enc ch w) t8))), (a2, Ce (some (.ref ka))), (a3, Ce (some (.str (enc ch text) tt))), (ea, Ls evs)]) _ (.cons (.tail .head) (Take.suffix [_] _)))
       simp only [List.cons_append, List.nil_append]
       refine W.cut (fun l1 => ∃ wvs', TxtAre ch wvs' (if st'.words.contains told then st'.words else st'.words ++ [told]) ∧ l1 = [(ka, Dk c kvs'), (yd, Ls yvs), (wd, Ls wvs'), (L, NP ["signs", "ends", "book", "row", "words", "ways", "k", "sign", "told"] [some (.str (enc ch [false, true]) ts), some (.ref ea), some (.ref x), some (.str (rw' (w.length % 2 == 1) row2) t10), some (.ref wd), some (.ref yd), some (.int (k : Nat) tk), some (.str (enc ch [b]) ub), some (.str (enc ch told) t11)]), (a1, Ce (some (.str (enc ch w) t8))), (a2, Ce (some (.ref ka))), (a3, Ce (some (.str (enc ch text) tt))), (ea, Ls evs)] ++ bookLed x dx ha rows') (W.cond (W.testCompare ?_)) ?_
       ·walk_at "nm"
        walk_at "nm"
        refine W.notInLs (n := 1) (r.deeper.less (by (clear hs3 hs2 hbz hrz2 hlen' hkl hez2 hwk' hgdk hwx hgd hyvz hwvz hi2 hkz3 hbz3 hyz3 hwz3 hwk hk3 hb' hi hrun hkn h9 hlt hez40 hkz hyz hwz hrz hlen hel has hz4 hz2 hz1 hc2 hc1 hch; omega))) (by walk_at "mem") (eS (enc ch told)) hW.eqs (W.truthyBool ?_)
        rw [hW.any hch]
        cases hc : st'.words.contains told
        ·simp only [Bool.not_false, if_true, Bool.false_eq_true, if_false]
         refine W.cons (W.expr (W.meth F.plainAttrs_list slot_list_append F.type_list_append ?_))
         walk_at "nm"
         refine ⟨Ty.ls (by walk_at "mem"), W.spCons ?_⟩
         walk_at "nm"
         refine W.spNil (W.append (by walk_at "up") (by show _ ≤ 16777216; (clear hs3 hs2 hbz hrz2 hlen' hkl hez2 hwk' hgdk hwx hgd hyvz hi2 hkz3 hbz3 hyz3 hwk hk3 hb' hrun hkn hlt hez40 hkz hyz hwz hrz hlen hel has hz4 hz2 hz1 hc2 hc1 hch; omega)) (W.nil ?_))
         exact ⟨_, hW.snoc, rfl⟩
        ·simp only [Bool.not_true, Bool.false_eq_true, if_false, if_true]
         exact W.nil ⟨wvs, hW, rfl⟩
       ·walk_at "E1"; generalize z1 _ _ = l1
        walk_at "Y1"; generalize z1 _ _ = wvs'
        refine A2 ?_
        intro hW' zy31
        subst zy31
        have hcont : (if st'.words.contains told then st'.words else st'.words ++ [told]).contains told = true := by
         split
         ·assumption
         ·simp
        have hwz4 : (if st'.words.contains told then st'.words else st'.words ++ [told]).length ≤ st'.words.length + 1 ∧ k < (if st'.words.contains told then st'.words else st'.words ++ [told]).length := by
         split
         ·exact ⟨by (clear hs3 hs2 hbz hrz2 hlen' hkl hez2 hwk' hgdk hwx hgd hyvz hwvz hi2 hkz3 hbz3 hyz3 hwz3 hwk hk3 hb' hi hrun hkn h9 hlt hez40 hkz hyz hwz hrz hlen hel has hz4 hz2 hz1 hc2 hc1 hch; omega), hk3⟩
         ·simp; (clear hs3 hs2 hbz hrz2 hlen' hkl hez2 hwk' hgdk hwx hgd hyvz hwvz hi2 hkz3 hbz3 hyz3 hwz3 hwk hb' hi hrun hkn h9 hlt hez40 hkz hyz hwz hrz hlen hel has hz4 hz2 hz1 hc2 hc1 hch; omega)
        have hwl4 : ∀ w ∈ (if st'.words.contains told then st'.words else st'.words ++ [told]), w.length + n ≤ 9 := by
         split
         ·exact hwl3
         ·walk_at "E1"; generalize z1 _ _ = w
          intro hw
          rcases List.mem_append.mp hw with hw | hw
          ·exact hwl3 w hw
          ·simp at hw; subst hw; exact hs2
        have hwk4 : ((if st'.words.contains told then st'.words else st'.words ++ [told]).getD k []).length + n + 1 ≤ 9 := by
         split
         ·exact hgdk
         ·rw [List.getD_eq_getElem?_getD, List.getElem?_append_left hk3, ← List.getD_eq_getElem?_getD]
          exact hgdk
        generalize (if st'.words.contains told then st'.words else st'.words ++ [told]) = words' at hW' hcont hwz4 hwl4 hwk4 ⊢
        simp only [List.cons_append, List.nil_append]
        refine W.cons (W.expr (W.meth F.plainAttrs_list slot_list_append F.type_list_append ?_))
        walk_at "nm"
        refine ⟨Ty.ls (by walk_at "mem"), W.spCons (W.meth F.plainAttrs_list F.slot_list_index F.type_list_index ?_)⟩
        walk_at "nm"
        refine ⟨Ty.ls (by walk_at "mem"), W.spCons ?_⟩
        walk_at "nm"
        refine W.spNil (hW'.idx hch hcont (n := 1) (r.deeper.less (by (clear hwk4 hwz4 hs3 hs2 hbz hrz2 hlen' hkl hez2 hwk' hgdk hwx hgd hyvz hwvz hi2 hkz3 hbz3 hyz3 hwz3 hwk hk3 hb' hi hrun hkn h9 hlt hez40 hkz hyz hwz hrz hlen hel has hz4 hz2 hz1 hc2 hc1 hch; omega))) (by walk_at "mem") (by (clear hwk4 hs3 hs2 hbz hrz2 hlen' hkl hez2 hwk' hgdk hwx hgd hyvz hwvz hi2 hkz3 hbz3 hyz3 hwk hk3 hb' hrun hkn hlt hez40 hkz hyz hwz hrz hlen hel has hz4 hz2 hz1 hc2 hc1 hch; omega)) ?_)
        intro t12
        refine W.spNil (W.append (by walk_at "up") (by show _ ≤ 16777216; (clear hwk4 hwz4 hs3 hs2 hbz hrz2 hlen' hkl hez2 hwk' hgdk hwx hgd hwvz hi2 hkz3 hbz3 hwz3 hwk hk3 hb' hrun hkn hlt hez40 hkz hyz hwz hrz hlen hel has hz4 hz2 hz1 hc2 hc1 hch; omega)) (W.nil ?_))
        refine I9 _ rows' kvs' _ wvs' _ _ _ _ ⟨rfl, hwz4.2, hwk4, hB', hs1, hwl4, hW', hY.snoc, by dsimp only; (clear hwk4 hs3 hs2 hbz hrz2 hlen' hkl hez2 hwk' hgdk hwx hgd hyvz hwvz hi2 hkz3 hbz3 hyz3 hwk hk3 hb' hi hrun hkn h9 hlt hez40 hkz hyz hwz hrz hlen hel has hz4 hz2 hz1 hc2 hc1 hch; omega), by simp; (clear hwk4 hwz4 hs3 hs2 hbz hrz2 hlen' hkl hez2 hwk' hgdk hwx hgd hyvz hwvz hi2 hkz3 hbz3 hwz3 hwk hk3 hb' hi hrun hkn h9 hlt hez40 hkz hyz hwz hrz hlen hel has hz4 hz2 hz1 hc2 hc1 hch; omega), by dsimp only; (clear hwk4 hwz4 hs2 hbz hrz2 hlen' hkl hez2 hwk' hgdk hwx hgd hyvz hwvz hi2 hkz3 hyz3 hwz3 hwk hk3 hb' hi hrun hkn h9 hlt hez40 hkz hyz hwz hrz hlen hel has hz4 hz2 hz1 hc2 hc1 hch; omega), hk', ?_, rfl⟩
        rw [show 1 + 2 * k + (i + 1) = (1 + 2 * k + i) + 1 by (clear hwk4 hwz4 hs3 hs2 hbz hrz2 hlen' hkl hez2 hwk' hgdk hwx hgd hyvz hwvz hi2 hkz3 hbz3 hyz3 hwz3 hwk hk3 hb' hi hrun hkn h9 hlt hez40 hkz hyz hwz hrz hlen hel has hz4 hz2 hz1 hc2 hc1 hch; omega), Nat.mul_add, Nat.mul_one]
        (clear hwk4 hwz4 hs3 hs2 hbz hrz2 hlen' hez2 hwk' hgdk hwx hgd hyvz hwvz hi2 hbz3 hyz3 hwz3 hwk hk3 hb' hi hrun hkn h9 hlt hez40 hkz hyz hwz hrz hlen has hz4 hz2 hz1 hc2 hc1 hch; omega)
     ·walk_at "E1"; generalize z1 _ _ = l
      refine' @Y9 _ _ _ _ _ _ _ _ _ _ _ (by walk_at "ne") ?_; generalize (z9 _ _).1 = st'; generalize (z9 _ _).2.1 = rows; generalize (z9 _ _).2.2.1 = kvs; generalize (z9 _ _).2.2.2.1 = yvs; generalize (z9 _ _).2.2.2.2.1 = wvs; generalize (z9 _ _).2.2.2.2.2.1 = rv; generalize (z9 _ _).2.2.2.2.2.2.1 = cv; generalize (z9 _ _).2.2.2.2.2.2.2.1 = sv; generalize (z9 _ _).2.2.2.2.2.2.2.2 = tv
      refine A14 ?_
      intro hst hk3 hwk hB hbl3 hwl3 hW hY hwz3 hyz3 hbz3 hK hkz3 zy32
      subst zy32
      exact I9 st' rows kvs yvs wvs rv cv sv tv ⟨hst, hB, hbl3, hwl3, hW, hY, by (clear hkz3 hbz3 hyz3 hwk hk3 hst hrun hkn h9 hlt hez40 hwvz hkz hbz hyz hwz hrz hlen hkl hel has hz4 hz2 hz1 hc2 hc1 hch; omega), by (clear hkz3 hbz3 hwz3 hwk hk3 hst hrun hkn h9 hlt hez40 hwvz hkz hbz hyz hwz hrz hlen hkl hel has hz4 hz2 hz1 hc2 hc1 hch; omega), by (clear hkz3 hyz3 hwz3 hwk hk3 hst hrun hkn h9 hlt hez40 hwvz hkz hbz hyz hwz hrz hlen hkl hel has hz4 hz2 hz1 hc2 hc1 hch; omega), hK, by rw [show 3 + 2 * k = 1 + 2 * k + ([false, true] : Wd).length by simp; (clear hkz3 hbz3 hyz3 hwz3 hwk hk3 hst hrun hkn h9 hlt hez40 hwvz hkz hbz hyz hwz hrz hlen hkl hel has hz4 hz2 hz1 hc2 hc1 hch; omega)]; exact hkz3, rfl⟩
     ·walk_at "E1"; generalize z1 _ _ = l
      refine' @Y9 _ _ _ _ _ _ _ _ _ _ _ (by walk_at "ne") ?_; generalize (z9 _ _).1 = st'; generalize (z9 _ _).2.1 = rows; generalize (z9 _ _).2.2.1 = kvs; generalize (z9 _ _).2.2.2.1 = yvs; generalize (z9 _ _).2.2.2.2.1 = wvs; generalize (z9 _ _).2.2.2.2.2.1 = rv; generalize (z9 _ _).2.2.2.2.2.2.1 = cv; generalize (z9 _ _).2.2.2.2.2.2.2.1 = sv; generalize (z9 _ _).2.2.2.2.2.2.2.2 = tv
      refine A12 ?_
      intro zy33 hB hbl3 hwl3 hW hY hwz3 hyz3 hbz3 hK hkz3 zy34
      subst zy33
      subst zy34
      simp only [List.cons_append, List.nil_append]
      refine W.cons (W.aug (W.ldLocal rfl rfl (by walk_at "mem") (by walk_at "get") (W.kInt ?_)))
      intro _
      refine W.iaddI ?_
      intro t6
      walk_at "st"
      refine W.nil ?_
      refine ⟨n, by (clear hbz3 hyz3 hwz3 hkz3 hrun hkn h9 hlt hez40 hwvz hkz hbz hyz hwz hrz hlen hkl hel has hz4 hz2 hz1 hc2 hc1 hch; omega), (I11 (k + 1) _ rows kvs yvs wvs rv cv t6 sv tv ⟨hrun, by (clear hbz3 hyz3 hwz3 hkz3 hrun h9 hlt hez40 hwvz hkz hbz hyz hwz hrz hlen hkl hel has hz4 hz2 hz1 hc2 hc1 hch; omega), hB, hbl3, hwl3, hW, hY, by (clear hbz3 hyz3 hkz3 hrun hkn h9 hlt hez40 hwvz hkz hbz hyz hwz hrz hlen hkl hel has hz4 hz2 hz1 hc2 hc1 hch; omega), by (clear hbz3 hwz3 hkz3 hrun hkn h9 hlt hez40 hwvz hkz hbz hyz hwz hrz hlen hkl hel has hz4 hz2 hz1 hc2 hc1 hch; omega), by (clear hyz3 hwz3 hkz3 hrun hkn h9 hlt hez40 hwvz hkz hbz hyz hwz hrz hlen hkl hel has hz4 hz2 hz1 hc2 hc1 hch; omega), hK, by rw [show 1 + 2 * (k + 1) = 3 + 2 * k by (clear hbz3 hyz3 hwz3 hkz3 hrun hkn h9 hlt hez40 hwvz hkz hbz hyz hwz hrz hlen hkl hel has hz4 hz2 hz1 hc2 hc1 hch; omega)]; exact hkz3, rfl⟩)⟩
  case rest =>
   walk_at "E1"; generalize z1 _ _ = l
   refine' @Y9 _ _ _ _ _ _ _ _ _ _ _ (by walk_at "ne") ?_; generalize (z9 _ _).1 = rows; generalize (z9 _ _).2.1 = kvs; generalize (z9 _ _).2.2.1 = yvs; generalize (z9 _ _).2.2.2.1 = wvs; generalize (z9 _ _).2.2.2.2.1 = rv; generalize (z9 _ _).2.2.2.2.2.1 = cv; generalize (z9 _ _).2.2.2.2.2.2.1 = kv; generalize (z9 _ _).2.2.2.2.2.2.2.1 = sv; generalize (z9 _ _).2.2.2.2.2.2.2.2 = tv
   refine A7 ?_
   intro hB hbz hW hY hK hkz zy35
   subst zy35
   simp only [List.cons_append, List.nil_append]
   refine W.cons (W.ret (W.mkTuple (W.spCons ?_)))
   walk_at "nm"
   refine W.spCons ?_
   walk_at "nm"
   refine W.spCons ?_
   walk_at "nm"
   refine W.spNil ⟨by show 3 ≤ 16777216; (clear hkz hbz hrz hlen hkl hel has hz4 hz2 hz1 hc2 hc1 hch; omega), ?_⟩
   intro ta
   refine ⟨[(ta, Tp [.ref x, .ref wd, .ref yd]), (wd, Ls wvs), (yd, Ls yvs), (ka, Dk c kvs), (ea, Ls evs)] ++ bookLed x dx ha rows, _, Take.perm (Take.app (X := (ta, Tp [.ref x, .ref wd, .ref yd]) :: [(ka, Dk c kvs), (yd, Ls yvs), (wd, Ls wvs), (L, NP ["signs", "ends", "book", "row", "words", "ways", "k", "sign", "told"] [some (.str (enc ch [false, true]) ts), some (.ref ea), some (.ref x), rv, some (.ref wd), some (.ref yd), kv, sv, tv]), (a1, Ce cv), (a2, Ce (some (.ref ka))), (a3, Ce (some (.str (enc ch text) tt))), (ea, Ls evs)]) (bookLed x dx ha rows) (by walk_at "take")), ta, x, dx, ha, wd, yd, rows, wvs, yvs, kvs, rfl, hB, hW, hY, hK, hkz, by rw [hB.1]; exact hbz, rfl⟩
theorem W.lenB {c : Cx} {A : Around} {l : Led} {a : Addr} {vs : List Value} {Q : Value → Led → Prop} (hl : c.B.IsList a vs.toArray) (hsz : vs.length ≤ sizeLine) (q : ∀ t, Q (.int vs.length t) l) : W c A (call (.builtin "len") [.ref a]) l Q := fun R h tk S => by
 refine call_len_list (hl.at fun o e => S.base _ o e) (by have : sizeLine = 16777216 := rfl; simp; omega) ?_
 simp only [List.size_toArray]
 exact I3 h _ l ⟨rfl, S, q _⟩
theorem W.lsItemB {c : Cx} {A : Around} {l : Led} {t : Tok} {a : Addr} {vs : List Value} {k : Int} {v : Value} {Q : Value → Led → Prop} (hl : c.B.IsList a vs.toArray) (h0 : 0 ≤ k) (hx : vs[k.toNat]? = some v) (hsz : vs.length ≤ sizeLine) (q : Q v l) : W c A (getItem (.ref a) (.int k t)) l Q := fun R h tk S => by
 have := (List.getElem?_eq_some_iff.mp hx).1
 exact wpAny_getItem_list (hl.at fun o e => S.base _ o e) h0 (by have : sizeLine = 16777216 := rfl; (clear hx h0; omega)) (by simpa using hx) ⟨h, tk, l, rfl, S, q⟩
theorem isl {c : Cx} {a : Addr} {vs : List Value} (hl : c.B.IsList a vs.toArray) : ∃ a' ob, Value.ref a = .ref a' ∧ c.B.get? a' = some ob ∧ ob.cls = .type "list" := by
 obtain ⟨o, e, hc, _⟩ := hl
 exact I2 a o ⟨rfl, e, hc⟩
theorem rg2 (s n : Nat) (hs : s ≤ 1) (h : n ≤ 1000) : ∃ m : Nat, Builtin.Range.small s n 2 = true ∧ Builtin.Range.rangeSize s n 2 = m ∧ ∀ i, i < m → s + i * 2 < n := by
 have hr : Builtin.Range.rangeSize s n 2 = if (s : Int) < n then ((n : Int) - s - 1) / 2 + 1 else 0 := by
  unfold Builtin.Range.rangeSize
  simp only [show (2 : Int) > 0 by decide, if_true]
 have zh1 : ∃ m : Nat, (if (s : Int) < n then ((n : Int) - s - 1) / 2 + 1 else 0) = (m : Int) := by
  split
  ·exact ⟨(((n : Int) - s - 1) / 2 + 1).toNat, by (clear hr h hs; omega)⟩
  ·exact ⟨0, rfl⟩
 obtain ⟨m, hm⟩ := zh1
 refine ⟨m, ?_, hr.trans hm, ?_⟩
 ·have hm' : m ≤ 1000 := by split at hm <;> (clear hr hs; omega)
  have fit : ∀ z : Int, 0 ≤ z → z ≤ 2000 → Builtin.Range.rangeFitsLong z = true := fun z h1 h2 => by
   unfold Builtin.Range.rangeFitsLong
   rw [Bool.and_eq_true, decide_eq_true_eq, decide_eq_true_eq]
   (clear hm' hm hr h hs; omega)
  unfold Builtin.Range.small
  rw [hr, hm, if_pos (show (2 : Int) > 0 by decide), fit s (by (clear hm' hm hr h hs; omega)) (by (clear hm' hm hr h; omega)), fit n (by (clear hm' hm hr h hs; omega)) (by (clear hm' hm hr hs; omega)), fit 2 (by (clear hm' hm hr h hs; omega)) (by (clear hm' hm hr h hs; omega)), fit m (by (clear hm' hm hr h hs; omega)) (by (clear hm' hr hs; omega)), fit _ (by (clear hm' hm hr h hs; omega)) (by (clear hm' hm hr hs; omega)), Bool.or_true]
  rfl
 ·intro i hi
  split at hm <;> (clear hr h hs; omega)
theorem allW_mem : ∀ (n : Nat) (w : Wd), w.length = n → w ∈ allW n
 | 0, w, h => by rw [List.length_eq_zero_iff.mp h]; exact .head _
 | n + 1, [], h => by cases h
 | n + 1, b :: w, h => by
  have := allW_mem n w (by simpa using h)
  refine List.mem_flatMap.mpr ⟨w, this, ?_⟩
  cases b
  ·exact .head _
  ·exact .tail _ (.head _)
theorem texts_mem : ∀ s0 s1 s2 f0 f1 f2 f3 : Bool, textB s0 s1 s2 f0 f1 f2 f3 ∈ texts := by decide +kernel
theorem drawns_mem {w : Wd} (h1 : 2 ≤ w.length) (h2 : w.length ≤ 6) : w ∈ drawns :=
 List.mem_flatMap.mpr ⟨w.length - 2, List.mem_range.mpr (by (clear h1; omega)), by rw [show w.length - 2 + 2 = w.length by (clear h2; omega)]; exact allW_mem _ w rfl⟩
noncomputable def bitOf (z : Int) (p : Int) : Bool := (z.fdiv p).fmod 2 == 1
theorem pow_ok : ∀ n, n ≤ 7 → ((2 : Int) ^ n ≠ 0 ∧ ((2 : Int) ^ n).natAbs < 1073741824) ∧ ((5 * (2 : Int) ^ n) ≠ 0 ∧ (5 * (2 : Int) ^ n).natAbs < 1073741824) := by decide
theorem bit_two (z : Int) : z.fmod 2 = ((z.fmod 2 == 1).toNat : Int) := by
 have h1 := Int.fmod_nonneg_of_pos z (b := 2) (by decide)
 have h2 := Int.fmod_lt_of_pos z (b := 2) (by decide)
 rcases (by omega : z.fmod 2 = 0 ∨ z.fmod 2 = 1) with e | e <;> rw [e] <;> rfl
noncomputable def tP (z : Int) : Nat → Wd
 | 0 => []
 | k + 1 => tP z k ++ (if bitOf z (2 ^ (3 + k)) then [false, false, false] else []) ++ (if k < 3 then [bitOf z (2 ^ k)] else [])
theorem tP_text (z : Int) : tP z 4 = textB (bitOf z (2 ^ 0)) (bitOf z (2 ^ 1)) (bitOf z (2 ^ 2)) (bitOf z (2 ^ 3)) (bitOf z (2 ^ 4)) (bitOf z (2 ^ 5)) (bitOf z (2 ^ 6)) := by
 simp only [tP, textB]
 generalize bitOf z (2 ^ 0) = a0
 generalize bitOf z (2 ^ 1) = a1
 generalize bitOf z (2 ^ 2) = a2
 generalize h3 : bitOf z (2 ^ (3 + 0)) = a3
 generalize h4 : bitOf z (2 ^ (3 + 1)) = a4
 generalize h5 : bitOf z (2 ^ (3 + 2)) = a5
 generalize h6 : bitOf z (2 ^ (3 + 3)) = a6
 cases a0 <;> cases a1 <;> cases a2 <;> cases a3 <;> cases a4 <;> cases a5 <;> cases a6 <;> rfl
theorem tP_len (z : Int) : ∀ k, (tP z k).length ≤ 4 * k
 | 0 => by simp [tP]
 | k + 1 => by
  have := tP_len z k
  simp only [tP, List.length_append]
  split <;> split <;> simp <;> omega
theorem signs_at (ch : Nat) (b : Bool) : (enc ch [false, true]).cps[b.toNat]? = some (sg ch b) := by cases b <;> rfl
theorem draw_ok : ∀ {c : Cx} {A : Around} {sa : Addr} {xs : List (Int × Tok)} (T : Gd c (HK c.w.params)) (r : Room A 3) (hl : c.B.IsList sa (intsL xs).toArray) (hz : xs.length ≤ 63), W c A (call (.ref 199) [.ref sa]) [] (fun v l' => ∃ ch text drawn ta t1 t2 t3, ch ∈ opsB ∧ text ∈ texts ∧ drawn ∈ drawns ∧ v = .ref ta ∧ l' = [(ta, Tp [.str (enc ch text) t1, .str (enc ch [false, true]) t2, .str (enc ch drawn) t3])]) := by
 refine' @E4 _ _ _ _ _ (by walk_at "ne") ?_; generalize (z4 _ _).1 = c; generalize (z4 _ _).2.1 = A; generalize (z4 _ _).2.2.1 = sa; generalize (z4 _ _).2.2.2 = xs
 intro T r hl hz
 refine W.close ?_
 refine W.defC (binds := (["script"] : List Str).zip [Value.ref sa]) (names := ["k", "shape", "text", "drawn"]) (cns := ["signs", "other", "script"]) T r (by k_is) (by k_is) (by exact rfl) (by exact rfl) (by exact rfl) (by decide +kernel) (by exact rfl) (by decide +kernel) (by decide +kernel) (by exact rfl) (by exact rfl) ?_
 walk_at "E2"; generalize (z2 _ _).1 = L; generalize (z2 _ _).2 = as
 intro has
 have zh2 : ∃ a1 a2 a3, as = [a1, a2, a3] := by
  match as, has with
  | [a1, a2, a3], _ => exact ⟨a1, a2, a3, rfl⟩
 refine O1 ?_ (zh2)
 walk_at "Y3"; generalize (z3 _ _).1 = a1; generalize (z3 _ _).2.1 = a2; generalize (z3 _ _).2.2 = a3
 intro zy1
 subst zy1
 clear zh2
 simp only [List.cons_append, List.nil_append, List.map_cons, List.map_nil, List.zip_cons_cons, List.zip_nil_right]
 have hiz : (intsL xs).length = xs.length := List.length_map ..
 refine O1 ?_ (rg2 0 (intsL xs).length (by (clear hiz has hz; omega)) (by (clear has; omega)))
 walk_at "Y1"; generalize z1 _ _ = m0
 refine A3 ?_
 intro hm1 hm2 hm3
 refine O1 ?_ (rg2 1 (intsL xs).length (by (clear hm2 hm1 hiz has hz; omega)) (by (clear hm2 hm1 has; omega)))
 walk_at "Y1"; generalize z1 _ _ = m1
 refine A3 ?_
 intro hn1 hn2 hn3
 have hat : ∀ i, i < (intsL xs).length → ∃ z t, (intsL xs)[i]? = some (.int z t) := fun i hi => by
  have hi' : i < xs.length := by (clear hn2 hn1 hm2 hm1 has hz; omega)
  exact I2 (xs[i].1) (xs[i].2) (by rw [List.getElem?_map, List.getElem?_eq_getElem hi']; rfl)
 refine W.step (W.set (W.binop (W.kInt ?_)))
 walk_at "E1"; generalize z1 _ _ = t1
 refine W.callB (id := "sum") ?_
 walk_at "b_sum"
 refine ⟨rfl, W.spCons ?_⟩
 refine W.comp (n := m0) (P := fun i v => ∃ t, v = .int ((0 : Nat) + (i : Nat) * 2) t) (need := [])
  (fun i ys l => ∃ zs rr, ys = intsL zs ∧ l = [(rr, Rg (0 : Nat) (intsL xs).length 2), (L, NP ["k", "shape", "text", "drawn"] [none, none, none, none]), (a1, Ce none), (a2, Ce none), (a3, Ce (some (.ref sa)))]) r.hh
  (by exact rfl) (by decide) rfl (by decide) rfl (by have := hm3 (m0 - 1); show _ ≤ 16777216; (clear hn2 hn1 hm2 hm1 has; omega)) ?_ ?_ ?_ ?_
 ·refine W.callT (id := "range") ?_
  walk_at "b_range"
  refine ⟨rfl, W.spCons (W.kInt ?_)⟩
  walk_at "E1"; generalize z1 _ _ = zu27
  refine W.spCons (W.callB (id := "len") ?_)
  walk_at "b_len"
  refine ⟨rfl, W.spCons ?_⟩
  walk_at "ce"
  refine W.spNil (W.lenB hl (by show _ ≤ 16777216; (clear hn2 hn1 hm2 hm1 has; omega)) ?_)
  walk_at "E1"; generalize z1 _ _ = zu29
  refine W.spCons (W.kInt ?_)
  intro _
  refine W.spNil ?_
  exact W.range3 (by decide) (by decide) fun rr => ⟨Itr.rg (.head _) hm1 hm2, [], rr, rfl, rfl⟩
 ·intro _
  walk_at "E2"; generalize (z2 _ _).1 = zu32; generalize (z2 _ _).2 = zu33
  intro _
  walk_at "E1"; generalize z1 _ _ = zu35
  intro h
  cases h
 ·walk_at "E5"; generalize (z5 _ _).1 = C; generalize (z5 _ _).2.1 = i; generalize (z5 _ _).2.2.1 = v; generalize (z5 _ _).2.2.2.1 = ys; generalize (z5 _ _).2.2.2.2 = l
  intro hi
  walk_at "Y1"; generalize z1 _ _ = t
  intro zy2
  subst zy2
  walk_at "Y2"; generalize (z2 _ _).1 = zs; generalize (z2 _ _).2 = rr
  refine A2 ?_
  intro zy3 zy4
  subst zy3
  subst zy4
  intro hlen
  refine O1 ?_ (hat _ (hm3 i hi))
  walk_at "Y2"; generalize (z2 _ _).1 = z; generalize (z2 _ _).2 = tz
  intro hzi
  refine W.testsNil ?_
  rw [if_pos rfl]
  refine W.subsB slot_list_getitem.lookup ?_
  walk_at "ce"
  walk_at "nm"
  rw [show (((0 : Nat) : Int) + (i : Nat) * 2) = ((0 + i * 2 : Nat) : Int) by (clear hzi hlen hi hn2 hn1 hm2 hm1 hiz has hz; omega)]
  refine ⟨isl hl, W.lsItemB hl (by (clear hzi hlen hi hn2 hn1 hm2 hm1 hiz has hz; omega)) (by rw [Int.toNat_natCast]; exact hzi) (by show _ ≤ 16777216; (clear hzi hlen hi hn2 hn1 hm2 hm1 has; omega)) ?_⟩
  exact I2 _ _ ⟨rfl, (I2 (zs ++ [(z, tz)]) rr ⟨by simp [intsL], rfl⟩)⟩
 ·walk_at "E3"; generalize (z3 _ _).1 = D; generalize (z3 _ _).2.1 = ys; generalize (z3 _ _).2.2 = l
  walk_at "Y2"; generalize (z2 _ _).1 = zs; generalize (z2 _ _).2 = rr
  refine A2 ?_
  intro zy5 zy6
  subst zy5
  subst zy6
  intro hlen
  refine W.spNil (W.sum r.hh (.head _) ?_)
  intro t2
  refine W.iadd ?_
  walk_at "E1"; generalize z1 _ _ = t3
  generalize (1939 + (zs.map (·.1)).sum : Int) = shape
  walk_at "st"
  refine ⟨by first | rfl | trivial, ?_⟩
  refine W.sub (l' := [(L, NP ["k", "shape", "text", "drawn"] [none, some (.int shape t3), none, none]), (a1, Ce none), (a2, Ce none), (a3, Ce (some (.ref sa)))]) ?_ (by walk_at "take")
  refine W.step (W.set (W.binop (W.kInt ?_)))
  walk_at "E1"; generalize z1 _ _ = t4
  refine W.callB (id := "sum") ?_
  walk_at "b_sum"
  refine ⟨rfl, W.spCons ?_⟩
  refine W.comp (n := m1) (P := fun i v => ∃ t, v = .int ((1 : Nat) + (i : Nat) * 2) t) (need := [])
   (fun i ys l => ∃ zs rr, ys = intsL zs ∧ l = [(rr, Rg (1 : Nat) (intsL xs).length 2), (L, NP ["k", "shape", "text", "drawn"] [none, some (.int shape t3), none, none]), (a1, Ce none), (a2, Ce none), (a3, Ce (some (.ref sa)))]) r.hh
   (by exact rfl) (by decide) rfl (by decide) rfl (by have := hn3 (m1 - 1); show _ ≤ 16777216; (clear hlen hn2 hn1 hm2 hm1 has; omega)) ?_ ?_ ?_ ?_
  ·refine W.callT (id := "range") ?_
   walk_at "b_range"
   refine ⟨rfl, W.spCons (W.kInt ?_)⟩
   walk_at "E1"; generalize z1 _ _ = zu59
   refine W.spCons (W.callB (id := "len") ?_)
   walk_at "b_len"
   refine ⟨rfl, W.spCons ?_⟩
   walk_at "ce"
   refine W.spNil (W.lenB hl (by show _ ≤ 16777216; (clear hlen hn2 hn1 hm2 hm1 has; omega)) ?_)
   walk_at "E1"; generalize z1 _ _ = zu61
   refine W.spCons (W.kInt ?_)
   intro _
   refine W.spNil ?_
   exact W.range3 (by decide) (by decide) fun rr => ⟨Itr.rg (.head _) hn1 hn2, [], rr, rfl, rfl⟩
  ·intro _
   walk_at "E2"; generalize (z2 _ _).1 = zu64; generalize (z2 _ _).2 = zu65
   intro _
   walk_at "E1"; generalize z1 _ _ = zu67
   intro h
   cases h
  ·walk_at "E5"; generalize (z5 _ _).1 = C; generalize (z5 _ _).2.1 = i; generalize (z5 _ _).2.2.1 = v; generalize (z5 _ _).2.2.2.1 = ys; generalize (z5 _ _).2.2.2.2 = l
   intro hi
   walk_at "Y1"; generalize z1 _ _ = t
   intro zy7
   subst zy7
   walk_at "Y2"; generalize (z2 _ _).1 = zs; generalize (z2 _ _).2 = rr
   refine A2 ?_
   intro zy8 zy9
   subst zy8
   subst zy9
   intro hlen
   refine O1 ?_ (hat _ (hn3 i hi))
   walk_at "Y2"; generalize (z2 _ _).1 = z; generalize (z2 _ _).2 = tz
   intro hzi
   refine W.testsNil ?_
   rw [if_pos rfl]
   refine W.subsB slot_list_getitem.lookup ?_
   walk_at "ce"
   walk_at "nm"
   rw [show (((1 : Nat) : Int) + (i : Nat) * 2) = ((1 + i * 2 : Nat) : Int) by (clear hzi hlen hi hn2 hn1 hm2 hm1 hiz has hz; omega)]
   refine ⟨isl hl, W.lsItemB hl (by (clear hzi hlen hi hn2 hn1 hm2 hm1 hiz has hz; omega)) (by rw [Int.toNat_natCast]; exact hzi) (by show _ ≤ 16777216; (clear hzi hlen hi hn2 hn1 hm2 hm1 has; omega)) ?_⟩
   exact I2 _ _ ⟨rfl, (I2 (zs ++ [(z, tz)]) rr ⟨by simp [intsL], rfl⟩)⟩
  ·walk_at "E3"; generalize (z3 _ _).1 = D; generalize (z3 _ _).2.1 = ys; generalize (z3 _ _).2.2 = l
   walk_at "Y2"; generalize (z2 _ _).1 = zs; generalize (z2 _ _).2 = rr
   refine A2 ?_
   intro zy10 zy11
   subst zy10
   subst zy11
   intro hlen
   refine W.spNil (W.sum r.hh (.head _) ?_)
   intro t5
   refine W.iadd ?_
   walk_at "E1"; generalize z1 _ _ = t6
   generalize (68 + (zs.map (·.1)).sum : Int) = other
   walk_at "sc"
   refine ⟨by first | rfl | trivial, ?_⟩
   refine W.sub (l' := [(L, NP ["k", "shape", "text", "drawn"] [none, some (.int shape t3), none, none]), (a1, Ce none), (a2, Ce (some (.int other t6))), (a3, Ce (some (.ref sa)))]) ?_ (by walk_at "take")
   refine W.step (W.set (W.binop (W.kStr ?_)))
   walk_at "E1"; generalize z1 _ _ = t7
   refine W.subs F.slot_str_getitem.lookup (W.kStr ?_)
   walk_at "E1"; generalize z1 _ _ = t8
   refine W.binop (W.binop ?_)
   walk_at "nm"
   refine W.kInt ?_
   intro _
   refine W.ifloor (by decide) (by decide) ?_
   walk_at "E1"; generalize z1 _ _ = zu92
   refine W.kInt ?_
   intro _
   refine W.imod (by decide) ?_
   intro t9
   refine ⟨Ty.s, ?_⟩
   have hi0 := Int.fmod_nonneg_of_pos (shape.fdiv 128) (b := 19) (by decide)
   have hi1 := Int.fmod_lt_of_pos (shape.fdiv 128) (b := 19) (by decide)
   refine O1 ?_ (show ∃ i0 : Nat, (shape.fdiv 128).fmod 19 = (i0 : Int) from ⟨((shape.fdiv 128).fmod 19).toNat, by (clear hi1 hlen hn2 hn1 hm2 hm1 hiz has hz; omega)⟩)
   walk_at "Y1"; generalize z1 _ _ = i0
   intro he0
   rw [he0] at hi1 ⊢
   have hlo : opsB.length = 19 := by decide +kernel
   have hlt : i0 < opsB.length := by (clear he0 hi0 hlen hn2 hn1 hm2 hm1 hiz has hz; omega)
   refine O1 ?_ (show ∃ ch, opsB[i0]? = some ch from ⟨_, List.getElem?_eq_getElem hlt⟩)
   walk_at "Y1"; generalize z1 _ _ = ch
   intro hch0
   have hch : ch ∈ opsB := List.mem_of_getElem? hch0
   have hx : (Str.ofString "()[]:,;+-*/|&<>=%{}").cps[i0]? = some ch := by
    rw [← Array.getElem?_toList]
    exact hch0
   refine W.sign hx (by decide +kernel) ?_
   intro t10
   refine W.sadd (by show (Str.ofString ".").length + 1 ≤ 16777216; decide +kernel) ?_
   walk_at "E1"; generalize z1 _ _ = t11
   rw [show (Str.ofString "." ++ (⟨#[ch]⟩ : Str)) = enc ch [false, true] from by
    rw [show Str.ofString "." = enc ch [false] from rfl, show (⟨#[ch]⟩ : Str) = enc ch [true] from rfl, ← enc_app]; rfl]
   walk_at "sc"
   refine ⟨by first | rfl | trivial, W.step (W.set (W.kStr ?_))⟩
   walk_at "E1"; generalize z1 _ _ = t12
   walk_at "st"
   refine ⟨by first | rfl | trivial, ?_⟩
   have hor := ch
   refine W.cut (fun l => ∃ kv tx rr, l = [(rr, Rg 0 (4 : Nat) 1), (L, NP ["k", "shape", "text", "drawn"] [kv, some (.int shape t3), some (.str (enc ch (tP shape 4)) tx), none]), (a1, Ce (some (.str (enc ch [false, true]) t11))), (a2, Ce (some (.int other t6))), (a3, Ce (some (.ref sa)))])
    (W.for (n := 4) (P := fun i v => ∃ t, v = .int (0 + (i : Nat) * 1) t) (need := [])
    (fun i l => ∃ kv tx rr, l = [(rr, Rg 0 (4 : Nat) 1), (L, NP ["k", "shape", "text", "drawn"] [kv, some (.int shape t3), some (.str (enc ch (tP shape i)) tx), none]), (a1, Ce (some (.str (enc ch [false, true]) t11))), (a2, Ce (some (.int other t6))), (a3, Ce (some (.ref sa)))]) r.hh ?_ ?_ ?_ ?_) ?_
   ·refine W.callT (id := "range") ?_
    walk_at "b_range"
    refine ⟨rfl, W.spCons (W.kInt ?_)⟩
    intro _
    refine W.spNil ?_
    exact W.range1 fun rr => ⟨Itr.rg (.head _) (rg1 4 (by decide)).1 (rg1 4 (by decide)).2, none, t12, rr, rfl⟩
   ·walk_at "E2"; generalize (z2 _ _).1 = zu102; generalize (z2 _ _).2 = zu103
    intro _
    walk_at "E1"; generalize z1 _ _ = zu105
    intro h
    cases h
   ·walk_at "E3"; generalize (z3 _ _).1 = i; generalize (z3 _ _).2.1 = v; generalize (z3 _ _).2.2 = l
    intro hi
    walk_at "Y1"; generalize z1 _ _ = t
    intro zy12
    subst zy12
    walk_at "Y3"; generalize (z3 _ _).1 = kv; generalize (z3 _ _).2.1 = tx; generalize (z3 _ _).2.2 = rr
    intro zy13
    subst zy13
    have hi4 : i < 4 := hi
    have hlen := tP_len shape i
    rw [show (0 + (i : Nat) * 1 : Int) = ((i : Nat) : Int) by (clear hlen hi4 hi hx hch0 hlt hlo he0 hi1 hi0 hn2 hn1 hm2 hm1 hiz has hz; omega)]
    refine W.asName ?_
    walk_at "st"
    obtain ⟨⟨hp1, hp2⟩, _⟩ := pow_ok (3 + i) (by (clear hlen hi4 hx hch0 hlt hlo he0 hi1 hi0 hn2 hn1 hm2 hm1 hiz has hz; omega))
    obtain ⟨⟨hp3, hp4⟩, _⟩ := pow_ok i (by (clear hp2 hp1 hlen hi4 hx hch0 hlt hlo he0 hi1 hi0 hn2 hn1 hm2 hm1 hiz has hz; omega))
    refine W.cut (fun l => ∃ tx, l = [(rr, Rg 0 (4 : Nat) 1), (L, NP ["k", "shape", "text", "drawn"] [some (.int (i : Nat) t), some (.int shape t3), some (.str (enc ch (tP shape i ++ (if bitOf shape (2 ^ (3 + i)) then [false, false, false] else []))) tx), none]), (a1, Ce (some (.str (enc ch [false, true]) t11))), (a2, Ce (some (.int other t6))), (a3, Ce (some (.ref sa)))])
     (W.cond (W.testCompare (W.binop (W.binop ?_)))) ?_
    ·walk_at "nm"
     refine W.binop (W.kInt ?_)
     walk_at "E1"; generalize z1 _ _ = zu115
     refine W.binop (W.kInt ?_)
     intro _
     walk_at "nm"
     refine W.iadd ?_
     intro _
     refine W.pow (by (clear hp4 hp3 hp2 hp1 hlen hi4 hi hx hch0 hlt hlo he0 hi1 hi0 hn2 hn1 hm2 hm1 hiz has hz; omega)) (by (clear hp4 hp3 hp2 hp1 hlen hi4 hx hch0 hlt hlo he0 hi1 hi0 hn2 hn1 hm2 hm1 hiz has hz; omega)) (by decide) ?_
     intro _
     rw [show ((3 : Int) + (i : Nat)).toNat = 3 + i by (clear hp4 hp3 hp2 hp1 hlen hi4 hi hx hch0 hlt hlo he0 hi1 hi0 hn2 hn1 hm2 hm1 hiz has hz; omega)]
     refine W.ifloor hp1 hp2 ?_
     walk_at "E1"; generalize z1 _ _ = zu119
     refine W.kInt ?_
     intro _
     refine W.imod (by decide) ?_
     walk_at "E1"; generalize z1 _ _ = zu121
     refine W.kInt ?_
     intro _
     refine W.ieq (W.truthyBool ?_)
     show if bitOf shape (2 ^ (3 + i)) = true then _ else _
     cases bitOf shape (2 ^ (3 + i))
     ·simp only [Bool.false_eq_true, if_false, List.append_nil]
      exact W.nil ⟨tx, rfl⟩
     ·simp only [if_true]
      refine W.cons (W.aug (W.ldLocal rfl rfl (by walk_at "mem") (by walk_at "get") (W.kStr ?_)))
      intro t13
      refine W.iaddS (by rw [enc_len]; show _ + (Str.ofString "...").length ≤ 16777216; have : (Str.ofString "...").length = 3 := (by decide +kernel); (clear hp4 hp3 hp2 hp1 hi4 hx hch0 hlt hlo he0 hi1 hi0 hn2 hn1 hm2 hm1 hiz has hz; omega)) fun t14 => ?_
      rw [show Str.ofString "..." = enc ch [false, false, false] from rfl, ← enc_app]
      walk_at "st"
      exact W.nil ⟨t14, rfl⟩
    ·walk_at "E1"; generalize z1 _ _ = l
     walk_at "Y1"; generalize z1 _ _ = tx
     intro zy14
     subst zy14
     have hlen2 : (tP shape i ++ (if bitOf shape (2 ^ (3 + i)) then [false, false, false] else [])).length ≤ 20 := by
      rw [List.length_append]
      split <;> simp <;> (clear hp4 hp3 hp2 hp1 hi4 hx hch0 hlt hlo he0 hi1 hi0 hn2 hn1 hm2 hm1 hiz has hz; omega)
     have hnext : tP shape (i + 1) = (tP shape i ++ (if bitOf shape (2 ^ (3 + i)) then [false, false, false] else [])) ++ (if i < 3 then [bitOf shape (2 ^ i)] else []) := rfl
     rw [hnext]
     generalize (tP shape i ++ (if bitOf shape (2 ^ (3 + i)) then [false, false, false] else [])) = tw at hlen2 ⊢
     refine W.cons (W.cond (W.testCompare ?_))
     walk_at "nm"
     refine W.kInt ?_
     intro _
     refine W.ilt (W.truthyBool ?_)
     by_cases h3 : i < 3
     ·rw [show decide ((i : Int) < 3) = true from decide_eq_true (by (clear hlen2 hnext hp4 hp3 hp2 hp1 hlen hi4 hi hx hch0 hlt hlo he0 hi1 hi0 hn2 hn1 hm2 hm1 hiz has hz; omega))]
      simp only [if_true, h3]
      refine W.cons (W.aug (W.ldLocal rfl rfl (by walk_at "mem") (by walk_at "get") (W.subs F.slot_str_getitem.lookup ?_)))
      walk_at "ce"
      refine W.binop (W.binop ?_)
      walk_at "nm"
      refine W.binop (W.kInt ?_)
      intro _
      walk_at "nm"
      refine W.pow (by (clear h3 hlen2 hnext hp4 hp3 hp2 hp1 hlen hi4 hi hx hch0 hlt hlo he0 hi1 hi0 hn2 hn1 hm2 hm1 hiz has hz; omega)) (by (clear h3 hlen2 hnext hp4 hp3 hp2 hp1 hlen hi4 hx hch0 hlt hlo he0 hi1 hi0 hn2 hn1 hm2 hm1 hiz has hz; omega)) (by decide) ?_
      intro _
      rw [Int.toNat_natCast]
      refine W.ifloor hp3 hp4 ?_
      walk_at "E1"; generalize z1 _ _ = zu129
      refine W.kInt ?_
      intro _
      refine W.imod (by decide) ?_
      intro _
      refine ⟨Ty.s, ?_⟩
      rw [bit_two]
      refine W.sign (signs_at ch _) (by rw [enc_len]; decide) ?_
      intro t15
      rw [show (⟨#[sg ch ((shape.fdiv (2 ^ i)).fmod 2 == 1)]⟩ : Str) = enc ch [bitOf shape (2 ^ i)] from rfl]
      refine W.iaddS (by rw [enc_len, enc_len]; show _ ≤ 16777216; simp only [List.length_cons, List.length_nil]; (clear h3 hnext hp4 hp3 hp2 hp1 hlen hi4 hi hx hch0 hlt hlo he0 hi1 hi0 hn2 hn1 hm2 hm1 hiz has hz; omega)) ?_
      intro t16
      rw [← enc_app]
      walk_at "st"
      exact W.nil (W.nil ⟨_, t16, rr, rfl⟩)
     ·rw [show decide ((i : Int) < 3) = false from decide_eq_false (by (clear hlen2 hnext hp4 hp3 hp2 hp1 hlen hi4 hi hx hch0 hlt hlo he0 hi1 hi0 hn2 hn1 hm2 hm1 hiz has hz; omega))]
      simp only [Bool.false_eq_true, if_false, h3, List.append_nil]
      exact W.nil (W.nil ⟨_, tx, rr, rfl⟩)
   ·walk_at "E1"; generalize z1 _ _ = l
    walk_at "Y3"; generalize (z3 _ _).1 = kv; generalize (z3 _ _).2.1 = tx; generalize (z3 _ _).2.2 = rr
    intro zy15
    subst zy15
    exact I3 kv tx rr rfl
   ·walk_at "E1"; generalize z1 _ _ = l
    walk_at "Y3"; generalize (z3 _ _).1 = kv; generalize (z3 _ _).2.1 = tx; generalize (z3 _ _).2.2 = rr
    intro zy16
    subst zy16
    have hf0 := Int.fmod_nonneg_of_pos other (b := 5) (by decide)
    have hf1 := Int.fmod_lt_of_pos other (b := 5) (by decide)
    refine O1 ?_ (show ∃ m5 : Nat, other.fmod 5 = (m5 : Int) from ⟨(other.fmod 5).toNat, by (clear hf1 hx hch0 hlt hlo he0 hi1 hi0 hlen hn2 hn1 hm2 hm1 hiz has hz; omega)⟩)
    walk_at "Y1"; generalize z1 _ _ = m5
    intro hm5
    rw [hm5] at hf1
    refine W.step (W.set (W.meth F.plainAttrs_str F.slot_str_join F.type_str_join (W.kStr ?_)))
    walk_at "E1"; generalize z1 _ _ = t0
    refine ⟨Ty.s, W.spCons ?_⟩
    refine W.comp (n := 2 + m5) (P := fun i v => ∃ t, v = .int (0 + (i : Nat) * 1) t) (need := [])
     (fun i ys l => ∃ rr2, (∃ k : List (Str × Tok), ys = strValues k ∧ k.map (·.1) = (((List.range i).map fun j => bitOf other (5 * 2 ^ j)).map fun b => (⟨#[sg ch b]⟩ : Str))) ∧ l = (rr2, Rg 0 (2 + m5 : Nat) 1) :: [(rr, Rg 0 (4 : Nat) 1), (L, NP ["k", "shape", "text", "drawn"] [kv, some (.int shape t3), some (.str (enc ch (tP shape 4)) tx), none]), (a1, Ce (some (.str (enc ch [false, true]) t11))), (a2, Ce (some (.int other t6))), (a3, Ce (some (.ref sa)))]) r.hh
     (by exact rfl) (by decide) rfl (by decide) rfl (by show _ ≤ 16777216; (clear hm5 hf0 hx hch0 hlt hlo he0 hi1 hi0 hlen hn2 hn1 hm2 hm1 hiz has hz; omega)) ?_ ?_ ?_ ?_
    ·refine W.callT (id := "range") ?_
     walk_at "b_range"
     refine ⟨rfl, W.spCons (W.binop (W.kInt ?_))⟩
     walk_at "E1"; generalize z1 _ _ = zu141
     refine W.binop ?_
     walk_at "ce"
     refine W.kInt ?_
     intro _
     refine W.imod (by decide) ?_
     intro _
     refine W.iadd ?_
     intro _
     refine W.spNil ?_
     rw [hm5, show (2 + (m5 : Int)) = ((2 + m5 : Nat) : Int) by (clear hm5 hf1 hf0 hx hch0 hlt hlo he0 hi1 hi0 hlen hn2 hn1 hm2 hm1 hiz has hz; omega)]
     exact W.range1 fun rr2 => ⟨Itr.rg (.head _) (rg1 (2 + m5) (by (clear hm5 hf0 hx hch0 hlt hlo he0 hi1 hi0 hlen hn2 hn1 hm2 hm1 hiz has hz; omega))).1 (rg1 (2 + m5) (by (clear hm5 hf0 hx hch0 hlt hlo he0 hi1 hi0 hlen hn2 hn1 hm2 hm1 hiz has hz; omega))).2, rr2, ⟨[], rfl, rfl⟩, rfl⟩
    ·walk_at "E3"; generalize (z3 _ _).1 = zu145; generalize (z3 _ _).2.1 = zu146; generalize (z3 _ _).2.2 = zu147
     intro _
     walk_at "E1"; generalize z1 _ _ = zu149
     intro h
     cases h
    ·walk_at "E5"; generalize (z5 _ _).1 = C; generalize (z5 _ _).2.1 = i; generalize (z5 _ _).2.2.1 = v; generalize (z5 _ _).2.2.2.1 = ys; generalize (z5 _ _).2.2.2.2 = l
     intro hi
     walk_at "Y1"; generalize z1 _ _ = t
     intro zy17
     subst zy17
     walk_at "Y1"; generalize z1 _ _ = rr2
     refine A2 ?_
     intro hkk zy18
     subst zy18
     intro hlen
     refine O1 ?_ (hkk)
     walk_at "Y1"; generalize z1 _ _ = k
     refine A2 ?_
     intro zy19 hk
     subst zy19
     clear hkk
     rw [show (0 + (i : Nat) * 1 : Int) = ((i : Nat) : Int) by (clear hlen hk hi hm5 hf1 hf0 hx hch0 hlt hlo he0 hi1 hi0 hn2 hn1 hm2 hm1 hiz has hz; omega)]
     obtain ⟨_, hp1, hp2⟩ := pow_ok i (by (clear hlen hk hm5 hf0 hx hch0 hlt hlo he0 hi1 hi0 hn2 hn1 hm2 hm1 hiz has hz; omega))
     refine W.testsNil ?_
     rw [if_pos rfl]
     refine W.subs F.slot_str_getitem.lookup ?_
     walk_at "ce"
     refine W.binop (W.binop ?_)
     walk_at "ce"
     refine W.binop (W.kInt ?_)
     walk_at "E1"; generalize z1 _ _ = zu162
     refine W.binop (W.kInt ?_)
     intro _
     walk_at "nm"
     refine W.pow (by (clear hp2 hp1 hlen hk hi hm5 hf1 hf0 hx hch0 hlt hlo he0 hi1 hi0 hn2 hn1 hm2 hm1 hiz has hz; omega)) (by (clear hp2 hp1 hlen hk hm5 hf0 hx hch0 hlt hlo he0 hi1 hi0 hn2 hn1 hm2 hm1 hiz has hz; omega)) (by decide) ?_
     intro _
     rw [Int.toNat_natCast]
     refine W.imul (IntMulOk.of_left (by decide +kernel)) ?_
     intro _
     refine W.ifloor hp1 hp2 ?_
     walk_at "E1"; generalize z1 _ _ = zu166
     refine W.kInt ?_
     intro _
     refine W.imod (by decide) ?_
     intro _
     refine ⟨Ty.s, ?_⟩
     rw [bit_two]
     refine W.sign (signs_at ch _) (by rw [enc_len]; decide) ?_
     intro t15
     refine I2 _ _ ⟨rfl, rr2, ⟨k ++ [(⟨#[sg ch ((other.fdiv (5 * 2 ^ i)).fmod 2 == 1)]⟩, t15)], ?_, ?_⟩, rfl⟩
     ·simp [strValues]
     ·rw [List.range_succ, List.map_append, List.map_append, List.map_append, hk]; rfl
    ·walk_at "E3"; generalize (z3 _ _).1 = D; generalize (z3 _ _).2.1 = ys; generalize (z3 _ _).2.2 = l
     walk_at "Y1"; generalize z1 _ _ = rr2
     refine A2 ?_
     intro hkk zy20
     subst zy20
     intro hlen
     refine O1 ?_ (hkk)
     walk_at "Y1"; generalize z1 _ _ = k
     refine A2 ?_
     intro zy21 hk
     subst zy21
     clear hkk
     generalize hdr : ((List.range (2 + m5)).map fun j => bitOf other (5 * 2 ^ j)) = dr at hk
     have hdl : dr.length = 2 + m5 := by rw [← hdr]; simp
     refine W.spNil (W.join (by walk_at "mem") hk ?_ fun t1 => ?_)
     ·have hb : ∀ y ∈ dr.map (fun b => (⟨#[sg ch b]⟩ : Str)), y.length ≤ 1 := by
       walk_at "E1"; generalize z1 _ _ = y
       intro hy
       refine O1 ?_ (List.mem_map.mp hy)
       walk_at "Y1"; generalize z1 _ _ = b
       refine A2 ?_
       intro _ e
       rw [← e]; exact Nat.le_refl _
      unfold JoinOk
      rw [StrLaws.joinFits hb (by rw [show (Str.ofString "").length = 0 from by decide +kernel, List.length_map]; (clear hk hdr hlen hm5 hf0 hx hch0 hlt hlo he0 hi1 hi0 hn2 hn1 hm2 hm1 hiz has hz; omega))]
      rfl
     ·rw [show Txt.join (Str.ofString "") (dr.map fun b => (⟨#[sg ch b]⟩ : Str)) = enc ch dr from join_signs (sg ch) dr]
      walk_at "st"
      refine ⟨by first | rfl | trivial, W.cons (W.ret (W.mkTuple (W.spCons ?_)))⟩
      walk_at "nm"
      refine W.spCons ?_
      walk_at "ce"
      refine W.spCons ?_
      walk_at "nm"
      refine W.spNil ⟨by show 3 ≤ 16777216; (clear hdl hk hdr hlen hm5 hf1 hf0 hx hch0 hlt hlo he0 hi1 hi0 hn2 hn1 hm2 hm1 hiz has hz; omega), ?_⟩
      intro ta
      refine ⟨_, _, by walk_at "take", ch, tP shape 4, dr, ta, tx, t11, t1, hch, ?_, drawns_mem (by (clear hk hdr hlen hm5 hf1 hf0 hx hch0 hlt hlo he0 hi1 hi0 hn2 hn1 hm2 hm1 hiz has hz; omega)) (by (clear hk hdr hlen hm5 hf0 hx hch0 hlt hlo he0 hi1 hi0 hn2 hn1 hm2 hm1 hiz has hz; omega)), rfl, rfl⟩
      rw [tP_text]
      exact texts_mem ..
noncomputable def lpB (dbl : Bool) (text : Wd) : Wd × List Bool := placesB (cutB dbl (text.length + 1) text)
noncomputable def lsB (dbl : Bool) (text : Wd) : LS := leastRun (lpB dbl text).1 (lpB dbl text).2 17 0 ⟨[[0]], [[]], []⟩
noncomputable def machB (dbl : Bool) (text : Wd) : List Wd × List Bool × List Nat := leastEnd (lpB dbl text).1 (lsB dbl text)
structure Facts (dbl : Bool) (text drawn : Wd) : Prop where
 z : text.length ≤ 20
 p : ∀ p ∈ cutB dbl (text.length + 1) text, p.length ≤ 3 ∧ inT dbl p = true
 pz : (cutB dbl (text.length + 1) text).length ≤ 20
 done : leastDone (lpB dbl text).1 (lpB dbl text).2 17 0 ⟨[[0]], [[]], []⟩ = true
 chk : leastChk (lsB dbl text) = true
 dz : (machB dbl text).1.length ≤ 17
 dw : ∀ w ∈ (machB dbl text).1, w.length ≤ 20
 oz : (machB dbl text).2.1.length ≤ 100
 qz : (machB dbl text).2.2.length ≤ 100
 qw : ∀ n ∈ (machB dbl text).2.2, n ≤ 100
 turns : TurnsX (ellB text) drawn (machB dbl text).1 (machB dbl text).2.1 (machB dbl text).2.2 (machB dbl text).1.length [[]]
theorem drawns_len {w : Wd} (h : w ∈ drawns) : 2 ≤ w.length ∧ w.length ≤ 6 := by
 have : ∀ w ∈ drawns, 2 ≤ w.length ∧ w.length ≤ 6 := by decide +kernel
 exact this w h
theorem law_ok : ∀ {c : Cx} {kvs5 : List (Str × Value)} {A : Around} {sa : Addr} {xs : List (Int × Tok)} (T : Gd c (HK c.w.params)) (Gg : Gl c (HK c.w.params) 250 246) (he : EllOk c) (k5 : Tok5 c kvs5) (r : Room A 12) (hl : c.B.IsList sa (intsL xs).toArray) (hz : xs.length ≤ 63) (hF : ∀ ch ∈ opsB, ∀ text ∈ texts, ∀ drawn ∈ drawns, Facts (dblB ch) text drawn), W c A (call (.ref 273) [.ref sa]) (tabLed 246 lamPos lamQ none) (fun v l' => v = .bool true ∧ ∃ ps, (246, Is (tabObj ps)) ∈ l') := by
 walk_at "E5"; generalize (z5 _ _).1 = c; generalize (z5 _ _).2.1 = kvs5; generalize (z5 _ _).2.2.1 = A; generalize (z5 _ _).2.2.2.1 = sa; generalize (z5 _ _).2.2.2.2 = xs
 intro T Gg he k5 r hl hz hF
 refine W.defC (binds := (["script"] : List Str).zip [Value.ref sa]) (names := ["script", "drawn", "pieces", "letters", "free", "due", "piece", "ends", "turn", "book", "ways", "yes", "asked", "place", "told", "answers", "kinds"]) (cns := ["last", "mixed", "road", "answer", "wrong", "word", "words", "known", "steps", "own", "signs", "text"]) (vals := [some (.ref sa), none, none, none, none, none, none, none, none, none, none, none, none, none, none, none, none]) (cvals := [none, none, none, none, none, none, none, none, none, none, none, none]) T r (by k_is) (by k_is) (by exact rfl) (by exact rfl) (by exact rfl) (by decide +kernel) (by exact rfl) (by decide +kernel) (by decide +kernel) (by exact rfl) (by exact rfl) ?_
 walk_at "E2"; generalize (z2 _ _).1 = L; generalize (z2 _ _).2 = as
 intro has
 have zh1 : ∃ a1 a2 a3 a4 a5 a6 a7 a8 a9 a10 a11 a12, as = [a1, a2, a3, a4, a5, a6, a7, a8, a9, a10, a11, a12] := by
  match as, has with
  | [a1, a2, a3, a4, a5, a6, a7, a8, a9, a10, a11, a12], _ => exact ⟨a1, a2, a3, a4, a5, a6, a7, a8, a9, a10, a11, a12, rfl⟩
 refine O1 ?_ (zh1)
 refine' @Y12 _ _ _ _ _ _ _ _ _ _ _ _ _ _ (by walk_at "ne") ?_; generalize (z12 _ _).1 = a1; generalize (z12 _ _).2.1 = a2; generalize (z12 _ _).2.2.1 = a3; generalize (z12 _ _).2.2.2.1 = a4; generalize (z12 _ _).2.2.2.2.1 = a5; generalize (z12 _ _).2.2.2.2.2.1 = a6; generalize (z12 _ _).2.2.2.2.2.2.1 = a7; generalize (z12 _ _).2.2.2.2.2.2.2.1 = a8; generalize (z12 _ _).2.2.2.2.2.2.2.2.1 = a9; generalize (z12 _ _).2.2.2.2.2.2.2.2.2.1 = a10; generalize (z12 _ _).2.2.2.2.2.2.2.2.2.2.1 = a11; generalize (z12 _ _).2.2.2.2.2.2.2.2.2.2.2 = a12
 intro zy1
 subst zy1
 clear zh1
 simp only [List.cons_append, List.nil_append, List.map_cons, List.map_nil, List.zip_cons_cons, List.zip_nil_right]
 refine W.step (W.setTup (W.callK T (fv := .ref 199) (by k_is) ?_))
 walk_at "gl"
 refine ⟨rfl, W.spCons ?_⟩
 walk_at "nm"
 refine W.spNil ?_
 refine W.use (draw_ok T (r.deeper.less (by (clear has hz; omega))) hl hz) Take.nil ?_
 walk_at "E2"; generalize (z2 _ _).1 = v; generalize (z2 _ _).2 = l'
 refine' @Y7 _ _ _ _ _ _ _ _ _ (by walk_at "ne") ?_; generalize (z7 _ _).1 = ch; generalize (z7 _ _).2.1 = text; generalize (z7 _ _).2.2.1 = drawn; generalize (z7 _ _).2.2.2.1 = ta; generalize (z7 _ _).2.2.2.2.1 = tt; generalize (z7 _ _).2.2.2.2.2.1 = ts; generalize (z7 _ _).2.2.2.2.2.2 = td
 refine A5 ?_
 intro hchm htx hdr zy2 zy3
 subst zy2
 subst zy3
 simp only [List.cons_append, List.nil_append]
 refine W.asTuple r.hh (.head _) (by exact rfl) (by exact rfl) ?_
 refine W.inOrderCons (W.asName ?_)
 walk_at "sc"
 refine W.inOrderCons (W.asName ?_)
 walk_at "sc"
 refine W.inOrderCons (W.asName ?_)
 walk_at "st"
 refine W.inOrderNil ⟨by first | rfl | trivial, ?_⟩
 obtain ⟨hch, hc1, hc2⟩ := ops_ok k5 hchm
 have F := hF ch hchm text htx drawn hdr
 obtain ⟨hd1, hd2⟩ := drawns_len hdr
 clear hF htx hdr
 have hZ := F.z
 refine W.sub (l' := [(L, NP ["script", "drawn", "pieces", "letters", "free", "due", "piece", "ends", "turn", "book", "ways", "yes", "asked", "place", "told", "answers", "kinds"] [some (.ref sa), some (.str (enc ch drawn) td), none, none, none, none, none, none, none, none, none, none, none, none, none, none, none]), (a1, Ce none), (a2, Ce none), (a3, Ce none), (a4, Ce none), (a5, Ce none), (a6, Ce none), (a7, Ce none), (a8, Ce none), (a9, Ce none), (a10, Ce none), (a11, Ce (some (.str (enc ch [false, true]) ts))), (a12, Ce (some (.str (enc ch text) tt)))] ++ tabLed 246 lamPos lamQ none) ?_ (Take.suffix [_] _)
 simp only [List.cons_append, List.nil_append]
 refine W.step (W.set (W.callK T (fv := .ref 206) (by k_is) ?_))
 walk_at "gl"
 refine ⟨rfl, W.spCons ?_⟩
 walk_at "ce"
 refine W.spNil ?_
 refine W.use (cut_ok T k5 (r.deeper.less (by (clear hZ hd2 hd1 hc2 hc1 hch has hz; omega))) hchm (by (clear hd2 hd1 hc2 hc1 hch has hz; omega))) Take.nil ?_
 walk_at "E2"; generalize (z2 _ _).1 = v; generalize (z2 _ _).2 = l'
 walk_at "Y2"; generalize (z2 _ _).1 = pa; generalize (z2 _ _).2 = pvs
 refine A3 ?_
 intro zy4 hP zy5
 subst zy4
 subst zy5
 simp only [List.cons_append, List.nil_append]
 walk_at "st"
 refine ⟨by first | rfl | trivial, ?_⟩
 have hp1 := F.p
 have hp2 := F.pz
 have hlf := plFold_len (cutB (dblB ch) (text.length + 1) text) ([], [false]) rfl
 have hll := plFold_le (cutB (dblB ch) (text.length + 1) text) ([], [false]) (fun p hp => (hp1 p hp).1)
 rw [← placesB_eq] at hlf hll
 refine W.step (W.setTup (W.callK T (fv := .ref 211) (by k_is) ?_))
 walk_at "gl"
 refine ⟨rfl, W.spCons ?_⟩
 walk_at "nm"
 refine W.spNil ?_
 refine W.use (places_ok T k5 (r.deeper.less (by (clear hll hlf hp2 hZ hd2 hd1 hc2 hc1 hch has hz; omega))) hchm hP (by (clear hll hlf hZ hd2 hd1 hc2 hc1 hch has hz; omega)) hp1) (.cons .head .nil) ?_
 walk_at "E2"; generalize (z2 _ _).1 = v; generalize (z2 _ _).2 = l'
 walk_at "Y3"; generalize (z3 _ _).1 = ta2; generalize (z3 _ _).2.1 = fa; generalize (z3 _ _).2.2 = tl
 refine A2 ?_
 intro zy6 zy7
 subst zy6
 subst zy7
 simp only [List.cons_append, List.nil_append]
 have hdone := F.done
 have hchk := F.chk
 have hdz := F.dz
 have hdw := F.dw
 have hoz := F.oz
 have hqz := F.qz
 have hqw := F.qw
 have hT := F.turns
 clear F
 unfold machB at hdz hdw hoz hqz hqw hT
 unfold lsB at hchk hdz hdw hoz hqz hqw hT
 unfold lpB at hdone hchk hdz hdw hoz hqz hqw hT
 generalize hletters : (placesB (cutB (dblB ch) (text.length + 1) text)).1 = letters at *
 generalize hfree : (placesB (cutB (dblB ch) (text.length + 1) text)).2 = free at *
 refine W.asTuple r.hh (.head _) (by exact rfl) (by exact rfl) ?_
 refine W.inOrderCons (W.asName ?_)
 walk_at "st"
 refine W.inOrderCons (W.asName ?_)
 walk_at "st"
 refine W.inOrderNil ⟨by first | rfl | trivial, ?_⟩
 refine W.sub (l' := [(fa, Ls (free.map .bool)), (pa, Ls pvs), (L, NP ["script", "drawn", "pieces", "letters", "free", "due", "piece", "ends", "turn", "book", "ways", "yes", "asked", "place", "told", "answers", "kinds"] [some (.ref sa), some (.str (enc ch drawn) td), some (.ref pa), some (.str (enc ch letters) tl), some (.ref fa), none, none, none, none, none, none, none, none, none, none, none, none]), (a1, Ce none), (a2, Ce none), (a3, Ce none), (a4, Ce none), (a5, Ce none), (a6, Ce none), (a7, Ce none), (a8, Ce none), (a9, Ce none), (a10, Ce none), (a11, Ce (some (.str (enc ch [false, true]) ts))), (a12, Ce (some (.str (enc ch text) tt)))] ++ tabLed 246 lamPos lamQ none) ?_ (Take.suffix [_] _)
 simp only [List.cons_append, List.nil_append]
 refine W.step (W.setTup (W.callK T (fv := .ref 223) (by k_is) ?_))
 walk_at "gl"
 refine ⟨rfl, W.spCons ?_⟩
 walk_at "nm"
 refine W.spCons ?_
 walk_at "nm"
 refine W.spCons ?_
 walk_at "ce"
 refine W.spNil ?_
 refine W.use (least_ok T (r.deeper.less (by (clear hqz hoz hdz hchk hdone hlf hfree hll hletters hp2 hZ hd2 hd1 hc2 hc1 hch has hz; omega))) hch hlf (by simp at hll; (clear hqz hoz hdz hchk hdone hlf hfree hletters hZ hd2 hd1 hc2 hc1 hch has hz; omega)) rfl hdone hchk) (.cons .head .nil) ?_
 walk_at "E2"; generalize (z2 _ _).1 = v; generalize (z2 _ _).2 = l'
 refine' @Y6 _ _ _ _ _ _ _ _ (by walk_at "ne") ?_; generalize (z6 _ _).1 = ta3; generalize (z6 _ _).2.1 = da; generalize (z6 _ _).2.2.1 = oa; generalize (z6 _ _).2.2.2.1 = qa; generalize (z6 _ _).2.2.2.2.1 = dvs; generalize (z6 _ _).2.2.2.2.2 = qvs
 refine A4 ?_
 intro zy8 hD hQ zy9
 subst zy8
 subst zy9
 simp only [List.cons_append, List.nil_append]
 generalize leastEnd letters _ = M at *
 refine PRe M ?_
 walk_at "E2"; generalize (z2 _ _).1 = due; generalize (z2 _ _).2 = M2
 intro zy10
 subst zy10
 refine PRe M2 ?_
 walk_at "E2"; generalize (z2 _ _).1 = own; generalize (z2 _ _).2 = steps
 intro zy11
 subst zy11
 dsimp only at *
 refine W.asTuple r.hh (.head _) (by exact rfl) (by exact rfl) ?_
 refine W.inOrderCons (W.asName ?_)
 walk_at "st"
 refine W.inOrderCons (W.asName ?_)
 walk_at "sc"
 refine W.inOrderCons (W.asName ?_)
 walk_at "sc"
 refine W.inOrderNil ⟨by first | rfl | trivial, ?_⟩
 refine W.sub (l' := [(da, Ls dvs), (oa, Ls (own.map .bool)), (qa, Ls qvs), (pa, Ls pvs), (L, NP ["script", "drawn", "pieces", "letters", "free", "due", "piece", "ends", "turn", "book", "ways", "yes", "asked", "place", "told", "answers", "kinds"] [some (.ref sa), some (.str (enc ch drawn) td), some (.ref pa), some (.str (enc ch letters) tl), some (.ref fa), some (.ref da), none, none, none, none, none, none, none, none, none, none, none]), (a1, Ce none), (a2, Ce none), (a3, Ce none), (a4, Ce none), (a5, Ce none), (a6, Ce none), (a7, Ce none), (a8, Ce none), (a9, Ce (some (.ref qa))), (a10, Ce (some (.ref oa))), (a11, Ce (some (.str (enc ch [false, true]) ts))), (a12, Ce (some (.str (enc ch text) tt)))] ++ tabLed 246 lamPos lamQ none) ?_ (by walk_at "tk")
 refine W.cut (fun l => ∃ pv, l = [(da, Ls dvs), (oa, Ls (own.map .bool)), (qa, Ls qvs), (pa, Ls pvs), (L, NP ["script", "drawn", "pieces", "letters", "free", "due", "piece", "ends", "turn", "book", "ways", "yes", "asked", "place", "told", "answers", "kinds"] [some (.ref sa), some (.str (enc ch drawn) td), some (.ref pa), some (.str (enc ch letters) tl), some (.ref fa), some (.ref da), pv, none, none, none, none, none, none, none, none, none, none]), (a1, Ce none), (a2, Ce none), (a3, Ce none), (a4, Ce none), (a5, Ce none), (a6, Ce none), (a7, Ce none), (a8, Ce none), (a9, Ce (some (.ref qa))), (a10, Ce (some (.ref oa))), (a11, Ce (some (.str (enc ch [false, true]) ts))), (a12, Ce (some (.str (enc ch text) tt)))] ++ tabLed 246 lamPos lamQ none) (W.for (n := pvs.length) (P := fun i v => pvs[i]? = some v) (need := [(pa, Ls pvs)]) (fun i l => ∃ pv, l = [(da, Ls dvs), (oa, Ls (own.map .bool)), (qa, Ls qvs), (pa, Ls pvs), (L, NP ["script", "drawn", "pieces", "letters", "free", "due", "piece", "ends", "turn", "book", "ways", "yes", "asked", "place", "told", "answers", "kinds"] [some (.ref sa), some (.str (enc ch drawn) td), some (.ref pa), some (.str (enc ch letters) tl), some (.ref fa), some (.ref da), pv, none, none, none, none, none, none, none, none, none, none]), (a1, Ce none), (a2, Ce none), (a3, Ce none), (a4, Ce none), (a5, Ce none), (a6, Ce none), (a7, Ce none), (a8, Ce none), (a9, Ce (some (.ref qa))), (a10, Ce (some (.ref oa))), (a11, Ce (some (.str (enc ch [false, true]) ts))), (a12, Ce (some (.str (enc ch text) tt)))] ++ tabLed 246 lamPos lamQ none) r.hh ?_ ?_ ?_ ?_) ?_
 ·walk_at "nm"
  exact ⟨Itr.ls (by walk_at "mem"), none, rfl⟩
 ·walk_at "E2"; generalize (z2 _ _).1 = i; generalize (z2 _ _).2 = l
  walk_at "Y1"; generalize z1 _ _ = pv
  intro zy12
  subst zy12
  walk_at "E1"; generalize z1 _ _ = p
  intro hp
  simp at hp; subst hp; simp
 ·walk_at "E3"; generalize (z3 _ _).1 = i; generalize (z3 _ _).2.1 = v; generalize (z3 _ _).2.2 = l
  intro hi hv
  walk_at "Y1"; generalize z1 _ _ = pv
  intro zy13
  subst zy13
  simp only [List.cons_append, List.nil_append]
  refine O1 ?_ (hP.at hv)
  walk_at "Y2"; generalize (z2 _ _).1 = w; generalize (z2 _ _).2 = tw
  refine A2 ?_
  intro hw zy14
  subst zy14
  have hwm := List.mem_of_getElem? hw
  obtain ⟨hw3, hwT⟩ := hp1 w hwm
  obtain ⟨_, _, _, h4⟩ := k5.all hchm hw3
  refine W.asName ?_
  walk_at "st"
  refine W.cons (W.cond (W.testBool (W.andCons (W.testCompare (W.callB (id := "len") ?_)))))
  walk_at "b_len"
  refine ⟨rfl, W.spCons ?_⟩
  walk_at "nm"
  refine W.spNil (W.len (by rw [enc_len]; show _ ≤ 16777216; (clear hv hw hi hqz hoz hdz hchk hdone hlf hfree hll hletters hp2 hZ hd2 hd1 hc2 hc1 hch has hz; omega)) ?_)
  walk_at "E1"; generalize z1 _ _ = zu
  refine W.kInt ?_
  walk_at "E1"; generalize z1 _ _ = zu
  refine W.ieq (W.truthyBool ?_)
  rw [enc_len]
  by_cases h1 : w.length = 1
  ·rw [if_pos (by simp [h1])]
   refine O1 ?_ (h4 h1)
   walk_at "Y1"; generalize z1 _ _ = j
   refine A2 ?_
   intro ho hn
   have zh2 : ∃ tj, valueAt kvs5 (enc ch w) = some (.int (7 + (j : Int)) tj) := by
    generalize hv : valueAt kvs5 (enc ch w) = zo1
    refine OCn zo1 ?_ ?_
    ·intro ze1a
     subst ze1a
     rw [hv] at hn; cases hn
    ·walk_at "E1"; generalize z1 _ _ = x
     intro ze1b
     subst ze1b
     rw [hv] at hn
     cases x with
     | int z t => exact ⟨t, by rw [Option.some.inj hn]⟩
     | _ => cases hn
   refine O1 ?_ (zh2)
   walk_at "Y1"; generalize z1 _ _ = tj
   intro hval
   clear zh2
   refine W.andCons (W.testCompare (W.subsB F.slot_dict_getitem.lookup ?_))
   walk_at "gl"
   walk_at "nm"
   refine ⟨k5.dict, W.getTok k5 hval ?_⟩
   refine W.binop (W.kInt ?_)
   walk_at "E1"; generalize z1 _ _ = zu
   refine W.meth F.plainAttrs_str F.slot_str_index F.type_str_index (W.kStr ?_)
   walk_at "E1"; generalize z1 _ _ = zu
   refine ⟨Ty.s, W.spCons ?_⟩
   walk_at "nm"
   refine W.spNil (W.sindex (i := j) (rest := []) ho ?_)
   walk_at "E1"; generalize z1 _ _ = zu
   refine W.iadd ?_
   walk_at "E1"; generalize z1 _ _ = zu
   refine W.ine (W.truthyBool ?_)
   rw [show ((7 + (j : Int)) != (7 + (j : Int))) = false by simp]
   simp only [Bool.false_eq_true, if_false]
   exact W.nil (W.nil ⟨_, rfl⟩)
  ·rw [if_neg (by simp only [beq_iff_eq]; (clear hw3 hv hw hi hqz hoz hdz hchk hdone hlf hfree hll hletters hp2 hZ hd2 hd1 hc2 hc1 hch has hz; omega))]
   simp only [Bool.false_eq_true, if_false]
   exact W.nil (W.nil ⟨_, rfl⟩)
 ·walk_at "E1"; generalize z1 _ _ = l
  walk_at "Y1"; generalize z1 _ _ = pv
  intro zy15
  subst zy15
  exact ⟨pv, rfl⟩
 walk_at "E1"; generalize z1 _ _ = l
 walk_at "Y1"; generalize z1 _ _ = pv
 intro zy16
 subst zy16
 simp only [List.cons_append, List.nil_append]
 refine W.step (W.set (W.dict ?_))
 walk_at "E1"; generalize z1 _ _ = ka
 walk_at "sc"
 refine ⟨by first | rfl | trivial, W.step (W.set (W.mkList (W.spCons (W.kStr ?_))))⟩
 walk_at "E1"; generalize z1 _ _ = tn
 refine W.spNil ⟨by show 1 ≤ 16777216; (clear hqz hoz hdz hchk hdone hlf hfree hll hletters hp2 hZ hd2 hd1 hc2 hc1 hch has hz; omega), ?_⟩
 walk_at "E1"; generalize z1 _ _ = ea
 walk_at "st"
 refine ⟨by first | rfl | trivial, ?_⟩
 refine W.sub (l' := [(da, Ls dvs), (oa, Ls (own.map .bool)), (qa, Ls qvs), (L, NP ["script", "drawn", "pieces", "letters", "free", "due", "piece", "ends", "turn", "book", "ways", "yes", "asked", "place", "told", "answers", "kinds"] [some (.ref sa), some (.str (enc ch drawn) td), some (.ref pa), some (.str (enc ch letters) tl), some (.ref fa), some (.ref da), pv, some (.ref ea), none, none, none, none, none, none, none, none, none]), (a1, Ce none), (a2, Ce none), (a3, Ce none), (a4, Ce none), (a5, Ce none), (a6, Ce none), (a7, Ce none), (a8, Ce (some (.ref ka))), (a9, Ce (some (.ref qa))), (a10, Ce (some (.ref oa))), (a11, Ce (some (.str (enc ch [false, true]) ts))), (a12, Ce (some (.str (enc ch text) tt))), (ea, Ls [.str (Str.ofString "") tn]), (ka, Dk c [])] ++ tabLed 246 lamPos lamQ none) ?_ (by walk_at "tk")
 have hDl := hD.1
 have hQl := hQ.1
 refine W.cut (fun l => ∃ evs ends bk rows x dx ha kvs st kv yv sv av wv c1 c2 c3 c4 c5 c7, BookIs ch rows bk ∧ toldB due own steps ends = some bk ∧ TxtAre ch evs ends ∧ ends.length ≤ 30 ∧ (∀ e ∈ ends, e.length ≤ 20) ∧ KnOk ch text kvs ∧ rows.length ≤ 19 ∧ kvs.length ≤ 100000 ∧ l = [(da, Ls dvs), (oa, Ls (own.map .bool)), (qa, Ls qvs), (L, NP ["script", "drawn", "pieces", "letters", "free", "due", "piece", "ends", "turn", "book", "ways", "yes", "asked", "place", "told", "answers", "kinds"] [some (.ref sa), some (.str (enc ch drawn) td), some (.ref pa), some (.str (enc ch letters) tl), some (.ref fa), some (.ref da), pv, some (.ref ea), kv, some (.ref x), yv, sv, av, wv, none, none, none]), (a1, Ce c1), (a2, Ce c2), (a3, Ce c3), (a4, Ce c4), (a5, Ce c5), (a6, Ce none), (a7, Ce c7), (a8, Ce (some (.ref ka))), (a9, Ce (some (.ref qa))), (a10, Ce (some (.ref oa))), (a11, Ce (some (.str (enc ch [false, true]) ts))), (a12, Ce (some (.str (enc ch text) tt))), (ea, Ls evs), (ka, Dk c kvs)] ++ (bookLed x dx ha rows ++ tabLed 246 lamPos lamQ st)) (W.for (n := due.length) (P := fun i v => ∃ t, v = .int (0 + (i : Nat) * 1) t) (need := [])
  (fun i l => ∃ rr ends evs kvs st kv bv yv sv av wv c1 c2 c3 c4 c5 c7, TurnsX (ellB text) drawn due own steps (due.length - i) ends ∧ TxtAre ch evs ends ∧ ends.length = i + 1 ∧ (∀ e ∈ ends, e.length ≤ 20) ∧ KnOk ch text kvs ∧ kvs.length ≤ 1000 * i ∧ l = [(rr, Rg 0 (due.length : Nat) 1), (da, Ls dvs), (oa, Ls (own.map .bool)), (qa, Ls qvs), (L, NP ["script", "drawn", "pieces", "letters", "free", "due", "piece", "ends", "turn", "book", "ways", "yes", "asked", "place", "told", "answers", "kinds"] [some (.ref sa), some (.str (enc ch drawn) td), some (.ref pa), some (.str (enc ch letters) tl), some (.ref fa), some (.ref da), pv, some (.ref ea), kv, bv, yv, sv, av, wv, none, none, none]), (a1, Ce c1), (a2, Ce c2), (a3, Ce c3), (a4, Ce c4), (a5, Ce c5), (a6, Ce none), (a7, Ce c7), (a8, Ce (some (.ref ka))), (a9, Ce (some (.ref qa))), (a10, Ce (some (.ref oa))), (a11, Ce (some (.str (enc ch [false, true]) ts))), (a12, Ce (some (.str (enc ch text) tt))), (ea, Ls evs), (ka, Dk c kvs)] ++ tabLed 246 lamPos lamQ st) r.hh ?_ ?_ ?_ ?_) ?rest
 ·refine W.callT (id := "range") ?_
  walk_at "b_range"
  refine ⟨rfl, W.spCons (W.callB (id := "len") ?_)⟩
  walk_at "b_len"
  refine ⟨rfl, W.spCons ?_⟩
  walk_at "nm"
  refine W.spNil (W.len' (by walk_at "mem") (by show _ ≤ 16777216; (clear hQl hqz hoz hchk hdone hlf hfree hll hletters hp2 hZ hd2 hd1 hc2 hc1 hch has hz; omega)) ?_)
  walk_at "E1"; generalize z1 _ _ = zu
  refine W.spNil ?_
  rw [hDl]
  exact W.range1 fun rr => ⟨Itr.rg (.head _) (rg1 due.length (by (clear hQl hDl hqz hoz hchk hdone hlf hfree hll hletters hp2 hZ hd2 hd1 hc2 hc1 hch has hz; omega))).1 (rg1 due.length (by (clear hQl hDl hqz hoz hchk hdone hlf hfree hll hletters hp2 hZ hd2 hd1 hc2 hc1 hch has hz; omega))).2, rr, [[]], [.str (enc ch []) tn], [], none, none, none, none, none, none, none, none, none, none, none, none, none, hT, TxtAre.snoc TxtAre.nil, rfl, by simp, (by unfold KnOk; intro p hp; cases hp), by simp, rfl⟩
 ·walk_at "E2"; generalize (z2 _ _).1 = zu; generalize (z2 _ _).2 = zu
  intro _
  walk_at "E1"; generalize z1 _ _ = zu
  intro h
  cases h
 ·walk_at "E3"; generalize (z3 _ _).1 = i; generalize (z3 _ _).2.1 = v; generalize (z3 _ _).2.2 = l
  intro hi
  walk_at "Y1"; generalize z1 _ _ = tv
  intro zy17
  subst zy17
  refine' @Y17 _ _ _ _ _ _ _ _ _ _ _ _ _ _ _ _ _ _ _ (by walk_at "ne") ?_; generalize (z17 _ _).1 = rr; generalize (z17 _ _).2.1 = ends; generalize (z17 _ _).2.2.1 = evs; generalize (z17 _ _).2.2.2.1 = kvs; generalize (z17 _ _).2.2.2.2.1 = st; generalize (z17 _ _).2.2.2.2.2.1 = kv; generalize (z17 _ _).2.2.2.2.2.2.1 = bv; generalize (z17 _ _).2.2.2.2.2.2.2.1 = yv; generalize (z17 _ _).2.2.2.2.2.2.2.2.1 = sv; generalize (z17 _ _).2.2.2.2.2.2.2.2.2.1 = av; generalize (z17 _ _).2.2.2.2.2.2.2.2.2.2.1 = wv; generalize (z17 _ _).2.2.2.2.2.2.2.2.2.2.2.1 = c1; generalize (z17 _ _).2.2.2.2.2.2.2.2.2.2.2.2.1 = c2; generalize (z17 _ _).2.2.2.2.2.2.2.2.2.2.2.2.2.1 = c3; generalize (z17 _ _).2.2.2.2.2.2.2.2.2.2.2.2.2.2.1 = c4; generalize (z17 _ _).2.2.2.2.2.2.2.2.2.2.2.2.2.2.2.1 = c5; generalize (z17 _ _).2.2.2.2.2.2.2.2.2.2.2.2.2.2.2.2 = c7
  refine A7 ?_
  intro hT hE hez hel hK hkz zy18
  subst zy18
  rw [show (0 + (i : Nat) * 1 : Int) = ((i : Nat) : Int) by (clear hkz hez hi hQl hDl hqz hoz hdz hchk hdone hlf hfree hll hletters hp2 hZ hd2 hd1 hc2 hc1 hch has hz; omega)]
  refine O1 ?_ (show ∃ n, due.length - i = n + 1 from ⟨due.length - i - 1, by (clear hkz hez hQl hDl hqz hoz hdz hchk hdone hlf hfree hll hletters hp2 hZ hd2 hd1 hc2 hc1 hch has hz; omega)⟩)
  walk_at "Y1"; generalize z1 _ _ = n
  intro hn
  have hn' : due.length - (i + 1) = n := by (clear hkz hez hi hQl hDl hqz hoz hdz hchk hdone hlf hfree hll hletters hp2 hZ hd2 hd1 hc2 hc1 hch has hz; omega)
  rw [hn] at hT
  unfold TurnsX at hT
  obtain ⟨hok, hT⟩ := hT
  have hEl := hE.1
  refine W.asName ?_
  simp only [List.cons_append, List.nil_append]
  walk_at "st"
  refine W.step (W.setTup (W.callK T (fv := .ref 261) (by k_is) ?_))
  walk_at "gl"
  refine ⟨rfl, W.spCons ?_⟩
  walk_at "ce"
  refine W.spCons ?_
  walk_at "ce"
  refine W.spCons ?_
  walk_at "nm"
  refine W.spCons ?_
  walk_at "ce"
  refine W.spNil ?_
  refine W.use (table_ok T he (r.deeper.less (by (clear hEl hn' hn hkz hez hi hQl hDl hqz hoz hdz hchk hdone hlf hfree hll hletters hp2 hZ hd2 hd1 hc2 hc1 hch has hz; omega))) hch hc1 hc2 hE (by (clear hEl hn' hn hkz hez hi hQl hDl hqz hoz hdz hchk hdone hlf hfree hll hletters hp2 hd2 hd1 hc2 hc1 hch has hz; omega)) (by (clear hEl hn' hn hkz hQl hDl hqz hoz hchk hdone hlf hfree hll hletters hp2 hZ hd2 hd1 hc2 hc1 hch has hz; omega)) (fun e h => by have := hel e h; (clear hEl hn' hn hkz hez hi hQl hDl hqz hoz hdz hchk hdone hlf hfree hll hletters hp2 hZ hd2 hd1 hc2 hc1 hch has hz; omega)) (by (clear hEl hn' hn hez hQl hDl hqz hoz hchk hdone hlf hfree hll hletters hp2 hZ hd2 hd1 hc2 hc1 hch has hz; omega)) hK) (by walk_at "tk") ?_
  walk_at "E2"; generalize (z2 _ _).1 = v; generalize (z2 _ _).2 = l'
  refine' @Y10 _ _ _ _ _ _ _ _ _ _ _ _ (by walk_at "ne") ?_; generalize (z10 _ _).1 = ta; generalize (z10 _ _).2.1 = x; generalize (z10 _ _).2.2.1 = dx; generalize (z10 _ _).2.2.2.1 = ha; generalize (z10 _ _).2.2.2.2.1 = wd; generalize (z10 _ _).2.2.2.2.2.1 = yd; generalize (z10 _ _).2.2.2.2.2.2.1 = rows; generalize (z10 _ _).2.2.2.2.2.2.2.1 = wvs; generalize (z10 _ _).2.2.2.2.2.2.2.2.1 = yvs; generalize (z10 _ _).2.2.2.2.2.2.2.2.2 = kvs1
  refine A8 ?_
  intro zy19 hB hW hY hK1 hkz1 hrz zy20
  subst zy19
  subst zy20
  rw [table_F] at hB hW hY
  generalize tableF (ellB text) ends = tb at *
  unfold tabOk at hok
  simp only [Bool.and_eq_true, decide_eq_true_eq, List.all_eq_true] at hok
  obtain ⟨⟨⟨htz, htyz⟩, hty⟩, htw⟩ := hok
  have hWl := hW.1
  have hYl := hY.1
  simp only [List.cons_append, List.nil_append, List.append_assoc]
  refine W.perm (l' := [(ta, Tp [.ref x, .ref wd, .ref yd]), (wd, Ls wvs), (yd, Ls yvs), (ka, Dk c kvs1), (ea, Ls evs), (rr, Rg 0 (due.length : Nat) 1), (da, Ls dvs), (oa, Ls (own.map .bool)), (qa, Ls qvs), (L, NP ["script", "drawn", "pieces", "letters", "free", "due", "piece", "ends", "turn", "book", "ways", "yes", "asked", "place", "told", "answers", "kinds"] [some (.ref sa), some (.str (enc ch drawn) td), some (.ref pa), some (.str (enc ch letters) tl), some (.ref fa), some (.ref da), pv, some (.ref ea), some (.int (i : Nat) tv), bv, yv, sv, av, wv, none, none, none]), (a1, Ce c1), (a2, Ce c2), (a3, Ce c3), (a4, Ce c4), (a5, Ce c5), (a6, Ce none), (a7, Ce c7), (a8, Ce (some (.ref ka))), (a9, Ce (some (.ref qa))), (a10, Ce (some (.ref oa))), (a11, Ce (some (.str (enc ch [false, true]) ts))), (a12, Ce (some (.str (enc ch text) tt)))] ++ (bookLed x dx ha rows ++ tabLed 246 lamPos lamQ st)) ?_ (List.Perm.cons _ (List.Perm.cons _ (List.Perm.cons _ (List.Perm.cons _ (List.Perm.cons _ (List.perm_append_comm_assoc (bookLed x dx ha rows) [(rr, Rg 0 (due.length : Nat) 1), (da, Ls dvs), (oa, Ls (own.map .bool)), (qa, Ls qvs), (L, NP ["script", "drawn", "pieces", "letters", "free", "due", "piece", "ends", "turn", "book", "ways", "yes", "asked", "place", "told", "answers", "kinds"] [some (.ref sa), some (.str (enc ch drawn) td), some (.ref pa), some (.str (enc ch letters) tl), some (.ref fa), some (.ref da), pv, some (.ref ea), some (.int (i : Nat) tv), bv, yv, sv, av, wv, none, none, none]), (a1, Ce c1), (a2, Ce c2), (a3, Ce c3), (a4, Ce c4), (a5, Ce c5), (a6, Ce none), (a7, Ce c7), (a8, Ce (some (.ref ka))), (a9, Ce (some (.ref qa))), (a10, Ce (some (.ref oa))), (a11, Ce (some (.str (enc ch [false, true]) ts))), (a12, Ce (some (.str (enc ch text) tt)))] (tabLed 246 lamPos lamQ st)))))))
  simp only [List.cons_append, List.nil_append]
  refine W.asTuple r.hh (.head _) (by exact rfl) (by exact rfl) ?_
  refine W.inOrderCons (W.asName ?_)
  walk_at "st"
  refine W.inOrderCons (W.asName ?_)
  walk_at "sc"
  refine W.inOrderCons (W.asName ?_)
  walk_at "st"
  refine W.inOrderNil ⟨by first | rfl | trivial, ?_⟩
  refine W.sub (l' := [(ka, Dk c kvs1), (wd, Ls wvs), (yd, Ls yvs), (rr, Rg 0 (due.length : Nat) 1), (da, Ls dvs), (oa, Ls (own.map .bool)), (qa, Ls qvs), (L, NP ["script", "drawn", "pieces", "letters", "free", "due", "piece", "ends", "turn", "book", "ways", "yes", "asked", "place", "told", "answers", "kinds"] [some (.ref sa), some (.str (enc ch drawn) td), some (.ref pa), some (.str (enc ch letters) tl), some (.ref fa), some (.ref da), pv, some (.ref ea), some (.int (i : Nat) tv), some (.ref x), some (.ref yd), sv, av, wv, none, none, none]), (a1, Ce c1), (a2, Ce c2), (a3, Ce c3), (a4, Ce c4), (a5, Ce c5), (a6, Ce none), (a7, Ce (some (.ref wd))), (a8, Ce (some (.ref ka))), (a9, Ce (some (.ref qa))), (a10, Ce (some (.ref oa))), (a11, Ce (some (.str (enc ch [false, true]) ts))), (a12, Ce (some (.str (enc ch text) tt))), (ea, Ls evs)] ++ (bookLed x dx ha rows ++ tabLed 246 lamPos lamQ st)) ?_ (by walk_at "tk")
  refine W.cut (fun l => ∃ sd kvs2, KnOk ch text kvs2 ∧ kvs2.length ≤ 1000 * i + 779 ∧ l = [(ka, Dk c kvs2), (sd, Ls ((tb.words.map (ellB text)).map .bool)), (wd, Ls wvs), (yd, Ls yvs), (rr, Rg 0 (due.length : Nat) 1), (da, Ls dvs), (oa, Ls (own.map .bool)), (qa, Ls qvs), (L, NP ["script", "drawn", "pieces", "letters", "free", "due", "piece", "ends", "turn", "book", "ways", "yes", "asked", "place", "told", "answers", "kinds"] [some (.ref sa), some (.str (enc ch drawn) td), some (.ref pa), some (.str (enc ch letters) tl), some (.ref fa), some (.ref da), pv, some (.ref ea), some (.int (i : Nat) tv), some (.ref x), some (.ref yd), some (.ref sd), av, wv, none, none, none]), (a1, Ce c1), (a2, Ce c2), (a3, Ce c3), (a4, Ce c4), (a5, Ce c5), (a6, Ce none), (a7, Ce (some (.ref wd))), (a8, Ce (some (.ref ka))), (a9, Ce (some (.ref qa))), (a10, Ce (some (.ref oa))), (a11, Ce (some (.str (enc ch [false, true]) ts))), (a12, Ce (some (.str (enc ch text) tt))), (ea, Ls evs)] ++ (bookLed x dx ha rows ++ tabLed 246 lamPos lamQ st)) (W.setU (by exact rfl) ?_) ?_
  ·refine W.compU _ (n := wvs.length) (P := fun i v => wvs[i]? = some v) (need := [(wd, Ls wvs)])
    (fun j ys l => ∃ kvs2, KnOk ch text kvs2 ∧ kvs2.length ≤ 1000 * i + 760 + j ∧ ys = ((tb.words.take j).map (ellB text)).map Value.bool ∧ l = [(ka, Dk c kvs2), (wd, Ls wvs), (yd, Ls yvs), (rr, Rg 0 (due.length : Nat) 1), (da, Ls dvs), (oa, Ls (own.map .bool)), (qa, Ls qvs), (L, NP ["script", "drawn", "pieces", "letters", "free", "due", "piece", "ends", "turn", "book", "ways", "yes", "asked", "place", "told", "answers", "kinds"] [some (.ref sa), some (.str (enc ch drawn) td), some (.ref pa), some (.str (enc ch letters) tl), some (.ref fa), some (.ref da), pv, some (.ref ea), some (.int (i : Nat) tv), some (.ref x), some (.ref yd), sv, av, wv, none, none, none]), (a1, Ce c1), (a2, Ce c2), (a3, Ce c3), (a4, Ce c4), (a5, Ce c5), (a6, Ce none), (a7, Ce (some (.ref wd))), (a8, Ce (some (.ref ka))), (a9, Ce (some (.ref qa))), (a10, Ce (some (.ref oa))), (a11, Ce (some (.str (enc ch [false, true]) ts))), (a12, Ce (some (.str (enc ch text) tt))), (ea, Ls evs)] ++ (bookLed x dx ha rows ++ tabLed 246 lamPos lamQ st)) r.hh
    (by exact rfl) (by decide) rfl (by decide) rfl (by show _ ≤ 16777216; (clear hYl htyz hrz hkz1 hEl hn' hn hkz hez hi hQl hDl hqz hoz hdz hchk hdone hlf hfree hll hletters hp2 hZ hd2 hd1 hc2 hc1 hch has hz; omega)) ?_ ?_ ?_ ?_
   ·walk_at "ce"
    exact ⟨Itr.ls (by walk_at "mem"), kvs1, hK1, by (clear hYl hWl htyz htz hrz hEl hn' hn hez hi hQl hDl hqz hoz hdz hchk hdone hlf hfree hll hletters hp2 hZ hd2 hd1 hc2 hc1 hch has hz; omega), rfl, rfl⟩
   ·walk_at "E3"; generalize (z3 _ _).1 = j; generalize (z3 _ _).2.1 = ys; generalize (z3 _ _).2.2 = l
    walk_at "Y1"; generalize z1 _ _ = kvs2
    refine A4 ?_
    intro _ _ _ zy21
    subst zy21
    walk_at "E1"; generalize z1 _ _ = p
    intro hp
    rw [List.mem_singleton.mp hp]; walk_at "mem"
   ·walk_at "E5"; generalize (z5 _ _).1 = C; generalize (z5 _ _).2.1 = j; generalize (z5 _ _).2.2.1 = v; generalize (z5 _ _).2.2.2.1 = ys; generalize (z5 _ _).2.2.2.2 = l
    intro hj hv
    walk_at "Y1"; generalize z1 _ _ = kvs2
    refine A4 ?_
    intro hk2 hkl2 zy22 zy23
    subst zy22
    subst zy23
    intro hlen
    refine O1 ?_ (hW.at hv)
    walk_at "Y2"; generalize (z2 _ _).1 = w; generalize (z2 _ _).2 = tw
    refine A2 ?_
    intro hwj zy24
    subst zy24
    have hwz := htw w (List.mem_of_getElem? hwj)
    refine W.testsNil ?_
    rw [if_pos rfl]
    refine W.closeP (W.callK T (fv := .ref 237) (by k_is) ?_)
    simp only [List.cons_append, List.nil_append]
    walk_at "gl"
    refine ⟨rfl, W.spCons ?_⟩
    walk_at "ce"
    refine W.spCons ?_
    walk_at "nm"
    refine W.spCons ?_
    walk_at "ce"
    refine W.spNil ?_
    refine W.use (ask_ok (text := text) (word := w) (kvs := kvs2) T he (r.deeper.less (by (clear hwz hv hwj hlen hkl2 hj hYl hWl htyz htz hrz hkz1 hEl hn' hn hkz hez hi hQl hDl hqz hoz hdz hchk hdone hlf hfree hll hletters hp2 hZ hd2 hd1 hc2 hc1 hch has hz; omega))) hch (by (clear hwz hv hwj hlen hkl2 hj hYl hWl htyz htz hrz hkz1 hEl hn' hn hkz hez hi hQl hDl hqz hoz hdz hchk hdone hlf hfree hll hletters hp2 hd2 hd1 hc2 hc1 hch has hz; omega)) (by (clear hv hwj hlen hkl2 hj hYl hWl htyz htz hrz hkz1 hEl hn' hn hkz hez hi hQl hDl hqz hoz hdz hchk hdone hlf hfree hll hletters hp2 hZ hd2 hd1 hc2 hc1 hch has hz; omega)) (by (clear hwz hv hwj hlen hYl htyz hrz hkz1 hEl hn' hn hkz hez hQl hDl hqz hoz hchk hdone hlf hfree hll hletters hp2 hZ hd2 hd1 hc2 hc1 hch has hz; omega)) hk2) (by walk_at "tk") ?_
    walk_at "E2"; generalize (z2 _ _).1 = v; generalize (z2 _ _).2 = l'
    walk_at "Y1"; generalize z1 _ _ = kvs3
    refine A4 ?_
    intro zy25 hk3 hl3 zy26
    subst zy25
    subst zy26
    refine ⟨(C, NP ["word"] [some (.str (enc ch w) tw)]) :: [(ka, Dk c kvs3), (wd, Ls wvs), (yd, Ls yvs), (rr, Rg 0 (due.length : Nat) 1), (da, Ls dvs), (oa, Ls (own.map .bool)), (qa, Ls qvs), (L, NP ["script", "drawn", "pieces", "letters", "free", "due", "piece", "ends", "turn", "book", "ways", "yes", "asked", "place", "told", "answers", "kinds"] [some (.ref sa), some (.str (enc ch drawn) td), some (.ref pa), some (.str (enc ch letters) tl), some (.ref fa), some (.ref da), pv, some (.ref ea), some (.int (i : Nat) tv), some (.ref x), some (.ref yd), sv, av, wv, none, none, none]), (a1, Ce c1), (a2, Ce c2), (a3, Ce c3), (a4, Ce c4), (a5, Ce c5), (a6, Ce none), (a7, Ce (some (.ref wd))), (a8, Ce (some (.ref ka))), (a9, Ce (some (.ref qa))), (a10, Ce (some (.ref oa))), (a11, Ce (some (.str (enc ch [false, true]) ts))), (a12, Ce (some (.str (enc ch text) tt))), (ea, Ls evs)] ++ (bookLed x dx ha rows ++ tabLed 246 lamPos lamQ st), [], ?_, _, _, rfl, kvs3, hk3, by (clear hwz hv hwj hlen hj hYl hWl htyz htz hrz hkz1 hEl hn' hn hkz hez hi hQl hDl hqz hoz hdz hchk hdone hlf hfree hll hletters hp2 hZ hd2 hd1 hc2 hc1 hch has hz; omega), ?_, rfl⟩
    ·rw [List.append_nil]; exact List.Perm.swap _ _ _
    ·rw [List.take_add_one, hwj, List.map_append, List.map_append]; rfl
   ·walk_at "E3"; generalize (z3 _ _).1 = sd; generalize (z3 _ _).2.1 = ys; generalize (z3 _ _).2.2 = l
    walk_at "Y1"; generalize z1 _ _ = kvs2
    refine A4 ?_
    intro hk2 hkl2 zy27 zy28
    subst zy27
    subst zy28
    intro hlen
    rw [hWl, List.take_length]
    simp only [List.cons_append, List.nil_append]
    show W c _ (PySem.assign (.Name _ _) _ _) _ _
    refine W.sub (l' := [(ka, Dk c kvs2), (sd, Ls ((tb.words.map (ellB text)).map .bool)), (wd, Ls wvs), (yd, Ls yvs), (rr, Rg 0 (due.length : Nat) 1), (da, Ls dvs), (oa, Ls (own.map .bool)), (qa, Ls qvs), (L, NP ["script", "drawn", "pieces", "letters", "free", "due", "piece", "ends", "turn", "book", "ways", "yes", "asked", "place", "told", "answers", "kinds"] [some (.ref sa), some (.str (enc ch drawn) td), some (.ref pa), some (.str (enc ch letters) tl), some (.ref fa), some (.ref da), pv, some (.ref ea), some (.int (i : Nat) tv), some (.ref x), some (.ref yd), sv, av, wv, none, none, none]), (a1, Ce c1), (a2, Ce c2), (a3, Ce c3), (a4, Ce c4), (a5, Ce c5), (a6, Ce none), (a7, Ce (some (.ref wd))), (a8, Ce (some (.ref ka))), (a9, Ce (some (.ref qa))), (a10, Ce (some (.ref oa))), (a11, Ce (some (.str (enc ch [false, true]) ts))), (a12, Ce (some (.str (enc ch text) tt))), (ea, Ls evs)] ++ (bookLed x dx ha rows ++ tabLed 246 lamPos lamQ st)) ?_ (by walk_at "tk")
    simp only [List.cons_append, List.nil_append]
    refine W.asName ?_
    walk_at "st"
    exact ⟨sd, kvs2, hk2, by (clear hlen hYl htyz hrz hkz1 hEl hn' hn hkz hez hi hQl hDl hqz hoz hdz hchk hdone hlf hfree hll hletters hp2 hZ hd2 hd1 hc2 hc1 hch has hz; omega), rfl⟩
  walk_at "E1"; generalize z1 _ _ = l
  walk_at "Y2"; generalize (z2 _ _).1 = sd; generalize (z2 _ _).2 = kvs2
  refine A3 ?_
  intro hK2 hkz2 zy29
  subst zy29
  simp only [List.cons_append, List.nil_append]
  have hyz : (tb.words.map (ellB text)).length ≤ 19 := by rw [List.length_map]; exact htz
  generalize hU : unlikeB (tb.words.map (ellB text)) tb.ways own steps = zo2
  refine OCn zo2 ?_ ?_
  ·intro ze2a
   subst ze2a
   rw [hU] at hT; exact hT.elim
  walk_at "E1"; generalize z1 _ _ = res
  intro ze2b
  subst ze2b
  rw [hU] at hT
  refine W.step (W.set (W.callK T (fv := .ref 268) (by k_is) ?_))
  walk_at "gl"
  refine ⟨rfl, W.spCons ?_⟩
  walk_at "nm"
  refine W.spCons ?_
  walk_at "nm"
  refine W.spCons ?_
  walk_at "ce"
  refine W.spCons ?_
  walk_at "ce"
  refine W.spCons ?_
  walk_at "ce"
  refine W.spNil ?_
  refine W.use (unlike_ok T (r.deeper.less (by (clear hyz hkz2 hYl hWl htyz htz hrz hkz1 hEl hn' hn hkz hez hi hQl hDl hqz hoz hdz hchk hdone hlf hfree hll hletters hp2 hZ hd2 hd1 hc2 hc1 hch has hz; omega))) hch hY hQ (by (clear hkz2 hYl hWl htyz htz hrz hkz1 hEl hn' hn hkz hez hi hQl hDl hqz hoz hdz hchk hdone hlf hfree hll hletters hp2 hZ hd2 hd1 hc2 hc1 hch has hz; omega)) (by (clear hyz hkz2 hYl hWl htyz htz hrz hkz1 hEl hn' hn hkz hez hi hQl hDl hqz hdz hchk hdone hlf hfree hll hletters hp2 hZ hd2 hd1 hc2 hc1 hch has hz; omega)) (by (clear hyz hkz2 hYl hWl htz hrz hkz1 hEl hn' hn hkz hez hi hQl hDl hqz hoz hdz hchk hdone hlf hfree hll hletters hp2 hZ hd2 hd1 hc2 hc1 hch has hz; omega)) (by (clear hyz hkz2 hYl hWl htyz htz hrz hkz1 hEl hn' hn hkz hez hi hQl hDl hoz hdz hchk hdone hlf hfree hll hletters hp2 hZ hd2 hd1 hc2 hc1 hch has hz; omega)) hU) (by walk_at "tk") ?_
  walk_at "E2"; generalize (z2 _ _).1 = v; generalize (z2 _ _).2 = l'
  refine A2 ?_
  intro hv zy30
  subst zy30
  simp only [List.cons_append, List.nil_append]
  walk_at "sc"
  refine ⟨by first | rfl | trivial, ?_⟩
  refine OCn res ?_ ?_
  ·intro ze3a
   subst ze3a
   dsimp only at hv hT
   subst hv
   refine W.sub (l' := [(da, Ls dvs), (oa, Ls (own.map .bool)), (qa, Ls qvs), (L, NP ["script", "drawn", "pieces", "letters", "free", "due", "piece", "ends", "turn", "book", "ways", "yes", "asked", "place", "told", "answers", "kinds"] [some (.ref sa), some (.str (enc ch drawn) td), some (.ref pa), some (.str (enc ch letters) tl), some (.ref fa), some (.ref da), pv, some (.ref ea), some (.int (i : Nat) tv), some (.ref x), some (.ref yd), some (.ref sd), av, wv, none, none, none]), (a1, Ce c1), (a2, Ce c2), (a3, Ce c3), (a4, Ce c4), (a5, Ce (some .none)), (a6, Ce none), (a7, Ce (some (.ref wd))), (a8, Ce (some (.ref ka))), (a9, Ce (some (.ref qa))), (a10, Ce (some (.ref oa))), (a11, Ce (some (.str (enc ch [false, true]) ts))), (a12, Ce (some (.str (enc ch text) tt))), (ea, Ls evs), (ka, Dk c kvs2)] ++ (bookLed x dx ha rows ++ tabLed 246 lamPos lamQ st)) ?_ (by walk_at "tk")
   simp only [List.cons_append, List.nil_append]
   refine W.cons (W.cond (W.testCompare ?_))
   walk_at "ce"
   refine W.kNone (W.isP (by rfl) (W.truthyBool ?_))
   rw [show (Value.none == Value.none) = true from rfl, if_pos rfl]
   refine W.cons (W.brk ?_)
   exact ⟨evs, ends, tb.book, rows, x, dx, ha, kvs2, st, _, _, _, _, _, _, _, _, _, _, _, hB, hT, hE, by (clear hyz hkz2 hYl hWl htyz htz hrz hkz1 hEl hn' hn hkz hQl hDl hqz hoz hchk hdone hlf hfree hll hletters hp2 hZ hd2 hd1 hc2 hc1 hch has hz; omega), hel, hK2, hrz, by (clear hyz hYl hWl htyz htz hrz hkz1 hEl hn' hn hkz hez hQl hDl hqz hoz hchk hdone hlf hfree hll hletters hp2 hZ hd2 hd1 hc2 hc1 hch has hz; omega), rfl⟩
  walk_at "E1"; generalize z1 _ _ = unl
  intro ze3b
  subst ze3b
  dsimp only at hv hT
  refine O1 ?_ (hv)
  walk_at "Y1"; generalize z1 _ _ = tu
  intro zy31
  subst zy31
  clear hv
  refine O1 ?_ (hT)
  walk_at "Y2"; generalize (z2 _ _).1 = b; generalize (z2 _ _).2 = e
  refine A3 ?_
  intro hpt htx hT
  refine O1 ?_ (parted_ex hpt)
  refine' @Y4 _ _ _ _ _ _ (by walk_at "ne") ?_; generalize (z4 _ _).1 = yi; generalize (z4 _ _).2.1 = oi; generalize (z4 _ _).2.2.1 = yb; generalize (z4 _ _).2.2.2 = ob
  refine A5 ?_
  intro hyi hoi hyb hob hbe
  refine W.sub (l' := [(ka, Dk c kvs2), (sd, Ls ((tb.words.map (ellB text)).map .bool)), (wd, Ls wvs), (yd, Ls yvs), (rr, Rg 0 (due.length : Nat) 1), (da, Ls dvs), (oa, Ls (own.map .bool)), (qa, Ls qvs), (L, NP ["script", "drawn", "pieces", "letters", "free", "due", "piece", "ends", "turn", "book", "ways", "yes", "asked", "place", "told", "answers", "kinds"] [some (.ref sa), some (.str (enc ch drawn) td), some (.ref pa), some (.str (enc ch letters) tl), some (.ref fa), some (.ref da), pv, some (.ref ea), some (.int (i : Nat) tv), some (.ref x), some (.ref yd), some (.ref sd), av, wv, none, none, none]), (a1, Ce c1), (a2, Ce c2), (a3, Ce c3), (a4, Ce c4), (a5, Ce (some (.str (enc ch unl) tu))), (a6, Ce none), (a7, Ce (some (.ref wd))), (a8, Ce (some (.ref ka))), (a9, Ce (some (.ref qa))), (a10, Ce (some (.ref oa))), (a11, Ce (some (.str (enc ch [false, true]) ts))), (a12, Ce (some (.str (enc ch text) tt))), (ea, Ls evs)] ++ tabLed 246 lamPos lamQ st) ?_ (by walk_at "tk")
  simp only [List.cons_append, List.nil_append]
  refine W.cons (W.cond (W.testCompare ?_))
  walk_at "ce"
  refine W.kNone (W.isP (by rfl) (W.truthyBool ?_))
  rw [show (Value.str (enc ch unl) tu == Value.none) = false from rfl, if_neg (by decide)]
  refine W.nil ?_
  generalize hwr : (if b = true then drawn else unl) = wr at htx
  refine W.cut (fun l => ∃ tw, l = [(ka, Dk c kvs2), (sd, Ls ((tb.words.map (ellB text)).map .bool)), (wd, Ls wvs), (yd, Ls yvs), (rr, Rg 0 (due.length : Nat) 1), (da, Ls dvs), (oa, Ls (own.map .bool)), (qa, Ls qvs), (L, NP ["script", "drawn", "pieces", "letters", "free", "due", "piece", "ends", "turn", "book", "ways", "yes", "asked", "place", "told", "answers", "kinds"] [some (.ref sa), some (.str (enc ch drawn) td), some (.ref pa), some (.str (enc ch letters) tl), some (.ref fa), some (.ref da), pv, some (.ref ea), some (.int (i : Nat) tv), some (.ref x), some (.ref yd), some (.ref sd), av, wv, none, none, none]), (a1, Ce c1), (a2, Ce c2), (a3, Ce c3), (a4, Ce c4), (a5, Ce (some (.str (enc ch wr) tw))), (a6, Ce none), (a7, Ce (some (.ref wd))), (a8, Ce (some (.ref ka))), (a9, Ce (some (.ref qa))), (a10, Ce (some (.ref oa))), (a11, Ce (some (.str (enc ch [false, true]) ts))), (a12, Ce (some (.str (enc ch text) tt))), (ea, Ls evs)] ++ tabLed 246 lamPos lamQ st) (W.cond (W.testCompare ?_)) ?_
  ·refine W.subs slot_list_getitem.lookup ?_
   walk_at "nm"
   refine W.subs slot_list_getitem.lookup ?_
   refine W.callK T (fv := .ref 230) (by k_is) ?_
   walk_at "gl"
   refine ⟨rfl, W.spCons ?_⟩
   walk_at "nm"
   refine W.spCons ?_
   walk_at "ce"
   refine W.spCons ?_
   walk_at "nm"
   refine W.spNil ?_
   refine O1 ?_ (wayEnd_ex hyi)
   walk_at "Y1"; generalize z1 _ _ = rdy
   refine A3 ?_
   intro hrdy1 hrdy2 hrdy3
   refine W.use (way_ok T (r.deeper.less (by (clear hrdy3 hrdy2 hrdy1 hob hyb hoi hyi hyz hkz2 hYl hWl htyz htz hrz hkz1 hEl hn' hn hkz hez hi hQl hDl hqz hoz hdz hchk hdone hlf hfree hll hletters hp2 hZ hd2 hd1 hc2 hc1 hch has hz; omega))) hch hY rdy hrdy1 (by (clear hrdy3 hrdy2 hrdy1 hob hyb hoi hyi hyz hkz2 hYl hWl htyz htz hrz hkz1 hEl hn' hn hkz hez hi hQl hDl hqz hoz hdz hchk hdone hlf hfree hll hletters hp2 hZ hd1 hc2 hc1 hch has hz; omega)) (by (clear hrdy3 hrdy2 hrdy1 hob hyb hoi hyi hyz hkz2 hYl hWl htz hrz hkz1 hEl hn' hn hkz hez hi hQl hDl hqz hoz hdz hchk hdone hlf hfree hll hletters hp2 hZ hd2 hd1 hc2 hc1 hch has hz; omega)) (fun n hn => by have := hty n hn; (clear hrdy3 hrdy2 hrdy1 hob hyb hoi hyi hyz hkz2 hYl hWl htyz htz hrz hkz1 hEl hn' hkz hez hi hQl hDl hqz hoz hdz hchk hdone hlf hfree hll hletters hp2 hZ hd2 hd1 hc2 hc1 hch has hz; omega))) (by walk_at "tk") ?_
   (try rw [List.length_append] at hrdy2)
   walk_at "E2"; generalize (z2 _ _).1 = zu; generalize (z2 _ _).2 = zu
   walk_at "Y2"; generalize (z2 _ _).1 = rardy; generalize (z2 _ _).2 = rvsrdy
   refine A3 ?_
   intro zy32 hRrdy zy33
   subst zy32
   subst zy33
   simp only [List.cons_append, List.nil_append]
   refine O1 ?_ (hRrdy.last (by (clear hrdy3 hrdy1 hob hyb hoi hyi hyz hkz2 hYl hWl htyz htz hrz hkz1 hEl hn' hn hkz hez hi hQl hDl hqz hoz hdz hchk hdone hlf hfree hll hletters hp2 hZ hd2 hd1 hc2 hc1 hch has hz; omega)))
   walk_at "Y1"; generalize z1 _ _ = tqrdy
   intro hqrdy
   have hlrdy := hRrdy.1
   refine W.unary (W.kInt ?_)
   walk_at "E1"; generalize z1 _ _ = zu
   refine W.ineg ?_
   walk_at "E1"; generalize z1 _ _ = zu
   refine ⟨Ty.ls (by walk_at "mem"), W.lsItemN (by walk_at "mem") (by decide) (by (clear hqrdy hrdy3 hrdy1 hob hyb hoi hyi hyz hkz2 hYl hWl htyz htz hrz hkz1 hEl hn' hn hkz hez hi hQl hDl hqz hoz hdz hchk hdone hlf hfree hll hletters hp2 hZ hd2 hd1 hc2 hc1 hch has hz; omega)) hqrdy (by show _ ≤ 16777216; (clear hqrdy hrdy3 hrdy1 hob hyb hoi hyi hyz hkz2 hYl hWl htyz htz hrz hkz1 hEl hn' hn hkz hez hi hQl hDl hqz hoz hdz hchk hdone hlf hfree hll hletters hp2 hZ hd1 hc2 hc1 hch has hz; omega)) ?_⟩
   rw [hrdy3]
   refine ⟨Ty.ls (by walk_at "mem"), ?_⟩
   refine W.lsItem (by walk_at "mem") (by (clear hlrdy hqrdy hrdy3 hrdy2 hrdy1 hob hyb hoi hyi hyz hkz2 hYl hWl htyz htz hrz hkz1 hEl hn' hn hkz hez hi hQl hDl hqz hoz hdz hchk hdone hlf hfree hll hletters hp2 hZ hd2 hd1 hc2 hc1 hch has hz; omega)) (by rw [Int.toNat_natCast, List.getElem?_map, hyb]; rfl) (by show _ ≤ 16777216; simp only [List.length_map]; (clear hlrdy hqrdy hrdy3 hrdy2 hrdy1 hob hyb hoi hyi hyz hkz2 hYl hWl htyz hrz hkz1 hEl hn' hn hkz hez hi hQl hDl hqz hoz hdz hchk hdone hlf hfree hll hletters hp2 hZ hd2 hd1 hc2 hc1 hch has hz; omega)) ?_
   refine W.subs slot_list_getitem.lookup ?_
   walk_at "ce"
   refine W.subs slot_list_getitem.lookup ?_
   refine W.callK T (fv := .ref 230) (by k_is) ?_
   walk_at "gl"
   refine ⟨rfl, W.spCons ?_⟩
   walk_at "nm"
   refine W.spCons ?_
   walk_at "ce"
   refine W.spCons ?_
   walk_at "ce"
   refine W.spNil ?_
   refine O1 ?_ (wayEnd_ex hoi)
   walk_at "Y1"; generalize z1 _ _ = rdo
   refine A3 ?_
   intro hrdo1 hrdo2 hrdo3
   refine W.use (way_ok T (r.deeper.less (by (clear hrdo3 hrdo2 hrdo1 hlrdy hqrdy hrdy3 hrdy2 hrdy1 hob hyb hoi hyi hyz hkz2 hYl hWl htyz htz hrz hkz1 hEl hn' hn hkz hez hi hQl hDl hqz hoz hdz hchk hdone hlf hfree hll hletters hp2 hZ hd2 hd1 hc2 hc1 hch has hz; omega))) hch hQ rdo hrdo1 (by first | (clear hrdo3 hrdo2 hrdo1 hlrdy hqrdy hrdy3 hrdy2 hrdy1 hob hyb hoi hyi hyz hkz2 hYl hWl htyz htz hrz hkz1 hEl hn' hn hkz hez hi hQl hDl hqz hoz hdz hchk hdone hlf hfree hll hletters hp2 hZ hd1 hc2 hc1 hch has hz; omega) | (simp only [List.length_append]; omega)) (by (clear hrdo3 hrdo2 hrdo1 hlrdy hqrdy hrdy3 hrdy2 hrdy1 hob hyb hoi hyi hyz hkz2 hYl hWl htyz htz hrz hkz1 hEl hn' hn hkz hez hi hQl hDl hoz hdz hchk hdone hlf hfree hll hletters hp2 hZ hd2 hd1 hc2 hc1 hch has hz; omega)) (fun n hn => by have := hqw n hn; (clear hrdo3 hrdo2 hrdo1 hlrdy hqrdy hrdy3 hrdy2 hrdy1 hob hyb hoi hyi hyz hkz2 hYl hWl htyz htz hrz hkz1 hEl hn' hkz hez hi hQl hDl hqz hoz hdz hchk hdone hlf hfree hll hletters hp2 hZ hd2 hd1 hc2 hc1 hch has hz; omega))) (by walk_at "tk") ?_
   (try rw [List.length_append] at hrdo2)
   walk_at "E2"; generalize (z2 _ _).1 = zu; generalize (z2 _ _).2 = zu
   walk_at "Y2"; generalize (z2 _ _).1 = rardo; generalize (z2 _ _).2 = rvsrdo
   refine A3 ?_
   intro zy34 hRrdo zy35
   subst zy34
   subst zy35
   simp only [List.cons_append, List.nil_append]
   refine O1 ?_ (hRrdo.last (by (clear hrdo3 hrdo1 hlrdy hqrdy hrdy3 hrdy2 hrdy1 hob hyb hoi hyi hyz hkz2 hYl hWl htyz htz hrz hkz1 hEl hn' hn hkz hez hi hQl hDl hqz hoz hdz hchk hdone hlf hfree hll hletters hp2 hZ hd2 hd1 hc2 hc1 hch has hz; omega)))
   walk_at "Y1"; generalize z1 _ _ = tqrdo
   intro hqrdo
   have hlrdo := hRrdo.1
   refine W.unary (W.kInt ?_)
   walk_at "E1"; generalize z1 _ _ = zu
   refine W.ineg ?_
   walk_at "E1"; generalize z1 _ _ = zu
   refine ⟨Ty.ls (by walk_at "mem"), W.lsItemN (by walk_at "mem") (by decide) (by (clear hqrdo hrdo3 hrdo1 hlrdy hqrdy hrdy3 hrdy2 hrdy1 hob hyb hoi hyi hyz hkz2 hYl hWl htyz htz hrz hkz1 hEl hn' hn hkz hez hi hQl hDl hqz hoz hdz hchk hdone hlf hfree hll hletters hp2 hZ hd2 hd1 hc2 hc1 hch has hz; omega)) hqrdo (by show _ ≤ 16777216; (clear hqrdo hrdo3 hrdo1 hlrdy hqrdy hrdy3 hrdy2 hrdy1 hob hyb hoi hyi hyz hkz2 hYl hWl htyz htz hrz hkz1 hEl hn' hn hkz hez hi hQl hDl hqz hoz hdz hchk hdone hlf hfree hll hletters hp2 hZ hd1 hc2 hc1 hch has hz; omega)) ?_⟩
   rw [hrdo3]
   refine ⟨Ty.ls (by walk_at "mem"), ?_⟩
   refine W.lsItem (by walk_at "mem") (by (clear hlrdo hqrdo hrdo3 hrdo2 hrdo1 hlrdy hqrdy hrdy3 hrdy2 hrdy1 hob hyb hoi hyi hyz hkz2 hYl hWl htyz htz hrz hkz1 hEl hn' hn hkz hez hi hQl hDl hqz hoz hdz hchk hdone hlf hfree hll hletters hp2 hZ hd2 hd1 hc2 hc1 hch has hz; omega)) (by rw [Int.toNat_natCast, List.getElem?_map, hob]; rfl) (by show _ ≤ 16777216; simp only [List.length_map]; (clear hlrdo hqrdo hrdo3 hrdo2 hrdo1 hlrdy hqrdy hrdy3 hrdy2 hrdy1 hob hyb hoi hyi hyz hkz2 hYl hWl htyz htz hrz hkz1 hEl hn' hn hkz hez hi hQl hDl hqz hdz hchk hdone hlf hfree hll hletters hp2 hZ hd2 hd1 hc2 hc1 hch has hz; omega)) ?_
   refine W.sub (l' := [(ka, Dk c kvs2), (sd, Ls ((tb.words.map (ellB text)).map .bool)), (wd, Ls wvs), (yd, Ls yvs), (rr, Rg 0 (due.length : Nat) 1), (da, Ls dvs), (oa, Ls (own.map .bool)), (qa, Ls qvs), (L, NP ["script", "drawn", "pieces", "letters", "free", "due", "piece", "ends", "turn", "book", "ways", "yes", "asked", "place", "told", "answers", "kinds"] [some (.ref sa), some (.str (enc ch drawn) td), some (.ref pa), some (.str (enc ch letters) tl), some (.ref fa), some (.ref da), pv, some (.ref ea), some (.int (i : Nat) tv), some (.ref x), some (.ref yd), some (.ref sd), av, wv, none, none, none]), (a1, Ce c1), (a2, Ce c2), (a3, Ce c3), (a4, Ce c4), (a5, Ce (some (.str (enc ch unl) tu))), (a6, Ce none), (a7, Ce (some (.ref wd))), (a8, Ce (some (.ref ka))), (a9, Ce (some (.ref qa))), (a10, Ce (some (.ref oa))), (a11, Ce (some (.str (enc ch [false, true]) ts))), (a12, Ce (some (.str (enc ch text) tt))), (ea, Ls evs)] ++ tabLed 246 lamPos lamQ st) ?_ (by walk_at "tk")
   simp only [List.cons_append, List.nil_append]
   refine W.bne (W.truthyBool ?_)
   rw [← hbe]
   cases b
   ·rw [if_neg (by decide)] at hwr ⊢
    subst hwr
    exact W.nil ⟨_, rfl⟩
   ·rw [if_pos rfl] at hwr ⊢
    subst hwr
    refine W.cons (W.set ?_)
    walk_at "nm"
    walk_at "sc"
    exact W.nil ⟨_, rfl⟩
  walk_at "E1"; generalize z1 _ _ = l
  walk_at "Y1"; generalize z1 _ _ = tw
  intro zy36
  subst zy36
  refine O1 ?_ (turnX_ex htx)
  refine A3 ?_
  intro hw2 hw20
  refine' @Y5 _ _ _ _ _ _ _ (by walk_at "ne") ?_; generalize (z5 _ _).1 = we; generalize (z5 _ _).2.1 = road; generalize (z5 _ _).2.2.1 = mixed; generalize (z5 _ _).2.2.2.1 = place; generalize (z5 _ _).2.2.2.2 = asked
  refine A13 ?_
  intro hwe hwo hroad hrl hml hmx hbis hp1' hp2' htwo hask hpow zy37
  subst zy37
  simp only [List.cons_append, List.nil_append]
  refine W.step (W.set (W.callK T (fv := .ref 237) (by k_is) ?_))
  walk_at "gl"
  refine ⟨rfl, W.spCons ?_⟩
  walk_at "ce"
  refine W.spCons ?_
  walk_at "ce"
  refine W.spCons ?_
  walk_at "ce"
  refine W.spNil ?_
  refine W.use (ask_ok (text := text) (word := wr) (kvs := kvs2) T he (r.deeper.less (by (clear hp2' hp1' hbis hml hrl hroad hwo hwe hw20 hw2 hob hyb hoi hyi hyz hkz2 hYl hWl htyz htz hrz hkz1 hEl hn' hn hkz hez hi hQl hDl hqz hoz hdz hchk hdone hlf hfree hll hletters hp2 hZ hd2 hd1 hc2 hc1 hch has hz; omega))) hch (by (clear hp2' hp1' hbis hml hrl hroad hwo hwe hw20 hw2 hob hyb hoi hyi hyz hkz2 hYl hWl htyz htz hrz hkz1 hEl hn' hn hkz hez hi hQl hDl hqz hoz hdz hchk hdone hlf hfree hll hletters hp2 hd2 hd1 hc2 hc1 hch has hz; omega)) (by (clear hp2' hp1' hbis hml hrl hroad hwo hwe hw2 hob hyb hoi hyi hyz hkz2 hYl hWl htyz htz hrz hkz1 hEl hn' hn hkz hez hi hQl hDl hqz hoz hdz hchk hdone hlf hfree hll hletters hp2 hZ hd2 hd1 hc2 hc1 hch has hz; omega)) (by (clear hp2' hp1' hbis hml hrl hroad hwo hwe hw20 hw2 hob hyb hoi hyi hyz hYl hWl htyz htz hrz hkz1 hEl hn' hn hkz hez hQl hDl hqz hoz hchk hdone hlf hfree hll hletters hp2 hZ hd2 hd1 hc2 hc1 hch has hz; omega)) hK2) (by walk_at "tk") ?_
  walk_at "E2"; generalize (z2 _ _).1 = v; generalize (z2 _ _).2 = l'
  walk_at "Y1"; generalize z1 _ _ = kvs3
  refine A4 ?_
  intro zy38 hK3 hkz3 zy39
  subst zy38
  subst zy39
  simp only [List.cons_append, List.nil_append]
  walk_at "sc"
  refine ⟨by first | rfl | trivial, ?_⟩
  refine W.cons (W.cond (W.testCompare ?_))
  walk_at "ce"
  refine W.subs slot_list_getitem.lookup ?_
  walk_at "ce"
  refine W.subs slot_list_getitem.lookup ?_
  refine W.callK T (fv := .ref 230) (by k_is) ?_
  walk_at "gl"
  refine ⟨rfl, W.spCons ?_⟩
  walk_at "ce"
  refine W.spCons ?_
  walk_at "ce"
  refine W.spCons ?_
  walk_at "ce"
  refine W.spNil ?_
  refine O1 ?_ (wayEnd_ex hwe)
  walk_at "Y1"; generalize z1 _ _ = rdw
  refine A3 ?_
  intro hrdw1 hrdw2 hrdw3
  refine W.use (way_ok T (r.deeper.less (by (clear hrdw3 hrdw2 hrdw1 hkz3 hp2' hp1' hbis hml hrl hroad hwo hwe hw20 hw2 hob hyb hoi hyi hyz hkz2 hYl hWl htyz htz hrz hkz1 hEl hn' hn hkz hez hi hQl hDl hqz hoz hdz hchk hdone hlf hfree hll hletters hp2 hZ hd2 hd1 hc2 hc1 hch has hz; omega))) hch hQ rdw hrdw1 (by first | (clear hrdw3 hrdw2 hrdw1 hkz3 hp2' hp1' hbis hml hrl hroad hwo hwe hw2 hob hyb hoi hyi hyz hkz2 hYl hWl htyz htz hrz hkz1 hEl hn' hn hkz hez hi hQl hDl hqz hoz hdz hchk hdone hlf hfree hll hletters hp2 hZ hd2 hd1 hc2 hc1 hch has hz; omega) | (simp only [List.length_append]; omega)) (by (clear hrdw3 hrdw2 hrdw1 hkz3 hp2' hp1' hbis hml hrl hroad hwo hwe hw20 hw2 hob hyb hoi hyi hyz hkz2 hYl hWl htyz htz hrz hkz1 hEl hn' hn hkz hez hi hQl hDl hoz hdz hchk hdone hlf hfree hll hletters hp2 hZ hd2 hd1 hc2 hc1 hch has hz; omega)) (fun n hn => by have := hqw n hn; (clear hrdw3 hrdw2 hrdw1 hkz3 hp2' hp1' hbis hml hrl hroad hwo hwe hw20 hw2 hob hyb hoi hyi hyz hkz2 hYl hWl htyz htz hrz hkz1 hEl hn' hkz hez hi hQl hDl hqz hoz hdz hchk hdone hlf hfree hll hletters hp2 hZ hd2 hd1 hc2 hc1 hch has hz; omega))) (by walk_at "tk") ?_
  (try rw [List.length_append] at hrdw2)
  walk_at "E2"; generalize (z2 _ _).1 = zu; generalize (z2 _ _).2 = zu
  walk_at "Y2"; generalize (z2 _ _).1 = rardw; generalize (z2 _ _).2 = rvsrdw
  refine A3 ?_
  intro zy40 hRrdw zy41
  subst zy40
  subst zy41
  simp only [List.cons_append, List.nil_append]
  refine O1 ?_ (hRrdw.last (by (clear hrdw3 hrdw1 hkz3 hp2' hp1' hbis hml hrl hroad hwo hwe hw20 hw2 hob hyb hoi hyi hyz hkz2 hYl hWl htyz htz hrz hkz1 hEl hn' hn hkz hez hi hQl hDl hqz hoz hdz hchk hdone hlf hfree hll hletters hp2 hZ hd2 hd1 hc2 hc1 hch has hz; omega)))
  walk_at "Y1"; generalize z1 _ _ = tqrdw
  intro hqrdw
  have hlrdw := hRrdw.1
  refine W.unary (W.kInt ?_)
  walk_at "E1"; generalize z1 _ _ = zu
  refine W.ineg ?_
  walk_at "E1"; generalize z1 _ _ = zu
  refine ⟨Ty.ls (by walk_at "mem"), W.lsItemN (by walk_at "mem") (by decide) (by (clear hqrdw hrdw3 hrdw1 hkz3 hp2' hp1' hbis hml hrl hroad hwo hwe hw20 hw2 hob hyb hoi hyi hyz hkz2 hYl hWl htyz htz hrz hkz1 hEl hn' hn hkz hez hi hQl hDl hqz hoz hdz hchk hdone hlf hfree hll hletters hp2 hZ hd2 hd1 hc2 hc1 hch has hz; omega)) hqrdw (by show _ ≤ 16777216; (clear hqrdw hrdw3 hrdw1 hkz3 hp2' hp1' hbis hml hrl hroad hwo hwe hw2 hob hyb hoi hyi hyz hkz2 hYl hWl htyz htz hrz hkz1 hEl hn' hn hkz hez hi hQl hDl hqz hoz hdz hchk hdone hlf hfree hll hletters hp2 hZ hd2 hd1 hc2 hc1 hch has hz; omega)) ?_⟩
  rw [hrdw3]
  refine ⟨Ty.ls (by walk_at "mem"), ?_⟩
  refine W.lsItem (by walk_at "mem") (by (clear hlrdw hqrdw hrdw3 hrdw2 hrdw1 hkz3 hp2' hp1' hbis hml hrl hroad hwo hwe hw20 hw2 hob hyb hoi hyi hyz hkz2 hYl hWl htyz htz hrz hkz1 hEl hn' hn hkz hez hi hQl hDl hqz hoz hdz hchk hdone hlf hfree hll hletters hp2 hZ hd2 hd1 hc2 hc1 hch has hz; omega)) (by rw [Int.toNat_natCast, List.getElem?_map, hwo]; rfl) (by show _ ≤ 16777216; simp only [List.length_map]; (clear hlrdw hqrdw hrdw3 hrdw2 hrdw1 hkz3 hp2' hp1' hbis hml hrl hroad hwo hwe hw20 hw2 hob hyb hoi hyi hyz hkz2 hYl hWl htyz htz hrz hkz1 hEl hn' hn hkz hez hi hQl hDl hqz hdz hchk hdone hlf hfree hll hletters hp2 hZ hd2 hd1 hc2 hc1 hch has hz; omega)) ?_
  refine W.bne (W.truthyBool ?_)
  rw [show (ellB text wr != ellB text wr) = false by simp, if_neg (by decide)]
  refine W.nil ?_
  refine W.sub (l' := [(ka, Dk c kvs3), (sd, Ls ((tb.words.map (ellB text)).map .bool)), (wd, Ls wvs), (yd, Ls yvs), (rr, Rg 0 (due.length : Nat) 1), (da, Ls dvs), (oa, Ls (own.map .bool)), (qa, Ls qvs), (L, NP ["script", "drawn", "pieces", "letters", "free", "due", "piece", "ends", "turn", "book", "ways", "yes", "asked", "place", "told", "answers", "kinds"] [some (.ref sa), some (.str (enc ch drawn) td), some (.ref pa), some (.str (enc ch letters) tl), some (.ref fa), some (.ref da), pv, some (.ref ea), some (.int (i : Nat) tv), some (.ref x), some (.ref yd), some (.ref sd), av, wv, none, none, none]), (a1, Ce c1), (a2, Ce c2), (a3, Ce c3), (a4, Ce (some (.bool (ellB text wr)))), (a5, Ce (some (.str (enc ch wr) tw))), (a6, Ce none), (a7, Ce (some (.ref wd))), (a8, Ce (some (.ref ka))), (a9, Ce (some (.ref qa))), (a10, Ce (some (.ref oa))), (a11, Ce (some (.str (enc ch [false, true]) ts))), (a12, Ce (some (.str (enc ch text) tt))), (ea, Ls evs)] ++ tabLed 246 lamPos lamQ st) ?_ (by walk_at "tk")
  simp only [List.cons_append, List.nil_append]
  refine W.step (W.set (W.callK T (fv := .ref 230) (by k_is) ?_))
  walk_at "gl"
  refine ⟨rfl, W.spCons ?_⟩
  walk_at "ce"
  refine W.spCons ?_
  walk_at "ce"
  refine W.spCons ?_
  walk_at "nm"
  refine W.spNil ?_
  refine W.use (way_ok T (r.deeper.less (by (clear hlrdw hqrdw hrdw3 hrdw2 hrdw1 hkz3 hp2' hp1' hbis hml hrl hroad hwo hwe hw20 hw2 hob hyb hoi hyi hyz hkz2 hYl hWl htyz htz hrz hkz1 hEl hn' hn hkz hez hi hQl hDl hqz hoz hdz hchk hdone hlf hfree hll hletters hp2 hZ hd2 hd1 hc2 hc1 hch has hz; omega))) hch hY road hroad (by (clear hlrdw hqrdw hrdw3 hrdw2 hrdw1 hkz3 hp2' hp1' hbis hml hrl hroad hwo hwe hw2 hob hyb hoi hyi hyz hkz2 hYl hWl htyz htz hrz hkz1 hEl hn' hn hkz hez hi hQl hDl hqz hoz hdz hchk hdone hlf hfree hll hletters hp2 hZ hd2 hd1 hc2 hc1 hch has hz; omega)) (by (clear hlrdw hqrdw hrdw3 hrdw2 hrdw1 hkz3 hp2' hp1' hbis hml hrl hroad hwo hwe hw20 hw2 hob hyb hoi hyi hyz hkz2 hYl hWl htz hrz hkz1 hEl hn' hn hkz hez hi hQl hDl hqz hoz hdz hchk hdone hlf hfree hll hletters hp2 hZ hd2 hd1 hc2 hc1 hch has hz; omega)) (fun n hn => by have := hty n hn; (clear hlrdw hqrdw hrdw3 hrdw2 hrdw1 hkz3 hp2' hp1' hbis hml hrl hroad hwo hwe hw20 hw2 hob hyb hoi hyi hyz hkz2 hYl hWl htyz htz hrz hkz1 hEl hn' hkz hez hi hQl hDl hqz hoz hdz hchk hdone hlf hfree hll hletters hp2 hZ hd2 hd1 hc2 hc1 hch has hz; omega))) (by walk_at "tk") ?_
  walk_at "E2"; generalize (z2 _ _).1 = v; generalize (z2 _ _).2 = l'
  walk_at "Y2"; generalize (z2 _ _).1 = ra; generalize (z2 _ _).2 = rvs
  refine A3 ?_
  intro zy42 hR zy43
  subst zy42
  subst zy43
  have hRl := hR.1
  simp only [List.cons_append, List.nil_append]
  walk_at "sc"
  refine ⟨by first | rfl | trivial, ?_⟩
  refine W.sub (l' := [(ka, Dk c kvs3), (ra, Ls rvs), (sd, Ls ((tb.words.map (ellB text)).map .bool)), (wd, Ls wvs), (yd, Ls yvs), (rr, Rg 0 (due.length : Nat) 1), (da, Ls dvs), (oa, Ls (own.map .bool)), (qa, Ls qvs), (L, NP ["script", "drawn", "pieces", "letters", "free", "due", "piece", "ends", "turn", "book", "ways", "yes", "asked", "place", "told", "answers", "kinds"] [some (.ref sa), some (.str (enc ch drawn) td), some (.ref pa), some (.str (enc ch letters) tl), some (.ref fa), some (.ref da), pv, some (.ref ea), some (.int (i : Nat) tv), some (.ref x), some (.ref yd), some (.ref sd), av, wv, none, none, none]), (a1, Ce c1), (a2, Ce c2), (a3, Ce (some (.ref ra))), (a4, Ce (some (.bool (ellB text wr)))), (a5, Ce (some (.str (enc ch wr) tw))), (a6, Ce none), (a7, Ce (some (.ref wd))), (a8, Ce (some (.ref ka))), (a9, Ce (some (.ref qa))), (a10, Ce (some (.ref oa))), (a11, Ce (some (.str (enc ch [false, true]) ts))), (a12, Ce (some (.str (enc ch text) tt))), (ea, Ls evs)] ++ tabLed 246 lamPos lamQ st) ?_ (by walk_at "tk")
  refine W.cut (fun l => ∃ ma mvs, TxtAre ch mvs mixed ∧ l = [(ka, Dk c kvs3), (ma, Ls mvs), (ra, Ls rvs), (sd, Ls ((tb.words.map (ellB text)).map .bool)), (wd, Ls wvs), (yd, Ls yvs), (rr, Rg 0 (due.length : Nat) 1), (da, Ls dvs), (oa, Ls (own.map .bool)), (qa, Ls qvs), (L, NP ["script", "drawn", "pieces", "letters", "free", "due", "piece", "ends", "turn", "book", "ways", "yes", "asked", "place", "told", "answers", "kinds"] [some (.ref sa), some (.str (enc ch drawn) td), some (.ref pa), some (.str (enc ch letters) tl), some (.ref fa), some (.ref da), pv, some (.ref ea), some (.int (i : Nat) tv), some (.ref x), some (.ref yd), some (.ref sd), av, wv, none, none, none]), (a1, Ce c1), (a2, Ce (some (.ref ma))), (a3, Ce (some (.ref ra))), (a4, Ce (some (.bool (ellB text wr)))), (a5, Ce (some (.str (enc ch wr) tw))), (a6, Ce none), (a7, Ce (some (.ref wd))), (a8, Ce (some (.ref ka))), (a9, Ce (some (.ref qa))), (a10, Ce (some (.ref oa))), (a11, Ce (some (.str (enc ch [false, true]) ts))), (a12, Ce (some (.str (enc ch text) tt))), (ea, Ls evs)] ++ tabLed 246 lamPos lamQ st) (W.set (W.comp (n := wr.length + 1) (P := fun i v => ∃ t, v = .int (0 + (i : Nat) * 1) t) (need := [])
   (fun j ys l => ∃ r2, TxtAre ch ys (mixed.take j) ∧ l = (r2, Rg 0 (wr.length + 1 : Nat) 1) :: ([(ka, Dk c kvs3), (ra, Ls rvs), (sd, Ls ((tb.words.map (ellB text)).map .bool)), (wd, Ls wvs), (yd, Ls yvs), (rr, Rg 0 (due.length : Nat) 1), (da, Ls dvs), (oa, Ls (own.map .bool)), (qa, Ls qvs), (L, NP ["script", "drawn", "pieces", "letters", "free", "due", "piece", "ends", "turn", "book", "ways", "yes", "asked", "place", "told", "answers", "kinds"] [some (.ref sa), some (.str (enc ch drawn) td), some (.ref pa), some (.str (enc ch letters) tl), some (.ref fa), some (.ref da), pv, some (.ref ea), some (.int (i : Nat) tv), some (.ref x), some (.ref yd), some (.ref sd), av, wv, none, none, none]), (a1, Ce c1), (a2, Ce c2), (a3, Ce (some (.ref ra))), (a4, Ce (some (.bool (ellB text wr)))), (a5, Ce (some (.str (enc ch wr) tw))), (a6, Ce none), (a7, Ce (some (.ref wd))), (a8, Ce (some (.ref ka))), (a9, Ce (some (.ref qa))), (a10, Ce (some (.ref oa))), (a11, Ce (some (.str (enc ch [false, true]) ts))), (a12, Ce (some (.str (enc ch text) tt))), (ea, Ls evs)] ++ tabLed 246 lamPos lamQ st)) r.hh (by exact rfl) (by decide) rfl (by decide) rfl (by show _ ≤ 16777216; (clear hRl hlrdw hqrdw hrdw3 hrdw2 hrdw1 hkz3 hp2' hp1' hbis hml hrl hroad hwo hwe hw2 hob hyb hoi hyi hyz hkz2 hYl hWl htyz htz hrz hkz1 hEl hn' hn hkz hez hi hQl hDl hqz hoz hdz hchk hdone hlf hfree hll hletters hp2 hZ hd2 hd1 hc2 hc1 hch has hz; omega)) ?_ ?_ ?_ ?_)) ?_
  ·refine W.callT (id := "range") ?_
   simp only [List.cons_append, List.nil_append]
   walk_at "b_range"
   refine ⟨rfl, W.spCons (W.binop (W.callB (id := "len") ?_))⟩
   walk_at "b_len"
   refine ⟨rfl, W.spCons ?_⟩
   walk_at "ce"
   refine W.spNil (W.len (by rw [enc_len]; show _ ≤ 16777216; (clear hRl hlrdw hqrdw hrdw3 hrdw2 hrdw1 hkz3 hp2' hp1' hbis hml hrl hroad hwo hwe hw2 hob hyb hoi hyi hyz hkz2 hYl hWl htyz htz hrz hkz1 hEl hn' hn hkz hez hi hQl hDl hqz hoz hdz hchk hdone hlf hfree hll hletters hp2 hZ hd2 hd1 hc2 hc1 hch has hz; omega)) ?_)
   walk_at "E1"; generalize z1 _ _ = zu
   refine W.kInt ?_
   walk_at "E1"; generalize z1 _ _ = zu
   refine W.iadd ?_
   walk_at "E1"; generalize z1 _ _ = zu
   refine W.spNil ?_
   rw [enc_len, show ((wr.length : Int) + 1) = ((wr.length + 1 : Nat) : Int) by (clear hRl hlrdw hqrdw hrdw3 hrdw2 hrdw1 hkz3 hp2' hp1' hbis hml hrl hroad hwo hwe hw20 hw2 hob hyb hoi hyi hyz hkz2 hYl hWl htyz htz hrz hkz1 hEl hn' hn hkz hez hi hQl hDl hqz hoz hdz hchk hdone hlf hfree hll hletters hp2 hZ hd2 hd1 hc2 hc1 hch has hz; omega)]
   exact W.range1 fun r2 => ⟨Itr.rg (.head _) (rg1 (wr.length + 1) (by (clear hRl hlrdw hqrdw hrdw3 hrdw2 hrdw1 hkz3 hp2' hp1' hbis hml hrl hroad hwo hwe hw2 hob hyb hoi hyi hyz hkz2 hYl hWl htyz htz hrz hkz1 hEl hn' hn hkz hez hi hQl hDl hqz hoz hdz hchk hdone hlf hfree hll hletters hp2 hZ hd2 hd1 hc2 hc1 hch has hz; omega))).1 (rg1 (wr.length + 1) (by (clear hRl hlrdw hqrdw hrdw3 hrdw2 hrdw1 hkz3 hp2' hp1' hbis hml hrl hroad hwo hwe hw2 hob hyb hoi hyi hyz hkz2 hYl hWl htyz htz hrz hkz1 hEl hn' hn hkz hez hi hQl hDl hqz hoz hdz hchk hdone hlf hfree hll hletters hp2 hZ hd2 hd1 hc2 hc1 hch has hz; omega))).2, r2, TxtAre.nil, rfl⟩
  ·walk_at "E3"; generalize (z3 _ _).1 = zu; generalize (z3 _ _).2.1 = zu; generalize (z3 _ _).2.2 = zu
   intro _
   walk_at "E1"; generalize z1 _ _ = zu
   intro h
   cases h
  ·walk_at "E5"; generalize (z5 _ _).1 = C; generalize (z5 _ _).2.1 = j; generalize (z5 _ _).2.2.1 = v; generalize (z5 _ _).2.2.2.1 = ys; generalize (z5 _ _).2.2.2.2 = l
   intro hj
   walk_at "Y1"; generalize z1 _ _ = t
   intro zy44
   subst zy44
   walk_at "Y1"; generalize z1 _ _ = r2
   refine A2 ?_
   intro hys zy45
   subst zy45
   intro hlen
   rw [show (0 + (j : Nat) * 1 : Int) = ((j : Nat) : Int) by (clear hlen hj hRl hlrdw hqrdw hrdw3 hrdw2 hrdw1 hkz3 hp2' hp1' hbis hml hrl hroad hwo hwe hw20 hw2 hob hyb hoi hyi hyz hkz2 hYl hWl htyz htz hrz hkz1 hEl hn' hn hkz hez hi hQl hDl hqz hoz hdz hchk hdone hlf hfree hll hletters hp2 hZ hd2 hd1 hc2 hc1 hch has hz; omega)]
   refine O1 ?_ (hmx j hj)
   walk_at "Y2"; generalize (z2 _ _).1 = rk; generalize (z2 _ _).2 = x1
   refine A3 ?_
   intro hr1 hr2 hr3
   refine O1 ?_ (hR.get hr1)
   walk_at "Y1"; generalize z1 _ _ = tr
   intro hrv
   refine O1 ?_ (hW.2 _ _ hr2)
   walk_at "Y1"; generalize z1 _ _ = tx
   intro hxv
   have hx1 := htw x1 (List.mem_of_getElem? hr2)
   simp only [List.cons_append, List.nil_append]
   refine W.testsNil ?_
   rw [if_pos rfl]
   refine W.binop (W.subs slot_list_getitem.lookup ?_)
   walk_at "ce"
   refine W.subs slot_list_getitem.lookup ?_
   walk_at "ce"
   walk_at "nm"
   refine ⟨Ty.ls (by walk_at "mem"), W.lsItem (by walk_at "mem") (by (clear hx1 hxv hrv hr3 hr2 hr1 hlen hj hRl hlrdw hqrdw hrdw3 hrdw2 hrdw1 hkz3 hp2' hp1' hbis hml hrl hroad hwo hwe hw20 hw2 hob hyb hoi hyi hyz hkz2 hYl hWl htyz htz hrz hkz1 hEl hn' hn hkz hez hi hQl hDl hqz hoz hdz hchk hdone hlf hfree hll hletters hp2 hZ hd2 hd1 hc2 hc1 hch has hz; omega)) (by rw [Int.toNat_natCast]; exact hrv) (by show _ ≤ 16777216; (clear hx1 hxv hrv hr3 hr2 hr1 hlen hj hlrdw hqrdw hrdw3 hrdw2 hrdw1 hkz3 hp2' hp1' hbis hml hroad hwo hwe hw2 hob hyb hoi hyi hyz hkz2 hYl hWl htyz htz hrz hkz1 hEl hn' hn hkz hez hi hQl hDl hqz hoz hdz hchk hdone hlf hfree hll hletters hp2 hZ hd2 hd1 hc2 hc1 hch has hz; omega)) ⟨Ty.ls (by walk_at "mem"), W.lsItem (by walk_at "mem") (by (clear hx1 hxv hrv hr3 hr2 hr1 hlen hj hRl hlrdw hqrdw hrdw3 hrdw2 hrdw1 hkz3 hp2' hp1' hbis hml hrl hroad hwo hwe hw20 hw2 hob hyb hoi hyi hyz hkz2 hYl hWl htyz htz hrz hkz1 hEl hn' hn hkz hez hi hQl hDl hqz hoz hdz hchk hdone hlf hfree hll hletters hp2 hZ hd2 hd1 hc2 hc1 hch has hz; omega)) (by rw [Int.toNat_natCast]; exact hxv) (by show _ ≤ 16777216; (clear hx1 hxv hrv hr3 hr2 hr1 hlen hj hRl hlrdw hqrdw hrdw3 hrdw2 hrdw1 hkz3 hp2' hp1' hbis hml hrl hroad hwo hwe hw20 hw2 hob hyb hoi hyi hyz hkz2 hYl htyz hrz hkz1 hEl hn' hn hkz hez hi hQl hDl hqz hoz hdz hchk hdone hlf hfree hll hletters hp2 hZ hd2 hd1 hc2 hc1 hch has hz; omega)) ?_⟩⟩
   refine W.strSlice (x := enc ch wr) (some (j : Int)) none ?_
   walk_at "ce"
   show W c _ (eval (.Name _ _) _) _ _
   walk_at "nm"
   refine W.pure ⟨some ((j : Int), t), none, tw, rfl, rfl, rfl, rfl, rfl, by rw [enc_len]; show _ ≤ 16777216; (clear hx1 hxv hrv hr3 hr2 hr1 hlen hj hRl hlrdw hqrdw hrdw3 hrdw2 hrdw1 hkz3 hp2' hp1' hbis hml hrl hroad hwo hwe hw2 hob hyb hoi hyi hyz hkz2 hYl hWl htyz htz hrz hkz1 hEl hn' hn hkz hez hi hQl hDl hqz hoz hdz hchk hdone hlf hfree hll hletters hp2 hZ hd2 hd1 hc2 hc1 hch has hz; omega), ?_⟩
   walk_at "E1"; generalize z1 _ _ = t5
   rw [slice_from wr j (by (clear hx1 hxv hrv hr3 hr2 hr1 hlen hRl hlrdw hqrdw hrdw3 hrdw2 hrdw1 hkz3 hp2' hp1' hbis hml hrl hroad hwo hwe hw20 hw2 hob hyb hoi hyi hyz hkz2 hYl hWl htyz htz hrz hkz1 hEl hn' hn hkz hez hi hQl hDl hqz hoz hdz hchk hdone hlf hfree hll hletters hp2 hZ hd2 hd1 hc2 hc1 hch has hz; omega))]
   refine W.sadd (by rw [enc_len, enc_len, List.length_drop]; show _ ≤ 16777216; (clear hxv hrv hr3 hr2 hr1 hlen hj hRl hlrdw hqrdw hrdw3 hrdw2 hrdw1 hkz3 hp2' hp1' hbis hml hrl hroad hwo hwe hw2 hob hyb hoi hyi hyz hkz2 hYl hWl htyz htz hrz hkz1 hEl hn' hn hkz hez hi hQl hDl hqz hoz hdz hchk hdone hlf hfree hll hletters hp2 hZ hd2 hd1 hc2 hc1 hch has hz; omega)) ?_
   walk_at "E1"; generalize z1 _ _ = t6
   rw [← enc_app]
   refine ⟨_, _, rfl, r2, ?_, rfl⟩
   rw [List.take_add_one, hr3]
   exact hys.snoc
  ·walk_at "E3"; generalize (z3 _ _).1 = ma; generalize (z3 _ _).2.1 = mvs; generalize (z3 _ _).2.2 = l
   walk_at "Y1"; generalize z1 _ _ = r2
   refine A2 ?_
   intro hys zy46
   subst zy46
   intro hlen
   rw [← hml, List.take_length] at hys
   refine W.sub (l' := [(ka, Dk c kvs3), (ma, Ls mvs), (ra, Ls rvs), (sd, Ls ((tb.words.map (ellB text)).map .bool)), (wd, Ls wvs), (yd, Ls yvs), (rr, Rg 0 (due.length : Nat) 1), (da, Ls dvs), (oa, Ls (own.map .bool)), (qa, Ls qvs), (L, NP ["script", "drawn", "pieces", "letters", "free", "due", "piece", "ends", "turn", "book", "ways", "yes", "asked", "place", "told", "answers", "kinds"] [some (.ref sa), some (.str (enc ch drawn) td), some (.ref pa), some (.str (enc ch letters) tl), some (.ref fa), some (.ref da), pv, some (.ref ea), some (.int (i : Nat) tv), some (.ref x), some (.ref yd), some (.ref sd), av, wv, none, none, none]), (a1, Ce c1), (a2, Ce c2), (a3, Ce (some (.ref ra))), (a4, Ce (some (.bool (ellB text wr)))), (a5, Ce (some (.str (enc ch wr) tw))), (a6, Ce none), (a7, Ce (some (.ref wd))), (a8, Ce (some (.ref ka))), (a9, Ce (some (.ref qa))), (a10, Ce (some (.ref oa))), (a11, Ce (some (.str (enc ch [false, true]) ts))), (a12, Ce (some (.str (enc ch text) tt))), (ea, Ls evs)] ++ tabLed 246 lamPos lamQ st) ?_ (by walk_at "tk")
   simp only [List.cons_append, List.nil_append]
   walk_at "sc"
   exact ⟨ma, mvs, hys, rfl⟩
  walk_at "E1"; generalize z1 _ _ = l
  walk_at "Y2"; generalize (z2 _ _).1 = ma; generalize (z2 _ _).2 = mvs
  refine A2 ?_
  intro hM zy47
  subst zy47
  have hMl := hM.1
  simp only [List.cons_append, List.nil_append]
  refine W.step (W.set (W.binop (W.callB (id := "len") ?_)))
  walk_at "b_len"
  refine ⟨rfl, W.spCons ?_⟩
  walk_at "ce"
  refine W.spNil (W.len (by rw [enc_len]; show _ ≤ 16777216; (clear hMl hRl hlrdw hqrdw hrdw3 hrdw2 hrdw1 hkz3 hp2' hp1' hbis hml hrl hroad hwo hwe hw2 hob hyb hoi hyi hyz hkz2 hYl hWl htyz htz hrz hkz1 hEl hn' hn hkz hez hi hQl hDl hqz hoz hdz hchk hdone hlf hfree hll hletters hp2 hZ hd2 hd1 hc2 hc1 hch has hz; omega)) ?_)
  walk_at "E1"; generalize z1 _ _ = zu
  refine W.kInt ?_
  walk_at "E1"; generalize z1 _ _ = zu
  refine W.isub ?_
  walk_at "E1"; generalize z1 _ _ = tz
  rw [enc_len, show ((wr.length : Int) - 1) = ((wr.length - 1 : Nat) : Int) by (clear hMl hRl hlrdw hqrdw hrdw3 hrdw2 hrdw1 hkz3 hp2' hp1' hbis hml hrl hroad hwo hwe hw20 hob hyb hoi hyi hyz hkz2 hYl hWl htyz htz hrz hkz1 hEl hn' hn hkz hez hi hQl hDl hqz hoz hdz hchk hdone hlf hfree hll hletters hp2 hZ hd2 hd1 hc2 hc1 hch has hz; omega)]
  walk_at "sc"
  refine ⟨by first | rfl | trivial, W.step (W.set (W.mkList (W.spNil ⟨by show 0 ≤ 16777216; (clear hMl hRl hlrdw hqrdw hrdw3 hrdw2 hrdw1 hkz3 hp2' hp1' hbis hml hrl hroad hwo hwe hw20 hw2 hob hyb hoi hyi hyz hkz2 hYl hWl htyz htz hrz hkz1 hEl hn' hn hkz hez hi hQl hDl hqz hoz hdz hchk hdone hlf hfree hll hletters hp2 hZ hd2 hd1 hc2 hc1 hch has hz; omega), ?_⟩)))⟩
  walk_at "E1"; generalize z1 _ _ = aa
  walk_at "st"
  refine ⟨by first | rfl | trivial, ?_⟩
  refine W.sub (l' := [(ma, Ls mvs), (ka, Dk c kvs3), (aa, Ls []), (ra, Ls rvs), (sd, Ls ((tb.words.map (ellB text)).map .bool)), (wd, Ls wvs), (yd, Ls yvs), (rr, Rg 0 (due.length : Nat) 1), (da, Ls dvs), (oa, Ls (own.map .bool)), (qa, Ls qvs), (L, NP ["script", "drawn", "pieces", "letters", "free", "due", "piece", "ends", "turn", "book", "ways", "yes", "asked", "place", "told", "answers", "kinds"] [some (.ref sa), some (.str (enc ch drawn) td), some (.ref pa), some (.str (enc ch letters) tl), some (.ref fa), some (.ref da), pv, some (.ref ea), some (.int (i : Nat) tv), some (.ref x), some (.ref yd), some (.ref sd), some (.ref aa), wv, none, none, none]), (a1, Ce (some (.int ((wr.length - 1 : Nat) : Int) tz))), (a2, Ce (some (.ref ma))), (a3, Ce (some (.ref ra))), (a4, Ce (some (.bool (ellB text wr)))), (a5, Ce (some (.str (enc ch wr) tw))), (a6, Ce none), (a7, Ce (some (.ref wd))), (a8, Ce (some (.ref ka))), (a9, Ce (some (.ref qa))), (a10, Ce (some (.ref oa))), (a11, Ce (some (.str (enc ch [false, true]) ts))), (a12, Ce (some (.str (enc ch text) tt))), (ea, Ls evs)] ++ tabLed 246 lamPos lamQ st) ?_ (by walk_at "tk")
  simp only [List.cons_append, List.nil_append]
  refine W.step (W.set (W.callK T (fv := .ref 251) (by k_is) ?_))
  walk_at "gl"
  refine ⟨rfl, W.spCons ?_⟩
  walk_at "ce"
  refine W.spCons ?_
  walk_at "ce"
  refine W.spCons ?_
  walk_at "ce"
  refine W.spCons ?_
  walk_at "ce"
  refine W.spCons ?_
  walk_at "nm"
  refine W.spNil ?_
  rw [← bis_F] at hbis
  have hmz : ∀ w ∈ mixed, w.length ≤ 1000 := by
   walk_at "E1"; generalize z1 _ _ = w
   intro hw
   obtain ⟨k, hk, hwk⟩ := List.getElem_of_mem hw
   obtain ⟨rk, x1, _, hr2, hr3⟩ := hmx k (by (clear hwk hMl hRl hlrdw hqrdw hrdw3 hrdw2 hrdw1 hkz3 hp2' hp1' hbis hrl hroad hwo hwe hw20 hw2 hob hyb hoi hyi hyz hkz2 hYl hWl htyz htz hrz hkz1 hEl hn' hn hkz hez hi hQl hDl hqz hoz hdz hchk hdone hlf hfree hll hletters hp2 hZ hd2 hd1 hc2 hc1 hch has hz; omega))
   have hx1 := htw x1 (List.mem_of_getElem? hr2)
   rw [List.getElem?_eq_getElem hk, hwk] at hr3
   rw [Option.some.inj hr3, List.length_append, List.length_drop]
   (clear hr2 hwk hk hMl hRl hlrdw hqrdw hrdw3 hrdw2 hrdw1 hkz3 hp2' hp1' hbis hml hrl hroad hwo hwe hw2 hob hyb hoi hyi hyz hkz2 hYl hWl htyz htz hrz hkz1 hEl hn' hn hkz hez hi hQl hDl hqz hoz hdz hchk hdone hlf hfree hll hletters hp2 hZ hd2 hd1 hc2 hc1 hch has hz; omega)
  refine W.perm (l' := (tabLed 246 lamPos lamQ st ++ [(ma, Ls mvs), (ka, Dk c kvs3), (aa, Ls [])]) ++ [(ra, Ls rvs), (sd, Ls ((tb.words.map (ellB text)).map .bool)), (wd, Ls wvs), (yd, Ls yvs), (rr, Rg 0 (due.length : Nat) 1), (da, Ls dvs), (oa, Ls (own.map .bool)), (qa, Ls qvs), (L, NP ["script", "drawn", "pieces", "letters", "free", "due", "piece", "ends", "turn", "book", "ways", "yes", "asked", "place", "told", "answers", "kinds"] [some (.ref sa), some (.str (enc ch drawn) td), some (.ref pa), some (.str (enc ch letters) tl), some (.ref fa), some (.ref da), pv, some (.ref ea), some (.int (i : Nat) tv), some (.ref x), some (.ref yd), some (.ref sd), some (.ref aa), wv, none, none, none]), (a1, Ce (some (.int ((wr.length - 1 : Nat) : Int) tz))), (a2, Ce (some (.ref ma))), (a3, Ce (some (.ref ra))), (a4, Ce (some (.bool (ellB text wr)))), (a5, Ce (some (.str (enc ch wr) tw))), (a6, Ce none), (a7, Ce (some (.ref wd))), (a8, Ce (some (.ref ka))), (a9, Ce (some (.ref qa))), (a10, Ce (some (.ref oa))), (a11, Ce (some (.str (enc ch [false, true]) ts))), (a12, Ce (some (.str (enc ch text) tt))), (ea, Ls evs)]) ?_ (perm_told [(ma, Ls mvs), (ka, Dk c kvs3), (aa, Ls [])] [(ra, Ls rvs), (sd, Ls ((tb.words.map (ellB text)).map .bool)), (wd, Ls wvs), (yd, Ls yvs), (rr, Rg 0 (due.length : Nat) 1), (da, Ls dvs), (oa, Ls (own.map .bool)), (qa, Ls qvs), (L, NP ["script", "drawn", "pieces", "letters", "free", "due", "piece", "ends", "turn", "book", "ways", "yes", "asked", "place", "told", "answers", "kinds"] [some (.ref sa), some (.str (enc ch drawn) td), some (.ref pa), some (.str (enc ch letters) tl), some (.ref fa), some (.ref da), pv, some (.ref ea), some (.int (i : Nat) tv), some (.ref x), some (.ref yd), some (.ref sd), some (.ref aa), wv, none, none, none]), (a1, Ce (some (.int ((wr.length - 1 : Nat) : Int) tz))), (a2, Ce (some (.ref ma))), (a3, Ce (some (.ref ra))), (a4, Ce (some (.bool (ellB text wr)))), (a5, Ce (some (.str (enc ch wr) tw))), (a6, Ce none), (a7, Ce (some (.ref wd))), (a8, Ce (some (.ref ka))), (a9, Ce (some (.ref qa))), (a10, Ce (some (.ref oa))), (a11, Ce (some (.str (enc ch [false, true]) ts))), (a12, Ce (some (.str (enc ch text) tt))), (ea, Ls evs)] (tabLed 246 lamPos lamQ st))
  refine W.use (told_ok T Gg he (r.deeper.less (by (clear hMl hRl hlrdw hqrdw hrdw3 hrdw2 hrdw1 hkz3 hp2' hp1' hbis hml hrl hroad hwo hwe hw20 hw2 hob hyb hoi hyi hyz hkz2 hYl hWl htyz htz hrz hkz1 hEl hn' hn hkz hez hi hQl hDl hqz hoz hdz hchk hdone hlf hfree hll hletters hp2 hZ hd2 hd1 hc2 hc1 hch has hz; omega))) hch (by (clear hMl hRl hlrdw hqrdw hrdw3 hrdw2 hrdw1 hkz3 hp2' hp1' hbis hml hrl hroad hwo hwe hw20 hw2 hob hyb hoi hyi hyz hkz2 hYl hWl htyz htz hrz hkz1 hEl hn' hn hkz hez hi hQl hDl hqz hoz hdz hchk hdone hlf hfree hll hletters hp2 hd2 hd1 hc2 hc1 hch has hz; omega)) hmz (by (clear hMl hRl hlrdw hqrdw hrdw3 hrdw2 hrdw1 hp2' hp1' hbis hml hrl hroad hwo hwe hw20 hw2 hob hyb hoi hyi hyz hYl hWl htyz htz hrz hkz1 hEl hn' hn hkz hez hQl hDl hqz hoz hchk hdone hlf hfree hll hletters hp2 hZ hd2 hd1 hc2 hc1 hch has hz; omega)) hK3 hM (by (clear hMl hRl hlrdw hqrdw hrdw3 hrdw2 hrdw1 hkz3 hp2' hp1' hbis hrl hroad hwo hwe hw2 hob hyb hoi hyi hyz hkz2 hYl hWl htyz htz hrz hkz1 hEl hn' hn hkz hez hi hQl hDl hqz hoz hdz hchk hdone hlf hfree hll hletters hp2 hZ hd2 hd1 hc2 hc1 hch has hz; omega)) (by (clear hMl hRl hlrdw hqrdw hrdw3 hrdw2 hrdw1 hkz3 hp2' hp1' hbis hrl hroad hwo hwe hw20 hob hyb hoi hyi hyz hkz2 hYl hWl htyz htz hrz hkz1 hEl hn' hn hkz hez hi hQl hDl hqz hoz hdz hchk hdone hlf hfree hll hletters hp2 hZ hd2 hd1 hc2 hc1 hch has hz; omega)) hbis) (Take.prefix _ _) ?_
  walk_at "E2"; generalize (z2 _ _).1 = v; generalize (z2 _ _).2 = l'
  refine' @Y4 _ _ _ _ _ _ (by walk_at "ne") ?_; generalize (z4 _ _).1 = tpl; generalize (z4 _ _).2.1 = c9; generalize (z4 _ _).2.2.1 = kvs4; generalize (z4 _ _).2.2.2 = avs
  refine A6 ?_
  intro zy48 hK4 hkz4 hAs haz zy49
  subst zy48
  subst zy49
  refine W.perm (l' := [(ma, Ls mvs), (ka, Dk c kvs4), (aa, Ls avs), (ra, Ls rvs), (sd, Ls ((tb.words.map (ellB text)).map .bool)), (wd, Ls wvs), (yd, Ls yvs), (rr, Rg 0 (due.length : Nat) 1), (da, Ls dvs), (oa, Ls (own.map .bool)), (qa, Ls qvs), (L, NP ["script", "drawn", "pieces", "letters", "free", "due", "piece", "ends", "turn", "book", "ways", "yes", "asked", "place", "told", "answers", "kinds"] [some (.ref sa), some (.str (enc ch drawn) td), some (.ref pa), some (.str (enc ch letters) tl), some (.ref fa), some (.ref da), pv, some (.ref ea), some (.int (i : Nat) tv), some (.ref x), some (.ref yd), some (.ref sd), some (.ref aa), wv, none, none, none]), (a1, Ce (some (.int ((wr.length - 1 : Nat) : Int) tz))), (a2, Ce (some (.ref ma))), (a3, Ce (some (.ref ra))), (a4, Ce (some (.bool (ellB text wr)))), (a5, Ce (some (.str (enc ch wr) tw))), (a6, Ce none), (a7, Ce (some (.ref wd))), (a8, Ce (some (.ref ka))), (a9, Ce (some (.ref qa))), (a10, Ce (some (.ref oa))), (a11, Ce (some (.str (enc ch [false, true]) ts))), (a12, Ce (some (.str (enc ch text) tt))), (ea, Ls evs)] ++ tabLed 246 lamPos lamQ (some c9)) ?_ (perm_told [(ma, Ls mvs), (ka, Dk c kvs4), (aa, Ls avs)] [(ra, Ls rvs), (sd, Ls ((tb.words.map (ellB text)).map .bool)), (wd, Ls wvs), (yd, Ls yvs), (rr, Rg 0 (due.length : Nat) 1), (da, Ls dvs), (oa, Ls (own.map .bool)), (qa, Ls qvs), (L, NP ["script", "drawn", "pieces", "letters", "free", "due", "piece", "ends", "turn", "book", "ways", "yes", "asked", "place", "told", "answers", "kinds"] [some (.ref sa), some (.str (enc ch drawn) td), some (.ref pa), some (.str (enc ch letters) tl), some (.ref fa), some (.ref da), pv, some (.ref ea), some (.int (i : Nat) tv), some (.ref x), some (.ref yd), some (.ref sd), some (.ref aa), wv, none, none, none]), (a1, Ce (some (.int ((wr.length - 1 : Nat) : Int) tz))), (a2, Ce (some (.ref ma))), (a3, Ce (some (.ref ra))), (a4, Ce (some (.bool (ellB text wr)))), (a5, Ce (some (.str (enc ch wr) tw))), (a6, Ce none), (a7, Ce (some (.ref wd))), (a8, Ce (some (.ref ka))), (a9, Ce (some (.ref qa))), (a10, Ce (some (.ref oa))), (a11, Ce (some (.str (enc ch [false, true]) ts))), (a12, Ce (some (.str (enc ch text) tt))), (ea, Ls evs)] (tabLed 246 lamPos lamQ (some c9))).symm
  simp only [List.cons_append, List.nil_append]
  walk_at "st"
  refine ⟨by first | rfl | trivial, ?_⟩
  have htwl : ((mixed.drop (place - 1)).take 2).length = 2 := by rw [List.length_take, List.length_drop]; (clear haz hkz4 hMl hRl hlrdw hqrdw hrdw3 hrdw2 hrdw1 hkz3 hp1' hbis hrl hroad hwo hwe hw20 hob hyb hoi hyi hyz hkz2 hYl hWl htyz htz hrz hkz1 hEl hn' hn hkz hez hi hQl hDl hqz hoz hdz hchk hdone hlf hfree hll hletters hp2 hZ hd2 hd1 hc2 hc1 hch has hz; omega)
  have hM2 := (hM.drop' (place - 1)).take' 2
  have hv2 : ((mvs.drop (place - 1)).take 2).length = 2 := by rw [hM2.1, htwl]
  have hAl := hAs.1
  refine W.cut (fun l => l = [(ma, Ls mvs), (ka, Dk c kvs4), (aa, Ls avs), (ra, Ls rvs), (sd, Ls ((tb.words.map (ellB text)).map .bool)), (wd, Ls wvs), (yd, Ls yvs), (rr, Rg 0 (due.length : Nat) 1), (da, Ls dvs), (oa, Ls (own.map .bool)), (qa, Ls qvs), (L, NP ["script", "drawn", "pieces", "letters", "free", "due", "piece", "ends", "turn", "book", "ways", "yes", "asked", "place", "told", "answers", "kinds"] [some (.ref sa), some (.str (enc ch drawn) td), some (.ref pa), some (.str (enc ch letters) tl), some (.ref fa), some (.ref da), pv, some (.ref ea), some (.int (i : Nat) tv), some (.ref x), some (.ref yd), some (.ref sd), some (.ref aa), some (.int (place : Nat) tpl), none, none, none]), (a1, Ce (some (.int ((wr.length - 1 : Nat) : Int) tz))), (a2, Ce (some (.ref ma))), (a3, Ce (some (.ref ra))), (a4, Ce (some (.bool (ellB text wr)))), (a5, Ce (some (.str (enc ch wr) tw))), (a6, Ce none), (a7, Ce (some (.ref wd))), (a8, Ce (some (.ref ka))), (a9, Ce (some (.ref qa))), (a10, Ce (some (.ref oa))), (a11, Ce (some (.str (enc ch [false, true]) ts))), (a12, Ce (some (.str (enc ch text) tt))), (ea, Ls evs)] ++ tabLed 246 lamPos lamQ (some c9)) (W.cond (W.testCompare ?_)) ?_
  ·refine W.compV (n := 2) (P := fun i v => ((mvs.drop (place - 1)).take 2)[i]? = some v) (need := fun xv => match xv with | .ref a => [(a, Ls ((mvs.drop (place - 1)).take 2))] | _ => [])
    (fun xv j ys l => ∃ md, xv = .ref md ∧ ys = (([false, true] : List Bool).take j).map Value.bool ∧ l = [(md, Ls ((mvs.drop (place - 1)).take 2)), (ma, Ls mvs), (ka, Dk c kvs4), (aa, Ls avs), (ra, Ls rvs), (sd, Ls ((tb.words.map (ellB text)).map .bool)), (wd, Ls wvs), (yd, Ls yvs), (rr, Rg 0 (due.length : Nat) 1), (da, Ls dvs), (oa, Ls (own.map .bool)), (qa, Ls qvs), (L, NP ["script", "drawn", "pieces", "letters", "free", "due", "piece", "ends", "turn", "book", "ways", "yes", "asked", "place", "told", "answers", "kinds"] [some (.ref sa), some (.str (enc ch drawn) td), some (.ref pa), some (.str (enc ch letters) tl), some (.ref fa), some (.ref da), pv, some (.ref ea), some (.int (i : Nat) tv), some (.ref x), some (.ref yd), some (.ref sd), some (.ref aa), some (.int (place : Nat) tpl), none, none, none]), (a1, Ce (some (.int ((wr.length - 1 : Nat) : Int) tz))), (a2, Ce (some (.ref ma))), (a3, Ce (some (.ref ra))), (a4, Ce (some (.bool (ellB text wr)))), (a5, Ce (some (.str (enc ch wr) tw))), (a6, Ce none), (a7, Ce (some (.ref wd))), (a8, Ce (some (.ref ka))), (a9, Ce (some (.ref qa))), (a10, Ce (some (.ref oa))), (a11, Ce (some (.str (enc ch [false, true]) ts))), (a12, Ce (some (.str (enc ch text) tt))), (ea, Ls evs)] ++ tabLed 246 lamPos lamQ (some c9)) r.hh (by exact rfl) (by decide) rfl (by decide) rfl (by show _ ≤ 16777216; (clear hAl hv2 htwl haz hkz4 hMl hRl hlrdw hqrdw hrdw3 hrdw2 hrdw1 hkz3 hp2' hp1' hbis hml hrl hroad hwo hwe hw20 hw2 hob hyb hoi hyi hyz hkz2 hYl hWl htyz htz hrz hkz1 hEl hn' hn hkz hez hi hQl hDl hqz hoz hdz hchk hdone hlf hfree hll hletters hp2 hZ hd2 hd1 hc2 hc1 hch has hz; omega)) ?_ ?_ ?_ ?_
   ·refine W.lsSlice (a := ma) (vs := mvs) (lo := some ((place - 1 : Nat) : Int)) (hi := some ((place + 1 : Nat) : Int)) ?_
    walk_at "ce"
    show W c _ (eval (.BinOp _ _ _ _) _) _ _
    refine W.binop ?_
    walk_at "nm"
    refine W.kInt ?_
    walk_at "E1"; generalize z1 _ _ = zu
    refine W.isub ?_
    walk_at "E1"; generalize z1 _ _ = tl1
    show W c _ (eval (.BinOp _ _ _ _) _) _ _
    refine W.binop ?_
    walk_at "nm"
    refine W.kInt ?_
    walk_at "E1"; generalize z1 _ _ = zu
    refine W.iadd ?_
    walk_at "E1"; generalize z1 _ _ = tl2
    rw [show ((place : Int) - 1) = ((place - 1 : Nat) : Int) by (clear hAl hv2 htwl haz hkz4 hMl hRl hlrdw hqrdw hrdw3 hrdw2 hrdw1 hkz3 hp2' hbis hml hrl hroad hwo hwe hw20 hw2 hob hyb hoi hyi hyz hkz2 hYl hWl htyz htz hrz hkz1 hEl hn' hn hkz hez hi hQl hDl hqz hoz hdz hchk hdone hlf hfree hll hletters hp2 hZ hd2 hd1 hc2 hc1 hch has hz; omega), show ((place : Int) + 1) = ((place + 1 : Nat) : Int) by (clear hAl hv2 htwl haz hkz4 hMl hRl hlrdw hqrdw hrdw3 hrdw2 hrdw1 hkz3 hp2' hp1' hbis hml hrl hroad hwo hwe hw20 hw2 hob hyb hoi hyi hyz hkz2 hYl hWl htyz htz hrz hkz1 hEl hn' hn hkz hez hi hQl hDl hqz hoz hdz hchk hdone hlf hfree hll hletters hp2 hZ hd2 hd1 hc2 hc1 hch has hz; omega)]
    refine ⟨rfl, by walk_at "mem", .int _ _, .int _ _, by show _ ≤ 16777216; (clear hAl hv2 htwl haz hkz4 hRl hlrdw hqrdw hrdw3 hrdw2 hrdw1 hkz3 hp2' hp1' hbis hrl hroad hwo hwe hw2 hob hyb hoi hyi hyz hkz2 hYl hWl htyz htz hrz hkz1 hEl hn' hn hkz hez hi hQl hDl hqz hoz hdz hchk hdone hlf hfree hll hletters hp2 hZ hd2 hd1 hc2 hc1 hch has hz; omega), ?_⟩
    walk_at "E1"; generalize z1 _ _ = md
    rw [slicePick_run _ _ _ (by simp; (clear hAl hv2 htwl haz hkz4 hRl hlrdw hqrdw hrdw3 hrdw2 hrdw1 hkz3 hp1' hbis hrl hroad hwo hwe hw20 hw2 hob hyb hoi hyi hyz hkz2 hYl hWl htyz htz hrz hkz1 hEl hn' hn hkz hez hi hQl hDl hqz hoz hdz hchk hdone hlf hfree hll hletters hp2 hZ hd2 hd1 hc2 hc1 hch has hz; omega)) (by (clear hAl hv2 htwl haz hkz4 hMl hRl hlrdw hqrdw hrdw3 hrdw2 hrdw1 hkz3 hp2' hp1' hbis hml hrl hroad hwo hwe hw20 hw2 hob hyb hoi hyi hyz hkz2 hYl hWl htyz htz hrz hkz1 hEl hn' hn hkz hez hi hQl hDl hqz hoz hdz hchk hdone hlf hfree hll hletters hp2 hZ hd2 hd1 hc2 hc1 hch has hz; omega)), show place + 1 - (place - 1) = 2 by (clear hAl hv2 htwl haz hkz4 hMl hRl hlrdw hqrdw hrdw3 hrdw2 hrdw1 hkz3 hp2' hbis hml hrl hroad hwo hwe hw20 hw2 hob hyb hoi hyi hyz hkz2 hYl hWl htyz htz hrz hkz1 hEl hn' hn hkz hez hi hQl hDl hqz hoz hdz hchk hdone hlf hfree hll hletters hp2 hZ hd2 hd1 hc2 hc1 hch has hz; omega), show ((mvs.toArray.toList.drop (place - 1)).take 2).toArray.toList = (mvs.drop (place - 1)).take 2 from rfl]
    exact ⟨Itr.lsN (.head _) hv2, md, rfl, rfl, rfl⟩
   ·refine' @E4 _ _ _ _ _ (by walk_at "ne") ?_; generalize (z4 _ _).1 = xv; generalize (z4 _ _).2.1 = j; generalize (z4 _ _).2.2.1 = ys; generalize (z4 _ _).2.2.2 = l
    walk_at "Y1"; generalize z1 _ _ = md
    refine A3 ?_
    intro zy50 _ zy51
    subst zy50
    subst zy51
    walk_at "E1"; generalize z1 _ _ = p
    intro hp
    rw [List.mem_singleton.mp hp]; exact List.Mem.head _
   ·refine' @E6 _ _ _ _ _ _ _ (by walk_at "ne") ?_; generalize (z6 _ _).1 = xv; generalize (z6 _ _).2.1 = C; generalize (z6 _ _).2.2.1 = j; generalize (z6 _ _).2.2.2.1 = v; generalize (z6 _ _).2.2.2.2.1 = ys; generalize (z6 _ _).2.2.2.2.2 = l
    intro hj hv
    walk_at "Y1"; generalize z1 _ _ = md
    refine A3 ?_
    intro zy52 zy53 zy54
    subst zy52
    subst zy53
    subst zy54
    intro hlen
    refine O1 ?_ (hM2.at hv)
    walk_at "Y2"; generalize (z2 _ _).1 = x1; generalize (z2 _ _).2 = tx1
    refine A2 ?_
    intro hx1 zy55
    subst zy55
    refine O1 ?_ (htwo j x1 hx1)
    walk_at "Y2"; generalize (z2 _ _).1 = q; generalize (z2 _ _).2 = o
    refine A3 ?_
    intro hq ho ho2
    have hx1z := hmz x1 (List.mem_of_mem_drop (List.mem_of_mem_take (List.mem_of_getElem? hx1)))
    simp only [List.cons_append, List.nil_append]
    refine W.testsNil ?_
    rw [if_pos rfl]
    refine W.compare ?_
    refine W.subs slot_list_getitem.lookup ?_
    walk_at "ce"
    refine W.subs slot_list_getitem.lookup ?_
    refine W.callK T (fv := .ref 230) (by k_is) ?_
    walk_at "gl"
    refine ⟨rfl, W.spCons ?_⟩
    walk_at "nm"
    refine W.spCons ?_
    walk_at "ce"
    refine W.spCons ?_
    walk_at "ce"
    refine W.spNil ?_
    refine O1 ?_ (wayEnd_ex hq)
    walk_at "Y1"; generalize z1 _ _ = rdq
    refine A3 ?_
    intro hrdq1 hrdq2 hrdq3
    refine W.use (way_ok T (r.deeper.less (by (clear hrdq3 hrdq2 hrdq1 hx1z ho2 ho hq hv hx1 hlen hj hAl hv2 htwl haz hkz4 hMl hRl hlrdw hqrdw hrdw3 hrdw2 hrdw1 hkz3 hp2' hp1' hbis hml hrl hroad hwo hwe hw20 hw2 hob hyb hoi hyi hyz hkz2 hYl hWl htyz htz hrz hkz1 hEl hn' hn hkz hez hi hQl hDl hqz hoz hdz hchk hdone hlf hfree hll hletters hp2 hZ hd2 hd1 hc2 hc1 hch has hz; omega))) hch hQ rdq hrdq1 (by first | (clear hrdq3 hrdq2 hrdq1 ho2 ho hq hv hx1 hlen hj hAl hv2 htwl haz hkz4 hMl hRl hlrdw hqrdw hrdw3 hrdw2 hrdw1 hkz3 hp2' hp1' hbis hml hrl hroad hwo hwe hw20 hw2 hob hyb hoi hyi hyz hkz2 hYl hWl htyz htz hrz hkz1 hEl hn' hn hkz hez hi hQl hDl hqz hoz hdz hchk hdone hlf hfree hll hletters hp2 hZ hd2 hd1 hc2 hc1 hch has hz; omega) | (simp only [List.length_append]; omega)) (by (clear hrdq3 hrdq2 hrdq1 hx1z ho2 ho hq hv hx1 hlen hj hAl hv2 htwl haz hkz4 hMl hRl hlrdw hqrdw hrdw3 hrdw2 hrdw1 hkz3 hp2' hp1' hbis hml hrl hroad hwo hwe hw20 hw2 hob hyb hoi hyi hyz hkz2 hYl hWl htyz htz hrz hkz1 hEl hn' hn hkz hez hi hQl hDl hoz hdz hchk hdone hlf hfree hll hletters hp2 hZ hd2 hd1 hc2 hc1 hch has hz; omega)) (fun n hn => by have := hqw n hn; (clear hrdq3 hrdq2 hrdq1 hx1z ho2 ho hq hv hx1 hlen hj hAl hv2 htwl haz hkz4 hMl hRl hlrdw hqrdw hrdw3 hrdw2 hrdw1 hkz3 hp2' hp1' hbis hml hrl hroad hwo hwe hw20 hw2 hob hyb hoi hyi hyz hkz2 hYl hWl htyz htz hrz hkz1 hEl hn' hkz hez hi hQl hDl hqz hoz hdz hchk hdone hlf hfree hll hletters hp2 hZ hd2 hd1 hc2 hc1 hch has hz; omega))) (by walk_at "tk") ?_
    (try rw [List.length_append] at hrdq2)
    walk_at "E2"; generalize (z2 _ _).1 = zu; generalize (z2 _ _).2 = zu
    walk_at "Y2"; generalize (z2 _ _).1 = rardq; generalize (z2 _ _).2 = rvsrdq
    refine A3 ?_
    intro zy56 hRrdq zy57
    subst zy56
    subst zy57
    simp only [List.cons_append, List.nil_append]
    refine O1 ?_ (hRrdq.last (by (clear hrdq3 hrdq1 hx1z ho2 ho hq hv hx1 hlen hj hAl hv2 htwl haz hkz4 hMl hRl hlrdw hqrdw hrdw3 hrdw2 hrdw1 hkz3 hp2' hp1' hbis hml hrl hroad hwo hwe hw20 hw2 hob hyb hoi hyi hyz hkz2 hYl hWl htyz htz hrz hkz1 hEl hn' hn hkz hez hi hQl hDl hqz hoz hdz hchk hdone hlf hfree hll hletters hp2 hZ hd2 hd1 hc2 hc1 hch has hz; omega)))
    walk_at "Y1"; generalize z1 _ _ = tqrdq
    intro hqrdq
    have hlrdq := hRrdq.1
    refine W.unary (W.kInt ?_)
    walk_at "E1"; generalize z1 _ _ = zu
    refine W.ineg ?_
    walk_at "E1"; generalize z1 _ _ = zu
    refine ⟨Ty.ls (by walk_at "mem"), W.lsItemN (by walk_at "mem") (by decide) (by (clear hqrdq hrdq3 hrdq1 hx1z ho2 ho hq hv hx1 hlen hj hAl hv2 htwl haz hkz4 hMl hRl hlrdw hqrdw hrdw3 hrdw2 hrdw1 hkz3 hp2' hp1' hbis hml hrl hroad hwo hwe hw20 hw2 hob hyb hoi hyi hyz hkz2 hYl hWl htyz htz hrz hkz1 hEl hn' hn hkz hez hi hQl hDl hqz hoz hdz hchk hdone hlf hfree hll hletters hp2 hZ hd2 hd1 hc2 hc1 hch has hz; omega)) hqrdq (by show _ ≤ 16777216; (clear hqrdq hrdq3 hrdq1 ho2 ho hq hv hx1 hlen hj hAl hv2 htwl haz hkz4 hMl hRl hlrdw hqrdw hrdw3 hrdw2 hrdw1 hkz3 hp2' hp1' hbis hml hrl hroad hwo hwe hw20 hw2 hob hyb hoi hyi hyz hkz2 hYl hWl htyz htz hrz hkz1 hEl hn' hn hkz hez hi hQl hDl hqz hoz hdz hchk hdone hlf hfree hll hletters hp2 hZ hd2 hd1 hc2 hc1 hch has hz; omega)) ?_⟩
    rw [hrdq3]
    refine ⟨Ty.ls (by walk_at "mem"), ?_⟩
    refine W.lsItem (by walk_at "mem") (by (clear hlrdq hqrdq hrdq3 hrdq2 hrdq1 hx1z ho2 ho hq hv hx1 hlen hj hAl hv2 htwl haz hkz4 hMl hRl hlrdw hqrdw hrdw3 hrdw2 hrdw1 hkz3 hp2' hp1' hbis hml hrl hroad hwo hwe hw20 hw2 hob hyb hoi hyi hyz hkz2 hYl hWl htyz htz hrz hkz1 hEl hn' hn hkz hez hi hQl hDl hqz hoz hdz hchk hdone hlf hfree hll hletters hp2 hZ hd2 hd1 hc2 hc1 hch has hz; omega)) (by rw [Int.toNat_natCast, List.getElem?_map, ho]; rfl) (by show _ ≤ 16777216; simp only [List.length_map]; (clear hlrdq hqrdq hrdq3 hrdq2 hrdq1 hx1z ho2 ho hq hv hx1 hlen hj hAl hv2 htwl haz hkz4 hMl hRl hlrdw hqrdw hrdw3 hrdw2 hrdw1 hkz3 hp2' hp1' hbis hml hrl hroad hwo hwe hw20 hw2 hob hyb hoi hyi hyz hkz2 hYl hWl htyz htz hrz hkz1 hEl hn' hn hkz hez hi hQl hDl hqz hdz hchk hdone hlf hfree hll hletters hp2 hZ hd2 hd1 hc2 hc1 hch has hz; omega)) ?_
    walk_at "ce"
    refine W.sub (l' := (C, NP ["one"] [some (.str (enc ch x1) tx1)]) :: ([(md, Ls ((mvs.drop (place - 1)).take 2)), (ma, Ls mvs), (ka, Dk c kvs4), (aa, Ls avs), (ra, Ls rvs), (sd, Ls ((tb.words.map (ellB text)).map .bool)), (wd, Ls wvs), (yd, Ls yvs), (rr, Rg 0 (due.length : Nat) 1), (da, Ls dvs), (oa, Ls (own.map .bool)), (qa, Ls qvs), (L, NP ["script", "drawn", "pieces", "letters", "free", "due", "piece", "ends", "turn", "book", "ways", "yes", "asked", "place", "told", "answers", "kinds"] [some (.ref sa), some (.str (enc ch drawn) td), some (.ref pa), some (.str (enc ch letters) tl), some (.ref fa), some (.ref da), pv, some (.ref ea), some (.int (i : Nat) tv), some (.ref x), some (.ref yd), some (.ref sd), some (.ref aa), some (.int (place : Nat) tpl), none, none, none]), (a1, Ce (some (.int ((wr.length - 1 : Nat) : Int) tz))), (a2, Ce (some (.ref ma))), (a3, Ce (some (.ref ra))), (a4, Ce (some (.bool (ellB text wr)))), (a5, Ce (some (.str (enc ch wr) tw))), (a6, Ce none), (a7, Ce (some (.ref wd))), (a8, Ce (some (.ref ka))), (a9, Ce (some (.ref qa))), (a10, Ce (some (.ref oa))), (a11, Ce (some (.str (enc ch [false, true]) ts))), (a12, Ce (some (.str (enc ch text) tt))), (ea, Ls evs)] ++ tabLed 246 lamPos lamQ (some c9))) ?_ (by walk_at "tk")
    refine W.bne ⟨_, _, rfl, md, rfl, ?_, rfl⟩
    rw [List.take_add_one, ho2, List.map_append]; rfl
   ·refine' @E4 _ _ _ _ _ (by walk_at "ne") ?_; generalize (z4 _ _).1 = xv; generalize (z4 _ _).2.1 = nd; generalize (z4 _ _).2.2.1 = ys; generalize (z4 _ _).2.2.2 = l
    walk_at "Y1"; generalize z1 _ _ = md
    refine A3 ?_
    intro zy58 zy59 zy60
    subst zy58
    subst zy59
    subst zy60
    intro hlen
    simp only [List.cons_append, List.nil_append]
    refine W.mkList (W.spCons (W.kBool (W.spCons (W.kBool (W.spNil ⟨by show 2 ≤ 16777216; (clear hlen hAl hv2 htwl haz hkz4 hMl hRl hlrdw hqrdw hrdw3 hrdw2 hrdw1 hkz3 hp2' hp1' hbis hml hrl hroad hwo hwe hw20 hw2 hob hyb hoi hyi hyz hkz2 hYl hWl htyz htz hrz hkz1 hEl hn' hn hkz hez hi hQl hDl hqz hoz hdz hchk hdone hlf hfree hll hletters hp2 hZ hd2 hd1 hc2 hc1 hch has hz; omega), ?_⟩)))))
    walk_at "E1"; generalize z1 _ _ = ne
    refine W.neLs (n := 1) (e := false) (r.deeper.less (by (clear hlen hAl hv2 htwl haz hkz4 hMl hRl hlrdw hqrdw hrdw3 hrdw2 hrdw1 hkz3 hp2' hp1' hbis hml hrl hroad hwo hwe hw20 hw2 hob hyb hoi hyi hyz hkz2 hYl hWl htyz htz hrz hkz1 hEl hn' hn hkz hez hi hQl hDl hqz hoz hdz hchk hdone hlf hfree hll hletters hp2 hZ hd2 hd1 hc2 hc1 hch has hz; omega))) (.tail _ (.head _)) (.head _) (fun _ => true) ?_ (by rfl) (W.truthyBool ?_)
    ·walk_at "E1"; generalize z1 _ _ = j
     intro h1 h2
     match j, h1, h2 with
     | 0, _, _ => exact Eqs.same
     | 1, _, _ => exact Eqs.same
     | j + 2, h1, h2 => exact absurd h2 (by simp)
    rw [if_neg (by decide)]
    refine W.sub (l' := [(ma, Ls mvs), (ka, Dk c kvs4), (aa, Ls avs), (ra, Ls rvs), (sd, Ls ((tb.words.map (ellB text)).map .bool)), (wd, Ls wvs), (yd, Ls yvs), (rr, Rg 0 (due.length : Nat) 1), (da, Ls dvs), (oa, Ls (own.map .bool)), (qa, Ls qvs), (L, NP ["script", "drawn", "pieces", "letters", "free", "due", "piece", "ends", "turn", "book", "ways", "yes", "asked", "place", "told", "answers", "kinds"] [some (.ref sa), some (.str (enc ch drawn) td), some (.ref pa), some (.str (enc ch letters) tl), some (.ref fa), some (.ref da), pv, some (.ref ea), some (.int (i : Nat) tv), some (.ref x), some (.ref yd), some (.ref sd), some (.ref aa), some (.int (place : Nat) tpl), none, none, none]), (a1, Ce (some (.int ((wr.length - 1 : Nat) : Int) tz))), (a2, Ce (some (.ref ma))), (a3, Ce (some (.ref ra))), (a4, Ce (some (.bool (ellB text wr)))), (a5, Ce (some (.str (enc ch wr) tw))), (a6, Ce none), (a7, Ce (some (.ref wd))), (a8, Ce (some (.ref ka))), (a9, Ce (some (.ref qa))), (a10, Ce (some (.ref oa))), (a11, Ce (some (.str (enc ch [false, true]) ts))), (a12, Ce (some (.str (enc ch text) tt))), (ea, Ls evs)] ++ tabLed 246 lamPos lamQ (some c9)) ?_ (by walk_at "tk")
    exact W.nil rfl
  walk_at "E1"; generalize z1 _ _ = l
  rintro rfl
  refine W.cut (fun l => l = [(ma, Ls mvs), (ka, Dk c kvs4), (aa, Ls avs), (ra, Ls rvs), (sd, Ls ((tb.words.map (ellB text)).map .bool)), (wd, Ls wvs), (yd, Ls yvs), (rr, Rg 0 (due.length : Nat) 1), (da, Ls dvs), (oa, Ls (own.map .bool)), (qa, Ls qvs), (L, NP ["script", "drawn", "pieces", "letters", "free", "due", "piece", "ends", "turn", "book", "ways", "yes", "asked", "place", "told", "answers", "kinds"] [some (.ref sa), some (.str (enc ch drawn) td), some (.ref pa), some (.str (enc ch letters) tl), some (.ref fa), some (.ref da), pv, some (.ref ea), some (.int (i : Nat) tv), some (.ref x), some (.ref yd), some (.ref sd), some (.ref aa), some (.int (place : Nat) tpl), none, none, none]), (a1, Ce (some (.int ((wr.length - 1 : Nat) : Int) tz))), (a2, Ce (some (.ref ma))), (a3, Ce (some (.ref ra))), (a4, Ce (some (.bool (ellB text wr)))), (a5, Ce (some (.str (enc ch wr) tw))), (a6, Ce none), (a7, Ce (some (.ref wd))), (a8, Ce (some (.ref ka))), (a9, Ce (some (.ref qa))), (a10, Ce (some (.ref oa))), (a11, Ce (some (.str (enc ch [false, true]) ts))), (a12, Ce (some (.str (enc ch text) tt))), (ea, Ls evs)] ++ tabLed 246 lamPos lamQ (some c9)) (W.cond (W.testCompare ?_)) ?_
  ·refine W.comp (n := avs.length) (P := fun i v => avs[i]? = some v) (need := [(aa, Ls avs)])
    (fun j ys l => ys = [] ∧ l = [(ma, Ls mvs), (ka, Dk c kvs4), (aa, Ls avs), (ra, Ls rvs), (sd, Ls ((tb.words.map (ellB text)).map .bool)), (wd, Ls wvs), (yd, Ls yvs), (rr, Rg 0 (due.length : Nat) 1), (da, Ls dvs), (oa, Ls (own.map .bool)), (qa, Ls qvs), (L, NP ["script", "drawn", "pieces", "letters", "free", "due", "piece", "ends", "turn", "book", "ways", "yes", "asked", "place", "told", "answers", "kinds"] [some (.ref sa), some (.str (enc ch drawn) td), some (.ref pa), some (.str (enc ch letters) tl), some (.ref fa), some (.ref da), pv, some (.ref ea), some (.int (i : Nat) tv), some (.ref x), some (.ref yd), some (.ref sd), some (.ref aa), some (.int (place : Nat) tpl), none, none, none]), (a1, Ce (some (.int ((wr.length - 1 : Nat) : Int) tz))), (a2, Ce (some (.ref ma))), (a3, Ce (some (.ref ra))), (a4, Ce (some (.bool (ellB text wr)))), (a5, Ce (some (.str (enc ch wr) tw))), (a6, Ce none), (a7, Ce (some (.ref wd))), (a8, Ce (some (.ref ka))), (a9, Ce (some (.ref qa))), (a10, Ce (some (.ref oa))), (a11, Ce (some (.str (enc ch [false, true]) ts))), (a12, Ce (some (.str (enc ch text) tt))), (ea, Ls evs)] ++ tabLed 246 lamPos lamQ (some c9)) r.hh (by exact rfl) (by decide) rfl (by decide) rfl (by show _ ≤ 16777216; (clear hv2 htwl hkz4 hMl hRl hlrdw hqrdw hrdw3 hrdw2 hrdw1 hkz3 hp2' hp1' hbis hml hrl hroad hwo hwe hw20 hw2 hob hyb hoi hyi hyz hkz2 hYl hWl htyz htz hrz hkz1 hEl hn' hn hkz hez hi hQl hDl hqz hoz hdz hchk hdone hlf hfree hll hletters hp2 hZ hd2 hd1 hc2 hc1 hch has hz; omega)) ?_ ?_ ?_ ?_
   ·simp only [List.cons_append, List.nil_append]
    walk_at "nm"
    exact ⟨Itr.ls (by walk_at "mem"), (by first | rfl | trivial), rfl⟩
   ·walk_at "E3"; generalize (z3 _ _).1 = j; generalize (z3 _ _).2.1 = ys; generalize (z3 _ _).2.2 = l
    refine A2 ?_
    intro _ zy61
    subst zy61
    walk_at "E1"; generalize z1 _ _ = p
    intro hp
    rw [List.mem_singleton.mp hp]; walk_at "mem"
   ·walk_at "E5"; generalize (z5 _ _).1 = C; generalize (z5 _ _).2.1 = j; generalize (z5 _ _).2.2.1 = v; generalize (z5 _ _).2.2.2.1 = ys; generalize (z5 _ _).2.2.2.2 = l
    intro hj hv
    refine A2 ?_
    intro zy62 zy63
    subst zy62
    subst zy63
    intro hlen
    refine O1 ?_ (hAs.at hv)
    walk_at "Y2"; generalize (z2 _ _).1 = x1; generalize (z2 _ _).2 = tx1
    refine A2 ?_
    intro hx1 zy64
    subst zy64
    have hc := hask x1 (List.mem_of_getElem? hx1)
    simp only [List.cons_append, List.nil_append]
    refine W.testsOne (W.close (W.testCompare ?_))
    walk_at "nm"
    refine W.lsSlice (a := ma) (vs := mvs) (lo := some ((1 : Nat) : Int)) (hi := some ((wr.length - 1 : Nat) : Int)) ?_
    walk_at "ce"
    show W c _ (eval _ _) _ _
    refine W.kInt ?_
    walk_at "E1"; generalize z1 _ _ = zu
    show W c _ (eval (.Name _ _) _) _ _
    walk_at "ce"
    refine ⟨rfl, by walk_at "mem", .int _ _, .int _ _, by show _ ≤ 16777216; (clear hc hv hx1 hlen hj hAl hv2 htwl haz hkz4 hRl hlrdw hqrdw hrdw3 hrdw2 hrdw1 hkz3 hp2' hp1' hbis hrl hroad hwo hwe hw2 hob hyb hoi hyi hyz hkz2 hYl hWl htyz htz hrz hkz1 hEl hn' hn hkz hez hi hQl hDl hqz hoz hdz hchk hdone hlf hfree hll hletters hp2 hZ hd2 hd1 hc2 hc1 hch has hz; omega), ?_⟩
    walk_at "E1"; generalize z1 _ _ = md
    rw [slicePick_run _ _ _ (by simp; (clear hc hv hx1 hlen hj hAl hv2 htwl haz hkz4 hRl hlrdw hqrdw hrdw3 hrdw2 hrdw1 hkz3 hp2' hp1' hbis hrl hroad hwo hwe hw20 hw2 hob hyb hoi hyi hyz hkz2 hYl hWl htyz htz hrz hkz1 hEl hn' hn hkz hez hi hQl hDl hqz hoz hdz hchk hdone hlf hfree hll hletters hp2 hZ hd2 hd1 hc2 hc1 hch has hz; omega)) (by (clear hc hv hx1 hlen hj hAl hv2 htwl haz hkz4 hMl hRl hlrdw hqrdw hrdw3 hrdw2 hrdw1 hkz3 hp2' hp1' hbis hml hrl hroad hwo hwe hw20 hob hyb hoi hyi hyz hkz2 hYl hWl htyz htz hrz hkz1 hEl hn' hn hkz hez hi hQl hDl hqz hoz hdz hchk hdone hlf hfree hll hletters hp2 hZ hd2 hd1 hc2 hc1 hch has hz; omega)), show wr.length - 1 - 1 = wr.length - 2 by (clear hc hv hx1 hlen hj hAl hv2 htwl haz hkz4 hMl hRl hlrdw hqrdw hrdw3 hrdw2 hrdw1 hkz3 hp2' hp1' hbis hml hrl hroad hwo hwe hw20 hw2 hob hyb hoi hyi hyz hkz2 hYl hWl htyz htz hrz hkz1 hEl hn' hn hkz hez hi hQl hDl hqz hoz hdz hchk hdone hlf hfree hll hletters hp2 hZ hd2 hd1 hc2 hc1 hch has hz; omega), show ((mvs.toArray.toList.drop 1).take (wr.length - 2)).toArray.toList = (mvs.drop 1).take (wr.length - 2) from rfl]
    refine W.notInLs (n := 1) (r.deeper.less (by (clear hc hv hx1 hlen hj hAl hv2 htwl haz hkz4 hMl hRl hlrdw hqrdw hrdw3 hrdw2 hrdw1 hkz3 hp2' hp1' hbis hml hrl hroad hwo hwe hw20 hw2 hob hyb hoi hyi hyz hkz2 hYl hWl htyz htz hrz hkz1 hEl hn' hn hkz hez hi hQl hDl hqz hoz hdz hchk hdone hlf hfree hll hletters hp2 hZ hd2 hd1 hc2 hc1 hch has hz; omega))) (.head _) (eS (enc ch x1)) ((hM.drop' 1).take' (wr.length - 2)).eqs (W.truthyBool ?_)
    rw [((hM.drop' 1).take' (wr.length - 2)).any hch, hc]
    refine ⟨_, [(md, _)], Take.suffix [_] _, ?_⟩
    rw [if_neg (by decide)]
    exact ⟨_, _, rfl, (by first | rfl | trivial), rfl⟩
   ·walk_at "E3"; generalize (z3 _ _).1 = nd; generalize (z3 _ _).2.1 = ys; generalize (z3 _ _).2.2 = l
    refine A2 ?_
    intro zy65 zy66
    subst zy65
    subst zy66
    intro hlen
    refine W.mkList (W.spNil ⟨by show 0 ≤ 16777216; (clear hlen hAl hv2 htwl haz hkz4 hMl hRl hlrdw hqrdw hrdw3 hrdw2 hrdw1 hkz3 hp2' hp1' hbis hml hrl hroad hwo hwe hw20 hw2 hob hyb hoi hyi hyz hkz2 hYl hWl htyz htz hrz hkz1 hEl hn' hn hkz hez hi hQl hDl hqz hoz hdz hchk hdone hlf hfree hll hletters hp2 hZ hd2 hd1 hc2 hc1 hch has hz; omega), ?_⟩)
    walk_at "E1"; generalize z1 _ _ = ne
    refine W.neLs (n := 1) (e := false) (r.deeper.less (by (clear hlen hAl hv2 htwl haz hkz4 hMl hRl hlrdw hqrdw hrdw3 hrdw2 hrdw1 hkz3 hp2' hp1' hbis hml hrl hroad hwo hwe hw20 hw2 hob hyb hoi hyi hyz hkz2 hYl hWl htyz htz hrz hkz1 hEl hn' hn hkz hez hi hQl hDl hqz hoz hdz hchk hdone hlf hfree hll hletters hp2 hZ hd2 hd1 hc2 hc1 hch has hz; omega))) (.tail _ (.head _)) (.head _) (fun _ => true) (fun j h1 h2 => absurd h1 (by simp)) (by rfl) (W.truthyBool ?_)
    rw [if_neg (by decide)]
    refine W.sub (l' := [(ma, Ls mvs), (ka, Dk c kvs4), (aa, Ls avs), (ra, Ls rvs), (sd, Ls ((tb.words.map (ellB text)).map .bool)), (wd, Ls wvs), (yd, Ls yvs), (rr, Rg 0 (due.length : Nat) 1), (da, Ls dvs), (oa, Ls (own.map .bool)), (qa, Ls qvs), (L, NP ["script", "drawn", "pieces", "letters", "free", "due", "piece", "ends", "turn", "book", "ways", "yes", "asked", "place", "told", "answers", "kinds"] [some (.ref sa), some (.str (enc ch drawn) td), some (.ref pa), some (.str (enc ch letters) tl), some (.ref fa), some (.ref da), pv, some (.ref ea), some (.int (i : Nat) tv), some (.ref x), some (.ref yd), some (.ref sd), some (.ref aa), some (.int (place : Nat) tpl), none, none, none]), (a1, Ce (some (.int ((wr.length - 1 : Nat) : Int) tz))), (a2, Ce (some (.ref ma))), (a3, Ce (some (.ref ra))), (a4, Ce (some (.bool (ellB text wr)))), (a5, Ce (some (.str (enc ch wr) tw))), (a6, Ce none), (a7, Ce (some (.ref wd))), (a8, Ce (some (.ref ka))), (a9, Ce (some (.ref qa))), (a10, Ce (some (.ref oa))), (a11, Ce (some (.str (enc ch [false, true]) ts))), (a12, Ce (some (.str (enc ch text) tt))), (ea, Ls evs)] ++ tabLed 246 lamPos lamQ (some c9)) ?_ (by walk_at "tk")
    exact W.nil rfl
  walk_at "E1"; generalize z1 _ _ = l
  rintro rfl
  refine W.cut (fun l => l = [(ma, Ls mvs), (ka, Dk c kvs4), (aa, Ls avs), (ra, Ls rvs), (sd, Ls ((tb.words.map (ellB text)).map .bool)), (wd, Ls wvs), (yd, Ls yvs), (rr, Rg 0 (due.length : Nat) 1), (da, Ls dvs), (oa, Ls (own.map .bool)), (qa, Ls qvs), (L, NP ["script", "drawn", "pieces", "letters", "free", "due", "piece", "ends", "turn", "book", "ways", "yes", "asked", "place", "told", "answers", "kinds"] [some (.ref sa), some (.str (enc ch drawn) td), some (.ref pa), some (.str (enc ch letters) tl), some (.ref fa), some (.ref da), pv, some (.ref ea), some (.int (i : Nat) tv), some (.ref x), some (.ref yd), some (.ref sd), some (.ref aa), some (.int (place : Nat) tpl), none, none, none]), (a1, Ce (some (.int ((wr.length - 1 : Nat) : Int) tz))), (a2, Ce (some (.ref ma))), (a3, Ce (some (.ref ra))), (a4, Ce (some (.bool (ellB text wr)))), (a5, Ce (some (.str (enc ch wr) tw))), (a6, Ce none), (a7, Ce (some (.ref wd))), (a8, Ce (some (.ref ka))), (a9, Ce (some (.ref qa))), (a10, Ce (some (.ref oa))), (a11, Ce (some (.str (enc ch [false, true]) ts))), (a12, Ce (some (.str (enc ch text) tt))), (ea, Ls evs)] ++ tabLed 246 lamPos lamQ (some c9)) (W.cond (W.testBool (W.andCons (W.testCompare ?_)))) ?_
  ·simp only [List.cons_append, List.nil_append]
   walk_at "nm"
   refine W.mkList (W.spNil ⟨by show 0 ≤ 16777216; (clear hAl hv2 htwl haz hkz4 hMl hRl hlrdw hqrdw hrdw3 hrdw2 hrdw1 hkz3 hp2' hp1' hbis hml hrl hroad hwo hwe hw20 hw2 hob hyb hoi hyi hyz hkz2 hYl hWl htyz htz hrz hkz1 hEl hn' hn hkz hez hi hQl hDl hqz hoz hdz hchk hdone hlf hfree hll hletters hp2 hZ hd2 hd1 hc2 hc1 hch has hz; omega), ?_⟩)
   walk_at "E1"; generalize z1 _ _ = ne
   refine W.neLs (n := 1) (e := !(avs.length == 0)) (r.deeper.less (by (clear hAl hv2 htwl haz hkz4 hMl hRl hlrdw hqrdw hrdw3 hrdw2 hrdw1 hkz3 hp2' hp1' hbis hml hrl hroad hwo hwe hw20 hw2 hob hyb hoi hyi hyz hkz2 hYl hWl htyz htz hrz hkz1 hEl hn' hn hkz hez hi hQl hDl hqz hoz hdz hchk hdone hlf hfree hll hletters hp2 hZ hd2 hd1 hc2 hc1 hch has hz; omega))) (by walk_at "mem") (.head _) (fun _ => true) (fun j h1 h2 => absurd h2 (by simp)) (by cases avs <;> simp) (W.truthyBool ?_)
   cases hz0 : avs.length == 0
   ·rw [show (!false) = true from rfl, if_pos rfl]
    refine W.sub (l' := [(ma, Ls mvs), (ka, Dk c kvs4), (aa, Ls avs), (ra, Ls rvs), (sd, Ls ((tb.words.map (ellB text)).map .bool)), (wd, Ls wvs), (yd, Ls yvs), (rr, Rg 0 (due.length : Nat) 1), (da, Ls dvs), (oa, Ls (own.map .bool)), (qa, Ls qvs), (L, NP ["script", "drawn", "pieces", "letters", "free", "due", "piece", "ends", "turn", "book", "ways", "yes", "asked", "place", "told", "answers", "kinds"] [some (.ref sa), some (.str (enc ch drawn) td), some (.ref pa), some (.str (enc ch letters) tl), some (.ref fa), some (.ref da), pv, some (.ref ea), some (.int (i : Nat) tv), some (.ref x), some (.ref yd), some (.ref sd), some (.ref aa), some (.int (place : Nat) tpl), none, none, none]), (a1, Ce (some (.int ((wr.length - 1 : Nat) : Int) tz))), (a2, Ce (some (.ref ma))), (a3, Ce (some (.ref ra))), (a4, Ce (some (.bool (ellB text wr)))), (a5, Ce (some (.str (enc ch wr) tw))), (a6, Ce none), (a7, Ce (some (.ref wd))), (a8, Ce (some (.ref ka))), (a9, Ce (some (.ref qa))), (a10, Ce (some (.ref oa))), (a11, Ce (some (.str (enc ch [false, true]) ts))), (a12, Ce (some (.str (enc ch text) tt))), (ea, Ls evs)] ++ tabLed 246 lamPos lamQ (some c9)) ?_ (by walk_at "tk")
    simp only [List.cons_append, List.nil_append]
    refine W.andCons (W.testCompare (W.binop (W.kInt ?_)))
    walk_at "E1"; generalize z1 _ _ = zu
    refine W.callB (id := "len") ?_
    walk_at "b_len"
    refine ⟨rfl, W.spCons ?_⟩
    walk_at "nm"
    refine W.spNil (W.len' (by walk_at "mem") (by show _ ≤ 16777216; (clear hz0 hv2 htwl hkz4 hMl hRl hlrdw hqrdw hrdw3 hrdw2 hrdw1 hkz3 hp2' hp1' hbis hml hrl hroad hwo hwe hw20 hw2 hob hyb hoi hyi hyz hkz2 hYl hWl htyz htz hrz hkz1 hEl hn' hn hkz hez hi hQl hDl hqz hoz hdz hchk hdone hlf hfree hll hletters hp2 hZ hd2 hd1 hc2 hc1 hch has hz; omega)) ?_)
    walk_at "E1"; generalize z1 _ _ = zu
    refine W.pow (by (clear hz0 hAl hv2 htwl haz hkz4 hMl hRl hlrdw hqrdw hrdw3 hrdw2 hrdw1 hkz3 hp2' hp1' hbis hml hrl hroad hwo hwe hw20 hw2 hob hyb hoi hyi hyz hkz2 hYl hWl htyz htz hrz hkz1 hEl hn' hn hkz hez hi hQl hDl hqz hoz hdz hchk hdone hlf hfree hll hletters hp2 hZ hd2 hd1 hc2 hc1 hch has hz; omega)) (by (clear hz0 hv2 htwl hkz4 hMl hRl hlrdw hqrdw hrdw3 hrdw2 hrdw1 hkz3 hp2' hp1' hbis hml hrl hroad hwo hwe hw20 hw2 hob hyb hoi hyi hyz hkz2 hYl hWl htyz htz hrz hkz1 hEl hn' hn hkz hez hi hQl hDl hqz hoz hdz hchk hdone hlf hfree hll hletters hp2 hZ hd2 hd1 hc2 hc1 hch has hz; omega)) (by decide) ?_
    walk_at "E1"; generalize z1 _ _ = zu
    refine W.binop (W.kInt ?_)
    walk_at "E1"; generalize z1 _ _ = zu
    refine W.binop ?_
    walk_at "ce"
    refine W.kInt ?_
    walk_at "E1"; generalize z1 _ _ = zu
    refine W.isub ?_
    walk_at "E1"; generalize z1 _ _ = zu
    refine W.imul (IntMulOk.of_left (by decide +kernel)) ?_
    walk_at "E1"; generalize z1 _ _ = zu
    refine W.igt (W.truthyBool ?_)
    rw [Int.toNat_natCast, hAl]
    have hne : asked ≠ [] := by
     intro h
     rw [h] at hAl
     rw [hAl] at hz0
     cases hz0
    have hpw := hpow hne
    have hI : ((2 : Int) ^ asked.length) = ((2 ^ asked.length : Nat) : Int) := by norm_cast
    rw [hI, decide_eq_false (by (clear hI hz0 hAl hv2 htwl haz hkz4 hMl hRl hlrdw hqrdw hrdw3 hrdw2 hrdw1 hkz3 hp2' hp1' hbis hml hrl hroad hwo hwe hw20 hob hyb hoi hyi hyz hkz2 hYl hWl htyz htz hrz hkz1 hEl hn' hn hkz hez hi hQl hDl hqz hoz hdz hchk hdone hlf hfree hll hletters hp2 hZ hd2 hd1 hc2 hc1 hch has hz; omega)), if_neg (by decide), if_neg (by decide)]
    exact W.nil rfl
   ·rw [show (!true) = false from rfl, if_neg (by decide), if_neg (by decide)]
    refine W.sub (l' := [(ma, Ls mvs), (ka, Dk c kvs4), (aa, Ls avs), (ra, Ls rvs), (sd, Ls ((tb.words.map (ellB text)).map .bool)), (wd, Ls wvs), (yd, Ls yvs), (rr, Rg 0 (due.length : Nat) 1), (da, Ls dvs), (oa, Ls (own.map .bool)), (qa, Ls qvs), (L, NP ["script", "drawn", "pieces", "letters", "free", "due", "piece", "ends", "turn", "book", "ways", "yes", "asked", "place", "told", "answers", "kinds"] [some (.ref sa), some (.str (enc ch drawn) td), some (.ref pa), some (.str (enc ch letters) tl), some (.ref fa), some (.ref da), pv, some (.ref ea), some (.int (i : Nat) tv), some (.ref x), some (.ref yd), some (.ref sd), some (.ref aa), some (.int (place : Nat) tpl), none, none, none]), (a1, Ce (some (.int ((wr.length - 1 : Nat) : Int) tz))), (a2, Ce (some (.ref ma))), (a3, Ce (some (.ref ra))), (a4, Ce (some (.bool (ellB text wr)))), (a5, Ce (some (.str (enc ch wr) tw))), (a6, Ce none), (a7, Ce (some (.ref wd))), (a8, Ce (some (.ref ka))), (a9, Ce (some (.ref qa))), (a10, Ce (some (.ref oa))), (a11, Ce (some (.str (enc ch [false, true]) ts))), (a12, Ce (some (.str (enc ch text) tt))), (ea, Ls evs)] ++ tabLed 246 lamPos lamQ (some c9)) ?_ (by walk_at "tk")
    exact W.nil rfl
  walk_at "E1"; generalize z1 _ _ = l
  rintro rfl
  simp only [List.cons_append, List.nil_append]
  refine W.cons (W.expr (W.meth F.plainAttrs_list slot_list_append F.type_list_append ?_))
  walk_at "nm"
  refine ⟨Ty.ls (by walk_at "mem"), W.spCons ?_⟩
  refine W.strSlice (x := enc ch wr) (some (place : Int)) none ?_
  walk_at "ce"
  show W c _ (eval (.Name _ _) _) _ _
  walk_at "nm"
  refine W.pure ⟨some ((place : Int), tpl), none, tw, rfl, rfl, rfl, rfl, rfl, by rw [enc_len]; show _ ≤ 16777216; (clear hAl hv2 htwl haz hkz4 hMl hRl hlrdw hqrdw hrdw3 hrdw2 hrdw1 hkz3 hp2' hp1' hbis hml hrl hroad hwo hwe hw2 hob hyb hoi hyi hyz hkz2 hYl hWl htyz htz hrz hkz1 hEl hn' hn hkz hez hi hQl hDl hqz hoz hdz hchk hdone hlf hfree hll hletters hp2 hZ hd2 hd1 hc2 hc1 hch has hz; omega), ?_⟩
  walk_at "E1"; generalize z1 _ _ = t5
  rw [slice_from wr place (by (clear hAl hv2 htwl haz hkz4 hMl hRl hlrdw hqrdw hrdw3 hrdw2 hrdw1 hkz3 hp1' hbis hml hrl hroad hwo hwe hw20 hw2 hob hyb hoi hyi hyz hkz2 hYl hWl htyz htz hrz hkz1 hEl hn' hn hkz hez hi hQl hDl hqz hoz hdz hchk hdone hlf hfree hll hletters hp2 hZ hd2 hd1 hc2 hc1 hch has hz; omega))]
  refine W.spNil (W.append (by walk_at "up") (by show _ ≤ 16777216; (clear hAl hv2 htwl haz hkz4 hMl hRl hlrdw hqrdw hrdw3 hrdw2 hrdw1 hkz3 hp2' hp1' hbis hml hrl hroad hwo hwe hw20 hw2 hob hyb hoi hyi hyz hkz2 hYl hWl htyz htz hrz hkz1 hn' hn hkz hQl hDl hqz hoz hchk hdone hlf hfree hll hletters hp2 hZ hd2 hd1 hc2 hc1 hch has hz; omega)) ?_)
  refine W.sub (l' := [(rr, Rg 0 (due.length : Nat) 1), (da, Ls dvs), (oa, Ls (own.map .bool)), (qa, Ls qvs), (L, NP ["script", "drawn", "pieces", "letters", "free", "due", "piece", "ends", "turn", "book", "ways", "yes", "asked", "place", "told", "answers", "kinds"] [some (.ref sa), some (.str (enc ch drawn) td), some (.ref pa), some (.str (enc ch letters) tl), some (.ref fa), some (.ref da), pv, some (.ref ea), some (.int (i : Nat) tv), some (.ref x), some (.ref yd), some (.ref sd), some (.ref aa), some (.int (place : Nat) tpl), none, none, none]), (a1, Ce (some (.int ((wr.length - 1 : Nat) : Int) tz))), (a2, Ce (some (.ref ma))), (a3, Ce (some (.ref ra))), (a4, Ce (some (.bool (ellB text wr)))), (a5, Ce (some (.str (enc ch wr) tw))), (a6, Ce none), (a7, Ce (some (.ref wd))), (a8, Ce (some (.ref ka))), (a9, Ce (some (.ref qa))), (a10, Ce (some (.ref oa))), (a11, Ce (some (.str (enc ch [false, true]) ts))), (a12, Ce (some (.str (enc ch text) tt))), (ea, Ls (evs ++ [.str (enc ch (wr.drop place)) t5])), (ka, Dk c kvs4)] ++ tabLed 246 lamPos lamQ (some c9)) ?_ (by walk_at "tk")
  refine W.nil ⟨rr, ends ++ [wr.drop place], evs ++ [_], kvs4, some c9, _, _, _, _, _, _, _, _, _, _, _, _, by rw [hn']; exact hT, hE.snoc, by simp; (clear hAl hv2 htwl haz hkz4 hMl hRl hlrdw hqrdw hrdw3 hrdw2 hrdw1 hkz3 hp2' hp1' hbis hml hrl hroad hwo hwe hw20 hw2 hob hyb hoi hyi hyz hkz2 hYl hWl htyz htz hrz hkz1 hEl hn' hn hkz hi hQl hDl hqz hoz hdz hchk hdone hlf hfree hll hletters hp2 hZ hd2 hd1 hc2 hc1 hch has hz; omega), ?_, hK4, by (clear hAl hv2 htwl haz hMl hRl hlrdw hqrdw hrdw3 hrdw2 hrdw1 hp2' hp1' hbis hml hrl hroad hwo hwe hw20 hw2 hob hyb hoi hyi hyz hYl hWl htyz htz hrz hkz1 hEl hn' hn hkz hez hi hQl hDl hqz hoz hdz hchk hdone hlf hfree hll hletters hp2 hZ hd2 hd1 hc2 hc1 hch has hz; omega), rfl⟩
  walk_at "E1"; generalize z1 _ _ = e
  intro he
  rcases List.mem_append.mp he with he | he
  ·exact hel e he
  ·rw [List.mem_singleton.mp he, List.length_drop]; (clear hAl hv2 htwl haz hkz4 hMl hRl hlrdw hqrdw hrdw3 hrdw2 hrdw1 hkz3 hp2' hp1' hbis hml hrl hroad hwo hwe hw2 hob hyb hoi hyi hyz hkz2 hYl hWl htyz htz hrz hkz1 hEl hn' hn hkz hez hi hQl hDl hqz hoz hdz hchk hdone hlf hfree hll hletters hp2 hZ hd2 hd1 hc2 hc1 hch has hz; omega)
 ·walk_at "E1"; generalize z1 _ _ = l
  refine' @Y17 _ _ _ _ _ _ _ _ _ _ _ _ _ _ _ _ _ _ _ (by walk_at "ne") ?_; generalize (z17 _ _).1 = rr; generalize (z17 _ _).2.1 = ends; generalize (z17 _ _).2.2.1 = evs; generalize (z17 _ _).2.2.2.1 = kvs; generalize (z17 _ _).2.2.2.2.1 = st; generalize (z17 _ _).2.2.2.2.2.1 = kv; generalize (z17 _ _).2.2.2.2.2.2.1 = bv; generalize (z17 _ _).2.2.2.2.2.2.2.1 = yv; generalize (z17 _ _).2.2.2.2.2.2.2.2.1 = sv; generalize (z17 _ _).2.2.2.2.2.2.2.2.2.1 = av; generalize (z17 _ _).2.2.2.2.2.2.2.2.2.2.1 = wv; generalize (z17 _ _).2.2.2.2.2.2.2.2.2.2.2.1 = c1; generalize (z17 _ _).2.2.2.2.2.2.2.2.2.2.2.2.1 = c2; generalize (z17 _ _).2.2.2.2.2.2.2.2.2.2.2.2.2.1 = c3; generalize (z17 _ _).2.2.2.2.2.2.2.2.2.2.2.2.2.2.1 = c4; generalize (z17 _ _).2.2.2.2.2.2.2.2.2.2.2.2.2.2.2.1 = c5; generalize (z17 _ _).2.2.2.2.2.2.2.2.2.2.2.2.2.2.2.2 = c7
  refine A2 ?_
  intro hT' _
  rw [Nat.sub_self] at hT'
  exact hT'.elim
 case rest =>
  walk_at "E1"; generalize z1 _ _ = l
  refine' @Y20 _ _ _ _ _ _ _ _ _ _ _ _ _ _ _ _ _ _ _ _ _ _ (by walk_at "ne") ?_; generalize (z20 _ _).1 = evs; generalize (z20 _ _).2.1 = ends; generalize (z20 _ _).2.2.1 = bk; generalize (z20 _ _).2.2.2.1 = rows; generalize (z20 _ _).2.2.2.2.1 = x; generalize (z20 _ _).2.2.2.2.2.1 = dx; generalize (z20 _ _).2.2.2.2.2.2.1 = ha; generalize (z20 _ _).2.2.2.2.2.2.2.1 = kvs; generalize (z20 _ _).2.2.2.2.2.2.2.2.1 = st; generalize (z20 _ _).2.2.2.2.2.2.2.2.2.1 = kv; generalize (z20 _ _).2.2.2.2.2.2.2.2.2.2.1 = yv; generalize (z20 _ _).2.2.2.2.2.2.2.2.2.2.2.1 = sv; generalize (z20 _ _).2.2.2.2.2.2.2.2.2.2.2.2.1 = av; generalize (z20 _ _).2.2.2.2.2.2.2.2.2.2.2.2.2.1 = wv; generalize (z20 _ _).2.2.2.2.2.2.2.2.2.2.2.2.2.2.1 = c1; generalize (z20 _ _).2.2.2.2.2.2.2.2.2.2.2.2.2.2.2.1 = c2; generalize (z20 _ _).2.2.2.2.2.2.2.2.2.2.2.2.2.2.2.2.1 = c3; generalize (z20 _ _).2.2.2.2.2.2.2.2.2.2.2.2.2.2.2.2.2.1 = c4; generalize (z20 _ _).2.2.2.2.2.2.2.2.2.2.2.2.2.2.2.2.2.2.1 = c5; generalize (z20 _ _).2.2.2.2.2.2.2.2.2.2.2.2.2.2.2.2.2.2.2 = c7
  refine A9 ?_
  intro hB htd hE hez hel hK hrz hkz zy67
  subst zy67
  obtain ⟨hbl, hbk⟩ := told_ex htd
  have hBl := hB.1
  have hEl := hE.1
  simp only [List.cons_append, List.nil_append]
  refine W.step (W.set (W.mkList (W.spNil ⟨by show 0 ≤ 16777216; (clear hEl hBl hbl hkz hrz hez hQl hDl hqz hoz hdz hchk hdone hlf hfree hll hletters hp2 hZ hd2 hd1 hc2 hc1 hch has hz; omega), ?_⟩)))
  walk_at "E1"; generalize z1 _ _ = td2
  walk_at "st"
  refine ⟨by first | rfl | trivial, ?_⟩
  refine W.cut (fun l => ∃ nv c6 trows, BookIs ch trows bk ∧ l = [(td2, Ls (trows.map fun e => Value.ref e.1)), (da, Ls dvs), (oa, Ls (own.map .bool)), (qa, Ls qvs), (L, NP ["script", "drawn", "pieces", "letters", "free", "due", "piece", "ends", "turn", "book", "ways", "yes", "asked", "place", "told", "answers", "kinds"] [some (.ref sa), some (.str (enc ch drawn) td), some (.ref pa), some (.str (enc ch letters) tl), some (.ref fa), some (.ref da), pv, some (.ref ea), kv, some (.ref x), yv, sv, av, wv, some (.ref td2), nv, none]), (a1, Ce c1), (a2, Ce c2), (a3, Ce c3), (a4, Ce c4), (a5, Ce c5), (a6, Ce c6), (a7, Ce c7), (a8, Ce (some (.ref ka))), (a9, Ce (some (.ref qa))), (a10, Ce (some (.ref oa))), (a11, Ce (some (.str (enc ch [false, true]) ts))), (a12, Ce (some (.str (enc ch text) tt))), (ea, Ls evs), (ka, Dk c kvs)] ++ (trows.map rowCell ++ (bookLed x dx ha rows ++ tabLed 246 lamPos lamQ st))) (W.for (n := dvs.length) (P := fun i v => dvs[i]? = some v) (need := [(da, Ls dvs)]) (fun i l => ∃ nv c6 trows, BookIs ch trows (bk.take i) ∧ l = [(td2, Ls (trows.map fun e => Value.ref e.1)), (da, Ls dvs), (oa, Ls (own.map .bool)), (qa, Ls qvs), (L, NP ["script", "drawn", "pieces", "letters", "free", "due", "piece", "ends", "turn", "book", "ways", "yes", "asked", "place", "told", "answers", "kinds"] [some (.ref sa), some (.str (enc ch drawn) td), some (.ref pa), some (.str (enc ch letters) tl), some (.ref fa), some (.ref da), pv, some (.ref ea), kv, some (.ref x), yv, sv, av, wv, some (.ref td2), nv, none]), (a1, Ce c1), (a2, Ce c2), (a3, Ce c3), (a4, Ce c4), (a5, Ce c5), (a6, Ce c6), (a7, Ce c7), (a8, Ce (some (.ref ka))), (a9, Ce (some (.ref qa))), (a10, Ce (some (.ref oa))), (a11, Ce (some (.str (enc ch [false, true]) ts))), (a12, Ce (some (.str (enc ch text) tt))), (ea, Ls evs), (ka, Dk c kvs)] ++ (trows.map rowCell ++ (bookLed x dx ha rows ++ tabLed 246 lamPos lamQ st))) r.hh ?_ ?_ ?_ ?_) ?_
  ·walk_at "nm"
   exact ⟨Itr.ls (by walk_at "mem"), none, none, [], ⟨rfl, fun i as w h => by simp at h⟩, rfl⟩
  ·walk_at "E2"; generalize (z2 _ _).1 = i; generalize (z2 _ _).2 = l
   walk_at "Y3"; generalize (z3 _ _).1 = nv; generalize (z3 _ _).2.1 = c6; generalize (z3 _ _).2.2 = trows
   refine A2 ?_
   intro _ zy68
   subst zy68
   walk_at "E1"; generalize z1 _ _ = p
   intro hp
   rw [List.mem_singleton.mp hp]; walk_at "mem"
  ·walk_at "E3"; generalize (z3 _ _).1 = i; generalize (z3 _ _).2.1 = v; generalize (z3 _ _).2.2 = l
   intro hi hv
   walk_at "Y3"; generalize (z3 _ _).1 = nv; generalize (z3 _ _).2.1 = c6; generalize (z3 _ _).2.2 = trows
   refine A2 ?_
   intro hTb zy69
   subst zy69
   have hTl := hTb.1
   refine O1 ?_ (hD.at hv)
   walk_at "Y2"; generalize (z2 _ _).1 = w; generalize (z2 _ _).2 = tw
   refine A2 ?_
   intro hw zy70
   subst zy70
   refine O1 ?_ (hbk i w hw)
   walk_at "Y1"; generalize z1 _ _ = as
   refine A3 ?_
   intro hbi hal has
   have hwz := hdw w (List.mem_of_getElem? hw)
   refine W.asName ?_
   simp only [List.cons_append, List.nil_append]
   walk_at "sc"
   refine W.cut (fun l => ∃ na, l = [(na, Ls (as.map .bool)), (td2, Ls (trows.map fun e => Value.ref e.1)), (da, Ls dvs), (oa, Ls (own.map .bool)), (qa, Ls qvs), (L, NP ["script", "drawn", "pieces", "letters", "free", "due", "piece", "ends", "turn", "book", "ways", "yes", "asked", "place", "told", "answers", "kinds"] [some (.ref sa), some (.str (enc ch drawn) td), some (.ref pa), some (.str (enc ch letters) tl), some (.ref fa), some (.ref da), pv, some (.ref ea), kv, some (.ref x), yv, sv, av, wv, some (.ref td2), some (.ref na), none]), (a1, Ce c1), (a2, Ce c2), (a3, Ce c3), (a4, Ce c4), (a5, Ce c5), (a6, Ce (some (.str (enc ch w) tw))), (a7, Ce c7), (a8, Ce (some (.ref ka))), (a9, Ce (some (.ref qa))), (a10, Ce (some (.ref oa))), (a11, Ce (some (.str (enc ch [false, true]) ts))), (a12, Ce (some (.str (enc ch text) tt))), (ea, Ls evs), (ka, Dk c kvs)] ++ (trows.map rowCell ++ (bookLed x dx ha rows ++ tabLed 246 lamPos lamQ st))) (W.setU (by exact rfl) ?_) ?_
   ·refine W.compU _ (n := evs.length) (P := fun i v => evs[i]? = some v) (need := [(ea, Ls evs)])
     (fun j ys l => ys = (as.take j).map Value.bool ∧ l = [(td2, Ls (trows.map fun e => Value.ref e.1)), (da, Ls dvs), (oa, Ls (own.map .bool)), (qa, Ls qvs), (L, NP ["script", "drawn", "pieces", "letters", "free", "due", "piece", "ends", "turn", "book", "ways", "yes", "asked", "place", "told", "answers", "kinds"] [some (.ref sa), some (.str (enc ch drawn) td), some (.ref pa), some (.str (enc ch letters) tl), some (.ref fa), some (.ref da), pv, some (.ref ea), kv, some (.ref x), yv, sv, av, wv, some (.ref td2), nv, none]), (a1, Ce c1), (a2, Ce c2), (a3, Ce c3), (a4, Ce c4), (a5, Ce c5), (a6, Ce (some (.str (enc ch w) tw))), (a7, Ce c7), (a8, Ce (some (.ref ka))), (a9, Ce (some (.ref qa))), (a10, Ce (some (.ref oa))), (a11, Ce (some (.str (enc ch [false, true]) ts))), (a12, Ce (some (.str (enc ch text) tt))), (ea, Ls evs), (ka, Dk c kvs)] ++ (trows.map rowCell ++ (bookLed x dx ha rows ++ tabLed 246 lamPos lamQ st))) r.hh (by exact rfl) (by decide) rfl (by decide) rfl (by show _ ≤ 16777216; (clear hwz hal hbi hv hw hTl hi hBl hbl hkz hrz hQl hDl hqz hoz hdz hchk hdone hlf hfree hll hletters hp2 hZ hd2 hd1 hc2 hc1 hch hz; omega)) ?_ ?_ ?_ ?_
    ·walk_at "nm"
     exact ⟨Itr.ls (by walk_at "mem"), rfl, rfl⟩
    ·walk_at "E3"; generalize (z3 _ _).1 = j; generalize (z3 _ _).2.1 = ys; generalize (z3 _ _).2.2 = l
     refine A2 ?_
     intro _ zy71
     subst zy71
     walk_at "E1"; generalize z1 _ _ = p
     intro hp
     rw [List.mem_singleton.mp hp]; walk_at "mem"
    ·walk_at "E5"; generalize (z5 _ _).1 = C; generalize (z5 _ _).2.1 = j; generalize (z5 _ _).2.2.1 = v; generalize (z5 _ _).2.2.2.1 = ys; generalize (z5 _ _).2.2.2.2 = l
     intro hj hv
     refine A2 ?_
     intro zy72 zy73
     subst zy72
     subst zy73
     intro hlen
     refine O1 ?_ (hE.at hv)
     walk_at "Y2"; generalize (z2 _ _).1 = e; generalize (z2 _ _).2 = te
     refine A2 ?_
     intro hej zy74
     subst zy74
     refine O1 ?_ (has j e hej)
     walk_at "Y2"; generalize (z2 _ _).1 = q; generalize (z2 _ _).2 = o
     refine A3 ?_
     intro hq ho ho2
     have hez2 := hel e (List.mem_of_getElem? hej)
     simp only [List.cons_append, List.nil_append]
     refine W.testsNil ?_
     rw [if_pos rfl]
     refine W.subs slot_list_getitem.lookup ?_
     walk_at "ce"
     refine W.subs slot_list_getitem.lookup ?_
     refine W.callK T (fv := .ref 230) (by k_is) ?_
     walk_at "gl"
     refine ⟨rfl, W.spCons ?_⟩
     refine W.binop ?_
     walk_at "ce"
     walk_at "nm"
     refine W.sadd (by rw [enc_len, enc_len]; show _ ≤ 16777216; (clear ho2 ho hq hv hej hlen hj hal hbi hw hTl hi hEl hBl hbl hkz hrz hez hQl hDl hqz hoz hdz hchk hdone hlf hfree hll hletters hp2 hZ hd2 hd1 hc2 hc1 hch hz; omega)) ?_
     walk_at "E1"; generalize z1 _ _ = t9
     rw [← enc_app]
     refine W.spCons ?_
     walk_at "ce"
     refine W.spCons ?_
     walk_at "ce"
     refine W.spNil ?_
     refine O1 ?_ (wayEnd_ex hq)
     walk_at "Y1"; generalize z1 _ _ = rdq
     refine A3 ?_
     intro hrdq1 hrdq2 hrdq3
     refine W.use (way_ok T (r.deeper.less (by (clear hrdq3 hrdq2 hrdq1 hez2 ho2 ho hq hv hej hlen hj hwz hal hbi hw hTl hi hEl hBl hbl hkz hrz hez hQl hDl hqz hoz hdz hchk hdone hlf hfree hll hletters hp2 hZ hd2 hd1 hc2 hc1 hch hz; omega))) hch hQ rdq hrdq1 (by first | omega | (simp only [List.length_append]; (clear hrdq3 hrdq2 hrdq1 ho2 ho hq hv hej hlen hj hal hbi hw hTl hi hEl hBl hbl hkz hrz hez hQl hDl hqz hoz hdz hchk hdone hlf hfree hll hletters hp2 hZ hd2 hd1 hc2 hc1 hch hz; omega))) (by (clear hrdq3 hrdq2 hrdq1 hez2 ho2 ho hq hv hej hlen hj hwz hal hbi hw hTl hi hEl hBl hbl hkz hrz hez hQl hDl hoz hdz hchk hdone hlf hfree hll hletters hp2 hZ hd2 hd1 hc2 hc1 hch hz; omega)) (fun n hn => by have := hqw n hn; (clear hrdq3 hrdq2 hrdq1 hez2 ho2 ho hq hv hej hlen hj hwz hal hbi hw hTl hi hEl hBl hbl hkz hrz hez hQl hDl hqz hoz hdz hchk hdone hlf hfree hll hletters hp2 hZ hd2 hd1 hc2 hc1 hch hz; omega))) (by walk_at "tk") ?_
     (try rw [List.length_append] at hrdq2)
     walk_at "E2"; generalize (z2 _ _).1 = zu; generalize (z2 _ _).2 = zu
     walk_at "Y2"; generalize (z2 _ _).1 = rardq; generalize (z2 _ _).2 = rvsrdq
     refine A3 ?_
     intro zy75 hRrdq zy76
     subst zy75
     subst zy76
     simp only [List.cons_append, List.nil_append]
     refine O1 ?_ (hRrdq.last (by (clear hrdq3 hrdq1 hez2 ho2 ho hq hv hej hlen hj hwz hal hbi hw hTl hi hEl hBl hbl hkz hrz hez hQl hDl hqz hoz hdz hchk hdone hlf hfree hll hletters hp2 hZ hd2 hd1 hc2 hc1 hch hz; omega)))
     walk_at "Y1"; generalize z1 _ _ = tqrdq
     intro hqrdq
     have hlrdq := hRrdq.1
     refine W.unary (W.kInt ?_)
     walk_at "E1"; generalize z1 _ _ = zu
     refine W.ineg ?_
     walk_at "E1"; generalize z1 _ _ = zu
     refine ⟨Ty.ls (by walk_at "mem"), W.lsItemN (by walk_at "mem") (by decide) (by (clear hqrdq hrdq3 hrdq1 hez2 ho2 ho hq hv hej hlen hj hwz hal hbi hw hTl hi hEl hBl hbl hkz hrz hez hQl hDl hqz hoz hdz hchk hdone hlf hfree hll hletters hp2 hZ hd2 hd1 hc2 hc1 hch hz; omega)) hqrdq (by show _ ≤ 16777216; (clear hqrdq hrdq3 hrdq1 ho2 ho hq hv hej hlen hj hal hbi hw hTl hi hEl hBl hbl hkz hrz hez hQl hDl hqz hoz hdz hchk hdone hlf hfree hll hletters hp2 hZ hd2 hd1 hc2 hc1 hch hz; omega)) ?_⟩
     rw [hrdq3]
     refine ⟨Ty.ls (by walk_at "mem"), ?_⟩
     refine W.sub (l' := (C, NP ["one"] [some (.str (enc ch e) te)]) :: ([(td2, Ls (trows.map fun e => Value.ref e.1)), (da, Ls dvs), (oa, Ls (own.map .bool)), (qa, Ls qvs), (L, NP ["script", "drawn", "pieces", "letters", "free", "due", "piece", "ends", "turn", "book", "ways", "yes", "asked", "place", "told", "answers", "kinds"] [some (.ref sa), some (.str (enc ch drawn) td), some (.ref pa), some (.str (enc ch letters) tl), some (.ref fa), some (.ref da), pv, some (.ref ea), kv, some (.ref x), yv, sv, av, wv, some (.ref td2), nv, none]), (a1, Ce c1), (a2, Ce c2), (a3, Ce c3), (a4, Ce c4), (a5, Ce c5), (a6, Ce (some (.str (enc ch w) tw))), (a7, Ce c7), (a8, Ce (some (.ref ka))), (a9, Ce (some (.ref qa))), (a10, Ce (some (.ref oa))), (a11, Ce (some (.str (enc ch [false, true]) ts))), (a12, Ce (some (.str (enc ch text) tt))), (ea, Ls evs), (ka, Dk c kvs)] ++ (trows.map rowCell ++ (bookLed x dx ha rows ++ tabLed 246 lamPos lamQ st)))) ?_ (by walk_at "tk")
     refine W.lsItem (by walk_at "mem") (by (clear hlrdq hqrdq hrdq3 hrdq2 hrdq1 hez2 ho2 ho hq hv hej hlen hj hwz hal hbi hw hTl hi hEl hBl hbl hkz hrz hez hQl hDl hqz hoz hdz hchk hdone hlf hfree hll hletters hp2 hZ hd2 hd1 hc2 hc1 hch hz; omega)) (by rw [Int.toNat_natCast, List.getElem?_map, ho]; rfl) (by show _ ≤ 16777216; simp only [List.length_map]; (clear hlrdq hqrdq hrdq3 hrdq2 hrdq1 hez2 ho2 ho hq hv hej hlen hj hwz hal hbi hw hTl hi hEl hBl hbl hkz hrz hez hQl hDl hqz hdz hchk hdone hlf hfree hll hletters hp2 hZ hd2 hd1 hc2 hc1 hch hz; omega)) ?_
     refine ⟨_, _, rfl, ?_, rfl⟩
     rw [List.take_add_one, ho2, List.map_append]; rfl
    ·walk_at "E3"; generalize (z3 _ _).1 = na; generalize (z3 _ _).2.1 = ys; generalize (z3 _ _).2.2 = l
     refine A2 ?_
     intro zy77 zy78
     subst zy77
     subst zy78
     intro hlen
     rw [hEl, ← hal, List.take_length]
     simp only [List.cons_append, List.nil_append]
     show W c _ (PySem.assign (.Name _ _) _ _) _ _
     refine W.asName ?_
     walk_at "st"
     exact ⟨na, rfl⟩
   walk_at "E1"; generalize z1 _ _ = l
   walk_at "Y1"; generalize z1 _ _ = na
   intro zy79
   subst zy79
   simp only [List.cons_append, List.nil_append]
   refine W.cons (W.expr (W.meth F.plainAttrs_list slot_list_append F.type_list_append ?_))
   walk_at "nm"
   refine ⟨Ty.ls (by walk_at "mem"), W.spCons (W.mkTuple (W.spCons (W.callK T (fv := .ref 256) (by k_is) ?_)))⟩
   walk_at "gl"
   refine ⟨rfl, W.spCons ?_⟩
   walk_at "nm"
   refine W.spCons ?_
   walk_at "ce"
   refine W.spNil ?_
   refine W.use (spelled_ok (ch := ch) (word := w) (as := as) T (r.deeper.less (by (clear hwz hal hbi hv hw hTl hi hEl hBl hbl hkz hrz hez hQl hDl hqz hoz hdz hchk hdone hlf hfree hll hletters hp2 hZ hd2 hd1 hc2 hc1 hch hz; omega))) (by (clear hal hbi hv hw hTl hi hEl hBl hbl hkz hrz hez hQl hDl hqz hoz hdz hchk hdone hlf hfree hll hletters hp2 hZ hd2 hd1 hc2 hc1 hch hz; omega)) (by (clear hwz hbi hv hw hTl hi hEl hBl hbl hkz hrz hQl hDl hqz hoz hdz hchk hdone hlf hfree hll hletters hp2 hZ hd2 hd1 hc2 hc1 hch hz; omega))) (by walk_at "tk") ?_
   walk_at "E2"; generalize (z2 _ _).1 = v; generalize (z2 _ _).2 = l'
   walk_at "Y1"; generalize z1 _ _ = tsp
   refine A2 ?_
   intro zy80 zy81
   subst zy80
   subst zy81
   simp only [List.cons_append, List.nil_append]
   refine W.spCons ?_
   walk_at "ce"
   refine W.spNil ⟨by show 2 ≤ 16777216; (clear hwz hal hbi hv hw hTl hi hEl hBl hbl hkz hrz hez hQl hDl hqz hoz hdz hchk hdone hlf hfree hll hletters hp2 hZ hd2 hd1 hc2 hc1 hch hz; omega), ?_⟩
   walk_at "E1"; generalize z1 _ _ = rt
   refine W.spNil ?_
   refine W.sub (l' := (rt, Tp [.str (rw' (w.length % 2 == 1) as) tsp, .str (enc ch w) tw]) :: ([(td2, Ls (trows.map fun e => Value.ref e.1)), (da, Ls dvs), (oa, Ls (own.map .bool)), (qa, Ls qvs), (L, NP ["script", "drawn", "pieces", "letters", "free", "due", "piece", "ends", "turn", "book", "ways", "yes", "asked", "place", "told", "answers", "kinds"] [some (.ref sa), some (.str (enc ch drawn) td), some (.ref pa), some (.str (enc ch letters) tl), some (.ref fa), some (.ref da), pv, some (.ref ea), kv, some (.ref x), yv, sv, av, wv, some (.ref td2), some (.ref na), none]), (a1, Ce c1), (a2, Ce c2), (a3, Ce c3), (a4, Ce c4), (a5, Ce c5), (a6, Ce (some (.str (enc ch w) tw))), (a7, Ce c7), (a8, Ce (some (.ref ka))), (a9, Ce (some (.ref qa))), (a10, Ce (some (.ref oa))), (a11, Ce (some (.str (enc ch [false, true]) ts))), (a12, Ce (some (.str (enc ch text) tt))), (ea, Ls evs), (ka, Dk c kvs)] ++ (trows.map rowCell ++ (bookLed x dx ha rows ++ tabLed 246 lamPos lamQ st)))) ?_ (by walk_at "tk")
   have htz : trows.length ≤ 17 := by rw [hTl, List.length_take]; (clear hwz hal hbi hv hw hTl hi hEl hBl hkz hrz hez hQl hDl hqz hoz hchk hdone hlf hfree hll hletters hp2 hZ hd2 hd1 hc2 hc1 hch hz; omega)
   refine W.append (vs := trows.map fun e => .ref e.1) (by walk_at "up") (by show _ ≤ 16777216; rw [List.length_map]; (clear hwz hal hbi hv hw hTl hi hEl hBl hbl hkz hrz hez hQl hDl hqz hoz hdz hchk hdone hlf hfree hll hletters hp2 hZ hd2 hd1 hc2 hc1 hch hz; omega)) ?_
   refine W.perm (l' := [(td2, Ls ((trows.map fun e => Value.ref e.1) ++ [Value.ref rt])), (da, Ls dvs), (oa, Ls (own.map .bool)), (qa, Ls qvs), (L, NP ["script", "drawn", "pieces", "letters", "free", "due", "piece", "ends", "turn", "book", "ways", "yes", "asked", "place", "told", "answers", "kinds"] [some (.ref sa), some (.str (enc ch drawn) td), some (.ref pa), some (.str (enc ch letters) tl), some (.ref fa), some (.ref da), pv, some (.ref ea), kv, some (.ref x), yv, sv, av, wv, some (.ref td2), some (.ref na), none]), (a1, Ce c1), (a2, Ce c2), (a3, Ce c3), (a4, Ce c4), (a5, Ce c5), (a6, Ce (some (.str (enc ch w) tw))), (a7, Ce c7), (a8, Ce (some (.ref ka))), (a9, Ce (some (.ref qa))), (a10, Ce (some (.ref oa))), (a11, Ce (some (.str (enc ch [false, true]) ts))), (a12, Ce (some (.str (enc ch text) tt))), (ea, Ls evs), (ka, Dk c kvs)] ++ ((trows.map rowCell ++ [(rt, Tp [.str (rw' (w.length % 2 == 1) as) tsp, .str (enc ch w) tw])]) ++ (bookLed x dx ha rows ++ tabLed 246 lamPos lamQ st))) ?_ (perm_row (rt, Tp [.str (rw' (w.length % 2 == 1) as) tsp, .str (enc ch w) tw]) [(td2, Ls ((trows.map fun e => Value.ref e.1) ++ [Value.ref rt])), (da, Ls dvs), (oa, Ls (own.map .bool)), (qa, Ls qvs), (L, NP ["script", "drawn", "pieces", "letters", "free", "due", "piece", "ends", "turn", "book", "ways", "yes", "asked", "place", "told", "answers", "kinds"] [some (.ref sa), some (.str (enc ch drawn) td), some (.ref pa), some (.str (enc ch letters) tl), some (.ref fa), some (.ref da), pv, some (.ref ea), kv, some (.ref x), yv, sv, av, wv, some (.ref td2), some (.ref na), none]), (a1, Ce c1), (a2, Ce c2), (a3, Ce c3), (a4, Ce c4), (a5, Ce c5), (a6, Ce (some (.str (enc ch w) tw))), (a7, Ce c7), (a8, Ce (some (.ref ka))), (a9, Ce (some (.ref qa))), (a10, Ce (some (.ref oa))), (a11, Ce (some (.str (enc ch [false, true]) ts))), (a12, Ce (some (.str (enc ch text) tt))), (ea, Ls evs), (ka, Dk c kvs)] (trows.map rowCell) (bookLed x dx ha rows ++ tabLed 246 lamPos lamQ st))
   refine W.nil ⟨some (.ref na), some (.str (enc ch w) tw), trows ++ [(rt, rw' (w.length % 2 == 1) as, tsp, enc ch w, tw)], ?_, ?_⟩
   ·rw [List.take_add_one, hbi]; exact hTb.snoc
   ·rw [List.map_append, List.map_append]; rfl
  ·walk_at "E1"; generalize z1 _ _ = l
   walk_at "Y3"; generalize (z3 _ _).1 = nv; generalize (z3 _ _).2.1 = c6; generalize (z3 _ _).2.2 = trows
   refine A2 ?_
   intro hTb zy82
   subst zy82
   rw [hDl, ← hbl, List.take_length] at hTb
   exact ⟨nv, c6, trows, hTb, rfl⟩
  walk_at "E1"; generalize z1 _ _ = l
  walk_at "Y3"; generalize (z3 _ _).1 = nv; generalize (z3 _ _).2.1 = c6; generalize (z3 _ _).2.2 = trows
  refine A2 ?_
  intro hTb zy83
  subst zy83
  have hTl := hTb.1
  simp only [List.cons_append, List.nil_append]
  refine W.epoch (a := ka) (kvs := kvs) (l' := fun ep => [(td2, Ls (trows.map fun e => Value.ref e.1)), (da, Ls dvs), (oa, Ls (own.map .bool)), (qa, Ls qvs), (L, NP ["script", "drawn", "pieces", "letters", "free", "due", "piece", "ends", "turn", "book", "ways", "yes", "asked", "place", "told", "answers", "kinds"] [some (.ref sa), some (.str (enc ch drawn) td), some (.ref pa), some (.str (enc ch letters) tl), some (.ref fa), some (.ref da), pv, some (.ref ea), kv, some (.ref x), yv, sv, av, wv, some (.ref td2), nv, none]), (a1, Ce c1), (a2, Ce c2), (a3, Ce c3), (a4, Ce c4), (a5, Ce c5), (a6, Ce c6), (a7, Ce c7), (a8, Ce (some (.ref ka))), (a9, Ce (some (.ref qa))), (a10, Ce (some (.ref oa))), (a11, Ce (some (.str (enc ch [false, true]) ts))), (a12, Ce (some (.str (enc ch text) tt))), (ea, Ls evs), (ka, De c kvs ep)] ++ (trows.map rowCell ++ (bookLed x dx ha rows ++ tabLed 246 lamPos lamQ st))) (fun ep => by walk_at "up") fun ep => ?_
  refine W.cut (fun l => ∃ kd, l = [(kd, Ls []), (td2, Ls (trows.map fun e => Value.ref e.1)), (da, Ls dvs), (oa, Ls (own.map .bool)), (qa, Ls qvs), (L, NP ["script", "drawn", "pieces", "letters", "free", "due", "piece", "ends", "turn", "book", "ways", "yes", "asked", "place", "told", "answers", "kinds"] [some (.ref sa), some (.str (enc ch drawn) td), some (.ref pa), some (.str (enc ch letters) tl), some (.ref fa), some (.ref da), pv, some (.ref ea), kv, some (.ref x), yv, sv, av, wv, some (.ref td2), nv, some (.ref kd)]), (a1, Ce c1), (a2, Ce c2), (a3, Ce c3), (a4, Ce c4), (a5, Ce c5), (a6, Ce c6), (a7, Ce c7), (a8, Ce (some (.ref ka))), (a9, Ce (some (.ref qa))), (a10, Ce (some (.ref oa))), (a11, Ce (some (.str (enc ch [false, true]) ts))), (a12, Ce (some (.str (enc ch text) tt))), (ea, Ls evs), (ka, De c kvs ep)] ++ (trows.map rowCell ++ (bookLed x dx ha rows ++ tabLed 246 lamPos lamQ st))) (W.setU (by exact rfl) ?_) ?_
  ·refine W.compU _ (n := kvs.length) (P := fun i x => ∃ k, kvs[i]? = some (k, x)) (need := [(ka, De c kvs ep)])
    (fun j ys l => ys = [] ∧ ∃ vw, l = (vw, Vw ka) :: ([(td2, Ls (trows.map fun e => Value.ref e.1)), (da, Ls dvs), (oa, Ls (own.map .bool)), (qa, Ls qvs), (L, NP ["script", "drawn", "pieces", "letters", "free", "due", "piece", "ends", "turn", "book", "ways", "yes", "asked", "place", "told", "answers", "kinds"] [some (.ref sa), some (.str (enc ch drawn) td), some (.ref pa), some (.str (enc ch letters) tl), some (.ref fa), some (.ref da), pv, some (.ref ea), kv, some (.ref x), yv, sv, av, wv, some (.ref td2), nv, none]), (a1, Ce c1), (a2, Ce c2), (a3, Ce c3), (a4, Ce c4), (a5, Ce c5), (a6, Ce c6), (a7, Ce c7), (a8, Ce (some (.ref ka))), (a9, Ce (some (.ref qa))), (a10, Ce (some (.ref oa))), (a11, Ce (some (.str (enc ch [false, true]) ts))), (a12, Ce (some (.str (enc ch text) tt))), (ea, Ls evs), (ka, De c kvs ep)] ++ (trows.map rowCell ++ (bookLed x dx ha rows ++ tabLed 246 lamPos lamQ st)))) r.hh (by exact rfl) (by decide) rfl (by decide) rfl (by show _ ≤ 16777216; (clear hTl hEl hBl hbl hrz hez hQl hDl hqz hoz hdz hchk hdone hlf hfree hll hletters hp2 hZ hd2 hd1 hc2 hc1 hch has hz; omega)) ?_ ?_ ?_ ?_
   ·refine W.meth F.plainAttrs_dict F.slot_dict_values F.type_dict_values ?_
    simp only [List.cons_append, List.nil_append]
    walk_at "ce"
    refine ⟨Ty.de (by walk_at "mem"), W.spNil (W.values (ep := ep) (by walk_at "mem") ?_)⟩
    intro vw
    refine ⟨Itr.vals (.head _) (.tail _ (by walk_at "mem")), (by first | rfl | trivial), vw, rfl⟩
   ·intro j ys l
    rintro ⟨_, vw, rfl⟩
    intro p hp
    rw [List.mem_singleton.mp hp]; walk_at "mem"
   ·intro C j v ys l hj
    rintro ⟨kk, hv⟩
    rintro ⟨rfl, vw, rfl⟩
    intro hlen
    obtain ⟨wk, _, hvb⟩ := hK _ (List.mem_of_getElem? hv)
    dsimp only at hvb
    subst hvb
    simp only [List.cons_append, List.nil_append]
    refine W.testsOne (W.testBool (W.andCons (W.testCompare ?_)))
    walk_at "nm"
    refine W.kBool (W.isntP (by rfl) (W.truthyBool ?_))
    cases ellB text wk
    ·rw [show (!(Value.bool false == Value.bool true)) = true from rfl, if_pos rfl]
     refine W.andCons (W.testCompare ?_)
     walk_at "nm"
     refine W.kBool (W.isntP (by rfl) (W.truthyBool ?_))
     rw [show (!(Value.bool false == Value.bool false)) = false from rfl, if_neg (by decide), if_neg (by decide)]
     exact ⟨_, _, rfl, (by first | rfl | trivial), vw, rfl⟩
    ·rw [show (!(Value.bool true == Value.bool true)) = false from rfl, if_neg (by decide), if_neg (by decide)]
     exact ⟨_, _, rfl, (by first | rfl | trivial), vw, rfl⟩
   ·intro kd ys l
    rintro ⟨rfl, vw, rfl⟩
    intro hlen
    show W c _ (PySem.assign (.Name _ _) _ _) _ _
    refine W.sub (l' := (kd, Ls []) :: ([(td2, Ls (trows.map fun e => Value.ref e.1)), (da, Ls dvs), (oa, Ls (own.map .bool)), (qa, Ls qvs), (L, NP ["script", "drawn", "pieces", "letters", "free", "due", "piece", "ends", "turn", "book", "ways", "yes", "asked", "place", "told", "answers", "kinds"] [some (.ref sa), some (.str (enc ch drawn) td), some (.ref pa), some (.str (enc ch letters) tl), some (.ref fa), some (.ref da), pv, some (.ref ea), kv, some (.ref x), yv, sv, av, wv, some (.ref td2), nv, none]), (a1, Ce c1), (a2, Ce c2), (a3, Ce c3), (a4, Ce c4), (a5, Ce c5), (a6, Ce c6), (a7, Ce c7), (a8, Ce (some (.ref ka))), (a9, Ce (some (.ref qa))), (a10, Ce (some (.ref oa))), (a11, Ce (some (.str (enc ch [false, true]) ts))), (a12, Ce (some (.str (enc ch text) tt))), (ea, Ls evs), (ka, De c kvs ep)] ++ (trows.map rowCell ++ (bookLed x dx ha rows ++ tabLed 246 lamPos lamQ st)))) ?_ (by walk_at "tk")
    simp only [List.cons_append, List.nil_append]
    refine W.asName ?_
    walk_at "st"
    exact ⟨kd, rfl⟩
  intro l
  rintro ⟨kd, rfl⟩
  simp only [List.cons_append, List.nil_append]
  refine W.cons (W.ret (W.and2 (W.compare ?_)))
  refine W.methOwn0 (x := x) (dx := dx) (C := 190) (f := 154) (attr := "_headers") (av := .ref ha) T (by k_is) (by k_is) (by k_is) (by decide +kernel) (by k_is) ?_ _ (by exact rfl)
  walk_at "nm"
  refine ⟨rfl, by unfold bookLed; walk_at "mem", by unfold bookLed; walk_at "mem", ?_⟩
  refine W.use (t0 := bookLed x dx ha rows) (items_ok T (r.deeper.less (by (clear hTl hEl hBl hbl hkz hrz hez hQl hDl hqz hoz hdz hchk hdone hlf hfree hll hletters hp2 hZ hd2 hd1 hc2 hc1 hch has hz; omega))) (by (clear hTl hEl hBl hbl hkz hez hQl hDl hqz hoz hdz hchk hdone hlf hfree hll hletters hp2 hZ hd2 hd1 hc2 hc1 hch has hz; omega))) (by walk_at "tk") ?_
  intro v l'
  rintro ⟨d, rfl, rfl⟩
  simp only [List.cons_append, List.nil_append]
  walk_at "nm"
  refine W.eqLs (n := 1) (e := true) (vs := rows.map fun e => .ref e.1) (ws := trows.map fun e => .ref e.1) (r.deeper.less (by (clear hTl hEl hBl hbl hkz hrz hez hQl hDl hqz hoz hdz hchk hdone hlf hfree hll hletters hp2 hZ hd2 hd1 hc2 hc1 hch has hz; omega))) (.head _) (by walk_at "mem") (fun _ => true) ?_ (by rw [List.length_map, List.length_map, hBl, hTl]; simp) (W.truthyBool ?_)
  ·intro j h1 h2
   have hj : j < rows.length := by simpa using h1
   have hj2 : j < trows.length := by simpa using h2
   have hbj : bk[j]? = some (bk[j]'(by (clear hj2 h2 h1 hTl hEl hbl hkz hrz hez hQl hDl hqz hoz hdz hchk hdone hlf hfree hll hletters hp2 hZ hd2 hd1 hc2 hc1 hch has hz; omega))) := List.getElem?_eq_getElem _
   generalize (bk[j]'(by (clear hbj hj2 h2 h1 hTl hEl hbl hkz hrz hez hQl hDl hqz hoz hdz hchk hdone hlf hfree hll hletters hp2 hZ hd2 hd1 hc2 hc1 hch has hz; omega))) = p at hbj
   refine PRe p ?_
   walk_at "E2"; generalize (z2 _ _).1 = as; generalize (z2 _ _).2 = w
   intro zy84
   subst zy84
   obtain ⟨a, t1, u1, e1⟩ := hB.2 j as w hbj
   obtain ⟨a', t2, u2, e2⟩ := hTb.2 j as w hbj
   rw [List.getElem_map, List.getElem_map]
   have e1' : rows[j] = _ := Option.some.inj ((List.getElem?_eq_getElem hj).symm.trans e1)
   have e2' : trows[j] = _ := Option.some.inj ((List.getElem?_eq_getElem hj2).symm.trans e2)
   rw [e1', e2']
   have m1 := row_mem (x := x) (dx := dx) (ha := ha) e1
   have m2 : (a', Tp [.str (rw' (w.length % 2 == 1) as) t2, .str (enc ch w) u2]) ∈ trows.map rowCell := List.mem_map.mpr ⟨_, List.mem_of_getElem? e2, rfl⟩
   by_cases haa : a = a'
   ·subst haa; exact Eqs.same
   ·refine Eqs.tuples (vs := [.str (rw' (w.length % 2 == 1) as) t1, .str (enc ch w) u1]) (ws := [.str (rw' (w.length % 2 == 1) as) t2, .str (enc ch w) u2]) haa (.tail _ (List.mem_append_left _ m1)) (.tail _ (List.mem_append_right _ ?_)) true (fun _ => true) ?_ (by rfl)
    ·repeat (first | exact List.mem_append_left _ m2 | apply List.Mem.tail)
    ·intro k h3 h4
     match k, h3, h4 with
     | 0, _, _ => exact Eqs.strs
     | 1, _, _ => exact Eqs.strs
     | k + 2, h3, h4 => exact absurd h3 (by simp)
  rw [if_pos rfl]
  refine W.compare ?_
  walk_at "nm"
  refine W.mkList (W.spNil ⟨by show 0 ≤ 16777216; (clear hTl hEl hBl hbl hkz hrz hez hQl hDl hqz hoz hdz hchk hdone hlf hfree hll hletters hp2 hZ hd2 hd1 hc2 hc1 hch has hz; omega), ?_⟩)
  intro ne
  refine W.eqLs (n := 1) (e := true) (r.deeper.less (by (clear hTl hEl hBl hbl hkz hrz hez hQl hDl hqz hoz hdz hchk hdone hlf hfree hll hletters hp2 hZ hd2 hd1 hc2 hc1 hch has hz; omega))) (vs := []) (ws := []) (by walk_at "mem") (.head _) (fun _ => true) (fun j h1 h2 => absurd h1 (by simp)) (by rfl) ?_
  refine ⟨rfl, ?_⟩
  cases st <;> exact ⟨_, by walk_at "mem"⟩
noncomputable abbrev Mach := List Wd × List Bool × List Nat
noncomputable def treeOk (M : Mach) : Bool := treeX (accM M.2.1 M.2.2) M.1 M.2.1 M.2.2 M.1.length [[]] drawns
noncomputable def mach0 : Mach := ([[]], ([true], [0, 0]))
theorem tree0 : treeOk mach0 = true := by decide +kernel
noncomputable def mach1 : Mach := ([[], [false], [true], [false, false], [false, false, true]], ([false, false, false, false, true], [1, 2, 3, 2, 2, 2, 2, 4, 2, 2]))
theorem tree1 : treeOk mach1 = true := by decide +kernel
noncomputable def mach2 : Mach := ([[], [false], [true], [false, false], [false, false, true]], ([false, false, false, false, true], [1, 2, 3, 2, 2, 2, 2, 4, 4, 4]))
theorem tree2 : treeOk mach2 = true := by decide +kernel
noncomputable def mach3 : Mach := ([[], [false], [false, false], [false, false, true]], ([false, false, false, true], [1, 0, 2, 0, 2, 3, 1, 0]))
theorem tree3 : treeOk mach3 = true := by decide +kernel
noncomputable def mach4 : Mach := ([[], [false], [false, false], [false, false, true]], ([false, false, false, true], [1, 0, 2, 0, 2, 3, 3, 3]))
theorem tree4 : treeOk mach4 = true := by decide +kernel
noncomputable def mach5 : Mach := ([[], [false], [true], [false, true], [false, true, false]], ([false, false, false, false, true], [1, 2, 2, 3, 2, 2, 4, 2, 2, 2]))
theorem tree5 : treeOk mach5 = true := by decide +kernel
noncomputable def mach6 : Mach := ([[], [false], [true], [false, true], [false, true, false]], ([false, false, false, false, true], [1, 2, 2, 3, 2, 2, 4, 3, 4, 3]))
theorem tree6 : treeOk mach6 = true := by decide +kernel
noncomputable def mach7 : Mach := ([[], [false], [false, true], [false, true, false]], ([false, false, false, true], [1, 0, 1, 2, 3, 0, 1, 2]))
theorem tree7 : treeOk mach7 = true := by decide +kernel
noncomputable def mach8 : Mach := ([[], [false], [false, true], [false, true, false]], ([false, false, false, true], [1, 0, 1, 2, 3, 2, 3, 2]))
theorem tree8 : treeOk mach8 = true := by decide +kernel
noncomputable def mach9 : Mach := ([[], [false], [true], [false, true], [false, true, true]], ([false, false, false, false, true], [1, 2, 2, 3, 2, 2, 2, 4, 2, 2]))
theorem tree9 : treeOk mach9 = true := by decide +kernel
noncomputable def mach10 : Mach := ([[], [false], [true], [false, true], [false, true, true]], ([false, false, false, false, true], [1, 2, 2, 3, 2, 2, 2, 4, 4, 4]))
theorem tree10 : treeOk mach10 = true := by decide +kernel
noncomputable def mach11 : Mach := ([[], [false], [true], [false, true], [false, true, true]], ([false, false, false, false, true], [1, 2, 2, 3, 2, 2, 3, 4, 3, 4]))
theorem tree11 : treeOk mach11 = true := by decide +kernel
noncomputable def mach12 : Mach := ([[], [false], [true], [false, true], [false, true, true]], ([false, false, false, false, true], [1, 2, 2, 3, 2, 2, 3, 4, 4, 4]))
theorem tree12 : treeOk mach12 = true := by decide +kernel
noncomputable def mach13 : Mach := ([[], [false], [false, true], [false, true, true]], ([false, false, false, true], [1, 0, 1, 2, 1, 3, 1, 0]))
theorem tree13 : treeOk mach13 = true := by decide +kernel
noncomputable def mach14 : Mach := ([[], [false], [false, true], [false, true, true]], ([false, false, false, true], [1, 0, 1, 2, 1, 3, 3, 3]))
theorem tree14 : treeOk mach14 = true := by decide +kernel
noncomputable def mach15 : Mach := ([[], [false], [false, true], [false, true, true]], ([false, false, false, true], [1, 0, 1, 2, 2, 3, 2, 3]))
theorem tree15 : treeOk mach15 = true := by decide +kernel
noncomputable def mach16 : Mach := ([[], [false], [false, true], [false, true, true]], ([false, false, false, true], [1, 0, 1, 2, 2, 3, 3, 3]))
theorem tree16 : treeOk mach16 = true := by decide +kernel
noncomputable def mach17 : Mach := ([[], [false], [true], [true, false], [true, false, false]], ([false, false, false, false, true], [1, 2, 1, 1, 3, 1, 4, 1, 1, 1]))
theorem tree17 : treeOk mach17 = true := by decide +kernel
noncomputable def mach18 : Mach := ([[], [false], [true], [true, false], [true, false, false]], ([false, false, false, false, true], [1, 2, 1, 1, 3, 2, 4, 2, 4, 2]))
theorem tree18 : treeOk mach18 = true := by decide +kernel
noncomputable def mach19 : Mach := ([[], [true], [true, false], [true, false, false]], ([false, false, false, true], [0, 1, 2, 1, 3, 1, 0, 1]))
theorem tree19 : treeOk mach19 = true := by decide +kernel
noncomputable def mach20 : Mach := ([[], [true], [true, false], [true, false, false]], ([false, false, false, true], [0, 1, 2, 1, 3, 1, 3, 1]))
theorem tree20 : treeOk mach20 = true := by decide +kernel
noncomputable def mach21 : Mach := ([[], [false], [true], [true, false], [true, false, true]], ([false, false, false, false, true], [1, 2, 1, 1, 3, 1, 1, 4, 1, 1]))
theorem tree21 : treeOk mach21 = true := by decide +kernel
noncomputable def mach22 : Mach := ([[], [false], [true], [true, false], [true, false, true]], ([false, false, false, false, true], [1, 2, 1, 1, 3, 1, 1, 4, 4, 4]))
theorem tree22 : treeOk mach22 = true := by decide +kernel
noncomputable def mach23 : Mach := ([[], [false], [true], [true, false], [true, false, true]], ([false, false, false, false, true], [1, 2, 1, 1, 3, 2, 3, 4, 3, 2]))
theorem tree23 : treeOk mach23 = true := by decide +kernel
noncomputable def mach24 : Mach := ([[], [false], [true], [true, false], [true, false, true]], ([false, false, false, false, true], [1, 2, 1, 1, 3, 2, 3, 4, 4, 4]))
theorem tree24 : treeOk mach24 = true := by decide +kernel
noncomputable def mach25 : Mach := ([[], [true], [true, false], [true, false, true]], ([false, false, false, true], [0, 1, 2, 1, 0, 3, 2, 1]))
theorem tree25 : treeOk mach25 = true := by decide +kernel
noncomputable def mach26 : Mach := ([[], [true], [true, false], [true, false, true]], ([false, false, false, true], [0, 1, 2, 1, 0, 3, 3, 3]))
theorem tree26 : treeOk mach26 = true := by decide +kernel
noncomputable def mach27 : Mach := ([[], [true], [true, false], [true, false, true]], ([false, false, false, true], [0, 1, 2, 1, 2, 3, 2, 1]))
theorem tree27 : treeOk mach27 = true := by decide +kernel
noncomputable def mach28 : Mach := ([[], [true], [true, false], [true, false, true]], ([false, false, false, true], [0, 1, 2, 1, 2, 3, 3, 3]))
theorem tree28 : treeOk mach28 = true := by decide +kernel
noncomputable def mach29 : Mach := ([[], [false], [true], [true, true], [true, true, false]], ([false, false, false, false, true], [1, 2, 1, 1, 1, 3, 4, 1, 1, 1]))
theorem tree29 : treeOk mach29 = true := by decide +kernel
noncomputable def mach30 : Mach := ([[], [false], [true], [true, true], [true, true, false]], ([false, false, false, false, true], [1, 2, 1, 1, 1, 3, 4, 3, 4, 3]))
theorem tree30 : treeOk mach30 = true := by decide +kernel
noncomputable def mach31 : Mach := ([[], [false], [true], [true, true], [true, true, false]], ([false, false, false, false, true], [1, 2, 1, 1, 2, 3, 4, 3, 2, 3]))
theorem tree31 : treeOk mach31 = true := by decide +kernel
noncomputable def mach32 : Mach := ([[], [false], [true], [true, true], [true, true, false]], ([false, false, false, false, true], [1, 2, 1, 1, 2, 3, 4, 3, 4, 3]))
theorem tree32 : treeOk mach32 = true := by decide +kernel
noncomputable def mach33 : Mach := ([[], [true], [true, true], [true, true, false]], ([false, false, false, true], [0, 1, 0, 2, 3, 2, 0, 1]))
theorem tree33 : treeOk mach33 = true := by decide +kernel
noncomputable def mach34 : Mach := ([[], [true], [true, true], [true, true, false]], ([false, false, false, true], [0, 1, 0, 2, 3, 2, 3, 2]))
theorem tree34 : treeOk mach34 = true := by decide +kernel
noncomputable def mach35 : Mach := ([[], [true], [true, true], [true, true, false]], ([false, false, false, true], [0, 1, 1, 2, 3, 2, 1, 2]))
theorem tree35 : treeOk mach35 = true := by decide +kernel
noncomputable def mach36 : Mach := ([[], [true], [true, true], [true, true, false]], ([false, false, false, true], [0, 1, 1, 2, 3, 2, 3, 2]))
theorem tree36 : treeOk mach36 = true := by decide +kernel
noncomputable def mach37 : Mach := ([[], [false], [true], [true, true], [true, true, true]], ([false, false, false, false, true], [1, 2, 1, 1, 1, 3, 1, 4, 1, 1]))
theorem tree37 : treeOk mach37 = true := by decide +kernel
noncomputable def mach38 : Mach := ([[], [false], [true], [true, true], [true, true, true]], ([false, false, false, false, true], [1, 2, 1, 1, 1, 3, 1, 4, 4, 4]))
theorem tree38 : treeOk mach38 = true := by decide +kernel
noncomputable def mach39 : Mach := ([[], [false], [true], [true, true], [true, true, true]], ([false, false, false, false, true], [1, 2, 1, 1, 1, 3, 3, 4, 3, 4]))
theorem tree39 : treeOk mach39 = true := by decide +kernel
noncomputable def mach40 : Mach := ([[], [false], [true], [true, true], [true, true, true]], ([false, false, false, false, true], [1, 2, 1, 1, 1, 3, 3, 4, 4, 4]))
theorem tree40 : treeOk mach40 = true := by decide +kernel
noncomputable def mach41 : Mach := ([[], [false], [true], [true, true], [true, true, true]], ([false, false, false, false, true], [1, 2, 1, 1, 2, 3, 2, 4, 2, 4]))
theorem tree41 : treeOk mach41 = true := by decide +kernel
noncomputable def mach42 : Mach := ([[], [false], [true], [true, true], [true, true, true]], ([false, false, false, false, true], [1, 2, 1, 1, 2, 3, 2, 4, 4, 4]))
theorem tree42 : treeOk mach42 = true := by decide +kernel
noncomputable def mach43 : Mach := ([[], [false], [true], [true, true], [true, true, true]], ([false, false, false, false, true], [1, 2, 1, 1, 2, 3, 3, 4, 3, 4]))
theorem tree43 : treeOk mach43 = true := by decide +kernel
noncomputable def mach44 : Mach := ([[], [false], [true], [true, true], [true, true, true]], ([false, false, false, false, true], [1, 2, 1, 1, 2, 3, 3, 4, 4, 4]))
theorem tree44 : treeOk mach44 = true := by decide +kernel
noncomputable def mach45 : Mach := ([[], [true], [true, true], [true, true, true]], ([false, false, false, true], [0, 1, 0, 2, 0, 3, 0, 3]))
theorem tree45 : treeOk mach45 = true := by decide +kernel
noncomputable def mach46 : Mach := ([[], [true], [true, true], [true, true, true]], ([false, false, false, true], [0, 1, 0, 2, 0, 3, 3, 3]))
theorem tree46 : treeOk mach46 = true := by decide +kernel
noncomputable def mach47 : Mach := ([[], [true], [true, true], [true, true, true]], ([false, false, false, true], [0, 1, 0, 2, 2, 3, 2, 3]))
theorem tree47 : treeOk mach47 = true := by decide +kernel
noncomputable def mach48 : Mach := ([[], [true], [true, true], [true, true, true]], ([false, false, false, true], [0, 1, 0, 2, 2, 3, 3, 3]))
theorem tree48 : treeOk mach48 = true := by decide +kernel
noncomputable def mach49 : Mach := ([[], [true], [true, true], [true, true, true]], ([false, false, false, true], [0, 1, 1, 2, 1, 3, 1, 3]))
theorem tree49 : treeOk mach49 = true := by decide +kernel
noncomputable def mach50 : Mach := ([[], [true], [true, true], [true, true, true]], ([false, false, false, true], [0, 1, 1, 2, 1, 3, 3, 3]))
theorem tree50 : treeOk mach50 = true := by decide +kernel
noncomputable def mach51 : Mach := ([[], [true], [true, true], [true, true, true]], ([false, false, false, true], [0, 1, 1, 2, 2, 3, 2, 3]))
theorem tree51 : treeOk mach51 = true := by decide +kernel
noncomputable def mach52 : Mach := ([[], [true], [true, true], [true, true, true]], ([false, false, false, true], [0, 1, 1, 2, 2, 3, 3, 3]))
theorem tree52 : treeOk mach52 = true := by decide +kernel
noncomputable def machs : List Mach := [mach0, mach1, mach2, mach3, mach4, mach5, mach6, mach7, mach8, mach9, mach10, mach11, mach12, mach13, mach14, mach15, mach16, mach17, mach18, mach19, mach20, mach21, mach22, mach23, mach24, mach25, mach26, mach27, mach28, mach29, mach30, mach31, mach32, mach33, mach34, mach35, mach36, mach37, mach38, mach39, mach40, mach41, mach42, mach43, mach44, mach45, mach46, mach47, mach48, mach49, mach50, mach51, mach52]
theorem tree_all : ∀ M ∈ machs, treeOk M = true :=
 List.forall_mem_cons.mpr ⟨tree0, List.forall_mem_cons.mpr ⟨tree1, List.forall_mem_cons.mpr ⟨tree2, List.forall_mem_cons.mpr ⟨tree3, List.forall_mem_cons.mpr ⟨tree4, List.forall_mem_cons.mpr ⟨tree5, List.forall_mem_cons.mpr ⟨tree6, List.forall_mem_cons.mpr ⟨tree7, List.forall_mem_cons.mpr ⟨tree8, List.forall_mem_cons.mpr ⟨tree9, List.forall_mem_cons.mpr ⟨tree10, List.forall_mem_cons.mpr ⟨tree11, List.forall_mem_cons.mpr ⟨tree12, List.forall_mem_cons.mpr ⟨tree13, List.forall_mem_cons.mpr ⟨tree14, List.forall_mem_cons.mpr ⟨tree15, List.forall_mem_cons.mpr ⟨tree16, List.forall_mem_cons.mpr ⟨tree17, List.forall_mem_cons.mpr ⟨tree18, List.forall_mem_cons.mpr ⟨tree19, List.forall_mem_cons.mpr ⟨tree20, List.forall_mem_cons.mpr ⟨tree21, List.forall_mem_cons.mpr ⟨tree22, List.forall_mem_cons.mpr ⟨tree23, List.forall_mem_cons.mpr ⟨tree24, List.forall_mem_cons.mpr ⟨tree25, List.forall_mem_cons.mpr ⟨tree26, List.forall_mem_cons.mpr ⟨tree27, List.forall_mem_cons.mpr ⟨tree28, List.forall_mem_cons.mpr ⟨tree29, List.forall_mem_cons.mpr ⟨tree30, List.forall_mem_cons.mpr ⟨tree31, List.forall_mem_cons.mpr ⟨tree32, List.forall_mem_cons.mpr ⟨tree33, List.forall_mem_cons.mpr ⟨tree34, List.forall_mem_cons.mpr ⟨tree35, List.forall_mem_cons.mpr ⟨tree36, List.forall_mem_cons.mpr ⟨tree37, List.forall_mem_cons.mpr ⟨tree38, List.forall_mem_cons.mpr ⟨tree39, List.forall_mem_cons.mpr ⟨tree40, List.forall_mem_cons.mpr ⟨tree41, List.forall_mem_cons.mpr ⟨tree42, List.forall_mem_cons.mpr ⟨tree43, List.forall_mem_cons.mpr ⟨tree44, List.forall_mem_cons.mpr ⟨tree45, List.forall_mem_cons.mpr ⟨tree46, List.forall_mem_cons.mpr ⟨tree47, List.forall_mem_cons.mpr ⟨tree48, List.forall_mem_cons.mpr ⟨tree49, List.forall_mem_cons.mpr ⟨tree50, List.forall_mem_cons.mpr ⟨tree51, List.forall_mem_cons.mpr ⟨tree52, fun _ h => nomatch h⟩⟩⟩⟩⟩⟩⟩⟩⟩⟩⟩⟩⟩⟩⟩⟩⟩⟩⟩⟩⟩⟩⟩⟩⟩⟩⟩⟩⟩⟩⟩⟩⟩⟩⟩⟩⟩⟩⟩⟩⟩⟩⟩⟩⟩⟩⟩⟩⟩⟩⟩⟩⟩
noncomputable def lowB (M : Mach) : Bool := decide (M.1.length ≤ 17) && M.1.all (fun w => decide (w.length ≤ 20)) && decide (M.2.1.length ≤ 100) && decide (M.2.2.length ≤ 100) && M.2.2.all fun n => decide (n ≤ 100)
theorem low_all : ∀ M ∈ machs, lowB M = true := by decide +kernel
noncomputable def cutOk (dbl : Bool) (text : Wd) : Bool := decide ((cutB dbl (text.length + 1) text).length ≤ 20) && (cutB dbl (text.length + 1) text).all fun p => decide (p.length ≤ 3) && inT dbl p
noncomputable def chkB (text : Wd) : Bool := decide (text.length ≤ 20) && cutOk false text && cutOk true text && lpB true text == lpB false text
noncomputable def doneB (text : Wd) : Bool := leastDone (lpB false text).1 (lpB false text).2 17 0 ⟨[[0]], [[]], []⟩ && leastChk (lsB false text)
noncomputable def accB (text : Wd) (M : Mach) : Bool := machs.contains M && textOk text M.2.1 M.2.2
noncomputable def allB (text : Wd) : Bool := chkB text && doneB text && accB text (machB false text)
noncomputable def dt0 : List Wd := [[false, false, false], [false, false, false, false, false, false], [false, false, false, false, false, false, false, false, false], [false, false, false, false, false, false, false, false, false, false, false, false], [false, false, false, false, false, false, false, false, false, false, false, false, false, false, false], [false, false, true]]
theorem all0 : ∀ t ∈ dt0, allB t = true := by decide +kernel
noncomputable def dt1 : List Wd := [[false, false, true, false, false, false], [false, false, false, false, false, true], [false, false, false, false, false, true, false, false, false], [false, false, false, false, false, false, false, false, true], [false, false, false, false, false, false, false, false, true, false, false, false], [false, false, false, false, false, false, false, false, false, false, false, true]]
theorem all1 : ∀ t ∈ dt1, allB t = true := by decide +kernel
noncomputable def dt2 : List Wd := [[false, false, false, false, false, false, false, false, false, false, false, true, false, false, false], [false, true, false], [false, true, false, false, false, false], [false, true, false, false, false, false, false, false, false], [false, false, false, false, true, false], [false, false, false, false, true, false, false, false, false]]
theorem all2 : ∀ t ∈ dt2, allB t = true := by decide +kernel
noncomputable def dt3 : List Wd := [[false, false, false, false, true, false, false, false, false, false, false, false], [false, false, false, false, false, false, false, true, false], [false, false, false, false, false, false, false, true, false, false, false, false], [false, false, false, false, false, false, false, true, false, false, false, false, false, false, false], [false, true, true], [false, true, true, false, false, false]]
theorem all3 : ∀ t ∈ dt3, allB t = true := by decide +kernel
noncomputable def dt4 : List Wd := [[false, true, false, false, false, true], [false, true, false, false, false, true, false, false, false], [false, false, false, false, true, true], [false, false, false, false, true, true, false, false, false], [false, false, false, false, true, false, false, false, true], [false, false, false, false, true, false, false, false, true, false, false, false]]
theorem all4 : ∀ t ∈ dt4, allB t = true := by decide +kernel
noncomputable def dt5 : List Wd := [[false, false, false, false, false, false, false, true, true], [false, false, false, false, false, false, false, true, true, false, false, false], [false, false, false, false, false, false, false, true, false, false, false, true], [false, false, false, false, false, false, false, true, false, false, false, true, false, false, false], [true, false, false], [true, false, false, false, false, false]]
theorem all5 : ∀ t ∈ dt5, allB t = true := by decide +kernel
noncomputable def dt6 : List Wd := [[true, false, false, false, false, false, false, false, false], [true, false, false, false, false, false, false, false, false, false, false, false], [false, false, false, true, false, false], [false, false, false, true, false, false, false, false, false], [false, false, false, true, false, false, false, false, false, false, false, false], [false, false, false, true, false, false, false, false, false, false, false, false, false, false, false]]
theorem all6 : ∀ t ∈ dt6, allB t = true := by decide +kernel
noncomputable def dt7 : List Wd := [[true, false, true], [true, false, true, false, false, false], [true, false, false, false, false, true], [true, false, false, false, false, true, false, false, false], [true, false, false, false, false, false, false, false, true], [true, false, false, false, false, false, false, false, true, false, false, false]]
theorem all7 : ∀ t ∈ dt7, allB t = true := by decide +kernel
noncomputable def dt8 : List Wd := [[false, false, false, true, false, true], [false, false, false, true, false, true, false, false, false], [false, false, false, true, false, false, false, false, true], [false, false, false, true, false, false, false, false, true, false, false, false], [false, false, false, true, false, false, false, false, false, false, false, true], [false, false, false, true, false, false, false, false, false, false, false, true, false, false, false]]
theorem all8 : ∀ t ∈ dt8, allB t = true := by decide +kernel
noncomputable def dt9 : List Wd := [[true, true, false], [true, true, false, false, false, false], [true, true, false, false, false, false, false, false, false], [true, false, false, false, true, false], [true, false, false, false, true, false, false, false, false], [true, false, false, false, true, false, false, false, false, false, false, false]]
theorem all9 : ∀ t ∈ dt9, allB t = true := by decide +kernel
noncomputable def dt10 : List Wd := [[false, false, false, true, true, false], [false, false, false, true, true, false, false, false, false], [false, false, false, true, true, false, false, false, false, false, false, false], [false, false, false, true, false, false, false, true, false], [false, false, false, true, false, false, false, true, false, false, false, false], [false, false, false, true, false, false, false, true, false, false, false, false, false, false, false]]
theorem all10 : ∀ t ∈ dt10, allB t = true := by decide +kernel
noncomputable def dt11 : List Wd := [[true, true, true], [true, true, true, false, false, false], [true, true, false, false, false, true], [true, true, false, false, false, true, false, false, false], [true, false, false, false, true, true], [true, false, false, false, true, true, false, false, false]]
theorem all11 : ∀ t ∈ dt11, allB t = true := by decide +kernel
noncomputable def dt12 : List Wd := [[true, false, false, false, true, false, false, false, true], [true, false, false, false, true, false, false, false, true, false, false, false], [false, false, false, true, true, true], [false, false, false, true, true, true, false, false, false], [false, false, false, true, true, false, false, false, true], [false, false, false, true, true, false, false, false, true, false, false, false]]
theorem all12 : ∀ t ∈ dt12, allB t = true := by decide +kernel
noncomputable def dt13 : List Wd := [[false, false, false, true, false, false, false, true, true], [false, false, false, true, false, false, false, true, true, false, false, false], [false, false, false, true, false, false, false, true, false, false, false, true], [false, false, false, true, false, false, false, true, false, false, false, true, false, false, false]]
theorem all13 : ∀ t ∈ dt13, allB t = true := by decide +kernel
noncomputable def dts : List Wd := dt0 ++ (dt1 ++ (dt2 ++ (dt3 ++ (dt4 ++ (dt5 ++ (dt6 ++ (dt7 ++ (dt8 ++ (dt9 ++ (dt10 ++ (dt11 ++ (dt12 ++ (dt13)))))))))))))
theorem all_dts : ∀ t ∈ dts, allB t = true :=
 List.forall_mem_append.mpr ⟨all0, List.forall_mem_append.mpr ⟨all1, List.forall_mem_append.mpr ⟨all2, List.forall_mem_append.mpr ⟨all3, List.forall_mem_append.mpr ⟨all4, List.forall_mem_append.mpr ⟨all5, List.forall_mem_append.mpr ⟨all6, List.forall_mem_append.mpr ⟨all7, List.forall_mem_append.mpr ⟨all8, List.forall_mem_append.mpr ⟨all9, List.forall_mem_append.mpr ⟨all10, List.forall_mem_append.mpr ⟨all11, List.forall_mem_append.mpr ⟨all12, all13⟩⟩⟩⟩⟩⟩⟩⟩⟩⟩⟩⟩⟩
theorem texts_dts : ∀ t ∈ texts, t ∈ dts := by decide +kernel
theorem facts_ok {dbl : Bool} {text drawn : Wd} (ht : text ∈ texts) (hd : drawn ∈ drawns) : Facts dbl text drawn := by
 have h := all_dts text (texts_dts text ht)
 unfold allB chkB doneB accB cutOk at h
 simp only [Bool.and_eq_true, decide_eq_true_eq, List.all_eq_true, beq_iff_eq, List.contains_iff_mem] at h
 obtain ⟨⟨⟨⟨⟨hz, hf1, hf2⟩, ht1, ht2⟩, hlp⟩, hdone, hchk⟩, hM, hacc⟩ := h
 have e1 : lpB dbl text = lpB false text := by cases dbl with | false => rfl | true => exact hlp
 have e2 : lsB dbl text = lsB false text := by unfold lsB; rw [e1]
 have e3 : machB dbl text = machB false text := by unfold machB; rw [e1, e2]
 generalize machB false text = M at *
 have hlow := low_all _ hM
 unfold lowB at hlow
 simp only [Bool.and_eq_true, decide_eq_true_eq, List.all_eq_true] at hlow
 obtain ⟨⟨⟨⟨h1, h2⟩, h3⟩, h4⟩, h5⟩ := hlow
 have htree := tree_all _ hM
 unfold treeOk at htree
 rw [← text_acc hacc] at htree
 have hT := treeX_ok (ellB text) M.1 M.2.1 M.2.2 M.1.length [[]] drawns htree drawn hd
 exact { z := hz, p := (by cases dbl with | false => exact hf2 | true => exact ht2), pz := (by cases dbl with | false => exact hf1 | true => exact ht1), done := (by rw [e1]; exact hdone), chk := (by rw [e2]; exact hchk), dz := (by rw [e3]; exact h1), dw := (by rw [e3]; exact h2), oz := (by rw [e3]; exact h3), qz := (by rw [e3]; exact h4), qw := (by rw [e3]; exact h5), turns := (by rw [e3]; exact hT) }
theorem ints_ex {vs : List Value} {ns : List Int} (h : IntsAre vs ns) : ∃ xs : List (Int × Tok), vs = intsL xs ∧ xs.length = ns.length := by
 induction h with
 | nil => exact ⟨[], rfl, rfl⟩
 | cons n t h ih =>
  obtain ⟨xs, rfl, hl⟩ := ih
  exact ⟨(n, t) :: xs, rfl, by simp [hl]⟩
theorem post_ok (ns : List Int) : PySem.Challenge.rw_uk0025_01.row.claim.post [ofPy (PyData.list (List.map PyData.int ns))] (WData.bool true) [ofPy (PyData.list (List.map PyData.int ns))] = true := by kernel_rfl
theorem walk_of (hF : ∀ (dbl : Bool), ∀ text ∈ texts, ∀ drawn ∈ drawns, Facts dbl text drawn) (hE : ∀ (c : Cx), Gd c (HK c.w.params) → EllOk c)
  {V : Program} {lo : List Str} {K : Params → Frag} {as : List Addr} {e : ∀ P, as = (K P).map (·.1)} {d : DefRec} (hdn : d.name = Str.ofString "law") (hK : ∀ P (h : Heap), (K P).In h → (HK P).In h) :
  WalkO V lo (XL V []) (kmHook K as e [246]).says PySem.Challenge.rw_uk0025_01.row.toRowW d [] (fun f vs => call f vs) := by
 intro w s₀ s₁ mg mb G Y fa o pm cd doc dV kV ho hd hcd hD hmg hg args vals as hpre hlay hrd hwl hlo
 have KX := hK _ _ (km_in_of Y)
 km_tabs Y
 refine Ground.open G ?_
 intro T B D TE TW
 wrow_args hpre hlay hrd hwl hlo
 rename s₁.heap.IsList _ _ => hL
 rename IntsAre _ _ => hI
 rename ¬ _ < _ => hcond
 obtain ⟨xs, rfl, hxl⟩ := ints_ex hI
 have hfa : fa = 273 := by
  have e1 : mg (Str.ofString "law") = some (.ref 273) := mg_of KX T.g (by k_is)
  have e2 : mg (Str.ofString "law") = some (.ref fa) := hdn ▸ hmg
  rw [e1] at e2
  cases e2; rfl
 subst hfa
 have hC : CodeHd s₁.heap 250 246 := codeHd_of_K KX (by kernel_rfl)
 have hT9 : TabsAt [(250, 246)] s₁.heap := fun q hq => by
  rw [List.mem_singleton.mp hq]; exact ⟨hC, hT8 246 (.head _)⟩
 have KB := ghost_K hT9 KX (by kernel_rfl)
 let c : Cx := ⟨PySem.Challenge.rw_uk0025_01.row.prog, w, ghostOf s₁.heap [(250, 246)], s₁.gens, s₁.drawn, s₁.os⟩
 have Tg : Gd c (HK c.w.params) := ⟨KB, ⟨mg, ghost_ns hT9 T.g⟩, ⟨mb, ghost_ns hT9 T.b, T.builtins⟩, let ⟨mc, a, _⟩ := T.nolimit; ⟨mc, ghost_ns hT9 a, by assumption⟩⟩
 have Gg : Gl c (HK c.w.params) 250 246 := ⟨codeHd_of_K KB (by kernel_rfl), by
  obtain ⟨bm, ob, b1, b2, b3, b4, b5, b6⟩ := T.bmain
  exact ⟨mg, bm, ob, ghost_ns hT9 T.g, b1, b2, ghost_get hT9 b3 (fun q => by rw [q] at b4; cases b4), b4, b5, b6⟩⟩
 obtain ⟨kvs5, k5⟩ := tok_ok Tg
 have hlist : c.B.IsList _ (intsL xs).toArray := ghost_list hT9 hL
 have hroom : Room callerA 12 := ⟨rfl, by decide, by decide⟩
 have hz : xs.length ≤ 63 := by omega
 have main := law_ok Tg Gg (hE c Tg) k5 hroom hlist hz (fun ch _ text ht drawn hd => hF (dblB ch) text ht drawn hd)
 have S : St c.B s₁.heap (tabLed 246 lamPos lamQ none ++ []) := by
  refine ⟨fun p hp => ?_, by simp [tabLed], fun b o e => of_hideAll _ e, fun p hp => ?_, ?_⟩
  ·have := List.mem_singleton.mp hp
   subst this
   exact ⟨_, hT8 246 (.head _), rfl⟩
  ·have := List.mem_singleton.mp hp
   subst this
   exact ⟨hideAll_none _ (.head _), by decide⟩
  ·exact ⟨273, o, by decide, hideAll_get _ ho (by decide)⟩
 refine wpAny_mono (main [] s₁.heap s₁.toks S) ?_ (fun _ _ h => h.elim)
 rintro v s' ⟨h', tk', l', rfl, S', rfl, ps, hps⟩
 refine ⟨.inl ⟨.bool true, .bool true, [], rfl, fun _ => rfl, .bool true, ?_, fun _ => ⟨List.nodup_nil, fun a ha => nomatch ha⟩⟩, ⟨fun b o e => ?_, fun b o e => ?_⟩, rfl, .of_eq hg⟩
 ·exact post_ok _
 ·by_cases hb : b = 246
  ·subst hb
   have e2 := hT8 246 (.head _)
   rw [e] at e2
   cases e2
   obtain ⟨o', e3, h3⟩ := S'.at_ _ (List.mem_append_left _ hps)
   subst h3
   exact .inr (.inl ⟨(hC.tab (hT8 246 (.head _))).isCodeTable, rfl, #[], ps, rfl, by simpa using e3⟩)
  ·exact .inl (S'.base b o (hideAll_get _ e (by simpa using hb)))
 ·by_cases hb : b = 246
  ·subst hb
   obtain ⟨o', e3, _⟩ := S'.at_ _ (List.mem_append_left _ hps)
   exact ⟨o', e3⟩
  ·exact ⟨o, S'.base b o (hideAll_get _ e (by simpa using hb))⟩
theorem In_sub {K J : Frag} {h : Heap} (e : J.map (fun p => K.lookup p.1) = J.map (fun p => some p.2)) (x : K.In h) : J.In h := by
 intro a o ho
 have : (a, o) ∈ J := by
  clear e x
  induction J with
  | nil => cases ho
  | cons p r ih =>
   rw [List.lookup_cons] at ho
   by_cases hp : (a == p.1) = true
   ·rw [hp] at ho
    cases ho
    rw [beq_iff_eq.mp hp]
    exact List.mem_cons_self
   ·rw [Bool.not_eq_true] at hp
    rw [hp] at ho
    exact List.mem_cons_of_mem _ (ih ho)
 exact x a o (List.map_inj_left.mp e _ this)
theorem head.tw12604462930493870256 : True := trivial
theorem head.tw16572314662081343053 : True := trivial
theorem head.tw14744981736328886265 : True := trivial
theorem head.tw5019597260055213698 : True := trivial
theorem head.tw2965093633175911636 : True := trivial
theorem head.tw13942192884097748152 : True := trivial
theorem head.tw8476099583838051002 : True := trivial
theorem head.tw11290360913936777911 : True := trivial
theorem head.tw628883079210367009 : True := trivial
theorem head.tw17015032458148788900 : True := trivial
theorem head.tw820421773197932041 : True := trivial
theorem head.tw13585267454733459922 : True := trivial
theorem head.tw3980653432952411973 : True := trivial
theorem head.tw17173245716831642929 : True := trivial
theorem head.tw4196546014268931301 : True := trivial
theorem head.tw13412022041919118725 : True := trivial
theorem head.tw8812732774380208333 : True := trivial
theorem head.tw6237802210402583469 : True := trivial
theorem head.tw5141380973458375857 : True := trivial
theorem head.tw1495726902847802894 : True := trivial
theorem head.tw8758324158161630591 : True := trivial
theorem head.tw6217066452294943225 : True := trivial
theorem head.tw3304075619188804072 : True := trivial
theorem head.tw11105056867450500199 : True := trivial
theorem head.tw11434997419882176723 : True := trivial
theorem head.tw4709128311485490483 : True := trivial
theorem head.tw15510365090734361527 : True := trivial
theorem head.tw16031315777459398524 : True := trivial
theorem head.tw2717208847683956309 : True := trivial
theorem head.tw4277651752456152607 : True := trivial
theorem head.tw3501597964444990463 : True := trivial
theorem head.tw4972248218790579157 : True := trivial
theorem head.tw10015159338476511836 : True := trivial
theorem head.tw12207028300977255130 : True := trivial
theorem head.tw3986194592780655508 : True := trivial
theorem head.tw1315816938146588887 : True := trivial
theorem head.tw4307260679431091991 : True := trivial
theorem head.tw7253898381062576733 : True := trivial
theorem head.tw5232228908592543544 : True := trivial
theorem head.tw5944575059761466720 : True := trivial
theorem head.tw9407594320385231609 : True := trivial
theorem head.tw9827913525700040407 : True := trivial
theorem head.tw9658139154387788515 : True := trivial
theorem head.tw17197444120159719569 : True := trivial
theorem head.tw8603420104599213669 : True := trivial
theorem head.tw11308087075614649832 : True := trivial
theorem head.tw3790771472595898956 : True := trivial
theorem head.tw7494366503370351645 : True := trivial
theorem head.tw6846597200999610202 : True := trivial
theorem head.tw14139502460874162764 : True := trivial
theorem head.tw5788964047882338313 : True := trivial
theorem head.tw14877080517539528568 : True := trivial
theorem head.tw17844492200522320778 : True := trivial
theorem head.tw8035625575855466936 : True := trivial
theorem head.tw17002534310236347988 : True := trivial
theorem head.tw18384547517478447814 : True := trivial
theorem head.tw497287684792784471 : True := trivial
theorem head.tw1618804561499322139 : True := trivial
theorem head.tw532055438628499158 : True := trivial
theorem head.tw9082462177598256812 : True := trivial
theorem head.tw10519217271611395807 : True := trivial
theorem head.tw7450023128482652576 : True := trivial
theorem head.tw3368030927266983236 : True := trivial
theorem head.tw300626226527484142 : True := trivial
theorem head.tw12903917746401883607 : True := trivial
theorem head.tw976808484645153763 : True := trivial
theorem head.tw2237326684586592538 : True := trivial
theorem head.tw12330954535739239725 : True := trivial
theorem head.tw17411354535832351560 : True := trivial
theorem head.tw4746297304354101679 : True := trivial
theorem head.tw3688799982635324794 : True := trivial
theorem head.tw7712916153251135833 : True := trivial
theorem head.tw7906546307943345882 : True := trivial
theorem head.tw315434073420411817 : True := trivial
theorem head.tw14205479233844494046 : True := trivial
theorem head.tw6100774026682323163 : True := trivial
theorem head.tw1643771367246577777 : True := trivial
theorem head.tw14527164170590304321 : True := trivial
theorem head.tw6079359036626576793 : True := trivial
theorem head.tw10366927770000222440 : True := trivial
theorem head.tw1748456618969930982 : True := trivial
theorem head.tw7658410731251134818 : True := trivial
theorem head.tw15064752311394979489 : True := trivial
theorem head.tw10730805705081004914 : True := trivial
theorem head.tw1852205218256702202 : True := trivial
theorem head.tw930087139818521243 : True := trivial
theorem head.tw7833285031277912329 : True := trivial
theorem head.tw16640130746408290383 : True := trivial
theorem head.tw8097174177036852075 : True := trivial
theorem head.tw4433315090154635215 : True := trivial
theorem head.tw15296082917334920728 : True := trivial
theorem head.tw10898857373019930491 : True := trivial
theorem head.tw733406405333840765 : True := trivial
theorem head.tw18096203060718853378 : True := trivial
theorem head.tw17513103129775332898 : True := trivial
theorem head.tw11426403942048686318 : True := trivial
theorem head.tw2045074668004595492 : True := trivial
theorem head.tw12870424476946447624 : True := trivial
theorem head.tw12147184966966947637 : True := trivial
theorem head.tw3451093201888169649 : True := trivial
theorem head.tw8923297968319659509 : True := trivial
theorem head.tw4691952243595246448 : True := trivial
theorem head.tw13198292447841614426 : True := trivial
theorem head.tw11544532188706048022 : True := trivial
theorem head.tw18123143868385100064 : True := trivial
theorem head.tw16894197260953374720 : True := trivial
theorem head.tw5253091568745631028 : True := trivial
theorem head.tw9083612298779875492 : True := trivial
theorem head.tw8866670633112419022 : True := trivial
theorem head.tw1875919508020622890 : True := trivial
theorem head.tw14943480678444902952 : True := trivial
theorem head.tw12822298378996975857 : True := trivial
theorem head.tw10441214292099957985 : True := trivial
theorem head.tw16714887947964762639 : True := trivial
theorem head.tw2249667046024356820 : True := trivial
theorem head.tw17014734716931888790 : True := trivial
theorem head.tw3088210815446039105 : True := trivial
theorem head.tw15035418422258542911 : True := trivial
theorem head.tw16172288393029767808 : True := trivial
theorem head.tw15735840784391694233 : True := trivial
theorem head.tw6846866878297920324 : True := trivial
theorem head.tw12763952150808568291 : True := trivial
theorem head.tw16050388347410925577 : True := trivial
theorem head.tw15289763312163031998 : True := trivial
theorem head.tw2906682736152437241 : True := trivial
theorem head.tw869964249740702211 : True := trivial
theorem head.tw604627371996746742 : True := trivial
theorem head.tw2096541523181747872 : True := trivial
theorem head.tw3089916443595474862 : True := trivial
theorem head.tw2864405669816312776 : True := trivial
theorem head.tw6298033893332097587 : True := trivial
theorem head.tw5485833197653379195 : True := trivial
theorem head.tw7035425020737665376 : True := trivial
theorem head.tw12775505166333009402 : True := trivial
theorem head.tw17698105195316432488 : True := trivial
theorem head.tw17619409864816609055 : True := trivial
theorem head.tw5015311536963163689 : True := trivial
theorem head.tw10544064009108086568 : True := trivial
theorem head.tw7523532297153676066 : True := trivial
theorem head.tw14512941343882779238 : True := trivial
theorem head.tw8185714761375850791 : True := trivial
theorem head.tw1499353310998574721 : True := trivial
theorem head.tw4834694072379752904 : True := trivial
theorem head.tw13689084217373910675 : True := trivial
theorem head.tw6474009502463322548 : True := trivial
theorem head.tw3869590956505411354 : True := trivial
theorem head.tw307543047461964304 : True := trivial
theorem head.tw12201952087667049370 : True := trivial
theorem head.tw9280153536138602973 : True := trivial
theorem head.tw11628534518673281344 : True := trivial
theorem head.tw7873374376366092466 : True := trivial
theorem head.tw3715584954343283195 : True := trivial
theorem head.tw7417405269818204032 : True := trivial
theorem head.tw11862927689305589065 : True := trivial
theorem head.tw11194998557105285118 : True := trivial
theorem head.tw16874305072444578374 : True := trivial
theorem head.tw12949380547846470161 : True := trivial
theorem head.tw37620276538422747 : True := trivial
theorem head.tw13086575352542018947 : True := trivial
theorem head.tw13335025841360890868 : True := trivial
theorem head.tw7876399200375917224 : True := trivial
theorem head.tw2529948359932261575 : True := trivial
theorem head.tw1276956409769668328 : True := trivial
theorem head.tw7090939061502383884 : True := trivial
theorem head.tw15204471325056678010 : True := trivial
theorem head.tw12032222614953749359 : True := trivial
theorem head.tw16574969892415616130 : True := trivial
theorem head.tw4607607821588926596 : True := trivial
theorem head.tw4451808723456900091 : True := trivial
theorem head.tw11714945338242495837 : True := trivial
theorem head.tw15253846138512369154 : True := trivial
theorem head.tw12851702773856589430 : True := trivial
theorem head.tw9325057278558614444 : True := trivial
theorem head.tw14679116673082234219 : True := trivial
theorem head.tw14842460003800876886 : True := trivial
theorem head.tw16782820856776367440 : True := trivial
theorem head.tw6772502638888315869 : True := trivial
theorem head.tw13353151263460963528 : True := trivial
theorem head.tw15782939476341012554 : True := trivial
theorem head.tw6247268493268985975 : True := trivial
theorem head.tw7758381527925395934 : True := trivial
theorem head.tw4962877761993032021 : True := trivial
theorem head.tw5319049981483164881 : True := trivial
theorem head.tw13955511503576765797 : True := trivial
theorem head.tw11124748197601291601 : True := trivial
theorem head.tw2491421050496283774 : True := trivial
theorem head.tw14385403278947933607 : True := trivial
theorem head.tw17705092454944307381 : True := trivial
theorem head.tw5593727005144783397 : True := trivial
theorem head.tw17608190574486352970 : True := trivial
theorem head.tw5487235932777146282 : True := trivial
theorem head.tw4311042196063409733 : True := trivial
theorem head.tw6737735255597943219 : True := trivial
theorem head.tw15326552575505426906 : True := trivial
theorem head.tw13180129090757240718 : True := trivial
theorem head.tw807142644699662319 : True := trivial
theorem head.tw1212124681294104184 : True := trivial
theorem head.tw14643560169476415855 : True := trivial
theorem head.tw12680087689736754913 : True := trivial
set_option Elab.async true in
theorem head : PySem.Challenge.rw_uk0025_01.Holds := by
 w_on; o_law; k_head; (case hw => w_witness2)
 exact walk_of (fun _ _ ht _ hd => facts_ok ht hd) (fun _ T => ell_ok T) rfl (fun P h x => In_sub (by kernel_rfl) x)
end Mine
theorem PySem.Challenge.cw_uk0025_01_holds : PySem.Challenge.rw_uk0025_01.Holds :=
 Mine.head
