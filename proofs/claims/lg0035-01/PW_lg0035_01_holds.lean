import PyProof.Rows.All
import Wide.All
import OpenK.AllK
import Wide.FinOn
import PySem.Challenge.RW_lg0035_01
set_option bootstrap.genMatcherCode false
set_option genSizeOf false
section
set_option Elab.async false
namespace Mine
theorem oA {P0 : Prop} {P1 : Prop} {G : Prop} (h : P0 ∧ P1) (k : P0 → P1 → G) : G := k h.1 h.2
theorem oE.{u0} {A0 : Sort u0} {P1 : A0 → Prop} {G : Prop} (h : ∃ x0 : A0, P1 x0) (k : ∀ x0 : A0, P1 x0 → G) : G := Exists.elim h fun x0 h0 => k x0 h0
theorem oAA {P0 : Prop} {P1 : Prop} {P2 : Prop} {G : Prop} (h : P0 ∧ P1 ∧ P2) (k : P0 → P1 → P2 → G) : G := k h.1 h.2.1 h.2.2
theorem oAE.{u1} {A1 : Sort u1} {P0 : Prop} {P2 : A1 → Prop} {G : Prop} (h : P0 ∧ ∃ x1 : A1, P2 x1) (k : P0 → ∀ x1 : A1, P2 x1 → G) : G := Exists.elim h.2 fun x1 h1 => k h.1 x1 h1
theorem oEA.{u0} {A0 : Sort u0} {P1 : A0 → Prop} {P2 : A0 → Prop} {G : Prop} (h : ∃ x0 : A0, P1 x0 ∧ P2 x0) (k : ∀ x0 : A0, P1 x0 → P2 x0 → G) : G := Exists.elim h fun x0 h0 => k x0 h0.1 h0.2
theorem oEE.{u0, u1} {A0 : Sort u0} {A1 : Sort u1} {P2 : A0 → A1 → Prop} {G : Prop} (h : ∃ x0 : A0, ∃ x1 : A1, P2 x0 x1) (k : ∀ x0 : A0, ∀ x1 : A1, P2 x0 x1 → G) : G := Exists.elim h fun x0 h0 => Exists.elim h0 fun x1 h1 => k x0 x1 h1
theorem oAAA {P0 : Prop} {P1 : Prop} {P2 : Prop} {P3 : Prop} {G : Prop} (h : P0 ∧ P1 ∧ P2 ∧ P3) (k : P0 → P1 → P2 → P3 → G) : G := k h.1 h.2.1 h.2.2.1 h.2.2.2
theorem oAEA.{u1} {A1 : Sort u1} {P0 : Prop} {P2 : A1 → Prop} {P3 : A1 → Prop} {G : Prop} (h : P0 ∧ ∃ x1 : A1, P2 x1 ∧ P3 x1) (k : P0 → ∀ x1 : A1, P2 x1 → P3 x1 → G) : G := Exists.elim h.2 fun x1 h1 => k h.1 x1 h1.1 h1.2
theorem oEAA.{u0} {A0 : Sort u0} {P1 : A0 → Prop} {P2 : A0 → Prop} {P3 : A0 → Prop} {G : Prop} (h : ∃ x0 : A0, P1 x0 ∧ P2 x0 ∧ P3 x0) (k : ∀ x0 : A0, P1 x0 → P2 x0 → P3 x0 → G) : G := Exists.elim h fun x0 h0 => k x0 h0.1 h0.2.1 h0.2.2
theorem oEEA.{u0, u1} {A0 : Sort u0} {A1 : Sort u1} {P2 : A0 → A1 → Prop} {P3 : A0 → A1 → Prop} {G : Prop} (h : ∃ x0 : A0, ∃ x1 : A1, P2 x0 x1 ∧ P3 x0 x1) (k : ∀ x0 : A0, ∀ x1 : A1, P2 x0 x1 → P3 x0 x1 → G) : G := Exists.elim h fun x0 h0 => Exists.elim h0 fun x1 h1 => k x0 x1 h1.1 h1.2
theorem oEEE.{u0, u1, u2} {A0 : Sort u0} {A1 : Sort u1} {A2 : Sort u2} {P3 : A0 → A1 → A2 → Prop} {G : Prop} (h : ∃ x0 : A0, ∃ x1 : A1, ∃ x2 : A2, P3 x0 x1 x2) (k : ∀ x0 : A0, ∀ x1 : A1, ∀ x2 : A2, P3 x0 x1 x2 → G) : G := Exists.elim h fun x0 h0 => Exists.elim h0 fun x1 h1 => Exists.elim h1 fun x2 h2 => k x0 x1 x2 h2
theorem oAEAA.{u1} {A1 : Sort u1} {P0 : Prop} {P2 : A1 → Prop} {P3 : A1 → Prop} {P4 : A1 → Prop} {G : Prop} (h : P0 ∧ ∃ x1 : A1, P2 x1 ∧ P3 x1 ∧ P4 x1) (k : P0 → ∀ x1 : A1, P2 x1 → P3 x1 → P4 x1 → G) : G := Exists.elim h.2 fun x1 h1 => k h.1 x1 h1.1 h1.2.1 h1.2.2
theorem oEAAA.{u0} {A0 : Sort u0} {P1 : A0 → Prop} {P2 : A0 → Prop} {P3 : A0 → Prop} {P4 : A0 → Prop} {G : Prop} (h : ∃ x0 : A0, P1 x0 ∧ P2 x0 ∧ P3 x0 ∧ P4 x0) (k : ∀ x0 : A0, P1 x0 → P2 x0 → P3 x0 → P4 x0 → G) : G := Exists.elim h fun x0 h0 => k x0 h0.1 h0.2.1 h0.2.2.1 h0.2.2.2
theorem oEAAE.{u0, u3} {A0 : Sort u0} {A3 : Sort u3} {P1 : A0 → Prop} {P2 : A0 → Prop} {P4 : A0 → A3 → Prop} {G : Prop} (h : ∃ x0 : A0, P1 x0 ∧ P2 x0 ∧ ∃ x3 : A3, P4 x0 x3) (k : ∀ x0 : A0, P1 x0 → P2 x0 → ∀ x3 : A3, P4 x0 x3 → G) : G := Exists.elim h fun x0 h0 => Exists.elim h0.2.2 fun x3 h3 => k x0 h0.1 h0.2.1 x3 h3
theorem oEAEA.{u0, u2} {A0 : Sort u0} {A2 : Sort u2} {P1 : A0 → Prop} {P3 : A0 → A2 → Prop} {P4 : A0 → A2 → Prop} {G : Prop} (h : ∃ x0 : A0, P1 x0 ∧ ∃ x2 : A2, P3 x0 x2 ∧ P4 x0 x2) (k : ∀ x0 : A0, P1 x0 → ∀ x2 : A2, P3 x0 x2 → P4 x0 x2 → G) : G := Exists.elim h fun x0 h0 => Exists.elim h0.2 fun x2 h2 => k x0 h0.1 x2 h2.1 h2.2
theorem oEEAA.{u0, u1} {A0 : Sort u0} {A1 : Sort u1} {P2 : A0 → A1 → Prop} {P3 : A0 → A1 → Prop} {P4 : A0 → A1 → Prop} {G : Prop} (h : ∃ x0 : A0, ∃ x1 : A1, P2 x0 x1 ∧ P3 x0 x1 ∧ P4 x0 x1) (k : ∀ x0 : A0, ∀ x1 : A1, P2 x0 x1 → P3 x0 x1 → P4 x0 x1 → G) : G := Exists.elim h fun x0 h0 => Exists.elim h0 fun x1 h1 => k x0 x1 h1.1 h1.2.1 h1.2.2
theorem oEEEA.{u0, u1, u2} {A0 : Sort u0} {A1 : Sort u1} {A2 : Sort u2} {P3 : A0 → A1 → A2 → Prop} {P4 : A0 → A1 → A2 → Prop} {G : Prop} (h : ∃ x0 : A0, ∃ x1 : A1, ∃ x2 : A2, P3 x0 x1 x2 ∧ P4 x0 x1 x2) (k : ∀ x0 : A0, ∀ x1 : A1, ∀ x2 : A2, P3 x0 x1 x2 → P4 x0 x1 x2 → G) : G := Exists.elim h fun x0 h0 => Exists.elim h0 fun x1 h1 => Exists.elim h1 fun x2 h2 => k x0 x1 x2 h2.1 h2.2
theorem oEEEE.{u0, u1, u2, u3} {A0 : Sort u0} {A1 : Sort u1} {A2 : Sort u2} {A3 : Sort u3} {P4 : A0 → A1 → A2 → A3 → Prop} {G : Prop} (h : ∃ x0 : A0, ∃ x1 : A1, ∃ x2 : A2, ∃ x3 : A3, P4 x0 x1 x2 x3) (k : ∀ x0 : A0, ∀ x1 : A1, ∀ x2 : A2, ∀ x3 : A3, P4 x0 x1 x2 x3 → G) : G := Exists.elim h fun x0 h0 => Exists.elim h0 fun x1 h1 => Exists.elim h1 fun x2 h2 => Exists.elim h2 fun x3 h3 => k x0 x1 x2 x3 h3
theorem oAAAAA {P0 : Prop} {P1 : Prop} {P2 : Prop} {P3 : Prop} {P4 : Prop} {P5 : Prop} {G : Prop} (h : P0 ∧ P1 ∧ P2 ∧ P3 ∧ P4 ∧ P5) (k : P0 → P1 → P2 → P3 → P4 → P5 → G) : G := k h.1 h.2.1 h.2.2.1 h.2.2.2.1 h.2.2.2.2.1 h.2.2.2.2.2
theorem oAEEEA.{u1, u2, u3} {A1 : Sort u1} {A2 : Sort u2} {A3 : Sort u3} {P0 : Prop} {P4 : A1 → A2 → A3 → Prop} {P5 : A1 → A2 → A3 → Prop} {G : Prop} (h : P0 ∧ ∃ x1 : A1, ∃ x2 : A2, ∃ x3 : A3, P4 x1 x2 x3 ∧ P5 x1 x2 x3) (k : P0 → ∀ x1 : A1, ∀ x2 : A2, ∀ x3 : A3, P4 x1 x2 x3 → P5 x1 x2 x3 → G) : G := Exists.elim h.2 fun x1 h1 => Exists.elim h1 fun x2 h2 => Exists.elim h2 fun x3 h3 => k h.1 x1 x2 x3 h3.1 h3.2
theorem oEAAAA.{u0} {A0 : Sort u0} {P1 : A0 → Prop} {P2 : A0 → Prop} {P3 : A0 → Prop} {P4 : A0 → Prop} {P5 : A0 → Prop} {G : Prop} (h : ∃ x0 : A0, P1 x0 ∧ P2 x0 ∧ P3 x0 ∧ P4 x0 ∧ P5 x0) (k : ∀ x0 : A0, P1 x0 → P2 x0 → P3 x0 → P4 x0 → P5 x0 → G) : G := Exists.elim h fun x0 h0 => k x0 h0.1 h0.2.1 h0.2.2.1 h0.2.2.2.1 h0.2.2.2.2
theorem oEAEAA.{u0, u2} {A0 : Sort u0} {A2 : Sort u2} {P1 : A0 → Prop} {P3 : A0 → A2 → Prop} {P4 : A0 → A2 → Prop} {P5 : A0 → A2 → Prop} {G : Prop} (h : ∃ x0 : A0, P1 x0 ∧ ∃ x2 : A2, P3 x0 x2 ∧ P4 x0 x2 ∧ P5 x0 x2) (k : ∀ x0 : A0, P1 x0 → ∀ x2 : A2, P3 x0 x2 → P4 x0 x2 → P5 x0 x2 → G) : G := Exists.elim h fun x0 h0 => Exists.elim h0.2 fun x2 h2 => k x0 h0.1 x2 h2.1 h2.2.1 h2.2.2
theorem oEEAAA.{u0, u1} {A0 : Sort u0} {A1 : Sort u1} {P2 : A0 → A1 → Prop} {P3 : A0 → A1 → Prop} {P4 : A0 → A1 → Prop} {P5 : A0 → A1 → Prop} {G : Prop} (h : ∃ x0 : A0, ∃ x1 : A1, P2 x0 x1 ∧ P3 x0 x1 ∧ P4 x0 x1 ∧ P5 x0 x1) (k : ∀ x0 : A0, ∀ x1 : A1, P2 x0 x1 → P3 x0 x1 → P4 x0 x1 → P5 x0 x1 → G) : G := Exists.elim h fun x0 h0 => Exists.elim h0 fun x1 h1 => k x0 x1 h1.1 h1.2.1 h1.2.2.1 h1.2.2.2
theorem oEEEAA.{u0, u1, u2} {A0 : Sort u0} {A1 : Sort u1} {A2 : Sort u2} {P3 : A0 → A1 → A2 → Prop} {P4 : A0 → A1 → A2 → Prop} {P5 : A0 → A1 → A2 → Prop} {G : Prop} (h : ∃ x0 : A0, ∃ x1 : A1, ∃ x2 : A2, P3 x0 x1 x2 ∧ P4 x0 x1 x2 ∧ P5 x0 x1 x2) (k : ∀ x0 : A0, ∀ x1 : A1, ∀ x2 : A2, P3 x0 x1 x2 → P4 x0 x1 x2 → P5 x0 x1 x2 → G) : G := Exists.elim h fun x0 h0 => Exists.elim h0 fun x1 h1 => Exists.elim h1 fun x2 h2 => k x0 x1 x2 h2.1 h2.2.1 h2.2.2
theorem oEEEEA.{u0, u1, u2, u3} {A0 : Sort u0} {A1 : Sort u1} {A2 : Sort u2} {A3 : Sort u3} {P4 : A0 → A1 → A2 → A3 → Prop} {P5 : A0 → A1 → A2 → A3 → Prop} {G : Prop} (h : ∃ x0 : A0, ∃ x1 : A1, ∃ x2 : A2, ∃ x3 : A3, P4 x0 x1 x2 x3 ∧ P5 x0 x1 x2 x3) (k : ∀ x0 : A0, ∀ x1 : A1, ∀ x2 : A2, ∀ x3 : A3, P4 x0 x1 x2 x3 → P5 x0 x1 x2 x3 → G) : G := Exists.elim h fun x0 h0 => Exists.elim h0 fun x1 h1 => Exists.elim h1 fun x2 h2 => Exists.elim h2 fun x3 h3 => k x0 x1 x2 x3 h3.1 h3.2
theorem oAEAAAA.{u1} {A1 : Sort u1} {P0 : Prop} {P2 : A1 → Prop} {P3 : A1 → Prop} {P4 : A1 → Prop} {P5 : A1 → Prop} {P6 : A1 → Prop} {G : Prop} (h : P0 ∧ ∃ x1 : A1, P2 x1 ∧ P3 x1 ∧ P4 x1 ∧ P5 x1 ∧ P6 x1) (k : P0 → ∀ x1 : A1, P2 x1 → P3 x1 → P4 x1 → P5 x1 → P6 x1 → G) : G := Exists.elim h.2 fun x1 h1 => k h.1 x1 h1.1 h1.2.1 h1.2.2.1 h1.2.2.2.1 h1.2.2.2.2
theorem oEAAAAA.{u0} {A0 : Sort u0} {P1 : A0 → Prop} {P2 : A0 → Prop} {P3 : A0 → Prop} {P4 : A0 → Prop} {P5 : A0 → Prop} {P6 : A0 → Prop} {G : Prop} (h : ∃ x0 : A0, P1 x0 ∧ P2 x0 ∧ P3 x0 ∧ P4 x0 ∧ P5 x0 ∧ P6 x0) (k : ∀ x0 : A0, P1 x0 → P2 x0 → P3 x0 → P4 x0 → P5 x0 → P6 x0 → G) : G := Exists.elim h fun x0 h0 => k x0 h0.1 h0.2.1 h0.2.2.1 h0.2.2.2.1 h0.2.2.2.2.1 h0.2.2.2.2.2
theorem oEAEAAE.{u0, u2, u5} {A0 : Sort u0} {A2 : Sort u2} {A5 : Sort u5} {P1 : A0 → Prop} {P3 : A0 → A2 → Prop} {P4 : A0 → A2 → Prop} {P6 : A0 → A2 → A5 → Prop} {G : Prop} (h : ∃ x0 : A0, P1 x0 ∧ ∃ x2 : A2, P3 x0 x2 ∧ P4 x0 x2 ∧ ∃ x5 : A5, P6 x0 x2 x5) (k : ∀ x0 : A0, P1 x0 → ∀ x2 : A2, P3 x0 x2 → P4 x0 x2 → ∀ x5 : A5, P6 x0 x2 x5 → G) : G := Exists.elim h fun x0 h0 => Exists.elim h0.2 fun x2 h2 => Exists.elim h2.2.2 fun x5 h5 => k x0 h0.1 x2 h2.1 h2.2.1 x5 h5
theorem oEAEEEA.{u0, u2, u3, u4} {A0 : Sort u0} {A2 : Sort u2} {A3 : Sort u3} {A4 : Sort u4} {P1 : A0 → Prop} {P5 : A0 → A2 → A3 → A4 → Prop} {P6 : A0 → A2 → A3 → A4 → Prop} {G : Prop} (h : ∃ x0 : A0, P1 x0 ∧ ∃ x2 : A2, ∃ x3 : A3, ∃ x4 : A4, P5 x0 x2 x3 x4 ∧ P6 x0 x2 x3 x4) (k : ∀ x0 : A0, P1 x0 → ∀ x2 : A2, ∀ x3 : A3, ∀ x4 : A4, P5 x0 x2 x3 x4 → P6 x0 x2 x3 x4 → G) : G := Exists.elim h fun x0 h0 => Exists.elim h0.2 fun x2 h2 => Exists.elim h2 fun x3 h3 => Exists.elim h3 fun x4 h4 => k x0 h0.1 x2 x3 x4 h4.1 h4.2
theorem oEEAAAA.{u0, u1} {A0 : Sort u0} {A1 : Sort u1} {P2 : A0 → A1 → Prop} {P3 : A0 → A1 → Prop} {P4 : A0 → A1 → Prop} {P5 : A0 → A1 → Prop} {P6 : A0 → A1 → Prop} {G : Prop} (h : ∃ x0 : A0, ∃ x1 : A1, P2 x0 x1 ∧ P3 x0 x1 ∧ P4 x0 x1 ∧ P5 x0 x1 ∧ P6 x0 x1) (k : ∀ x0 : A0, ∀ x1 : A1, P2 x0 x1 → P3 x0 x1 → P4 x0 x1 → P5 x0 x1 → P6 x0 x1 → G) : G := Exists.elim h fun x0 h0 => Exists.elim h0 fun x1 h1 => k x0 x1 h1.1 h1.2.1 h1.2.2.1 h1.2.2.2.1 h1.2.2.2.2
theorem oEEEAAA.{u0, u1, u2} {A0 : Sort u0} {A1 : Sort u1} {A2 : Sort u2} {P3 : A0 → A1 → A2 → Prop} {P4 : A0 → A1 → A2 → Prop} {P5 : A0 → A1 → A2 → Prop} {P6 : A0 → A1 → A2 → Prop} {G : Prop} (h : ∃ x0 : A0, ∃ x1 : A1, ∃ x2 : A2, P3 x0 x1 x2 ∧ P4 x0 x1 x2 ∧ P5 x0 x1 x2 ∧ P6 x0 x1 x2) (k : ∀ x0 : A0, ∀ x1 : A1, ∀ x2 : A2, P3 x0 x1 x2 → P4 x0 x1 x2 → P5 x0 x1 x2 → P6 x0 x1 x2 → G) : G := Exists.elim h fun x0 h0 => Exists.elim h0 fun x1 h1 => Exists.elim h1 fun x2 h2 => k x0 x1 x2 h2.1 h2.2.1 h2.2.2.1 h2.2.2.2
theorem oEEEEAA.{u0, u1, u2, u3} {A0 : Sort u0} {A1 : Sort u1} {A2 : Sort u2} {A3 : Sort u3} {P4 : A0 → A1 → A2 → A3 → Prop} {P5 : A0 → A1 → A2 → A3 → Prop} {P6 : A0 → A1 → A2 → A3 → Prop} {G : Prop} (h : ∃ x0 : A0, ∃ x1 : A1, ∃ x2 : A2, ∃ x3 : A3, P4 x0 x1 x2 x3 ∧ P5 x0 x1 x2 x3 ∧ P6 x0 x1 x2 x3) (k : ∀ x0 : A0, ∀ x1 : A1, ∀ x2 : A2, ∀ x3 : A3, P4 x0 x1 x2 x3 → P5 x0 x1 x2 x3 → P6 x0 x1 x2 x3 → G) : G := Exists.elim h fun x0 h0 => Exists.elim h0 fun x1 h1 => Exists.elim h1 fun x2 h2 => Exists.elim h2 fun x3 h3 => k x0 x1 x2 x3 h3.1 h3.2.1 h3.2.2
theorem oEEEEEA.{u0, u1, u2, u3, u4} {A0 : Sort u0} {A1 : Sort u1} {A2 : Sort u2} {A3 : Sort u3} {A4 : Sort u4} {P5 : A0 → A1 → A2 → A3 → A4 → Prop} {P6 : A0 → A1 → A2 → A3 → A4 → Prop} {G : Prop} (h : ∃ x0 : A0, ∃ x1 : A1, ∃ x2 : A2, ∃ x3 : A3, ∃ x4 : A4, P5 x0 x1 x2 x3 x4 ∧ P6 x0 x1 x2 x3 x4) (k : ∀ x0 : A0, ∀ x1 : A1, ∀ x2 : A2, ∀ x3 : A3, ∀ x4 : A4, P5 x0 x1 x2 x3 x4 → P6 x0 x1 x2 x3 x4 → G) : G := Exists.elim h fun x0 h0 => Exists.elim h0 fun x1 h1 => Exists.elim h1 fun x2 h2 => Exists.elim h2 fun x3 h3 => Exists.elim h3 fun x4 h4 => k x0 x1 x2 x3 x4 h4.1 h4.2
theorem oAAEAAAA.{u2} {A2 : Sort u2} {P0 : Prop} {P1 : Prop} {P3 : A2 → Prop} {P4 : A2 → Prop} {P5 : A2 → Prop} {P6 : A2 → Prop} {P7 : A2 → Prop} {G : Prop} (h : P0 ∧ P1 ∧ ∃ x2 : A2, P3 x2 ∧ P4 x2 ∧ P5 x2 ∧ P6 x2 ∧ P7 x2) (k : P0 → P1 → ∀ x2 : A2, P3 x2 → P4 x2 → P5 x2 → P6 x2 → P7 x2 → G) : G := Exists.elim h.2.2 fun x2 h2 => k h.1 h.2.1 x2 h2.1 h2.2.1 h2.2.2.1 h2.2.2.2.1 h2.2.2.2.2
theorem oEAAAAAA.{u0} {A0 : Sort u0} {P1 : A0 → Prop} {P2 : A0 → Prop} {P3 : A0 → Prop} {P4 : A0 → Prop} {P5 : A0 → Prop} {P6 : A0 → Prop} {P7 : A0 → Prop} {G : Prop} (h : ∃ x0 : A0, P1 x0 ∧ P2 x0 ∧ P3 x0 ∧ P4 x0 ∧ P5 x0 ∧ P6 x0 ∧ P7 x0) (k : ∀ x0 : A0, P1 x0 → P2 x0 → P3 x0 → P4 x0 → P5 x0 → P6 x0 → P7 x0 → G) : G := Exists.elim h fun x0 h0 => k x0 h0.1 h0.2.1 h0.2.2.1 h0.2.2.2.1 h0.2.2.2.2.1 h0.2.2.2.2.2.1 h0.2.2.2.2.2.2
theorem oEEAAAAA.{u0, u1} {A0 : Sort u0} {A1 : Sort u1} {P2 : A0 → A1 → Prop} {P3 : A0 → A1 → Prop} {P4 : A0 → A1 → Prop} {P5 : A0 → A1 → Prop} {P6 : A0 → A1 → Prop} {P7 : A0 → A1 → Prop} {G : Prop} (h : ∃ x0 : A0, ∃ x1 : A1, P2 x0 x1 ∧ P3 x0 x1 ∧ P4 x0 x1 ∧ P5 x0 x1 ∧ P6 x0 x1 ∧ P7 x0 x1) (k : ∀ x0 : A0, ∀ x1 : A1, P2 x0 x1 → P3 x0 x1 → P4 x0 x1 → P5 x0 x1 → P6 x0 x1 → P7 x0 x1 → G) : G := Exists.elim h fun x0 h0 => Exists.elim h0 fun x1 h1 => k x0 x1 h1.1 h1.2.1 h1.2.2.1 h1.2.2.2.1 h1.2.2.2.2.1 h1.2.2.2.2.2
theorem oEEEAAAA.{u0, u1, u2} {A0 : Sort u0} {A1 : Sort u1} {A2 : Sort u2} {P3 : A0 → A1 → A2 → Prop} {P4 : A0 → A1 → A2 → Prop} {P5 : A0 → A1 → A2 → Prop} {P6 : A0 → A1 → A2 → Prop} {P7 : A0 → A1 → A2 → Prop} {G : Prop} (h : ∃ x0 : A0, ∃ x1 : A1, ∃ x2 : A2, P3 x0 x1 x2 ∧ P4 x0 x1 x2 ∧ P5 x0 x1 x2 ∧ P6 x0 x1 x2 ∧ P7 x0 x1 x2) (k : ∀ x0 : A0, ∀ x1 : A1, ∀ x2 : A2, P3 x0 x1 x2 → P4 x0 x1 x2 → P5 x0 x1 x2 → P6 x0 x1 x2 → P7 x0 x1 x2 → G) : G := Exists.elim h fun x0 h0 => Exists.elim h0 fun x1 h1 => Exists.elim h1 fun x2 h2 => k x0 x1 x2 h2.1 h2.2.1 h2.2.2.1 h2.2.2.2.1 h2.2.2.2.2
theorem oEEEEAAA.{u0, u1, u2, u3} {A0 : Sort u0} {A1 : Sort u1} {A2 : Sort u2} {A3 : Sort u3} {P4 : A0 → A1 → A2 → A3 → Prop} {P5 : A0 → A1 → A2 → A3 → Prop} {P6 : A0 → A1 → A2 → A3 → Prop} {P7 : A0 → A1 → A2 → A3 → Prop} {G : Prop} (h : ∃ x0 : A0, ∃ x1 : A1, ∃ x2 : A2, ∃ x3 : A3, P4 x0 x1 x2 x3 ∧ P5 x0 x1 x2 x3 ∧ P6 x0 x1 x2 x3 ∧ P7 x0 x1 x2 x3) (k : ∀ x0 : A0, ∀ x1 : A1, ∀ x2 : A2, ∀ x3 : A3, P4 x0 x1 x2 x3 → P5 x0 x1 x2 x3 → P6 x0 x1 x2 x3 → P7 x0 x1 x2 x3 → G) : G := Exists.elim h fun x0 h0 => Exists.elim h0 fun x1 h1 => Exists.elim h1 fun x2 h2 => Exists.elim h2 fun x3 h3 => k x0 x1 x2 x3 h3.1 h3.2.1 h3.2.2.1 h3.2.2.2
theorem oEEEEEAA.{u0, u1, u2, u3, u4} {A0 : Sort u0} {A1 : Sort u1} {A2 : Sort u2} {A3 : Sort u3} {A4 : Sort u4} {P5 : A0 → A1 → A2 → A3 → A4 → Prop} {P6 : A0 → A1 → A2 → A3 → A4 → Prop} {P7 : A0 → A1 → A2 → A3 → A4 → Prop} {G : Prop} (h : ∃ x0 : A0, ∃ x1 : A1, ∃ x2 : A2, ∃ x3 : A3, ∃ x4 : A4, P5 x0 x1 x2 x3 x4 ∧ P6 x0 x1 x2 x3 x4 ∧ P7 x0 x1 x2 x3 x4) (k : ∀ x0 : A0, ∀ x1 : A1, ∀ x2 : A2, ∀ x3 : A3, ∀ x4 : A4, P5 x0 x1 x2 x3 x4 → P6 x0 x1 x2 x3 x4 → P7 x0 x1 x2 x3 x4 → G) : G := Exists.elim h fun x0 h0 => Exists.elim h0 fun x1 h1 => Exists.elim h1 fun x2 h2 => Exists.elim h2 fun x3 h3 => Exists.elim h3 fun x4 h4 => k x0 x1 x2 x3 x4 h4.1 h4.2.1 h4.2.2
theorem oAAAAAEEA.{u5, u6} {A5 : Sort u5} {A6 : Sort u6} {P0 : Prop} {P1 : Prop} {P2 : Prop} {P3 : Prop} {P4 : Prop} {P7 : A5 → A6 → Prop} {P8 : A5 → A6 → Prop} {G : Prop} (h : P0 ∧ P1 ∧ P2 ∧ P3 ∧ P4 ∧ ∃ x5 : A5, ∃ x6 : A6, P7 x5 x6 ∧ P8 x5 x6) (k : P0 → P1 → P2 → P3 → P4 → ∀ x5 : A5, ∀ x6 : A6, P7 x5 x6 → P8 x5 x6 → G) : G := Exists.elim h.2.2.2.2.2 fun x5 h5 => Exists.elim h5 fun x6 h6 => k h.1 h.2.1 h.2.2.1 h.2.2.2.1 h.2.2.2.2.1 x5 x6 h6.1 h6.2
theorem oEEAAEEAA.{u0, u1, u4, u5} {A0 : Sort u0} {A1 : Sort u1} {A4 : Sort u4} {A5 : Sort u5} {P2 : A0 → A1 → Prop} {P3 : A0 → A1 → Prop} {P6 : A0 → A1 → A4 → A5 → Prop} {P7 : A0 → A1 → A4 → A5 → Prop} {P8 : A0 → A1 → A4 → A5 → Prop} {G : Prop} (h : ∃ x0 : A0, ∃ x1 : A1, P2 x0 x1 ∧ P3 x0 x1 ∧ ∃ x4 : A4, ∃ x5 : A5, P6 x0 x1 x4 x5 ∧ P7 x0 x1 x4 x5 ∧ P8 x0 x1 x4 x5) (k : ∀ x0 : A0, ∀ x1 : A1, P2 x0 x1 → P3 x0 x1 → ∀ x4 : A4, ∀ x5 : A5, P6 x0 x1 x4 x5 → P7 x0 x1 x4 x5 → P8 x0 x1 x4 x5 → G) : G := Exists.elim h fun x0 h0 => Exists.elim h0 fun x1 h1 => Exists.elim h1.2.2 fun x4 h4 => Exists.elim h4 fun x5 h5 => k x0 x1 h1.1 h1.2.1 x4 x5 h5.1 h5.2.1 h5.2.2
theorem oEEEAAAEA.{u0, u1, u2, u6} {A0 : Sort u0} {A1 : Sort u1} {A2 : Sort u2} {A6 : Sort u6} {P3 : A0 → A1 → A2 → Prop} {P4 : A0 → A1 → A2 → Prop} {P5 : A0 → A1 → A2 → Prop} {P7 : A0 → A1 → A2 → A6 → Prop} {P8 : A0 → A1 → A2 → A6 → Prop} {G : Prop} (h : ∃ x0 : A0, ∃ x1 : A1, ∃ x2 : A2, P3 x0 x1 x2 ∧ P4 x0 x1 x2 ∧ P5 x0 x1 x2 ∧ ∃ x6 : A6, P7 x0 x1 x2 x6 ∧ P8 x0 x1 x2 x6) (k : ∀ x0 : A0, ∀ x1 : A1, ∀ x2 : A2, P3 x0 x1 x2 → P4 x0 x1 x2 → P5 x0 x1 x2 → ∀ x6 : A6, P7 x0 x1 x2 x6 → P8 x0 x1 x2 x6 → G) : G := Exists.elim h fun x0 h0 => Exists.elim h0 fun x1 h1 => Exists.elim h1 fun x2 h2 => Exists.elim h2.2.2.2 fun x6 h6 => k x0 x1 x2 h2.1 h2.2.1 h2.2.2.1 x6 h6.1 h6.2
theorem oEEEEEAAA.{u0, u1, u2, u3, u4} {A0 : Sort u0} {A1 : Sort u1} {A2 : Sort u2} {A3 : Sort u3} {A4 : Sort u4} {P5 : A0 → A1 → A2 → A3 → A4 → Prop} {P6 : A0 → A1 → A2 → A3 → A4 → Prop} {P7 : A0 → A1 → A2 → A3 → A4 → Prop} {P8 : A0 → A1 → A2 → A3 → A4 → Prop} {G : Prop} (h : ∃ x0 : A0, ∃ x1 : A1, ∃ x2 : A2, ∃ x3 : A3, ∃ x4 : A4, P5 x0 x1 x2 x3 x4 ∧ P6 x0 x1 x2 x3 x4 ∧ P7 x0 x1 x2 x3 x4 ∧ P8 x0 x1 x2 x3 x4) (k : ∀ x0 : A0, ∀ x1 : A1, ∀ x2 : A2, ∀ x3 : A3, ∀ x4 : A4, P5 x0 x1 x2 x3 x4 → P6 x0 x1 x2 x3 x4 → P7 x0 x1 x2 x3 x4 → P8 x0 x1 x2 x3 x4 → G) : G := Exists.elim h fun x0 h0 => Exists.elim h0 fun x1 h1 => Exists.elim h1 fun x2 h2 => Exists.elim h2 fun x3 h3 => Exists.elim h3 fun x4 h4 => k x0 x1 x2 x3 x4 h4.1 h4.2.1 h4.2.2.1 h4.2.2.2
theorem oEEEEEEAA.{u0, u1, u2, u3, u4, u5} {A0 : Sort u0} {A1 : Sort u1} {A2 : Sort u2} {A3 : Sort u3} {A4 : Sort u4} {A5 : Sort u5} {P6 : A0 → A1 → A2 → A3 → A4 → A5 → Prop} {P7 : A0 → A1 → A2 → A3 → A4 → A5 → Prop} {P8 : A0 → A1 → A2 → A3 → A4 → A5 → Prop} {G : Prop} (h : ∃ x0 : A0, ∃ x1 : A1, ∃ x2 : A2, ∃ x3 : A3, ∃ x4 : A4, ∃ x5 : A5, P6 x0 x1 x2 x3 x4 x5 ∧ P7 x0 x1 x2 x3 x4 x5 ∧ P8 x0 x1 x2 x3 x4 x5) (k : ∀ x0 : A0, ∀ x1 : A1, ∀ x2 : A2, ∀ x3 : A3, ∀ x4 : A4, ∀ x5 : A5, P6 x0 x1 x2 x3 x4 x5 → P7 x0 x1 x2 x3 x4 x5 → P8 x0 x1 x2 x3 x4 x5 → G) : G := Exists.elim h fun x0 h0 => Exists.elim h0 fun x1 h1 => Exists.elim h1 fun x2 h2 => Exists.elim h2 fun x3 h3 => Exists.elim h3 fun x4 h4 => Exists.elim h4 fun x5 h5 => k x0 x1 x2 x3 x4 x5 h5.1 h5.2.1 h5.2.2
theorem oEAEEAAAAA.{u0, u2, u3} {A0 : Sort u0} {A2 : Sort u2} {A3 : Sort u3} {P1 : A0 → Prop} {P4 : A0 → A2 → A3 → Prop} {P5 : A0 → A2 → A3 → Prop} {P6 : A0 → A2 → A3 → Prop} {P7 : A0 → A2 → A3 → Prop} {P8 : A0 → A2 → A3 → Prop} {P9 : A0 → A2 → A3 → Prop} {G : Prop} (h : ∃ x0 : A0, P1 x0 ∧ ∃ x2 : A2, ∃ x3 : A3, P4 x0 x2 x3 ∧ P5 x0 x2 x3 ∧ P6 x0 x2 x3 ∧ P7 x0 x2 x3 ∧ P8 x0 x2 x3 ∧ P9 x0 x2 x3) (k : ∀ x0 : A0, P1 x0 → ∀ x2 : A2, ∀ x3 : A3, P4 x0 x2 x3 → P5 x0 x2 x3 → P6 x0 x2 x3 → P7 x0 x2 x3 → P8 x0 x2 x3 → P9 x0 x2 x3 → G) : G := Exists.elim h fun x0 h0 => Exists.elim h0.2 fun x2 h2 => Exists.elim h2 fun x3 h3 => k x0 h0.1 x2 x3 h3.1 h3.2.1 h3.2.2.1 h3.2.2.2.1 h3.2.2.2.2.1 h3.2.2.2.2.2
theorem oEEEAAAAAA.{u0, u1, u2} {A0 : Sort u0} {A1 : Sort u1} {A2 : Sort u2} {P3 : A0 → A1 → A2 → Prop} {P4 : A0 → A1 → A2 → Prop} {P5 : A0 → A1 → A2 → Prop} {P6 : A0 → A1 → A2 → Prop} {P7 : A0 → A1 → A2 → Prop} {P8 : A0 → A1 → A2 → Prop} {P9 : A0 → A1 → A2 → Prop} {G : Prop} (h : ∃ x0 : A0, ∃ x1 : A1, ∃ x2 : A2, P3 x0 x1 x2 ∧ P4 x0 x1 x2 ∧ P5 x0 x1 x2 ∧ P6 x0 x1 x2 ∧ P7 x0 x1 x2 ∧ P8 x0 x1 x2 ∧ P9 x0 x1 x2) (k : ∀ x0 : A0, ∀ x1 : A1, ∀ x2 : A2, P3 x0 x1 x2 → P4 x0 x1 x2 → P5 x0 x1 x2 → P6 x0 x1 x2 → P7 x0 x1 x2 → P8 x0 x1 x2 → P9 x0 x1 x2 → G) : G := Exists.elim h fun x0 h0 => Exists.elim h0 fun x1 h1 => Exists.elim h1 fun x2 h2 => k x0 x1 x2 h2.1 h2.2.1 h2.2.2.1 h2.2.2.2.1 h2.2.2.2.2.1 h2.2.2.2.2.2.1 h2.2.2.2.2.2.2
theorem oEEEEAAAAA.{u0, u1, u2, u3} {A0 : Sort u0} {A1 : Sort u1} {A2 : Sort u2} {A3 : Sort u3} {P4 : A0 → A1 → A2 → A3 → Prop} {P5 : A0 → A1 → A2 → A3 → Prop} {P6 : A0 → A1 → A2 → A3 → Prop} {P7 : A0 → A1 → A2 → A3 → Prop} {P8 : A0 → A1 → A2 → A3 → Prop} {P9 : A0 → A1 → A2 → A3 → Prop} {G : Prop} (h : ∃ x0 : A0, ∃ x1 : A1, ∃ x2 : A2, ∃ x3 : A3, P4 x0 x1 x2 x3 ∧ P5 x0 x1 x2 x3 ∧ P6 x0 x1 x2 x3 ∧ P7 x0 x1 x2 x3 ∧ P8 x0 x1 x2 x3 ∧ P9 x0 x1 x2 x3) (k : ∀ x0 : A0, ∀ x1 : A1, ∀ x2 : A2, ∀ x3 : A3, P4 x0 x1 x2 x3 → P5 x0 x1 x2 x3 → P6 x0 x1 x2 x3 → P7 x0 x1 x2 x3 → P8 x0 x1 x2 x3 → P9 x0 x1 x2 x3 → G) : G := Exists.elim h fun x0 h0 => Exists.elim h0 fun x1 h1 => Exists.elim h1 fun x2 h2 => Exists.elim h2 fun x3 h3 => k x0 x1 x2 x3 h3.1 h3.2.1 h3.2.2.1 h3.2.2.2.1 h3.2.2.2.2.1 h3.2.2.2.2.2
theorem oAAAAAEAAAA.{u5} {A5 : Sort u5} {P0 : Prop} {P1 : Prop} {P2 : Prop} {P3 : Prop} {P4 : Prop} {P6 : A5 → Prop} {P7 : A5 → Prop} {P8 : A5 → Prop} {P9 : A5 → Prop} {P10 : A5 → Prop} {G : Prop} (h : P0 ∧ P1 ∧ P2 ∧ P3 ∧ P4 ∧ ∃ x5 : A5, P6 x5 ∧ P7 x5 ∧ P8 x5 ∧ P9 x5 ∧ P10 x5) (k : P0 → P1 → P2 → P3 → P4 → ∀ x5 : A5, P6 x5 → P7 x5 → P8 x5 → P9 x5 → P10 x5 → G) : G := Exists.elim h.2.2.2.2.2 fun x5 h5 => k h.1 h.2.1 h.2.2.1 h.2.2.2.1 h.2.2.2.2.1 x5 h5.1 h5.2.1 h5.2.2.1 h5.2.2.2.1 h5.2.2.2.2
theorem oEEEAAAAAAA.{u0, u1, u2} {A0 : Sort u0} {A1 : Sort u1} {A2 : Sort u2} {P3 : A0 → A1 → A2 → Prop} {P4 : A0 → A1 → A2 → Prop} {P5 : A0 → A1 → A2 → Prop} {P6 : A0 → A1 → A2 → Prop} {P7 : A0 → A1 → A2 → Prop} {P8 : A0 → A1 → A2 → Prop} {P9 : A0 → A1 → A2 → Prop} {P10 : A0 → A1 → A2 → Prop} {G : Prop} (h : ∃ x0 : A0, ∃ x1 : A1, ∃ x2 : A2, P3 x0 x1 x2 ∧ P4 x0 x1 x2 ∧ P5 x0 x1 x2 ∧ P6 x0 x1 x2 ∧ P7 x0 x1 x2 ∧ P8 x0 x1 x2 ∧ P9 x0 x1 x2 ∧ P10 x0 x1 x2) (k : ∀ x0 : A0, ∀ x1 : A1, ∀ x2 : A2, P3 x0 x1 x2 → P4 x0 x1 x2 → P5 x0 x1 x2 → P6 x0 x1 x2 → P7 x0 x1 x2 → P8 x0 x1 x2 → P9 x0 x1 x2 → P10 x0 x1 x2 → G) : G := Exists.elim h fun x0 h0 => Exists.elim h0 fun x1 h1 => Exists.elim h1 fun x2 h2 => k x0 x1 x2 h2.1 h2.2.1 h2.2.2.1 h2.2.2.2.1 h2.2.2.2.2.1 h2.2.2.2.2.2.1 h2.2.2.2.2.2.2.1 h2.2.2.2.2.2.2.2
theorem oEEEEAAAAAA.{u0, u1, u2, u3} {A0 : Sort u0} {A1 : Sort u1} {A2 : Sort u2} {A3 : Sort u3} {P4 : A0 → A1 → A2 → A3 → Prop} {P5 : A0 → A1 → A2 → A3 → Prop} {P6 : A0 → A1 → A2 → A3 → Prop} {P7 : A0 → A1 → A2 → A3 → Prop} {P8 : A0 → A1 → A2 → A3 → Prop} {P9 : A0 → A1 → A2 → A3 → Prop} {P10 : A0 → A1 → A2 → A3 → Prop} {G : Prop} (h : ∃ x0 : A0, ∃ x1 : A1, ∃ x2 : A2, ∃ x3 : A3, P4 x0 x1 x2 x3 ∧ P5 x0 x1 x2 x3 ∧ P6 x0 x1 x2 x3 ∧ P7 x0 x1 x2 x3 ∧ P8 x0 x1 x2 x3 ∧ P9 x0 x1 x2 x3 ∧ P10 x0 x1 x2 x3) (k : ∀ x0 : A0, ∀ x1 : A1, ∀ x2 : A2, ∀ x3 : A3, P4 x0 x1 x2 x3 → P5 x0 x1 x2 x3 → P6 x0 x1 x2 x3 → P7 x0 x1 x2 x3 → P8 x0 x1 x2 x3 → P9 x0 x1 x2 x3 → P10 x0 x1 x2 x3 → G) : G := Exists.elim h fun x0 h0 => Exists.elim h0 fun x1 h1 => Exists.elim h1 fun x2 h2 => Exists.elim h2 fun x3 h3 => k x0 x1 x2 x3 h3.1 h3.2.1 h3.2.2.1 h3.2.2.2.1 h3.2.2.2.2.1 h3.2.2.2.2.2.1 h3.2.2.2.2.2.2
theorem oEEEEEAAAAA.{u0, u1, u2, u3, u4} {A0 : Sort u0} {A1 : Sort u1} {A2 : Sort u2} {A3 : Sort u3} {A4 : Sort u4} {P5 : A0 → A1 → A2 → A3 → A4 → Prop} {P6 : A0 → A1 → A2 → A3 → A4 → Prop} {P7 : A0 → A1 → A2 → A3 → A4 → Prop} {P8 : A0 → A1 → A2 → A3 → A4 → Prop} {P9 : A0 → A1 → A2 → A3 → A4 → Prop} {P10 : A0 → A1 → A2 → A3 → A4 → Prop} {G : Prop} (h : ∃ x0 : A0, ∃ x1 : A1, ∃ x2 : A2, ∃ x3 : A3, ∃ x4 : A4, P5 x0 x1 x2 x3 x4 ∧ P6 x0 x1 x2 x3 x4 ∧ P7 x0 x1 x2 x3 x4 ∧ P8 x0 x1 x2 x3 x4 ∧ P9 x0 x1 x2 x3 x4 ∧ P10 x0 x1 x2 x3 x4) (k : ∀ x0 : A0, ∀ x1 : A1, ∀ x2 : A2, ∀ x3 : A3, ∀ x4 : A4, P5 x0 x1 x2 x3 x4 → P6 x0 x1 x2 x3 x4 → P7 x0 x1 x2 x3 x4 → P8 x0 x1 x2 x3 x4 → P9 x0 x1 x2 x3 x4 → P10 x0 x1 x2 x3 x4 → G) : G := Exists.elim h fun x0 h0 => Exists.elim h0 fun x1 h1 => Exists.elim h1 fun x2 h2 => Exists.elim h2 fun x3 h3 => Exists.elim h3 fun x4 h4 => k x0 x1 x2 x3 x4 h4.1 h4.2.1 h4.2.2.1 h4.2.2.2.1 h4.2.2.2.2.1 h4.2.2.2.2.2
theorem oEEEEEEEEEA.{u0, u1, u2, u3, u4, u5, u6, u7, u8} {A0 : Sort u0} {A1 : Sort u1} {A2 : Sort u2} {A3 : Sort u3} {A4 : Sort u4} {A5 : Sort u5} {A6 : Sort u6} {A7 : Sort u7} {A8 : Sort u8} {P9 : A0 → A1 → A2 → A3 → A4 → A5 → A6 → A7 → A8 → Prop} {P10 : A0 → A1 → A2 → A3 → A4 → A5 → A6 → A7 → A8 → Prop} {G : Prop} (h : ∃ x0 : A0, ∃ x1 : A1, ∃ x2 : A2, ∃ x3 : A3, ∃ x4 : A4, ∃ x5 : A5, ∃ x6 : A6, ∃ x7 : A7, ∃ x8 : A8, P9 x0 x1 x2 x3 x4 x5 x6 x7 x8 ∧ P10 x0 x1 x2 x3 x4 x5 x6 x7 x8) (k : ∀ x0 : A0, ∀ x1 : A1, ∀ x2 : A2, ∀ x3 : A3, ∀ x4 : A4, ∀ x5 : A5, ∀ x6 : A6, ∀ x7 : A7, ∀ x8 : A8, P9 x0 x1 x2 x3 x4 x5 x6 x7 x8 → P10 x0 x1 x2 x3 x4 x5 x6 x7 x8 → G) : G := Exists.elim h fun x0 h0 => Exists.elim h0 fun x1 h1 => Exists.elim h1 fun x2 h2 => Exists.elim h2 fun x3 h3 => Exists.elim h3 fun x4 h4 => Exists.elim h4 fun x5 h5 => Exists.elim h5 fun x6 h6 => Exists.elim h6 fun x7 h7 => Exists.elim h7 fun x8 h8 => k x0 x1 x2 x3 x4 x5 x6 x7 x8 h8.1 h8.2
theorem oAAEEEEAAAAA.{u2, u3, u4, u5} {A2 : Sort u2} {A3 : Sort u3} {A4 : Sort u4} {A5 : Sort u5} {P0 : Prop} {P1 : Prop} {P6 : A2 → A3 → A4 → A5 → Prop} {P7 : A2 → A3 → A4 → A5 → Prop} {P8 : A2 → A3 → A4 → A5 → Prop} {P9 : A2 → A3 → A4 → A5 → Prop} {P10 : A2 → A3 → A4 → A5 → Prop} {P11 : A2 → A3 → A4 → A5 → Prop} {G : Prop} (h : P0 ∧ P1 ∧ ∃ x2 : A2, ∃ x3 : A3, ∃ x4 : A4, ∃ x5 : A5, P6 x2 x3 x4 x5 ∧ P7 x2 x3 x4 x5 ∧ P8 x2 x3 x4 x5 ∧ P9 x2 x3 x4 x5 ∧ P10 x2 x3 x4 x5 ∧ P11 x2 x3 x4 x5) (k : P0 → P1 → ∀ x2 : A2, ∀ x3 : A3, ∀ x4 : A4, ∀ x5 : A5, P6 x2 x3 x4 x5 → P7 x2 x3 x4 x5 → P8 x2 x3 x4 x5 → P9 x2 x3 x4 x5 → P10 x2 x3 x4 x5 → P11 x2 x3 x4 x5 → G) : G := Exists.elim h.2.2 fun x2 h2 => Exists.elim h2 fun x3 h3 => Exists.elim h3 fun x4 h4 => Exists.elim h4 fun x5 h5 => k h.1 h.2.1 x2 x3 x4 x5 h5.1 h5.2.1 h5.2.2.1 h5.2.2.2.1 h5.2.2.2.2.1 h5.2.2.2.2.2
theorem oEEAAEEAAEEAA.{u0, u1, u4, u5, u8, u9} {A0 : Sort u0} {A1 : Sort u1} {A4 : Sort u4} {A5 : Sort u5} {A8 : Sort u8} {A9 : Sort u9} {P2 : A0 → A1 → Prop} {P3 : A0 → A1 → Prop} {P6 : A0 → A1 → A4 → A5 → Prop} {P7 : A0 → A1 → A4 → A5 → Prop} {P10 : A0 → A1 → A4 → A5 → A8 → A9 → Prop} {P11 : A0 → A1 → A4 → A5 → A8 → A9 → Prop} {P12 : A0 → A1 → A4 → A5 → A8 → A9 → Prop} {G : Prop} (h : ∃ x0 : A0, ∃ x1 : A1, P2 x0 x1 ∧ P3 x0 x1 ∧ ∃ x4 : A4, ∃ x5 : A5, P6 x0 x1 x4 x5 ∧ P7 x0 x1 x4 x5 ∧ ∃ x8 : A8, ∃ x9 : A9, P10 x0 x1 x4 x5 x8 x9 ∧ P11 x0 x1 x4 x5 x8 x9 ∧ P12 x0 x1 x4 x5 x8 x9) (k : ∀ x0 : A0, ∀ x1 : A1, P2 x0 x1 → P3 x0 x1 → ∀ x4 : A4, ∀ x5 : A5, P6 x0 x1 x4 x5 → P7 x0 x1 x4 x5 → ∀ x8 : A8, ∀ x9 : A9, P10 x0 x1 x4 x5 x8 x9 → P11 x0 x1 x4 x5 x8 x9 → P12 x0 x1 x4 x5 x8 x9 → G) : G := Exists.elim h fun x0 h0 => Exists.elim h0 fun x1 h1 => Exists.elim h1.2.2 fun x4 h4 => Exists.elim h4 fun x5 h5 => Exists.elim h5.2.2 fun x8 h8 => Exists.elim h8 fun x9 h9 => k x0 x1 h1.1 h1.2.1 x4 x5 h5.1 h5.2.1 x8 x9 h9.1 h9.2.1 h9.2.2
theorem oEEEEEEEEEEAA.{u0, u1, u2, u3, u4, u5, u6, u7, u8, u9} {A0 : Sort u0} {A1 : Sort u1} {A2 : Sort u2} {A3 : Sort u3} {A4 : Sort u4} {A5 : Sort u5} {A6 : Sort u6} {A7 : Sort u7} {A8 : Sort u8} {A9 : Sort u9} {P10 : A0 → A1 → A2 → A3 → A4 → A5 → A6 → A7 → A8 → A9 → Prop} {P11 : A0 → A1 → A2 → A3 → A4 → A5 → A6 → A7 → A8 → A9 → Prop} {P12 : A0 → A1 → A2 → A3 → A4 → A5 → A6 → A7 → A8 → A9 → Prop} {G : Prop} (h : ∃ x0 : A0, ∃ x1 : A1, ∃ x2 : A2, ∃ x3 : A3, ∃ x4 : A4, ∃ x5 : A5, ∃ x6 : A6, ∃ x7 : A7, ∃ x8 : A8, ∃ x9 : A9, P10 x0 x1 x2 x3 x4 x5 x6 x7 x8 x9 ∧ P11 x0 x1 x2 x3 x4 x5 x6 x7 x8 x9 ∧ P12 x0 x1 x2 x3 x4 x5 x6 x7 x8 x9) (k : ∀ x0 : A0, ∀ x1 : A1, ∀ x2 : A2, ∀ x3 : A3, ∀ x4 : A4, ∀ x5 : A5, ∀ x6 : A6, ∀ x7 : A7, ∀ x8 : A8, ∀ x9 : A9, P10 x0 x1 x2 x3 x4 x5 x6 x7 x8 x9 → P11 x0 x1 x2 x3 x4 x5 x6 x7 x8 x9 → P12 x0 x1 x2 x3 x4 x5 x6 x7 x8 x9 → G) : G := Exists.elim h fun x0 h0 => Exists.elim h0 fun x1 h1 => Exists.elim h1 fun x2 h2 => Exists.elim h2 fun x3 h3 => Exists.elim h3 fun x4 h4 => Exists.elim h4 fun x5 h5 => Exists.elim h5 fun x6 h6 => Exists.elim h6 fun x7 h7 => Exists.elim h7 fun x8 h8 => Exists.elim h8 fun x9 h9 => k x0 x1 x2 x3 x4 x5 x6 x7 x8 x9 h9.1 h9.2.1 h9.2.2
theorem oEEEEEAAAAAAAA.{u0, u1, u2, u3, u4} {A0 : Sort u0} {A1 : Sort u1} {A2 : Sort u2} {A3 : Sort u3} {A4 : Sort u4} {P5 : A0 → A1 → A2 → A3 → A4 → Prop} {P6 : A0 → A1 → A2 → A3 → A4 → Prop} {P7 : A0 → A1 → A2 → A3 → A4 → Prop} {P8 : A0 → A1 → A2 → A3 → A4 → Prop} {P9 : A0 → A1 → A2 → A3 → A4 → Prop} {P10 : A0 → A1 → A2 → A3 → A4 → Prop} {P11 : A0 → A1 → A2 → A3 → A4 → Prop} {P12 : A0 → A1 → A2 → A3 → A4 → Prop} {P13 : A0 → A1 → A2 → A3 → A4 → Prop} {G : Prop} (h : ∃ x0 : A0, ∃ x1 : A1, ∃ x2 : A2, ∃ x3 : A3, ∃ x4 : A4, P5 x0 x1 x2 x3 x4 ∧ P6 x0 x1 x2 x3 x4 ∧ P7 x0 x1 x2 x3 x4 ∧ P8 x0 x1 x2 x3 x4 ∧ P9 x0 x1 x2 x3 x4 ∧ P10 x0 x1 x2 x3 x4 ∧ P11 x0 x1 x2 x3 x4 ∧ P12 x0 x1 x2 x3 x4 ∧ P13 x0 x1 x2 x3 x4) (k : ∀ x0 : A0, ∀ x1 : A1, ∀ x2 : A2, ∀ x3 : A3, ∀ x4 : A4, P5 x0 x1 x2 x3 x4 → P6 x0 x1 x2 x3 x4 → P7 x0 x1 x2 x3 x4 → P8 x0 x1 x2 x3 x4 → P9 x0 x1 x2 x3 x4 → P10 x0 x1 x2 x3 x4 → P11 x0 x1 x2 x3 x4 → P12 x0 x1 x2 x3 x4 → P13 x0 x1 x2 x3 x4 → G) : G := Exists.elim h fun x0 h0 => Exists.elim h0 fun x1 h1 => Exists.elim h1 fun x2 h2 => Exists.elim h2 fun x3 h3 => Exists.elim h3 fun x4 h4 => k x0 x1 x2 x3 x4 h4.1 h4.2.1 h4.2.2.1 h4.2.2.2.1 h4.2.2.2.2.1 h4.2.2.2.2.2.1 h4.2.2.2.2.2.2.1 h4.2.2.2.2.2.2.2.1 h4.2.2.2.2.2.2.2.2
theorem oEEEEEEEEEAAAA.{u0, u1, u2, u3, u4, u5, u6, u7, u8} {A0 : Sort u0} {A1 : Sort u1} {A2 : Sort u2} {A3 : Sort u3} {A4 : Sort u4} {A5 : Sort u5} {A6 : Sort u6} {A7 : Sort u7} {A8 : Sort u8} {P9 : A0 → A1 → A2 → A3 → A4 → A5 → A6 → A7 → A8 → Prop} {P10 : A0 → A1 → A2 → A3 → A4 → A5 → A6 → A7 → A8 → Prop} {P11 : A0 → A1 → A2 → A3 → A4 → A5 → A6 → A7 → A8 → Prop} {P12 : A0 → A1 → A2 → A3 → A4 → A5 → A6 → A7 → A8 → Prop} {P13 : A0 → A1 → A2 → A3 → A4 → A5 → A6 → A7 → A8 → Prop} {G : Prop} (h : ∃ x0 : A0, ∃ x1 : A1, ∃ x2 : A2, ∃ x3 : A3, ∃ x4 : A4, ∃ x5 : A5, ∃ x6 : A6, ∃ x7 : A7, ∃ x8 : A8, P9 x0 x1 x2 x3 x4 x5 x6 x7 x8 ∧ P10 x0 x1 x2 x3 x4 x5 x6 x7 x8 ∧ P11 x0 x1 x2 x3 x4 x5 x6 x7 x8 ∧ P12 x0 x1 x2 x3 x4 x5 x6 x7 x8 ∧ P13 x0 x1 x2 x3 x4 x5 x6 x7 x8) (k : ∀ x0 : A0, ∀ x1 : A1, ∀ x2 : A2, ∀ x3 : A3, ∀ x4 : A4, ∀ x5 : A5, ∀ x6 : A6, ∀ x7 : A7, ∀ x8 : A8, P9 x0 x1 x2 x3 x4 x5 x6 x7 x8 → P10 x0 x1 x2 x3 x4 x5 x6 x7 x8 → P11 x0 x1 x2 x3 x4 x5 x6 x7 x8 → P12 x0 x1 x2 x3 x4 x5 x6 x7 x8 → P13 x0 x1 x2 x3 x4 x5 x6 x7 x8 → G) : G := Exists.elim h fun x0 h0 => Exists.elim h0 fun x1 h1 => Exists.elim h1 fun x2 h2 => Exists.elim h2 fun x3 h3 => Exists.elim h3 fun x4 h4 => Exists.elim h4 fun x5 h5 => Exists.elim h5 fun x6 h6 => Exists.elim h6 fun x7 h7 => Exists.elim h7 fun x8 h8 => k x0 x1 x2 x3 x4 x5 x6 x7 x8 h8.1 h8.2.1 h8.2.2.1 h8.2.2.2.1 h8.2.2.2.2
theorem oEEAAEEAAEEAAEEAA.{u0, u1, u4, u5, u8, u9, u12, u13} {A0 : Sort u0} {A1 : Sort u1} {A4 : Sort u4} {A5 : Sort u5} {A8 : Sort u8} {A9 : Sort u9} {A12 : Sort u12} {A13 : Sort u13} {P2 : A0 → A1 → Prop} {P3 : A0 → A1 → Prop} {P6 : A0 → A1 → A4 → A5 → Prop} {P7 : A0 → A1 → A4 → A5 → Prop} {P10 : A0 → A1 → A4 → A5 → A8 → A9 → Prop} {P11 : A0 → A1 → A4 → A5 → A8 → A9 → Prop} {P14 : A0 → A1 → A4 → A5 → A8 → A9 → A12 → A13 → Prop} {P15 : A0 → A1 → A4 → A5 → A8 → A9 → A12 → A13 → Prop} {P16 : A0 → A1 → A4 → A5 → A8 → A9 → A12 → A13 → Prop} {G : Prop} (h : ∃ x0 : A0, ∃ x1 : A1, P2 x0 x1 ∧ P3 x0 x1 ∧ ∃ x4 : A4, ∃ x5 : A5, P6 x0 x1 x4 x5 ∧ P7 x0 x1 x4 x5 ∧ ∃ x8 : A8, ∃ x9 : A9, P10 x0 x1 x4 x5 x8 x9 ∧ P11 x0 x1 x4 x5 x8 x9 ∧ ∃ x12 : A12, ∃ x13 : A13, P14 x0 x1 x4 x5 x8 x9 x12 x13 ∧ P15 x0 x1 x4 x5 x8 x9 x12 x13 ∧ P16 x0 x1 x4 x5 x8 x9 x12 x13) (k : ∀ x0 : A0, ∀ x1 : A1, P2 x0 x1 → P3 x0 x1 → ∀ x4 : A4, ∀ x5 : A5, P6 x0 x1 x4 x5 → P7 x0 x1 x4 x5 → ∀ x8 : A8, ∀ x9 : A9, P10 x0 x1 x4 x5 x8 x9 → P11 x0 x1 x4 x5 x8 x9 → ∀ x12 : A12, ∀ x13 : A13, P14 x0 x1 x4 x5 x8 x9 x12 x13 → P15 x0 x1 x4 x5 x8 x9 x12 x13 → P16 x0 x1 x4 x5 x8 x9 x12 x13 → G) : G := Exists.elim h fun x0 h0 => Exists.elim h0 fun x1 h1 => Exists.elim h1.2.2 fun x4 h4 => Exists.elim h4 fun x5 h5 => Exists.elim h5.2.2 fun x8 h8 => Exists.elim h8 fun x9 h9 => Exists.elim h9.2.2 fun x12 h12 => Exists.elim h12 fun x13 h13 => k x0 x1 h1.1 h1.2.1 x4 x5 h5.1 h5.2.1 x8 x9 h9.1 h9.2.1 x12 x13 h13.1 h13.2.1 h13.2.2
theorem oEEEEEEEEEEAAAAAA.{u0, u1, u2, u3, u4, u5, u6, u7, u8, u9} {A0 : Sort u0} {A1 : Sort u1} {A2 : Sort u2} {A3 : Sort u3} {A4 : Sort u4} {A5 : Sort u5} {A6 : Sort u6} {A7 : Sort u7} {A8 : Sort u8} {A9 : Sort u9} {P10 : A0 → A1 → A2 → A3 → A4 → A5 → A6 → A7 → A8 → A9 → Prop} {P11 : A0 → A1 → A2 → A3 → A4 → A5 → A6 → A7 → A8 → A9 → Prop} {P12 : A0 → A1 → A2 → A3 → A4 → A5 → A6 → A7 → A8 → A9 → Prop} {P13 : A0 → A1 → A2 → A3 → A4 → A5 → A6 → A7 → A8 → A9 → Prop} {P14 : A0 → A1 → A2 → A3 → A4 → A5 → A6 → A7 → A8 → A9 → Prop} {P15 : A0 → A1 → A2 → A3 → A4 → A5 → A6 → A7 → A8 → A9 → Prop} {P16 : A0 → A1 → A2 → A3 → A4 → A5 → A6 → A7 → A8 → A9 → Prop} {G : Prop} (h : ∃ x0 : A0, ∃ x1 : A1, ∃ x2 : A2, ∃ x3 : A3, ∃ x4 : A4, ∃ x5 : A5, ∃ x6 : A6, ∃ x7 : A7, ∃ x8 : A8, ∃ x9 : A9, P10 x0 x1 x2 x3 x4 x5 x6 x7 x8 x9 ∧ P11 x0 x1 x2 x3 x4 x5 x6 x7 x8 x9 ∧ P12 x0 x1 x2 x3 x4 x5 x6 x7 x8 x9 ∧ P13 x0 x1 x2 x3 x4 x5 x6 x7 x8 x9 ∧ P14 x0 x1 x2 x3 x4 x5 x6 x7 x8 x9 ∧ P15 x0 x1 x2 x3 x4 x5 x6 x7 x8 x9 ∧ P16 x0 x1 x2 x3 x4 x5 x6 x7 x8 x9) (k : ∀ x0 : A0, ∀ x1 : A1, ∀ x2 : A2, ∀ x3 : A3, ∀ x4 : A4, ∀ x5 : A5, ∀ x6 : A6, ∀ x7 : A7, ∀ x8 : A8, ∀ x9 : A9, P10 x0 x1 x2 x3 x4 x5 x6 x7 x8 x9 → P11 x0 x1 x2 x3 x4 x5 x6 x7 x8 x9 → P12 x0 x1 x2 x3 x4 x5 x6 x7 x8 x9 → P13 x0 x1 x2 x3 x4 x5 x6 x7 x8 x9 → P14 x0 x1 x2 x3 x4 x5 x6 x7 x8 x9 → P15 x0 x1 x2 x3 x4 x5 x6 x7 x8 x9 → P16 x0 x1 x2 x3 x4 x5 x6 x7 x8 x9 → G) : G := Exists.elim h fun x0 h0 => Exists.elim h0 fun x1 h1 => Exists.elim h1 fun x2 h2 => Exists.elim h2 fun x3 h3 => Exists.elim h3 fun x4 h4 => Exists.elim h4 fun x5 h5 => Exists.elim h5 fun x6 h6 => Exists.elim h6 fun x7 h7 => Exists.elim h7 fun x8 h8 => Exists.elim h8 fun x9 h9 => k x0 x1 x2 x3 x4 x5 x6 x7 x8 x9 h9.1 h9.2.1 h9.2.2.1 h9.2.2.2.1 h9.2.2.2.2.1 h9.2.2.2.2.2.1 h9.2.2.2.2.2.2
theorem oEEEEEEEEEAAAAAAAAA.{u0, u1, u2, u3, u4, u5, u6, u7, u8} {A0 : Sort u0} {A1 : Sort u1} {A2 : Sort u2} {A3 : Sort u3} {A4 : Sort u4} {A5 : Sort u5} {A6 : Sort u6} {A7 : Sort u7} {A8 : Sort u8} {P9 : A0 → A1 → A2 → A3 → A4 → A5 → A6 → A7 → A8 → Prop} {P10 : A0 → A1 → A2 → A3 → A4 → A5 → A6 → A7 → A8 → Prop} {P11 : A0 → A1 → A2 → A3 → A4 → A5 → A6 → A7 → A8 → Prop} {P12 : A0 → A1 → A2 → A3 → A4 → A5 → A6 → A7 → A8 → Prop} {P13 : A0 → A1 → A2 → A3 → A4 → A5 → A6 → A7 → A8 → Prop} {P14 : A0 → A1 → A2 → A3 → A4 → A5 → A6 → A7 → A8 → Prop} {P15 : A0 → A1 → A2 → A3 → A4 → A5 → A6 → A7 → A8 → Prop} {P16 : A0 → A1 → A2 → A3 → A4 → A5 → A6 → A7 → A8 → Prop} {P17 : A0 → A1 → A2 → A3 → A4 → A5 → A6 → A7 → A8 → Prop} {P18 : A0 → A1 → A2 → A3 → A4 → A5 → A6 → A7 → A8 → Prop} {G : Prop} (h : ∃ x0 : A0, ∃ x1 : A1, ∃ x2 : A2, ∃ x3 : A3, ∃ x4 : A4, ∃ x5 : A5, ∃ x6 : A6, ∃ x7 : A7, ∃ x8 : A8, P9 x0 x1 x2 x3 x4 x5 x6 x7 x8 ∧ P10 x0 x1 x2 x3 x4 x5 x6 x7 x8 ∧ P11 x0 x1 x2 x3 x4 x5 x6 x7 x8 ∧ P12 x0 x1 x2 x3 x4 x5 x6 x7 x8 ∧ P13 x0 x1 x2 x3 x4 x5 x6 x7 x8 ∧ P14 x0 x1 x2 x3 x4 x5 x6 x7 x8 ∧ P15 x0 x1 x2 x3 x4 x5 x6 x7 x8 ∧ P16 x0 x1 x2 x3 x4 x5 x6 x7 x8 ∧ P17 x0 x1 x2 x3 x4 x5 x6 x7 x8 ∧ P18 x0 x1 x2 x3 x4 x5 x6 x7 x8) (k : ∀ x0 : A0, ∀ x1 : A1, ∀ x2 : A2, ∀ x3 : A3, ∀ x4 : A4, ∀ x5 : A5, ∀ x6 : A6, ∀ x7 : A7, ∀ x8 : A8, P9 x0 x1 x2 x3 x4 x5 x6 x7 x8 → P10 x0 x1 x2 x3 x4 x5 x6 x7 x8 → P11 x0 x1 x2 x3 x4 x5 x6 x7 x8 → P12 x0 x1 x2 x3 x4 x5 x6 x7 x8 → P13 x0 x1 x2 x3 x4 x5 x6 x7 x8 → P14 x0 x1 x2 x3 x4 x5 x6 x7 x8 → P15 x0 x1 x2 x3 x4 x5 x6 x7 x8 → P16 x0 x1 x2 x3 x4 x5 x6 x7 x8 → P17 x0 x1 x2 x3 x4 x5 x6 x7 x8 → P18 x0 x1 x2 x3 x4 x5 x6 x7 x8 → G) : G := Exists.elim h fun x0 h0 => Exists.elim h0 fun x1 h1 => Exists.elim h1 fun x2 h2 => Exists.elim h2 fun x3 h3 => Exists.elim h3 fun x4 h4 => Exists.elim h4 fun x5 h5 => Exists.elim h5 fun x6 h6 => Exists.elim h6 fun x7 h7 => Exists.elim h7 fun x8 h8 => k x0 x1 x2 x3 x4 x5 x6 x7 x8 h8.1 h8.2.1 h8.2.2.1 h8.2.2.2.1 h8.2.2.2.2.1 h8.2.2.2.2.2.1 h8.2.2.2.2.2.2.1 h8.2.2.2.2.2.2.2.1 h8.2.2.2.2.2.2.2.2.1 h8.2.2.2.2.2.2.2.2.2
theorem iAE.{u1} {A1 : Sort u1} {P0 : Prop} {P2 : A1 → Prop} (h0 : P0) (x1 : A1) (h2 : P2 x1) : P0 ∧ ∃ x1 : A1, P2 x1 := ⟨h0, x1, h2⟩
theorem iEA.{u0} {A0 : Sort u0} {P1 : A0 → Prop} {P2 : A0 → Prop} (x0 : A0) (h1 : P1 x0) (h2 : P2 x0) : ∃ x0 : A0, P1 x0 ∧ P2 x0 := ⟨x0, h1, h2⟩
theorem iEE.{u0, u1} {A0 : Sort u0} {A1 : Sort u1} {P2 : A0 → A1 → Prop} (x0 : A0) (x1 : A1) (h2 : P2 x0 x1) : ∃ x0 : A0, ∃ x1 : A1, P2 x0 x1 := ⟨x0, x1, h2⟩
theorem iAAE.{u2} {A2 : Sort u2} {P0 : Prop} {P1 : Prop} {P3 : A2 → Prop} (h0 : P0) (h1 : P1) (x2 : A2) (h3 : P3 x2) : P0 ∧ P1 ∧ ∃ x2 : A2, P3 x2 := ⟨h0, h1, x2, h3⟩
theorem iAEA.{u1} {A1 : Sort u1} {P0 : Prop} {P2 : A1 → Prop} {P3 : A1 → Prop} (h0 : P0) (x1 : A1) (h2 : P2 x1) (h3 : P3 x1) : P0 ∧ ∃ x1 : A1, P2 x1 ∧ P3 x1 := ⟨h0, x1, h2, h3⟩
theorem iEAA.{u0} {A0 : Sort u0} {P1 : A0 → Prop} {P2 : A0 → Prop} {P3 : A0 → Prop} (x0 : A0) (h1 : P1 x0) (h2 : P2 x0) (h3 : P3 x0) : ∃ x0 : A0, P1 x0 ∧ P2 x0 ∧ P3 x0 := ⟨x0, h1, h2, h3⟩
theorem iEEA.{u0, u1} {A0 : Sort u0} {A1 : Sort u1} {P2 : A0 → A1 → Prop} {P3 : A0 → A1 → Prop} (x0 : A0) (x1 : A1) (h2 : P2 x0 x1) (h3 : P3 x0 x1) : ∃ x0 : A0, ∃ x1 : A1, P2 x0 x1 ∧ P3 x0 x1 := ⟨x0, x1, h2, h3⟩
theorem iEEE.{u0, u1, u2} {A0 : Sort u0} {A1 : Sort u1} {A2 : Sort u2} {P3 : A0 → A1 → A2 → Prop} (x0 : A0) (x1 : A1) (x2 : A2) (h3 : P3 x0 x1 x2) : ∃ x0 : A0, ∃ x1 : A1, ∃ x2 : A2, P3 x0 x1 x2 := ⟨x0, x1, x2, h3⟩
theorem iAAEA.{u2} {A2 : Sort u2} {P0 : Prop} {P1 : Prop} {P3 : A2 → Prop} {P4 : A2 → Prop} (h0 : P0) (h1 : P1) (x2 : A2) (h3 : P3 x2) (h4 : P4 x2) : P0 ∧ P1 ∧ ∃ x2 : A2, P3 x2 ∧ P4 x2 := ⟨h0, h1, x2, h3, h4⟩
theorem iAEAA.{u1} {A1 : Sort u1} {P0 : Prop} {P2 : A1 → Prop} {P3 : A1 → Prop} {P4 : A1 → Prop} (h0 : P0) (x1 : A1) (h2 : P2 x1) (h3 : P3 x1) (h4 : P4 x1) : P0 ∧ ∃ x1 : A1, P2 x1 ∧ P3 x1 ∧ P4 x1 := ⟨h0, x1, h2, h3, h4⟩
theorem iEAAA.{u0} {A0 : Sort u0} {P1 : A0 → Prop} {P2 : A0 → Prop} {P3 : A0 → Prop} {P4 : A0 → Prop} (x0 : A0) (h1 : P1 x0) (h2 : P2 x0) (h3 : P3 x0) (h4 : P4 x0) : ∃ x0 : A0, P1 x0 ∧ P2 x0 ∧ P3 x0 ∧ P4 x0 := ⟨x0, h1, h2, h3, h4⟩
theorem iEAAE.{u0, u3} {A0 : Sort u0} {A3 : Sort u3} {P1 : A0 → Prop} {P2 : A0 → Prop} {P4 : A0 → A3 → Prop} (x0 : A0) (h1 : P1 x0) (h2 : P2 x0) (x3 : A3) (h4 : P4 x0 x3) : ∃ x0 : A0, P1 x0 ∧ P2 x0 ∧ ∃ x3 : A3, P4 x0 x3 := ⟨x0, h1, h2, x3, h4⟩
theorem iEAEA.{u0, u2} {A0 : Sort u0} {A2 : Sort u2} {P1 : A0 → Prop} {P3 : A0 → A2 → Prop} {P4 : A0 → A2 → Prop} (x0 : A0) (h1 : P1 x0) (x2 : A2) (h3 : P3 x0 x2) (h4 : P4 x0 x2) : ∃ x0 : A0, P1 x0 ∧ ∃ x2 : A2, P3 x0 x2 ∧ P4 x0 x2 := ⟨x0, h1, x2, h3, h4⟩
theorem iEEAA.{u0, u1} {A0 : Sort u0} {A1 : Sort u1} {P2 : A0 → A1 → Prop} {P3 : A0 → A1 → Prop} {P4 : A0 → A1 → Prop} (x0 : A0) (x1 : A1) (h2 : P2 x0 x1) (h3 : P3 x0 x1) (h4 : P4 x0 x1) : ∃ x0 : A0, ∃ x1 : A1, P2 x0 x1 ∧ P3 x0 x1 ∧ P4 x0 x1 := ⟨x0, x1, h2, h3, h4⟩
theorem iEEEA.{u0, u1, u2} {A0 : Sort u0} {A1 : Sort u1} {A2 : Sort u2} {P3 : A0 → A1 → A2 → Prop} {P4 : A0 → A1 → A2 → Prop} (x0 : A0) (x1 : A1) (x2 : A2) (h3 : P3 x0 x1 x2) (h4 : P4 x0 x1 x2) : ∃ x0 : A0, ∃ x1 : A1, ∃ x2 : A2, P3 x0 x1 x2 ∧ P4 x0 x1 x2 := ⟨x0, x1, x2, h3, h4⟩
theorem iEEEE.{u0, u1, u2, u3} {A0 : Sort u0} {A1 : Sort u1} {A2 : Sort u2} {A3 : Sort u3} {P4 : A0 → A1 → A2 → A3 → Prop} (x0 : A0) (x1 : A1) (x2 : A2) (x3 : A3) (h4 : P4 x0 x1 x2 x3) : ∃ x0 : A0, ∃ x1 : A1, ∃ x2 : A2, ∃ x3 : A3, P4 x0 x1 x2 x3 := ⟨x0, x1, x2, x3, h4⟩
theorem iAAEEA.{u2, u3} {A2 : Sort u2} {A3 : Sort u3} {P0 : Prop} {P1 : Prop} {P4 : A2 → A3 → Prop} {P5 : A2 → A3 → Prop} (h0 : P0) (h1 : P1) (x2 : A2) (x3 : A3) (h4 : P4 x2 x3) (h5 : P5 x2 x3) : P0 ∧ P1 ∧ ∃ x2 : A2, ∃ x3 : A3, P4 x2 x3 ∧ P5 x2 x3 := ⟨h0, h1, x2, x3, h4, h5⟩
theorem iAEAAA.{u1} {A1 : Sort u1} {P0 : Prop} {P2 : A1 → Prop} {P3 : A1 → Prop} {P4 : A1 → Prop} {P5 : A1 → Prop} (h0 : P0) (x1 : A1) (h2 : P2 x1) (h3 : P3 x1) (h4 : P4 x1) (h5 : P5 x1) : P0 ∧ ∃ x1 : A1, P2 x1 ∧ P3 x1 ∧ P4 x1 ∧ P5 x1 := ⟨h0, x1, h2, h3, h4, h5⟩
theorem iAEEAA.{u1, u2} {A1 : Sort u1} {A2 : Sort u2} {P0 : Prop} {P3 : A1 → A2 → Prop} {P4 : A1 → A2 → Prop} {P5 : A1 → A2 → Prop} (h0 : P0) (x1 : A1) (x2 : A2) (h3 : P3 x1 x2) (h4 : P4 x1 x2) (h5 : P5 x1 x2) : P0 ∧ ∃ x1 : A1, ∃ x2 : A2, P3 x1 x2 ∧ P4 x1 x2 ∧ P5 x1 x2 := ⟨h0, x1, x2, h3, h4, h5⟩
theorem iAEEEA.{u1, u2, u3} {A1 : Sort u1} {A2 : Sort u2} {A3 : Sort u3} {P0 : Prop} {P4 : A1 → A2 → A3 → Prop} {P5 : A1 → A2 → A3 → Prop} (h0 : P0) (x1 : A1) (x2 : A2) (x3 : A3) (h4 : P4 x1 x2 x3) (h5 : P5 x1 x2 x3) : P0 ∧ ∃ x1 : A1, ∃ x2 : A2, ∃ x3 : A3, P4 x1 x2 x3 ∧ P5 x1 x2 x3 := ⟨h0, x1, x2, x3, h4, h5⟩
theorem iEAAAA.{u0} {A0 : Sort u0} {P1 : A0 → Prop} {P2 : A0 → Prop} {P3 : A0 → Prop} {P4 : A0 → Prop} {P5 : A0 → Prop} (x0 : A0) (h1 : P1 x0) (h2 : P2 x0) (h3 : P3 x0) (h4 : P4 x0) (h5 : P5 x0) : ∃ x0 : A0, P1 x0 ∧ P2 x0 ∧ P3 x0 ∧ P4 x0 ∧ P5 x0 := ⟨x0, h1, h2, h3, h4, h5⟩
theorem iEAAAE.{u0, u4} {A0 : Sort u0} {A4 : Sort u4} {P1 : A0 → Prop} {P2 : A0 → Prop} {P3 : A0 → Prop} {P5 : A0 → A4 → Prop} (x0 : A0) (h1 : P1 x0) (h2 : P2 x0) (h3 : P3 x0) (x4 : A4) (h5 : P5 x0 x4) : ∃ x0 : A0, P1 x0 ∧ P2 x0 ∧ P3 x0 ∧ ∃ x4 : A4, P5 x0 x4 := ⟨x0, h1, h2, h3, x4, h5⟩
theorem iEEAAA.{u0, u1} {A0 : Sort u0} {A1 : Sort u1} {P2 : A0 → A1 → Prop} {P3 : A0 → A1 → Prop} {P4 : A0 → A1 → Prop} {P5 : A0 → A1 → Prop} (x0 : A0) (x1 : A1) (h2 : P2 x0 x1) (h3 : P3 x0 x1) (h4 : P4 x0 x1) (h5 : P5 x0 x1) : ∃ x0 : A0, ∃ x1 : A1, P2 x0 x1 ∧ P3 x0 x1 ∧ P4 x0 x1 ∧ P5 x0 x1 := ⟨x0, x1, h2, h3, h4, h5⟩
theorem iEEEAA.{u0, u1, u2} {A0 : Sort u0} {A1 : Sort u1} {A2 : Sort u2} {P3 : A0 → A1 → A2 → Prop} {P4 : A0 → A1 → A2 → Prop} {P5 : A0 → A1 → A2 → Prop} (x0 : A0) (x1 : A1) (x2 : A2) (h3 : P3 x0 x1 x2) (h4 : P4 x0 x1 x2) (h5 : P5 x0 x1 x2) : ∃ x0 : A0, ∃ x1 : A1, ∃ x2 : A2, P3 x0 x1 x2 ∧ P4 x0 x1 x2 ∧ P5 x0 x1 x2 := ⟨x0, x1, x2, h3, h4, h5⟩
theorem iAEAAAA.{u1} {A1 : Sort u1} {P0 : Prop} {P2 : A1 → Prop} {P3 : A1 → Prop} {P4 : A1 → Prop} {P5 : A1 → Prop} {P6 : A1 → Prop} (h0 : P0) (x1 : A1) (h2 : P2 x1) (h3 : P3 x1) (h4 : P4 x1) (h5 : P5 x1) (h6 : P6 x1) : P0 ∧ ∃ x1 : A1, P2 x1 ∧ P3 x1 ∧ P4 x1 ∧ P5 x1 ∧ P6 x1 := ⟨h0, x1, h2, h3, h4, h5, h6⟩
theorem iAEEAAA.{u1, u2} {A1 : Sort u1} {A2 : Sort u2} {P0 : Prop} {P3 : A1 → A2 → Prop} {P4 : A1 → A2 → Prop} {P5 : A1 → A2 → Prop} {P6 : A1 → A2 → Prop} (h0 : P0) (x1 : A1) (x2 : A2) (h3 : P3 x1 x2) (h4 : P4 x1 x2) (h5 : P5 x1 x2) (h6 : P6 x1 x2) : P0 ∧ ∃ x1 : A1, ∃ x2 : A2, P3 x1 x2 ∧ P4 x1 x2 ∧ P5 x1 x2 ∧ P6 x1 x2 := ⟨h0, x1, x2, h3, h4, h5, h6⟩
theorem iAEEEAA.{u1, u2, u3} {A1 : Sort u1} {A2 : Sort u2} {A3 : Sort u3} {P0 : Prop} {P4 : A1 → A2 → A3 → Prop} {P5 : A1 → A2 → A3 → Prop} {P6 : A1 → A2 → A3 → Prop} (h0 : P0) (x1 : A1) (x2 : A2) (x3 : A3) (h4 : P4 x1 x2 x3) (h5 : P5 x1 x2 x3) (h6 : P6 x1 x2 x3) : P0 ∧ ∃ x1 : A1, ∃ x2 : A2, ∃ x3 : A3, P4 x1 x2 x3 ∧ P5 x1 x2 x3 ∧ P6 x1 x2 x3 := ⟨h0, x1, x2, x3, h4, h5, h6⟩
theorem iEAEEAA.{u0, u2, u3} {A0 : Sort u0} {A2 : Sort u2} {A3 : Sort u3} {P1 : A0 → Prop} {P4 : A0 → A2 → A3 → Prop} {P5 : A0 → A2 → A3 → Prop} {P6 : A0 → A2 → A3 → Prop} (x0 : A0) (h1 : P1 x0) (x2 : A2) (x3 : A3) (h4 : P4 x0 x2 x3) (h5 : P5 x0 x2 x3) (h6 : P6 x0 x2 x3) : ∃ x0 : A0, P1 x0 ∧ ∃ x2 : A2, ∃ x3 : A3, P4 x0 x2 x3 ∧ P5 x0 x2 x3 ∧ P6 x0 x2 x3 := ⟨x0, h1, x2, x3, h4, h5, h6⟩
theorem iEEAAAA.{u0, u1} {A0 : Sort u0} {A1 : Sort u1} {P2 : A0 → A1 → Prop} {P3 : A0 → A1 → Prop} {P4 : A0 → A1 → Prop} {P5 : A0 → A1 → Prop} {P6 : A0 → A1 → Prop} (x0 : A0) (x1 : A1) (h2 : P2 x0 x1) (h3 : P3 x0 x1) (h4 : P4 x0 x1) (h5 : P5 x0 x1) (h6 : P6 x0 x1) : ∃ x0 : A0, ∃ x1 : A1, P2 x0 x1 ∧ P3 x0 x1 ∧ P4 x0 x1 ∧ P5 x0 x1 ∧ P6 x0 x1 := ⟨x0, x1, h2, h3, h4, h5, h6⟩
theorem iEEEAAA.{u0, u1, u2} {A0 : Sort u0} {A1 : Sort u1} {A2 : Sort u2} {P3 : A0 → A1 → A2 → Prop} {P4 : A0 → A1 → A2 → Prop} {P5 : A0 → A1 → A2 → Prop} {P6 : A0 → A1 → A2 → Prop} (x0 : A0) (x1 : A1) (x2 : A2) (h3 : P3 x0 x1 x2) (h4 : P4 x0 x1 x2) (h5 : P5 x0 x1 x2) (h6 : P6 x0 x1 x2) : ∃ x0 : A0, ∃ x1 : A1, ∃ x2 : A2, P3 x0 x1 x2 ∧ P4 x0 x1 x2 ∧ P5 x0 x1 x2 ∧ P6 x0 x1 x2 := ⟨x0, x1, x2, h3, h4, h5, h6⟩
theorem iEEEEEA.{u0, u1, u2, u3, u4} {A0 : Sort u0} {A1 : Sort u1} {A2 : Sort u2} {A3 : Sort u3} {A4 : Sort u4} {P5 : A0 → A1 → A2 → A3 → A4 → Prop} {P6 : A0 → A1 → A2 → A3 → A4 → Prop} (x0 : A0) (x1 : A1) (x2 : A2) (x3 : A3) (x4 : A4) (h5 : P5 x0 x1 x2 x3 x4) (h6 : P6 x0 x1 x2 x3 x4) : ∃ x0 : A0, ∃ x1 : A1, ∃ x2 : A2, ∃ x3 : A3, ∃ x4 : A4, P5 x0 x1 x2 x3 x4 ∧ P6 x0 x1 x2 x3 x4 := ⟨x0, x1, x2, x3, x4, h5, h6⟩
theorem iAAEEAAA.{u2, u3} {A2 : Sort u2} {A3 : Sort u3} {P0 : Prop} {P1 : Prop} {P4 : A2 → A3 → Prop} {P5 : A2 → A3 → Prop} {P6 : A2 → A3 → Prop} {P7 : A2 → A3 → Prop} (h0 : P0) (h1 : P1) (x2 : A2) (x3 : A3) (h4 : P4 x2 x3) (h5 : P5 x2 x3) (h6 : P6 x2 x3) (h7 : P7 x2 x3) : P0 ∧ P1 ∧ ∃ x2 : A2, ∃ x3 : A3, P4 x2 x3 ∧ P5 x2 x3 ∧ P6 x2 x3 ∧ P7 x2 x3 := ⟨h0, h1, x2, x3, h4, h5, h6, h7⟩
theorem iAEEEEAA.{u1, u2, u3, u4} {A1 : Sort u1} {A2 : Sort u2} {A3 : Sort u3} {A4 : Sort u4} {P0 : Prop} {P5 : A1 → A2 → A3 → A4 → Prop} {P6 : A1 → A2 → A3 → A4 → Prop} {P7 : A1 → A2 → A3 → A4 → Prop} (h0 : P0) (x1 : A1) (x2 : A2) (x3 : A3) (x4 : A4) (h5 : P5 x1 x2 x3 x4) (h6 : P6 x1 x2 x3 x4) (h7 : P7 x1 x2 x3 x4) : P0 ∧ ∃ x1 : A1, ∃ x2 : A2, ∃ x3 : A3, ∃ x4 : A4, P5 x1 x2 x3 x4 ∧ P6 x1 x2 x3 x4 ∧ P7 x1 x2 x3 x4 := ⟨h0, x1, x2, x3, x4, h5, h6, h7⟩
theorem iEAAAAAA.{u0} {A0 : Sort u0} {P1 : A0 → Prop} {P2 : A0 → Prop} {P3 : A0 → Prop} {P4 : A0 → Prop} {P5 : A0 → Prop} {P6 : A0 → Prop} {P7 : A0 → Prop} (x0 : A0) (h1 : P1 x0) (h2 : P2 x0) (h3 : P3 x0) (h4 : P4 x0) (h5 : P5 x0) (h6 : P6 x0) (h7 : P7 x0) : ∃ x0 : A0, P1 x0 ∧ P2 x0 ∧ P3 x0 ∧ P4 x0 ∧ P5 x0 ∧ P6 x0 ∧ P7 x0 := ⟨x0, h1, h2, h3, h4, h5, h6, h7⟩
theorem iEAEEAAA.{u0, u2, u3} {A0 : Sort u0} {A2 : Sort u2} {A3 : Sort u3} {P1 : A0 → Prop} {P4 : A0 → A2 → A3 → Prop} {P5 : A0 → A2 → A3 → Prop} {P6 : A0 → A2 → A3 → Prop} {P7 : A0 → A2 → A3 → Prop} (x0 : A0) (h1 : P1 x0) (x2 : A2) (x3 : A3) (h4 : P4 x0 x2 x3) (h5 : P5 x0 x2 x3) (h6 : P6 x0 x2 x3) (h7 : P7 x0 x2 x3) : ∃ x0 : A0, P1 x0 ∧ ∃ x2 : A2, ∃ x3 : A3, P4 x0 x2 x3 ∧ P5 x0 x2 x3 ∧ P6 x0 x2 x3 ∧ P7 x0 x2 x3 := ⟨x0, h1, x2, x3, h4, h5, h6, h7⟩
theorem iEEAAAAA.{u0, u1} {A0 : Sort u0} {A1 : Sort u1} {P2 : A0 → A1 → Prop} {P3 : A0 → A1 → Prop} {P4 : A0 → A1 → Prop} {P5 : A0 → A1 → Prop} {P6 : A0 → A1 → Prop} {P7 : A0 → A1 → Prop} (x0 : A0) (x1 : A1) (h2 : P2 x0 x1) (h3 : P3 x0 x1) (h4 : P4 x0 x1) (h5 : P5 x0 x1) (h6 : P6 x0 x1) (h7 : P7 x0 x1) : ∃ x0 : A0, ∃ x1 : A1, P2 x0 x1 ∧ P3 x0 x1 ∧ P4 x0 x1 ∧ P5 x0 x1 ∧ P6 x0 x1 ∧ P7 x0 x1 := ⟨x0, x1, h2, h3, h4, h5, h6, h7⟩
theorem iEEEAAAA.{u0, u1, u2} {A0 : Sort u0} {A1 : Sort u1} {A2 : Sort u2} {P3 : A0 → A1 → A2 → Prop} {P4 : A0 → A1 → A2 → Prop} {P5 : A0 → A1 → A2 → Prop} {P6 : A0 → A1 → A2 → Prop} {P7 : A0 → A1 → A2 → Prop} (x0 : A0) (x1 : A1) (x2 : A2) (h3 : P3 x0 x1 x2) (h4 : P4 x0 x1 x2) (h5 : P5 x0 x1 x2) (h6 : P6 x0 x1 x2) (h7 : P7 x0 x1 x2) : ∃ x0 : A0, ∃ x1 : A1, ∃ x2 : A2, P3 x0 x1 x2 ∧ P4 x0 x1 x2 ∧ P5 x0 x1 x2 ∧ P6 x0 x1 x2 ∧ P7 x0 x1 x2 := ⟨x0, x1, x2, h3, h4, h5, h6, h7⟩
theorem iEEEEAAA.{u0, u1, u2, u3} {A0 : Sort u0} {A1 : Sort u1} {A2 : Sort u2} {A3 : Sort u3} {P4 : A0 → A1 → A2 → A3 → Prop} {P5 : A0 → A1 → A2 → A3 → Prop} {P6 : A0 → A1 → A2 → A3 → Prop} {P7 : A0 → A1 → A2 → A3 → Prop} (x0 : A0) (x1 : A1) (x2 : A2) (x3 : A3) (h4 : P4 x0 x1 x2 x3) (h5 : P5 x0 x1 x2 x3) (h6 : P6 x0 x1 x2 x3) (h7 : P7 x0 x1 x2 x3) : ∃ x0 : A0, ∃ x1 : A1, ∃ x2 : A2, ∃ x3 : A3, P4 x0 x1 x2 x3 ∧ P5 x0 x1 x2 x3 ∧ P6 x0 x1 x2 x3 ∧ P7 x0 x1 x2 x3 := ⟨x0, x1, x2, x3, h4, h5, h6, h7⟩
theorem iEEEEAAAA.{u0, u1, u2, u3} {A0 : Sort u0} {A1 : Sort u1} {A2 : Sort u2} {A3 : Sort u3} {P4 : A0 → A1 → A2 → A3 → Prop} {P5 : A0 → A1 → A2 → A3 → Prop} {P6 : A0 → A1 → A2 → A3 → Prop} {P7 : A0 → A1 → A2 → A3 → Prop} {P8 : A0 → A1 → A2 → A3 → Prop} (x0 : A0) (x1 : A1) (x2 : A2) (x3 : A3) (h4 : P4 x0 x1 x2 x3) (h5 : P5 x0 x1 x2 x3) (h6 : P6 x0 x1 x2 x3) (h7 : P7 x0 x1 x2 x3) (h8 : P8 x0 x1 x2 x3) : ∃ x0 : A0, ∃ x1 : A1, ∃ x2 : A2, ∃ x3 : A3, P4 x0 x1 x2 x3 ∧ P5 x0 x1 x2 x3 ∧ P6 x0 x1 x2 x3 ∧ P7 x0 x1 x2 x3 ∧ P8 x0 x1 x2 x3 := ⟨x0, x1, x2, x3, h4, h5, h6, h7, h8⟩
theorem iEEEEEAAA.{u0, u1, u2, u3, u4} {A0 : Sort u0} {A1 : Sort u1} {A2 : Sort u2} {A3 : Sort u3} {A4 : Sort u4} {P5 : A0 → A1 → A2 → A3 → A4 → Prop} {P6 : A0 → A1 → A2 → A3 → A4 → Prop} {P7 : A0 → A1 → A2 → A3 → A4 → Prop} {P8 : A0 → A1 → A2 → A3 → A4 → Prop} (x0 : A0) (x1 : A1) (x2 : A2) (x3 : A3) (x4 : A4) (h5 : P5 x0 x1 x2 x3 x4) (h6 : P6 x0 x1 x2 x3 x4) (h7 : P7 x0 x1 x2 x3 x4) (h8 : P8 x0 x1 x2 x3 x4) : ∃ x0 : A0, ∃ x1 : A1, ∃ x2 : A2, ∃ x3 : A3, ∃ x4 : A4, P5 x0 x1 x2 x3 x4 ∧ P6 x0 x1 x2 x3 x4 ∧ P7 x0 x1 x2 x3 x4 ∧ P8 x0 x1 x2 x3 x4 := ⟨x0, x1, x2, x3, x4, h5, h6, h7, h8⟩
theorem iEEEEAAAAAA.{u0, u1, u2, u3} {A0 : Sort u0} {A1 : Sort u1} {A2 : Sort u2} {A3 : Sort u3} {P4 : A0 → A1 → A2 → A3 → Prop} {P5 : A0 → A1 → A2 → A3 → Prop} {P6 : A0 → A1 → A2 → A3 → Prop} {P7 : A0 → A1 → A2 → A3 → Prop} {P8 : A0 → A1 → A2 → A3 → Prop} {P9 : A0 → A1 → A2 → A3 → Prop} {P10 : A0 → A1 → A2 → A3 → Prop} (x0 : A0) (x1 : A1) (x2 : A2) (x3 : A3) (h4 : P4 x0 x1 x2 x3) (h5 : P5 x0 x1 x2 x3) (h6 : P6 x0 x1 x2 x3) (h7 : P7 x0 x1 x2 x3) (h8 : P8 x0 x1 x2 x3) (h9 : P9 x0 x1 x2 x3) (h10 : P10 x0 x1 x2 x3) : ∃ x0 : A0, ∃ x1 : A1, ∃ x2 : A2, ∃ x3 : A3, P4 x0 x1 x2 x3 ∧ P5 x0 x1 x2 x3 ∧ P6 x0 x1 x2 x3 ∧ P7 x0 x1 x2 x3 ∧ P8 x0 x1 x2 x3 ∧ P9 x0 x1 x2 x3 ∧ P10 x0 x1 x2 x3 := ⟨x0, x1, x2, x3, h4, h5, h6, h7, h8, h9, h10⟩
theorem iEAAEAEEAAAA.{u0, u3, u5, u6} {A0 : Sort u0} {A3 : Sort u3} {A5 : Sort u5} {A6 : Sort u6} {P1 : A0 → Prop} {P2 : A0 → Prop} {P4 : A0 → A3 → Prop} {P7 : A0 → A3 → A5 → A6 → Prop} {P8 : A0 → A3 → A5 → A6 → Prop} {P9 : A0 → A3 → A5 → A6 → Prop} {P10 : A0 → A3 → A5 → A6 → Prop} {P11 : A0 → A3 → A5 → A6 → Prop} (x0 : A0) (h1 : P1 x0) (h2 : P2 x0) (x3 : A3) (h4 : P4 x0 x3) (x5 : A5) (x6 : A6) (h7 : P7 x0 x3 x5 x6) (h8 : P8 x0 x3 x5 x6) (h9 : P9 x0 x3 x5 x6) (h10 : P10 x0 x3 x5 x6) (h11 : P11 x0 x3 x5 x6) : ∃ x0 : A0, P1 x0 ∧ P2 x0 ∧ ∃ x3 : A3, P4 x0 x3 ∧ ∃ x5 : A5, ∃ x6 : A6, P7 x0 x3 x5 x6 ∧ P8 x0 x3 x5 x6 ∧ P9 x0 x3 x5 x6 ∧ P10 x0 x3 x5 x6 ∧ P11 x0 x3 x5 x6 := ⟨x0, h1, h2, x3, h4, x5, x6, h7, h8, h9, h10, h11⟩
theorem iEAAEAEEAAAAA.{u0, u3, u5, u6} {A0 : Sort u0} {A3 : Sort u3} {A5 : Sort u5} {A6 : Sort u6} {P1 : A0 → Prop} {P2 : A0 → Prop} {P4 : A0 → A3 → Prop} {P7 : A0 → A3 → A5 → A6 → Prop} {P8 : A0 → A3 → A5 → A6 → Prop} {P9 : A0 → A3 → A5 → A6 → Prop} {P10 : A0 → A3 → A5 → A6 → Prop} {P11 : A0 → A3 → A5 → A6 → Prop} {P12 : A0 → A3 → A5 → A6 → Prop} (x0 : A0) (h1 : P1 x0) (h2 : P2 x0) (x3 : A3) (h4 : P4 x0 x3) (x5 : A5) (x6 : A6) (h7 : P7 x0 x3 x5 x6) (h8 : P8 x0 x3 x5 x6) (h9 : P9 x0 x3 x5 x6) (h10 : P10 x0 x3 x5 x6) (h11 : P11 x0 x3 x5 x6) (h12 : P12 x0 x3 x5 x6) : ∃ x0 : A0, P1 x0 ∧ P2 x0 ∧ ∃ x3 : A3, P4 x0 x3 ∧ ∃ x5 : A5, ∃ x6 : A6, P7 x0 x3 x5 x6 ∧ P8 x0 x3 x5 x6 ∧ P9 x0 x3 x5 x6 ∧ P10 x0 x3 x5 x6 ∧ P11 x0 x3 x5 x6 ∧ P12 x0 x3 x5 x6 := ⟨x0, h1, h2, x3, h4, x5, x6, h7, h8, h9, h10, h11, h12⟩
theorem iEEAAEEAAEEAA.{u0, u1, u4, u5, u8, u9} {A0 : Sort u0} {A1 : Sort u1} {A4 : Sort u4} {A5 : Sort u5} {A8 : Sort u8} {A9 : Sort u9} {P2 : A0 → A1 → Prop} {P3 : A0 → A1 → Prop} {P6 : A0 → A1 → A4 → A5 → Prop} {P7 : A0 → A1 → A4 → A5 → Prop} {P10 : A0 → A1 → A4 → A5 → A8 → A9 → Prop} {P11 : A0 → A1 → A4 → A5 → A8 → A9 → Prop} {P12 : A0 → A1 → A4 → A5 → A8 → A9 → Prop} (x0 : A0) (x1 : A1) (h2 : P2 x0 x1) (h3 : P3 x0 x1) (x4 : A4) (x5 : A5) (h6 : P6 x0 x1 x4 x5) (h7 : P7 x0 x1 x4 x5) (x8 : A8) (x9 : A9) (h10 : P10 x0 x1 x4 x5 x8 x9) (h11 : P11 x0 x1 x4 x5 x8 x9) (h12 : P12 x0 x1 x4 x5 x8 x9) : ∃ x0 : A0, ∃ x1 : A1, P2 x0 x1 ∧ P3 x0 x1 ∧ ∃ x4 : A4, ∃ x5 : A5, P6 x0 x1 x4 x5 ∧ P7 x0 x1 x4 x5 ∧ ∃ x8 : A8, ∃ x9 : A9, P10 x0 x1 x4 x5 x8 x9 ∧ P11 x0 x1 x4 x5 x8 x9 ∧ P12 x0 x1 x4 x5 x8 x9 := ⟨x0, x1, h2, h3, x4, x5, h6, h7, x8, x9, h10, h11, h12⟩
theorem iEAAEAEEEEAAAAAA.{u0, u3, u5, u6, u7, u8} {A0 : Sort u0} {A3 : Sort u3} {A5 : Sort u5} {A6 : Sort u6} {A7 : Sort u7} {A8 : Sort u8} {P1 : A0 → Prop} {P2 : A0 → Prop} {P4 : A0 → A3 → Prop} {P9 : A0 → A3 → A5 → A6 → A7 → A8 → Prop} {P10 : A0 → A3 → A5 → A6 → A7 → A8 → Prop} {P11 : A0 → A3 → A5 → A6 → A7 → A8 → Prop} {P12 : A0 → A3 → A5 → A6 → A7 → A8 → Prop} {P13 : A0 → A3 → A5 → A6 → A7 → A8 → Prop} {P14 : A0 → A3 → A5 → A6 → A7 → A8 → Prop} {P15 : A0 → A3 → A5 → A6 → A7 → A8 → Prop} (x0 : A0) (h1 : P1 x0) (h2 : P2 x0) (x3 : A3) (h4 : P4 x0 x3) (x5 : A5) (x6 : A6) (x7 : A7) (x8 : A8) (h9 : P9 x0 x3 x5 x6 x7 x8) (h10 : P10 x0 x3 x5 x6 x7 x8) (h11 : P11 x0 x3 x5 x6 x7 x8) (h12 : P12 x0 x3 x5 x6 x7 x8) (h13 : P13 x0 x3 x5 x6 x7 x8) (h14 : P14 x0 x3 x5 x6 x7 x8) (h15 : P15 x0 x3 x5 x6 x7 x8) : ∃ x0 : A0, P1 x0 ∧ P2 x0 ∧ ∃ x3 : A3, P4 x0 x3 ∧ ∃ x5 : A5, ∃ x6 : A6, ∃ x7 : A7, ∃ x8 : A8, P9 x0 x3 x5 x6 x7 x8 ∧ P10 x0 x3 x5 x6 x7 x8 ∧ P11 x0 x3 x5 x6 x7 x8 ∧ P12 x0 x3 x5 x6 x7 x8 ∧ P13 x0 x3 x5 x6 x7 x8 ∧ P14 x0 x3 x5 x6 x7 x8 ∧ P15 x0 x3 x5 x6 x7 x8 := ⟨x0, h1, h2, x3, h4, x5, x6, x7, x8, h9, h10, h11, h12, h13, h14, h15⟩
end Mine
end
section
open PySem PySem.W PySem.Calls PyProof.Rows
set_option Elab.async false
set_option linter.unusedVariables false
set_option linter.unusedSimpArgs false
namespace Mine

/- a tree of questions, answered by c -/
noncomputable def runs {α : Type} (n : Nat) (c : Nat → Nat → Bool) : KasT α → (α → Prop) → Prop
  | .ret a, Q => Q a
  | .ask i j k, Q => i < n ∧ j < n ∧ runs n c (k (c i j)) Q
theorem runs_bind {α β : Type} {n : Nat} {c : Nat → Nat → Bool} {f : α → KasT β} {Q : β → Prop} : ∀ (t : KasT α), runs n c t (fun a => runs n c (f a) Q) → runs n c (t.bind f) Q
  | .ret _, h => h
  | .ask i j k, h => ⟨h.1, h.2.1, runs_bind (k (c i j)) h.2.2⟩
theorem runs_wp {α : Type} {n : Nat} {c : Nat → Nat → Bool} {cmp : Nat → Nat → (Bool → Shared → Prop) → Shared → Prop} {s : Shared} (h : ∀ i j C, i < n → j < n → C (c i j) s → cmp i j C s) {G : α → Shared → Prop} : ∀ (t : KasT α), runs n c t (fun a => G a s) → t.kasWp cmp G s
  | .ret a, q => q
  | .ask i j k, q => h i j _ q.1 q.2.1 (runs_wp h (k (c i j)) q.2.2)

structure Ord (c : Nat → Nat → Bool) : Prop where
  asym : ∀ i j, c i j = true → c j i = false
  ntr : ∀ i j k, c i j = false → c j k = false → c i k = false
section
variable {c : Nat → Nat → Bool} {N : Nat}
theorem Ord.irr (o : Ord c) (i : Nat) : c i i = false := by
  cases h : c i i with
  | false => rfl
  | true => rw [o.asym i i h] at h; cases h
/- x before y, y not behind z -/
theorem Ord.r1 (o : Ord c) {x y z : Nat} (h1 : c x y = true) (h2 : c z y = false) : c x z = true := by
  cases h : c x z with
  | true => rfl
  | false => rw [o.ntr _ _ _ h h2] at h1; cases h1
theorem Ord.r2 (o : Ord c) {x y z : Nat} (h1 : c y x = false) (h2 : c y z = true) : c x z = true := by
  cases h : c x z with
  | true => rfl
  | false => rw [o.ntr _ _ _ h1 h] at h2; cases h2
/- strictly, by the place where alike -/
noncomputable def Lex (c : Nat → Nat → Bool) (i j : Nat) : Prop := c i j = true ∨ (c j i = false ∧ i < j)
theorem Lex.le (o : Ord c) {i j : Nat} (h : Lex c i j) : c j i = false := h.elim (o.asym i j) (·.1)
theorem Lex.trans (o : Ord c) {i j k : Nat} (h1 : Lex c i j) (h2 : Lex c j k) : Lex c i k := by
  have l1 := h1.le o
  have l2 := h2.le o
  rcases h1 with h1 | ⟨_, h1⟩
  · exact .inl (o.r1 h1 l2)
  · rcases h2 with h2 | ⟨_, h2⟩
    · exact .inl (o.r2 l1 h2)
    · exact .inr ⟨o.ntr _ _ _ l2 l1, Nat.lt_trans h1 h2⟩

noncomputable abbrev g (p : Array Nat) (k : Nat) : Nat := p.getD k 0
theorem g_eq (p : Array Nat) (k : Nat) : g p k = p[k]?.getD 0 := by simp [g, Array.getD_eq_getD_getElem?]
theorem g_rev {p : Array Nat} {i j : Nat} (hj : j ≤ p.size) (k : Nat) : g (kas_rev p i j) k = if i ≤ k ∧ k < j then g p (i + j - 1 - k) else g p k := by
  rw [g_eq, g_eq, g_eq]
  unfold kas_rev
  rw [getElem?_mirror_all hj k]
  split <;> rfl
theorem g_bub {p : Array Nat} {src d : Nat} (hs : src < p.size) (hd : d ≤ src) (k : Nat) : g (bubble p src d) k = if k = src - d then g p src else if src - d < k ∧ k ≤ src then g p (k - 1) else g p k := by
  rw [g_eq, g_eq, g_eq, g_eq, getElem?_bubble hs d hd k]
  split
  · rfl
  · split <;> rfl

/- what has been put in order so far: places up to m; behind them nothing has moved -/
structure Low (N : Nat) (p : Array Nat) (m : Nat) : Prop where
  size : p.size = N
  perm : p.Perm (List.range N).toArray
  le : m ≤ N
  tail : ∀ k, m ≤ k → k < N → g p k = k
  low : ∀ k, k < m → g p k < m
noncomputable def Asc (c : Nat → Nat → Bool) (p : Array Nat) (m : Nat) : Prop := ∀ a b, a < b → b < m → Lex c (g p a) (g p b)
theorem Low.rev {p : Array Nat} {m i j : Nat} (L : Low N p m) (hj : j ≤ m) : Low N (kas_rev p i j) m := by
  have hs : j ≤ p.size := by rw [L.size]; exact Nat.le_trans hj L.le
  refine ⟨(kas_rev_size i j).trans L.size, (mirror_perm _ _ _ _).trans L.perm, L.le, fun k h1 h2 => ?_, fun k h => ?_⟩
  · rw [g_rev hs, if_neg (by lia)]; exact L.tail k h1 h2
  · rw [g_rev hs]
    split
    · exact L.low _ (by omega)
    · exact L.low k h
theorem Low.succ {p : Array Nat} {m : Nat} (L : Low N p m) (h : m < N) : Low N p (m + 1) :=
  ⟨L.size, L.perm, h, fun k h1 h2 => L.tail k (by (exact Nat.le_of_succ_le ‹_›)) h2, fun k hk => by
    rcases Nat.lt_or_ge k m with q | q
    · exact Nat.lt_succ_of_lt (L.low k q)
    · have : k = m := by lia
      subst this; rw [L.tail k (Nat.le_refl _) h]; exact Nat.lt_succ_self _⟩
theorem Low.all {p : Array Nat} {m : Nat} (L : Low N p m) (h0 : 0 < N) (k : Nat) : g p k < N := by
  rcases Nat.lt_or_ge k m with h | h
  · exact Nat.lt_of_lt_of_le (L.low k h) L.le
  · rcases Nat.lt_or_ge k N with q | q
    · rw [L.tail k h q]; exact q
    · rw [g_eq, Array.getElem?_eq_none (by rw [L.size]; exact q)]; exact h0
theorem Asc.le (o : Ord c) {p : Array Nat} {m : Nat} (A : Asc c p m) {a b : Nat} (h : a ≤ b) (hb : b < m) : c (g p b) (g p a) = false := by
  rcases Nat.lt_or_ge a b with q | q
  · exact (A a b q hb).le o
  · have : a = b := by (exact Nat.le_antisymm ‹_› ‹_›)
    subst this; exact o.irr _
theorem runs_asc (o : Ord c) (h0 : 0 < N) {p : Array Nat} : ∀ (f n : Nat), n + f ≤ N → 1 ≤ n → Low N p n → Asc c p n → ∀ (Q : Nat → Prop), (∀ m, n ≤ m → m ≤ n + f → Low N p m → Asc c p m → (m = n + f ∨ (m < n + f ∧ c (g p m) (g p (m - 1)) = true)) → Q m) → runs N c (kas_asc p f n) Q
  | 0, n, _, _, L, A, Q, q => q n (Nat.le_refl _) (Nat.le_refl _) L A (.inl rfl)
  | f + 1, n, hf, h1, L, A, Q, q => by
    refine ⟨L.all h0 _, L.all h0 _, ?_⟩
    cases h : c (g p n) (g p (n - 1)) with
    | true => exact q n (Nat.le_refl _) (by (exact Nat.le_add_right _ _)) L A (.inr ⟨by simp, h⟩)
    | false =>
      simp only [Bool.false_eq_true, if_false]
      have hn : g p n = n := L.tail n (Nat.le_refl _) (by (exact Nat.lt_of_le_of_lt (Nat.le_add_right _ _) ‹_›))
      have hx : Lex c (g p (n - 1)) (g p n) := .inr ⟨h, by rw [hn]; exact L.low _ (by lia)⟩
      refine runs_asc o h0 f (n + 1) (by lia) (by (exact Nat.zero_lt_succ _)) (L.succ (by lia)) (fun a b hab hb => ?_) Q fun m h2 h3 h4 h5 h6 => q m (by lia) (by lia) h4 h5 (h6.imp (fun h => by lia) fun h => ⟨by lia, h.2⟩)
      rcases Nat.lt_or_ge b n with hb' | hb'
      · exact A a b hab hb'
      · have : b = n := by lia
        subst this
        rcases Nat.lt_or_ge a (b - 1) with ha | ha
        · exact (A a (b - 1) ha (by lia)).trans o hx
        · have : a = b - 1 := by lia
          subst this; exact hx

/- down, with the last like ones as they came -/
structure Desc (c : Nat → Nat → Bool) (N : Nat) (p : Array Nat) (m q : Nat) : Prop where
  low : Low N p m
  hq : q + 1 ≤ m
  r1 : ∀ a b, a < b → b < m - (q + 1) → Lex c (g p b) (g p a)
  r2 : ∀ a b, a < m - (q + 1) → m - (q + 1) ≤ b → b < m → c (g p b) (g p a) = true
  r3 : ∀ a b, m - (q + 1) ≤ a → a < b → b < m → g p a < g p b ∧ c (g p a) (g p b) = false ∧ c (g p b) (g p a) = false
/- nothing is behind the last -/
theorem Desc.last (o : Ord c) {p : Array Nat} {m q : Nat} (D : Desc c N p m q) {a : Nat} (ha : a < m) : c (g p a) (g p (m - 1)) = false := by
  have := D.hq
  rcases Nat.lt_or_ge a (m - (q + 1)) with h | h
  · exact o.asym _ _ (D.r2 a (m - 1) h (by omega) (by lia))
  · rcases Nat.lt_or_ge a (m - 1) with h' | h'
    · exact (D.r3 a (m - 1) h h' (by lia)).2.1
    · have : a = m - 1 := by lia
      subst this; exact o.irr _
noncomputable def closed (p : Array Nat) (m q : Nat) : Array Nat := if q > 0 then kas_rev p (m - (q + 1)) m else p
theorem Desc.close (o : Ord c) {p : Array Nat} {m q : Nat} (D : Desc c N p m q) : Low N (closed p m q) m ∧ (∀ a b, a < b → b < m → Lex c (g (closed p m q) b) (g (closed p m q) a)) ∧ ∀ a, a < m → ∃ a', a' < m ∧ g (closed p m q) a = g p a' := by
  have hq := D.hq
  have hs : m ≤ p.size := by rw [D.low.size]; exact D.low.le
  unfold closed
  split
  · rename_i h0
    refine ⟨D.low.rev (Nat.le_refl _), fun a b hab hb => ?_, fun a ha => ?_⟩
    · rw [g_rev hs, g_rev hs]
      by_cases h1 : m - (q + 1) ≤ a
      · rw [if_pos (show m - (q + 1) ≤ b ∧ b < m by lia), if_pos (show m - (q + 1) ≤ a ∧ a < m by lia)]
        have := D.r3 (m - (q + 1) + m - 1 - b) (m - (q + 1) + m - 1 - a) (by lia) (by omega) (by lia)
        exact .inr ⟨this.2.2, this.1⟩
      · rw [if_neg (show ¬ (m - (q + 1) ≤ a ∧ a < m) by lia)]
        split
        · exact .inl (D.r2 a _ (by (exact Nat.not_le.mp ‹_›)) (by lia) (by lia))
        · exact D.r1 a b hab (by lia)
    · rw [g_rev hs]
      split
      · exact (iEA _ (by lia) rfl)
      · exact (iEA a ha rfl)
  · rename_i h0
    have h0 : q = 0 := by lia
    subst h0
    refine ⟨D.low, fun a b hab hb => ?_, fun a ha => (iEA a ha rfl)⟩
    rcases Nat.lt_or_ge b (m - 1) with h | h
    · exact D.r1 a b hab (by omega)
    · exact .inl (D.r2 a b (by lia) (by assumption) hb)
theorem runs_desc (o : Ord c) (h0 : 0 < N) : ∀ (f : Nat) (p : Array Nat) (m q : Nat), m + f ≤ N → Desc c N p m q → ∀ (Q : Array Nat × Nat × Nat → Prop), (∀ p' m' q', m ≤ m' → m' ≤ m + f → Desc c N p' m' q' → Q (p', m', q')) → runs N c (kas_desc f p m q) Q
  | 0, p, m, q, _, D, Q, k => k p m q (Nat.le_refl _) (Nat.le_refl _) D
  | f + 1, p, m, q, hf, D, Q, k => by
    have hq := D.hq
    refine ⟨D.low.all h0 _, D.low.all h0 _, ?_⟩
    have hm : g p m = m := D.low.tail m (Nat.le_refl _) (by lia)
    cases h : c (g p m) (g p (m - 1)) with
    | true =>
      simp only [if_true]
      have e : (if q > 0 then kas_desc f (kas_rev p (m - (q + 1)) m) (m + 1) 0 else kas_desc f p (m + 1) 0) = kas_desc f (closed p m q) (m + 1) 0 := by unfold closed; split <;> rfl
      rw [e]
      (refine oAA (D.close o) ?_; rintro L hr hm')
      have hm2 : g (closed p m q) m = m := L.tail m (Nat.le_refl _) (by lia)
      refine runs_desc o h0 f (closed p m q) (m + 1) 0 (by lia) ⟨L.succ (by lia), by (exact Nat.zero_lt_succ _), fun a b hab hb => hr a b hab (by assumption), fun a b ha hb1 hb2 => ?_, fun a b ha hab hb => by lia⟩ Q fun p' m' q' h1 h2 h3 => k p' m' q' (by lia) (by lia) h3
      have : b = m := by lia
      subst this
      (refine oEA (hm' a (by assumption)) ?_; rintro a' ha' e')
      rw [hm2, e', ← hm]
      exact o.r1 h (D.last o ha')
    | false =>
      simp only [Bool.false_eq_true, if_false]
      refine ⟨D.low.all h0 _, D.low.all h0 _, ?_⟩
      cases h' : c (g p (m - 1)) (g p m) with
      | true => exact k p m q (Nat.le_refl _) (by lia) D
      | false =>
        simp only [Bool.false_eq_true, if_false]
        have eg : m + 1 - (q + 1 + 1) = m - (q + 1) := by simp
        refine runs_desc o h0 f p (m + 1) (q + 1) (by lia) ⟨D.low.succ (by lia), by (exact Nat.succ_lt_succ ‹_›), fun a b hab hb => D.r1 a b hab (by (exact Nat.lt_of_lt_of_eq ‹_› ‹_›)), fun a b ha hb1 hb2 => ?_, fun a b ha hab hb => ?_⟩ Q fun p' m' q' h1 h2 h3 => k p' m' q' (by lia) (by lia) h3
        · rw [eg] at ha hb1
          rcases Nat.lt_or_ge b m with hb | hb
          · exact D.r2 a b ha hb1 hb
          · have : b = m := by lia
            subst this
            exact o.r2 h' (D.r2 a (b - 1) ha (by lia) (by lia))
        · rw [eg] at ha
          rcases Nat.lt_or_ge b m with hb' | hb'
          · exact D.r3 a b ha hab hb'
          · have : b = m := by lia
            subst this
            have l1 := D.last o (a := a) (by omega)
            refine ⟨by rw [hm]; exact D.low.low a (by omega), o.ntr _ _ _ l1 h', ?_⟩
            rcases Nat.lt_or_ge a (b - 1) with hx | hx
            · exact o.ntr _ _ _ h (D.r3 a (b - 1) ha hx (by lia)).2.2
            · have : a = b - 1 := by lia
              subst this; exact h
theorem runs_tail3 (o : Ord c) (h0 : 0 < N) {p : Array Nat} {m : Nat} (h1 : 1 ≤ m) (L : Low N p m) (hr : ∀ a b, a < b → b < m → Lex c (g p b) (g p a)) (Q : Nat × Array Nat → Prop) (k : ∀ m' p', 1 ≤ m' → Low N p' m' → Asc c p' m' → Q (m', p')) : runs N c (kas_tail3 m N p) Q := by
  have hs : m ≤ p.size := by rw [L.size]; exact L.le
  unfold kas_tail3
  refine runs_bind _ (runs_asc o h0 (N - m) m (by have := L.le; lia) h1 (L.rev (Nat.le_refl _)) (fun a b hab hb => ?_) _ fun m' h2 h3 h4 h5 _ => k m' _ (by (exact Nat.lt_of_lt_of_le ‹_› ‹_›)) h4 h5)
  rw [g_rev hs, g_rev hs, if_pos (by lia), if_pos (by lia)]
  exact hr _ _ (by omega) (by omega)
theorem runs_descPart (o : Ord c) {p : Array Nat} {n : Nat} (hn : n < N) (L : Low N p n) (hr : ∀ a b, a < b → b < n → Lex c (g p b) (g p a)) (h2 : ∀ a, a < n → c (g p n) (g p a) = true) (Q : Nat × Array Nat → Prop) (k : ∀ m' p', 1 ≤ m' → Low N p' m' → Asc c p' m' → Q (m', p')) : runs N c (kas_descPart n N p) Q := by
  unfold kas_descPart
  refine runs_bind _ (runs_desc o (by (exact Nat.lt_of_le_of_lt (Nat.zero_le _) ‹_›)) (N - (n + 1)) p (n + 1) 0 (by lia) ⟨L.succ hn, by lia, fun a b hab hb => hr a b hab (by assumption), fun a b ha hb1 hb2 => ?_, fun a b ha hab hb => by lia⟩ _ fun p' m' q' h3 h4 D => ?_)
  · have : b = n := by lia
    subst this; exact h2 a (by assumption)
  · (refine oAA (D.close o) ?_; rintro L' hr' _)
    have e : (if q' > 0 then kas_tail3 m' N (kas_rev p' (m' - (q' + 1)) m') else kas_tail3 m' N p') = kas_tail3 m' N (closed p' m' q') := by unfold closed; split <;> rfl
    show runs N c (if q' > 0 then kas_tail3 m' N (kas_rev p' (m' - (q' + 1)) m') else kas_tail3 m' N p') Q
    rw [e]
    exact runs_tail3 o (by lia) (by (exact Nat.lt_of_le_of_lt (Nat.zero_le _) ‹_›)) L' hr' Q k
theorem runs_count (o : Ord c) (h0 : 0 < N) {p : Array Nat} (L : Low N p 1) (Q : Nat × Array Nat → Prop) (k : ∀ m' p', 1 ≤ m' → Low N p' m' → Asc c p' m' → Q (m', p')) : runs N c (kas_count N p) Q := by
  unfold kas_count
  refine runs_bind _ (runs_asc o h0 (N - 1) 1 (by lia) (Nat.le_refl _) L (fun a b hab hb => by lia) _ fun n h1 h2 L' A hn => ?_)
  have e1 : 1 + (N - 1) = N := by (exact Nat.add_sub_cancel' ‹_›)
  rw [e1] at hn
  rcases hn with hn | ⟨hn, hc⟩
  · subst hn
    simp only [beq_self_eq_true, if_true]
    exact k _ p h0 L' A
  · have hne : (n == N) = false := by simp; (exact Nat.ne_of_lt ‹_›)
    simp only [hne, Bool.false_eq_true, if_false]
    have hg : ∀ a, a < N → g p a = a := fun a ha => by
      rcases Nat.eq_zero_or_pos a with h | h
      · subst h; have := L.low 0 (by (exact Nat.lt_succ_self _)); lia
      · exact L.tail a h ha
    by_cases h1n : n > 1
    · rw [if_pos h1n]
      refine ⟨L.all h0 _, L.all h0 _, ?_⟩
      cases hx : c (g p 0) (g p (n - 1)) with
      | true => exact k n p (by assumption) L' A
      | false =>
        simp only [Bool.false_eq_true, if_false]
        have hs : n ≤ p.size := by rw [L.size]; (exact Nat.le_of_lt ‹_›)
        have eqs : ∀ a b, a < n → b < n → c (g p a) (g p b) = false := fun a b ha hb =>
          o.ntr _ _ _ (A.le o (Nat.zero_le a) ha) (o.ntr _ _ _ hx (A.le o (show b ≤ n - 1 by lia) (by lia)))
        have hnn : g (kas_rev p 0 n) n = n := by rw [g_rev hs, if_neg (by simp)]; exact hg n (by omega)
        refine runs_descPart o hn (L'.rev (Nat.le_refl _)) (fun a b hab hb => ?_) (fun a ha => ?_) Q k
        · rw [g_rev hs, g_rev hs, if_pos (by lia), if_pos (by lia)]
          refine .inr ⟨eqs _ _ (by lia) (by lia), ?_⟩
          rw [hg _ (by lia), hg _ (by lia)]; lia
        · rw [hnn, g_rev hs, if_pos (by lia)]
          have := o.r1 hc (eqs (0 + n - 1 - a) (n - 1) (by lia) (by lia))
          rwa [hg n (by omega)] at this
    · rw [if_neg h1n]
      have : n = 1 := by lia
      subst this
      exact runs_descPart o hn L' (fun a b hab hb => by omega) (fun a ha => by have : a = 0 := by omega
                                                                               subst this; exact hc) Q k
theorem runs_place (o : Ord c) (h0 : 0 < N) {p : Array Nat} {k : Nat} (hk : k < N) (L : Low N p k) (A : Asc c p k) : ∀ (f l r : Nat), r - l ≤ f → l ≤ r → r ≤ k → (∀ a, a < l → c (g p k) (g p a) = false) → (∀ a, r ≤ a → a < k → c (g p k) (g p a) = true) → ∀ (Q : Nat → Prop),
    (∀ l, l ≤ k → (∀ a, a < l → c (g p k) (g p a) = false) → (∀ a, l ≤ a → a < k → c (g p k) (g p a) = true) → Q l) → runs N c (kas_place p k f l r) Q
  | 0, l, r, hf, hlr, hr, h1, h2, Q, q => q l (by (exact Nat.le_trans ‹_› ‹_›)) h1 fun a ha hk' => h2 a (by lia) hk'
  | f + 1, l, r, hf, hlr, hr, h1, h2, Q, q => by
    unfold kas_place
    by_cases h : l ≥ r
    · rw [if_pos h]
      exact q l (by (exact Nat.le_trans ‹_› ‹_›)) h1 fun a ha hk' => h2 a (by (exact Nat.le_trans ‹_› ‹_›)) hk'
    · rw [if_neg h]
      refine ⟨L.all h0 _, L.all h0 _, ?_⟩
      cases hc : c (g p k) (g p ((l + r) / 2)) with
      | true =>
        simp only [if_true]
        refine runs_place o h0 hk L A f l ((l + r) / 2) (by lia) (by lia) (by lia) h1 (fun a ha hk' => ?_) Q q
        exact o.r1 hc (A.le o ha hk')
      | false =>
        simp only [Bool.false_eq_true, if_false]
        refine runs_place o h0 hk L A f ((l + r) / 2 + 1) r (by omega) (by lia) hr (fun a ha => ?_) h2 Q q
        exact o.ntr _ _ _ hc (A.le o (show a ≤ (l + r) / 2 by (exact Nat.le_of_succ_le_succ ‹_›)) (by lia))
theorem runs_bin (o : Ord c) (h0 : 0 < N) : ∀ (f k : Nat) (p : Array Nat), k + f = N → Low N p k → Asc c p k → ∀ (Q : Array Nat → Prop), (∀ p', Low N p' N → Asc c p' N → Q p') → runs N c (kas_bin f p k) Q
  | 0, k, p, hf, L, A, Q, q => by
    have : k = N := by assumption
    subst this; exact q p L A
  | f + 1, k, p, hf, L, A, Q, q => by
    unfold kas_bin
    have hk : k < N := by lia
    have hks : k < p.size := by rw [L.size]; exact hk
    refine runs_bind _ (runs_place o h0 hk L A k 0 k (by (exact Nat.sub_le _ _)) (by (exact Nat.zero_le _)) (Nat.le_refl _) (fun a ha => by (exact absurd ‹_› (Nat.not_lt_zero _))) (fun a ha hk' => by omega) _ fun l hl h1 h2 => ?_)
    have hkk : g p k = k := L.tail k (Nat.le_refl _) hk
    have gb : ∀ i, g (bubble p k (k - l)) i = if i = l then k else if l < i ∧ i ≤ k then g p (i - 1) else g p i := fun i => by
      rw [g_bub hks (by (exact Nat.sub_le _ _)), hkk, show k - (k - l) = l by lia]
    refine runs_bin o h0 f (k + 1) _ (by lia) ⟨(bubble_size _ _ _).trans L.size, (bubble_perm _ _ _).trans L.perm, hk, fun i h3 h4 => ?_, fun i hi => ?_⟩ (fun a b hab hb => ?_) Q q
    · rw [gb, if_neg (by lia), if_neg (by lia)]; exact L.tail i (by (exact Nat.le_of_succ_le ‹_›)) h4
    · rw [gb]
      split
      · (exact Nat.lt_succ_self _)
      · split
        · exact Nat.lt_succ_of_lt (L.low _ (by lia))
        · exact Nat.lt_succ_of_lt (L.low _ (by lia))
    · rw [gb, gb]
      by_cases ha : a = l
      · rw [if_pos ha, if_neg (by lia), if_pos (by lia)]
        refine .inl ?_
        rw [← hkk]; exact h2 _ (by lia) (by lia)
      · rw [if_neg ha]
        by_cases hbl : b = l
        · rw [if_pos hbl, if_neg (by lia)]
          exact .inr ⟨by rw [← hkk]; exact h1 a (by (exact Nat.lt_of_lt_of_eq ‹_› ‹_›)), L.low a (by lia)⟩
        · rw [if_neg hbl]
          by_cases ha2 : l < a ∧ a ≤ k
          · rw [if_pos ha2, if_pos (by lia)]; exact A _ _ (by lia) (by omega)
          · rw [if_neg ha2]
            by_cases hb2 : l < b ∧ b ≤ k
            · rw [if_pos hb2]; exact A _ _ (by lia) (by lia)
            · rw [if_neg hb2]; exact A _ _ hab (by lia)
theorem runs_sort (o : Ord c) (h0 : 0 < N) (Q : Array Nat → Prop) (q : ∀ p, p.size = N → p.Perm (List.range N).toArray → Asc c p N → Q p) : runs N c (kas_sort N) Q := by
  unfold kas_sort
  have hg : ∀ k, k < N → g (List.range N).toArray k = k := fun k hk => by rw [g_eq]; simp [hk]
  refine runs_bind _ (runs_count o h0 ⟨by simp, Array.Perm.refl _, h0, fun k h1 h2 => hg k h2, fun k hk => by rw [hg k (by (exact Nat.lt_of_lt_of_le ‹_› ‹_›))]; exact hk⟩ _ fun m p h1 L A => ?_)
  show runs N c (if m < N then kas_bin (N - max m 1) p (max m 1) else .ret p) Q
  have hm : max m 1 = m := by lia
  rw [hm]
  split
  · exact runs_bin o h0 _ m p (by lia) L A Q fun p' L' A' => q p' L'.size L'.perm A'
  · have : m = N := by have := L.le; lia
    subst this
    exact q p L.size L.perm A
end
end Mine
end
section
open PySem PySem.W PySem.Calls PyProof.Rows
set_option Elab.async false
namespace Mine

/- flat data -/
inductive FV where
  | none
  | bool (b : Bool)
  | int (i : Int)
  | tup (l : List FV)
noncomputable instance : Inhabited FV := ⟨.none⟩

mutual
noncomputable def RepF (h : Heap) : FV → Value → Prop
  | .none, v => v = .none
  | .bool b, v => v = .bool b
  | .int i, v => ∃ t, v = .int i t
  | .tup l, v => ∃ a items, v = .ref a ∧ h.IsTuple a items ∧ RepFs h l items.toList
noncomputable def RepFs (h : Heap) : List FV → List Value → Prop
  | [], vs => vs = []
  | x :: xs, vs => ∃ v vs', vs = v :: vs' ∧ RepF h x v ∧ RepFs h xs vs'
end

/- what a name holds -/
inductive AV where
  | f (x : FV)
  | lst (l : List FV)
  | obj (k : Nat)
  | val (v : Value)
  | lam (p : Arguments) (e : Expr) (sc : Scope)
noncomputable instance : Inhabited AV := ⟨.f .none⟩

/- what the call's own objects hold -/
inductive AO where
  | list (l : List FV)
  | iter (l : List FV)
  | rng (x left step : Int)
  | plain
  | fin
  | junk

noncomputable def LamAt (h : Heap) (a : Addr) (p : Arguments) (e : Expr) (sc : Scope) : Prop :=
  ∃ o q pm cd ct, h.get? a = some o ∧ o.cls = .type "function" ∧ o.data = .func (kla_fn "<lambda>" q p e sc [] pm cd ct) ∧ h.CodeRec cd q

/- a list without a dict of its own -/
noncomputable def PL (h : Heap) (a : Addr) (items : Array Value) : Prop := ∃ o, h.get? a = some o ∧ o.cls = .type "list" ∧ o.dict = none ∧ ∃ n, o.data = .seq items n
theorem PL.list {h : Heap} {a : Addr} {items : Array Value} (x : PL h a items) : h.IsList a items := let ⟨o, e, c, _, n, d⟩ := x; (iEAAE o e c n d)
noncomputable def RepV (h : Heap) (im : Addr → Prop) (ρ : List Addr) : AV → Value → Prop
  | .f x, v => RepF h x v
  | .lst l, v => ∃ a items, v = .ref a ∧ im a ∧ PL h a items ∧ RepFs h l items.toList
  | .obj k, v => ∃ a, ρ[k]? = some a ∧ v = .ref a
  | .val v', v => v = v'
  | .lam p e sc, v => ∃ a, v = .ref a ∧ LamAt h a p e sc

noncomputable def RepO (h : Heap) (im : Addr → Prop) : AO → Addr → Prop
  | .list l, a => ∃ items, h.PlainList a items ∧ RepFs h l items.toList
  | .iter l, a => ∃ la i items, h.IsListIter a la i ∧ im la ∧ h.IsList la items ∧ RepFs h l (items.toList.drop i)
  | .rng x n c, a => IsRangeIter h a x n c
  | .plain, a => ∃ o, h.get? a = some o ∧ o.cls = .type "object" ∧ o.data = .plain
  | .fin, a => ∃ o, h.get? a = some o ∧ o.cls = .type "list_iterator" ∧ ∃ i : Nat, o.data = .fields #[.none, .int i 0]
  | .junk, a => ∃ o, h.get? a = some o ∧ (o.cls = .type "list" ∨ o.cls = .type "list_iterator" ∨ o.cls = .type "object" ∨ o.cls = .type "range_iterator") ∧ (∀ es n, o.data ≠ .dict es n) ∧ (∀ v, o.data ≠ .cell v) ∧ (∀ vs, o.data = .fields vs → ∀ q t, vs[1]? ≠ some (.str q t))

/- kept, up to the frames' notes -/
noncomputable def KeptO (F : List Addr) (b : Addr) (o o' : Obj) : Prop := o' = o ∨ (b ∈ F ∧ o'.cls = o.cls ∧ o'.dict = o.dict ∧ o'.data = o.data)

end Mine
end
section
open PySem PySem.W PySem.Calls PyProof.Rows
set_option Elab.async false
namespace Mine

noncomputable def Same (D : Addr → Prop) (F : List Addr) (h h' : Heap) : Prop := ∀ b o, ¬ D b → h.get? b = some o → ∃ o', h'.get? b = some o' ∧ KeptO F b o o'
noncomputable abbrev Nowhere : Addr → Prop := fun _ => False

theorem KeptO.cls {F b o o'} (k : KeptO F b o o') : o'.cls = o.cls := by rcases k with rfl | ⟨_, h, _⟩; rfl; exact h
theorem KeptO.data {F b o o'} (k : KeptO F b o o') : o'.data = o.data := by rcases k with rfl | ⟨_, _, _, h⟩; rfl; exact h
theorem KeptO.trans {F b o o' o''} (k : KeptO F b o o') (k' : KeptO F b o' o'') : KeptO F b o o'' := by
  rcases k' with rfl | ⟨h1, h2, h3, h4⟩
  · exact k
  · rcases k with rfl | ⟨g1, g2, g3, g4⟩
    · exact .inr ⟨h1, h2, h3, h4⟩
    · exact .inr ⟨h1, h2.trans g2, h3.trans g3, h4.trans g4⟩
theorem Same.refl {D F h} : Same D F h h := fun _ o _ e => (iEA o e (.inl rfl))
theorem Same.trans {D F h h' h''} (a : Same D F h h') (b : Same D F h' h'') : Same D F h h'' := fun x o hx e => by
  (refine oEA (a x o hx e) ?_; rintro o' e' k)
  (refine oEA (b x o' hx e') ?_; rintro o'' e'' k')
  exact (iEA o'' e'' (k.trans k'))
theorem Same.mono {D D' : Addr → Prop} {F h h'} (a : Same D F h h') (hd : ∀ x, D x → D' x) : Same D' F h h' := fun x o hx e => a x o (fun q => hx (hd x q)) e
theorem Same.of_keeps {D F h h'} (k : ∀ b o, h.get? b = some o → h'.get? b = some o) : Same D F h h' := fun b o _ e => (iEA o (k b o e) (.inl rfl))
theorem Same.of_but {D : Addr → Prop} {F h h'} {d : Addr} (hs : Heap.SameBut d h h') (hd : D d) : Same D F h h' := fun b o hb e =>
  (iEA o ((hs.2 b (fun q => hb (q ▸ hd))).trans e) (.inl rfl))
theorem Same.at {D F h h'} {b : Addr} {o : Obj} (a : Same D F h h') (hb : ¬ D b) (e : h.get? b = some o) : ∃ o', h'.get? b = some o' ∧ o'.cls = o.cls ∧ o'.data = o.data := by
  (refine oEA (a b o hb e) ?_; rintro o' e' k)
  exact (iEAA o' e' k.cls k.data)
theorem Same.exact {D F h h'} {b : Addr} {o : Obj} (a : Same D F h h') (hb : ¬ D b) (hf : b ∉ F) (e : h.get? b = some o) : h'.get? b = some o := by
  (refine oEA (a b o hb e) ?_; rintro o' e' k)
  rcases k with rfl | ⟨q, _⟩
  · exact e'
  · exact absurd q hf

section
variable {D : Addr → Prop} {F : List Addr} {h h' : Heap}
theorem tuple_same (S : Same D F h h') {a items} (hd : ¬ D a) (x : h.IsTuple a items) : h'.IsTuple a items := by
  (refine oEAAE x ?_; try clear x; rintro o e c n d)
  (refine oEAA (S.at hd e) ?_; rintro o' e' c' d')
  exact (iEAAE o' e' (c'.trans c) n (d'.trans d))
theorem list_same (S : Same D F h h') {a items} (hd : ¬ D a) (x : h.IsList a items) : h'.IsList a items := by
  (refine oEAAE x ?_; try clear x; rintro o e c n d)
  (refine oEAA (S.at hd e) ?_; rintro o' e' c' d')
  exact (iEAAE o' e' (c'.trans c) n (d'.trans d))
theorem pl_same (S : Same D F h h') {a items} (hd : ¬ D a) (x : PL h a items) : PL h' a items := by
  (refine oEAAA x ?_; try clear x; rintro o e c n d)
  (refine oEA (S a o hd e) ?_; rintro o' e' k)
  refine (iEAAA o' e' (k.cls.trans c) ?_ (d.imp fun m h => k.data.trans h))
  rcases k with rfl | ⟨_, _, h, _⟩
  · exact n
  · exact h.trans n
theorem liter_same (S : Same D F h h') {a l i} (hd : ¬ D a) (x : h.IsListIter a l i) : h'.IsListIter a l i := by
  (refine oEAA x ?_; try clear x; rintro o e c d)
  (refine oEAA (S.at hd e) ?_; rintro o' e' c' d')
  exact (iEAA o' e' (c'.trans c) (d'.trans d))
theorem ns_same (S : Same D F h h') {a m} (hd : ¬ D a) (x : h.Ns a m) : h'.Ns a m := by
  (refine oEEEAA x ?_; try clear x; rintro o es ep e d r)
  (refine oEAA (S.at hd e) ?_; rintro o' e' c' d')
  exact (iEEEAA o' es ep e' (d'.trans d) r)
theorem cell_same (S : Same D F h h') {a v} (hd : ¬ D a) (x : h.IsCell a v) : h'.IsCell a v := by
  (refine oEA x ?_; try clear x; rintro o e d)
  (refine oEAA (S.at hd e) ?_; rintro o' e' c' d')
  exact (iEA o' e' (d'.trans d))
theorem codeRec_same (S : Same D F h h') {cd q} (hd : ∀ c, cd = .ref c → ¬ D c) (x : h.CodeRec cd q) : h'.CodeRec cd q := by
  (refine oEEEEAAA x ?_; try clear x; rintro c o vs t rfl e d r)
  (refine oEAA (S.at (hd c rfl) e) ?_; rintro o' e' c' d')
  exact (iEEEEAAA c o' vs t rfl e' (d'.trans d) r)
mutual
theorem RepF.same (S : Same D F h h') (ht : ∀ a items, h.IsTuple a items → ¬ D a) : ∀ (x : FV) {v : Value}, RepF h x v → RepF h' x v
  | .none, _, r => r
  | .bool _, _, r => r
  | .int _, _, r => r
  | .tup l, v, r => by
    simp only [RepF] at r ⊢
    (refine oEEAA r ?_; try clear r; rintro a items e hI hs)
    exact (iEEAA a items e (tuple_same S (ht _ _ hI) hI) (RepFs.same S ht l hs))
theorem RepFs.same (S : Same D F h h') (ht : ∀ a items, h.IsTuple a items → ¬ D a) : ∀ (x : List FV) {v : List Value}, RepFs h x v → RepFs h' x v
  | [], _, r => r
  | x :: xs, v, r => by
    simp only [RepFs] at r ⊢
    (refine oEEAA r ?_; try clear r; rintro a vs e hI hs)
    exact (iEEAA a vs e (RepF.same S ht x hI) (RepFs.same S ht xs hs))
end
end

theorem RepFs.length {h : Heap} : ∀ {l : List FV} {vs : List Value}, RepFs h l vs → vs.length = l.length
  | [], _, r => by simp only [RepFs] at r; rw [r]; rfl
  | x :: xs, _, r => by
    simp only [RepFs] at r
    (refine oEEAA r ?_; try clear r; rintro v vs rfl _ hs)
    simp [hs.length]
theorem RepFs.get {h : Heap} : ∀ {l : List FV} {vs : List Value} {i : Nat} {x : FV}, RepFs h l vs → l[i]? = some x → ∃ v, vs[i]? = some v ∧ RepF h x v
  | [], _, _, _, _, e => by simp at e
  | y :: ys, _, 0, x, r, e => by
    simp only [RepFs] at r
    (refine oEEAA r ?_; try clear r; rintro v vs rfl hv _)
    simp only [List.getElem?_cons_zero, Option.some.injEq] at e
    subst e
    exact (iEA v rfl hv)
  | y :: ys, _, i + 1, x, r, e => by
    simp only [RepFs] at r
    (refine oEEAA r ?_; try clear r; rintro v vs rfl hv hs)
    simp only [List.getElem?_cons_succ] at e ⊢
    exact hs.get e
theorem RepFs.iff {h : Heap} : ∀ {l : List FV} {vs : List Value}, RepFs h l vs ↔ vs.length = l.length ∧ ∀ (i : Nat) x, l[i]? = some x → ∃ v, vs[i]? = some v ∧ RepF h x v
  | [], vs => by
    simp only [RepFs]
    constructor
    · rintro rfl; exact ⟨rfl, fun i x e => by simp at e⟩
    · rintro ⟨e, _⟩; exact List.eq_nil_of_length_eq_zero e
  | x :: xs, vs => by
    constructor
    · intro r; exact ⟨r.length, fun i y e => r.get e⟩
    · rintro ⟨e, k⟩
      rcases vs with _ | ⟨v, vs⟩
      · simp at e
      ·
        simp only [RepFs]
        refine (iEEAA v vs rfl ?_ (RepFs.iff.mpr ⟨by simpa using e, fun i y q => ?_⟩))
        · (refine oEA (k 0 x rfl) ?_; rintro v' e' r)
          simp only [List.getElem?_cons_zero, Option.some.injEq] at e'
          exact e' ▸ r
        · (refine oEA (k (i + 1) y (by simpa using q)) ?_; rintro v' e' r)
          exact (iEA v' (by simpa using e') r)
theorem RepFs.append {h : Heap} : ∀ {l l' : List FV} {vs vs' : List Value}, RepFs h l vs → RepFs h l' vs' → RepFs h (l ++ l') (vs ++ vs')
  | [], _, _, _, r, r' => by simp only [RepFs] at r; subst r; exact r'
  | x :: xs, l', _, vs', r, r' => by
    simp only [RepFs] at r
    (refine oEEAA r ?_; try clear r; rintro v vs rfl hv hs)
    simp only [List.cons_append, RepFs]
    exact (iEEAA v (vs ++ vs') rfl hv (hs.append r'))
theorem RepFs.take {h : Heap} : ∀ {l : List FV} {vs : List Value} (n : Nat), RepFs h l vs → RepFs h (l.take n) (vs.take n)
  | l, vs, 0, _ => by simp [RepFs]
  | [], vs, n + 1, r => by simp only [RepFs] at r; subst r; simp [RepFs]
  | x :: xs, _, n + 1, r => by
    simp only [RepFs] at r
    (refine oEEAA r ?_; try clear r; rintro v vs rfl hv hs)
    simp only [List.take_succ_cons, RepFs]
    exact (iEEAA v (vs.take n) rfl hv (hs.take n))
theorem RepFs.drop {h : Heap} : ∀ {l : List FV} {vs : List Value} (n : Nat), RepFs h l vs → RepFs h (l.drop n) (vs.drop n)
  | l, vs, 0, r => by simpa using r
  | [], vs, n + 1, r => by simp only [RepFs] at r; subst r; simp [RepFs]
  | x :: xs, _, n + 1, r => by
    simp only [RepFs] at r
    (refine oEEAA r ?_; try clear r; rintro v vs rfl hv hs)
    simp only [List.drop_succ_cons]
    exact hs.drop n
theorem RepFs.set {h : Heap} : ∀ {l : List FV} {vs : List Value} {n : Nat} {x : FV} {v : Value}, RepFs h l vs → RepF h x v → RepFs h (l.set n x) (vs.set n v)
  | [], _, _, _, _, r, _ => by simp only [RepFs] at r; subst r; simp [RepFs]
  | y :: ys, _, 0, x, v, r, q => by
    simp only [RepFs] at r
    (refine oEEAA r ?_; try clear r; rintro v' vs rfl hv hs)
    simp only [List.set_cons_zero, RepFs]
    exact (iEEAA v vs rfl q hs)
  | y :: ys, _, n + 1, x, v, r, q => by
    simp only [RepFs] at r
    (refine oEEAA r ?_; try clear r; rintro v' vs rfl hv hs)
    simp only [List.set_cons_succ, RepFs]
    exact (iEEAA v' (vs.set n v) rfl hv (hs.set q))
theorem RepFs.reverse {h : Heap} : ∀ {l : List FV} {vs : List Value}, RepFs h l vs → RepFs h l.reverse vs.reverse
  | [], _, r => by simp only [RepFs] at r; subst r; simp [RepFs]
  | x :: xs, _, r => by
    simp only [RepFs] at r
    (refine oEEAA r ?_; try clear r; rintro v vs rfl hv hs)
    simp only [List.reverse_cons]
    exact hs.reverse.append (by simp only [RepFs]; exact (iEEAA v ([]) rfl hv rfl))

/- the world at hand -/
structure Wx where
  prog : Program
  w : World
  h₀ : Heap
  gl : List (Str × Value)
  tabA : Addr
  tabQ : Str
  nol : h₀.NoLimit
  glo : ∃ mg mb, h₀.Ns mainGlobals mg ∧ h₀.Ns builtinsNs mb ∧ ∀ x v, gl.lookup x = some v → (mg x = some v ∨ (mg x = none ∧ mb x = some v))

/- the law's table of its lambdas' codes -/
noncomputable def TabOk (W : Wx) (h : Heap) : Prop := ∃ ps, h.get? W.tabA = some (tabObj ps) ∧ TriplesOk ps.toList ∧ ∀ pos cv, codeAmong pos ps.toList = some cv → h.CodeRec cv W.tabQ

/- the frame at hand -/
structure Fx extends Wx where
  env : Env
  A : Around
  F : List Addr
  n : Nat
  hk : env.scope.kind = .function
  hg : env.globals = mainGlobals
  hb : env.builtins = builtinsNs
  hh : A.handled = none
  hd : A.depth + n < recursionLimit
  hu : A.units + 10 * n + 400 < cLine
  hF : ∃ outer, A.frames = some outer ∧ outer.filterMap (·.frame) = F ∧ ∀ e ∈ outer, e.scope.kind ≠ .module ∧ e.frame.isSome = true

structure St where
  loc : List (Str × AV)
  hp : List AO

noncomputable def mu (X : Fx) (ρ : List Addr) (a : Addr) : Prop := a = X.env.locals ∨ (∃ x, (x, a) ∈ X.env.cells) ∨ a ∈ ρ ∨ a = X.tabA
noncomputable def im (X : Fx) (ρ : List Addr) (a : Addr) : Prop := ¬ mu X ρ a

noncomputable def VarIs (X : Fx) (h : Heap) (x : Str) (v : Value) : Prop :=
  (X.env.kindOf x = some .local ∧ ∃ m, h.Ns X.env.locals m ∧ m x = some v) ∨
  ((X.env.kindOf x = some .cell ∨ X.env.kindOf x = some .free) ∧ ∃ c, X.env.cells.lookup x = some c ∧ h.IsCell c (some v))

structure Rep (X : Fx) (ρ : List Addr) (st : St) (s : Shared) : Prop where
  keep : ∀ b o, X.h₀.get? b = some o → s.heap.get? b = some o
  new : ∀ a, mu X ρ a → X.h₀.get? a = none
  fr : ∀ b ∈ X.F, X.h₀.get? b = none ∧ ∃ o es n, s.heap.get? b = some o ∧ o.data = .dict es n
  ns : ∃ m, s.heap.Ns X.env.locals m
  cl : ∀ x c, (x, c) ∈ X.env.cells → ∃ v, s.heap.IsCell c v
  cnd : (X.env.cells.map (·.2)).Nodup
  var : ∀ x av, st.loc.lookup x = some av → ∃ v, VarIs X s.heap x v ∧ RepV s.heap (im X ρ) ρ av v
  obj : ∀ (k : Nat) ao, st.hp[k]? = some ao → ∃ a, ρ[k]? = some a ∧ RepO s.heap (im X ρ) ao a
  len : st.hp.length = ρ.length
  nd : ρ.Nodup
  tab : TabOk X.toWx s.heap

structure Grow (W : Wx) (F : List Addr) (s s' : Shared) : Prop where
  same : Same (fun a => a = W.tabA) F s.heap s'.heap
  tab : TabOk W s.heap → TabOk W s'.heap
  gens : s'.gens = s.gens
  os : s'.os = s.os
theorem Grow.refl {W F s} : Grow W F s s := ⟨.refl, fun h => h, rfl, rfl⟩
theorem Grow.trans {W F s s' s''} (a : Grow W F s s') (b : Grow W F s' s'') : Grow W F s s'' := ⟨a.same.trans b.same, fun h => b.tab (a.tab h), b.gens.trans a.gens, b.os.trans a.os⟩
theorem Grow.toks {W : Wx} {F : List Addr} {s : Shared} (tk : Nat) : Grow W F s { s with toks := tk } := ⟨.refl, fun h => h, rfl, rfl⟩
theorem TabOk.keeps {W : Wx} {h h' : Heap} (k : ∀ b o, h.get? b = some o → h'.get? b = some o) (x : TabOk W h) : TabOk W h' := by
  (refine oEAA x ?_; try clear x; rintro ps e ht hc)
  exact (iEAA ps (k _ _ e) ht (fun pos cv h => (hc pos cv h).keeps k))
theorem Grow.keeps {W : Wx} {F : List Addr} {s : Shared} {h : Heap} {tk : Nat} (k : ∀ b o, s.heap.get? b = some o → h.get? b = some o) : Grow W F s { s with heap := h, toks := tk } := ⟨.of_keeps k, .keeps k, rfl, rfl⟩

theorem no_seq_dict {h : Heap} {a : Addr} {items : Array Value} {m} (x : h.IsTuple a items ∨ h.IsList a items) (n : h.Ns a m) : False := by
  (refine oEEEAA n ?_; try clear n; rintro o es ep e d _)
  rcases x with ⟨o', e', _, n, d'⟩ | ⟨o', e', _, n, d'⟩ <;> (rw [e] at e'; cases e'; rw [d] at d'; cases d')
theorem no_seq_cell {h : Heap} {a : Addr} {items : Array Value} {v} (x : h.IsTuple a items ∨ h.IsList a items) (n : h.IsCell a v) : False := by
  (refine oEA n ?_; try clear n; rintro o e d)
  rcases x with ⟨o', e', _, n, d'⟩ | ⟨o', e', _, n, d'⟩ <;> (rw [e] at e'; cases e'; rw [d] at d'; cases d')

/- an own object's make -/
theorem RepO.kind {h : Heap} {I : Addr → Prop} {ao : AO} {a : Addr} (r : RepO h I ao a) : ∃ o, h.get? a = some o ∧ o.cls ≠ .type "tuple" ∧ o.cls ≠ .type "function" ∧ o.cls ≠ .none ∧ (∀ es n, o.data ≠ .dict es n) ∧ (∀ v, o.data ≠ .cell v) ∧ (∀ vs, o.data = .fields vs → ∀ q t, vs[1]? ≠ some (.str q t)) := by
  cases ao with
  | list l => (refine oEA r ?_; try clear r; rintro items ⟨n, e⟩ _); exact (iEAAAAAA _ e (by simp) (by simp) (by simp) (by simp) (by simp) (by simp))
  | iter l => (refine oEEEA r ?_; try clear r; rintro la i items ⟨o, e, c, d⟩ _); exact (iEAAAAAA _ e (by simp [c]) (by simp [c]) (by simp [c]) (by simp [d]) (by simp [d]) (by rintro vs hv q t; rw [d] at hv; cases hv; simp))
  | rng x n c => exact (iEAAAAAA _ r (by simp) (by simp) (by simp) (by simp) (by simp) (by rintro vs hv q t; cases hv; simp [rawInt]))
  | plain => (refine oEAA r ?_; try clear r; rintro o e c d); exact (iEAAAAAA _ e (by simp [c]) (by simp [c]) (by simp [c]) (by simp [d]) (by simp [d]) (by simp [d]))
  | fin => (refine oEAAE r ?_; try clear r; rintro o e c i d); exact (iEAAAAAA _ e (by simp [c]) (by simp [c]) (by simp [c]) (by simp [d]) (by simp [d]) (by rintro vs hv q t; rw [d] at hv; cases hv; simp))
  | junk => (refine oEAA r ?_; try clear r; rintro o e c d); exact (iEAAAA _ e (by rcases c with c | c | c | c <;> simp [c]) (by rcases c with c | c | c | c <;> simp [c]) (by rcases c with c | c | c | c <;> simp [c]) d)
theorem tab_noStr {ps : Array Value} (ht : TriplesOk ps.toList) {q t} (h1 : ps[1]? = some (.str q t)) : False := by
  rw [← Array.getElem?_toList] at h1
  generalize ps.toList = l at ht h1
  unfold TriplesOk at ht
  split at ht
  · simp at h1
  · simp at h1
  · exact ht

section
variable {X : Fx} {ρ : List Addr} {st : St} {s s' : Shared}
theorem Rep.own (R : Rep X ρ st s) {a : Addr} (ha : a ∈ ρ) : ∃ (k : Nat) (ao : AO), st.hp[k]? = some ao ∧ ρ[k]? = some a ∧ RepO s.heap (im X ρ) ao a := by
  obtain ⟨k, hk, e⟩ := List.mem_iff_getElem.mp ha
  have hk' : k < st.hp.length := by rw [R.len]; exact hk
  (refine oEA (R.obj k st.hp[k] (by simp [hk'])) ?_; rintro a' e' r)
  have : a' = a := by rw [List.getElem?_eq_getElem hk, e] at e'; exact (Option.some.inj e').symm
  subst this
  exact (iEEAA k (st.hp[k]) (by simp [hk']) e' r)
theorem Rep.tuple_im (R : Rep X ρ st s) {a items} (x : s.heap.IsTuple a items) : im X ρ a := by
  rintro (rfl | ⟨y, hy⟩ | hy | rfl)
  · obtain ⟨m, n⟩ := R.ns; exact no_seq_dict (.inl x) n
  · obtain ⟨v, n⟩ := R.cl y a hy; exact no_seq_cell (.inl x) n
  · (refine oEEAA (R.own hy) ?_; rintro k ao _ _ r)
    (refine oEAA r.kind ?_; rintro o e c _)
    (refine oEAA x ?_; try clear x; rintro o' e' c' _)
    rw [e] at e'; cases e'; exact c c'
  · (refine oEA R.tab ?_; rintro ps e _)
    (refine oEAA x ?_; try clear x; rintro o' e' c' _)
    rw [e] at e'; cases e'; cases c'
theorem Rep.func_im (R : Rep X ρ st s) {a o fd} (e : s.heap.get? a = some o) (hc : o.cls = .type "function") (x : o.data = .func fd) : im X ρ a := by
  rintro (rfl | ⟨y, hy⟩ | hy | rfl)
  · (refine oEEEEAA R.ns ?_; rintro m o' es ep e' d _); rw [e] at e'; cases e'; rw [x] at d; cases d
  · (refine oEEA (R.cl y a hy) ?_; rintro v o' e' d); rw [e] at e'; cases e'; rw [x] at d; cases d
  · (refine oEEAA (R.own hy) ?_; rintro k ao _ _ r)
    (refine oEAAA r.kind ?_; rintro o' e' _ c _)
    rw [e] at e'; cases e'; exact c hc
  · (refine oEA R.tab ?_; rintro ps e' _)
    rw [e] at e'; cases e'; cases x
theorem Rep.mu_some (R : Rep X ρ st s) {a : Addr} (ha : mu X ρ a) : ∃ o, s.heap.get? a = some o := by
  rcases ha with rfl | ⟨y, hy⟩ | hy | rfl
  · (refine oEEEEA R.ns ?_; rintro m o es ep e _); exact ⟨o, e⟩
  · (refine oEEA (R.cl y a hy) ?_; rintro v o e _); exact ⟨o, e⟩
  · (refine oEEAA (R.own hy) ?_; rintro k ao _ _ r)
    (refine oEA r.kind ?_; rintro o e _)
    exact ⟨o, e⟩
  · (refine oEA R.tab ?_; rintro ps e' _); exact ⟨_, e'⟩
theorem Rep.fresh_im (R : Rep X ρ st s) {a : Addr} (ha : s.heap.get? a = none) : im X ρ a := fun hm => by
  obtain ⟨o, e⟩ := R.mu_some hm
  rw [ha] at e; cases e
theorem Rep.own_notF (R : Rep X ρ st s) {a : Addr} (ha : a ∈ ρ) : a ∉ X.F := fun hf => by
  (refine oEEAA (R.own ha) ?_; rintro k ao _ _ r)
  (refine oEAAAAA r.kind ?_; rintro o e _ _ _ d _)
  (refine oAEEEA (R.fr a hf) ?_; rintro _ o' es n e' d')
  rw [e] at e'; cases e'; exact d _ _ d'
theorem Rep.own_notT (R : Rep X ρ st s) {a : Addr} (ha : a ∈ ρ) : a ≠ X.tabA := fun hf => by
  (refine oEEAA (R.own ha) ?_; rintro k ao _ _ r)
  (refine oEAAAA r.kind ?_; rintro o e _ _ d _)
  (refine oEA R.tab ?_; rintro ps e' _)
  rw [hf, e'] at e; cases e; exact d rfl
theorem Rep.F_notT (R : Rep X ρ st s) {a : Addr} (ha : a ∈ X.F) : a ≠ X.tabA := fun hf => by
  (refine oAEEEA (R.fr a ha) ?_; rintro _ o' es n e d')
  (refine oEA R.tab ?_; rintro ps e' _)
  rw [hf, e'] at e; cases e; cases d'
theorem Rep.ns_notT (R : Rep X ρ st s) {a : Addr} {m} (ha : s.heap.Ns a m) : a ≠ X.tabA := fun hf => by
  (refine oEEEAA ha ?_; try clear ha; rintro o' es n e d' _)
  (refine oEA R.tab ?_; rintro ps e' _)
  rw [hf, e'] at e; cases e; cases d'
theorem Rep.cell_notT (R : Rep X ρ st s) {a : Addr} {v} (ha : s.heap.IsCell a v) : a ≠ X.tabA := fun hf => by
  (refine oEA ha ?_; try clear ha; rintro o' e d')
  (refine oEA R.tab ?_; rintro ps e' _)
  rw [hf, e'] at e; cases e; cases d'
theorem Rep.code_im (R : Rep X ρ st s) {c q} (x : s.heap.CodeRec (.ref c) q) : im X ρ c := by
  (refine oEEEEAAA x ?_; try clear x; rintro c' o vs t e0 e d h1)
  cases e0
  rintro (rfl | ⟨y, hy⟩ | hy | rfl)
  · (refine oEEEEAA R.ns ?_; rintro m o' es ep e' d' _); rw [e] at e'; cases e'; rw [d] at d'; cases d'
  · (refine oEEA (R.cl y _ hy) ?_; rintro v o' e' d'); rw [e] at e'; cases e'; rw [d] at d'; cases d'
  · (refine oEEAA (R.own hy) ?_; rintro k ao _ _ r)
    (refine oEAAAAAA r.kind ?_; rintro o' e' _ _ _ _ _ z)
    rw [e] at e'; cases e'; exact z _ d _ _ h1
  · (refine oEAA R.tab ?_; rintro ps e' ht _)
    rw [e] at e'; cases e'; cases d; exact tab_noStr ht h1
/- the table behind a change elsewhere -/
theorem Rep.tab_same (R : Rep X ρ st s) {D : Addr → Prop} {F} {h' : Heap} (S : Same D F s.heap h') (hD : ∀ a, D a → mu X ρ a) (ht : ¬ D X.tabA) (hF : X.tabA ∉ F) : TabOk X.toWx h' := by
  (refine oEAA R.tab ?_; rintro ps e hk hc)
  exact (iEAA ps (S.exact ht hF e) hk (fun pos cv h => codeRec_same S (fun c hc' => fun z => R.code_im (q := X.tabQ) (hc' ▸ hc pos cv h) (hD _ z)) (hc pos cv h)))
theorem LamAt.same {D F} {h h' : Heap} (S : Same D F h h') {a p e sc} (hd : ¬ D a) (hc : ∀ c q, h.CodeRec (.ref c) q → ¬ D c) (x : LamAt h a p e sc) : LamAt h' a p e sc := by
  (refine oEEEEEAAA x ?_; try clear x; rintro o q pm cd ct e1 c1 d1 r1)
  (refine oEAA (S.at hd e1) ?_; rintro o' e' c' d')
  exact (iEEEEEAAA o' q pm cd ct e' (c'.trans c1) (d'.trans d1) (codeRec_same S (fun c hc' => hc c q (hc' ▸ r1)) r1))

/- what stands outside the own objects is kept: a value too -/
theorem Rep.val_same (R : Rep X ρ st s) {D : Addr → Prop} {F} {h' : Heap} (S : Same D F s.heap h') (hD : ∀ a, D a → mu X ρ a) {I : Addr → Prop} {ρ' : List Addr} (hI : ∀ a, im X ρ a → (∃ o, s.heap.get? a = some o) → I a) (hρ : ∀ (k : Nat) a, ρ[k]? = some a → ρ'[k]? = some a)
    {av : AV} {v : Value} (r : RepV s.heap (im X ρ) ρ av v) : RepV h' I ρ' av v := by
  have nd : ∀ a, im X ρ a → ¬ D a := fun a h q => h (hD a q)
  have nt : ∀ a items, s.heap.IsTuple a items → ¬ D a := fun a items x => nd a (R.tuple_im x)
  cases av with
  | f x => exact RepF.same S nt x r
  | lst l =>
    (refine oEEAAA r ?_; try clear r; rintro a items e hi hl hs)
    exact (iEEAAA a items e (hI a hi (let ⟨o, e, _⟩ := hl; ⟨o, e⟩)) (pl_same S (nd a hi) hl) (RepFs.same S nt l hs))
  | obj k => (refine oEA r ?_; try clear r; rintro a e q); exact (iEA a (hρ k a e) q)
  | val v' => exact r
  | lam p e sc =>
    (refine oEA r ?_; try clear r; rintro a q x)
    have ha : im X ρ a := by (refine oEEEEEAAA x ?_; try clear x; rintro o _ _ _ _ e1 c1 d1 _); exact R.func_im e1 c1 d1
    exact (iEA a q (x.same S (nd a ha) fun c q z => nd c (R.code_im z)))
theorem Rep.flat_same (R : Rep X ρ st s) {D : Addr → Prop} {F} {h' : Heap} (S : Same D F s.heap h') (hD : ∀ a, D a → mu X ρ a) {x : FV} {v : Value} (r : RepF s.heap x v) : RepF h' x v :=
  RepF.same S (fun _ _ x => fun q => R.tuple_im x (hD _ q)) x r
theorem Rep.flats_same (R : Rep X ρ st s) {D : Addr → Prop} {F} {h' : Heap} (S : Same D F s.heap h') (hD : ∀ a, D a → mu X ρ a) {x : List FV} {v : List Value} (r : RepFs s.heap x v) : RepFs h' x v :=
  RepFs.same S (fun _ _ x => fun q => R.tuple_im x (hD _ q)) x r
/- an own object that is not changed -/
theorem Rep.obj_same (R : Rep X ρ st s) {D : Addr → Prop} {h' : Heap} (S : Same D X.F s.heap h') (hD : ∀ a, D a → mu X ρ a) {I : Addr → Prop} (hI : ∀ a, im X ρ a → (∃ o, s.heap.get? a = some o) → I a) {ao : AO} {a : Addr} (ha : a ∈ ρ) (hn : ¬ D a) (r : RepO s.heap (im X ρ) ao a) : RepO h' I ao a := by
  have nf := R.own_notF ha
  cases ao with
  | list l => (refine oEA r ?_; try clear r; rintro items ⟨n, e⟩ hs); exact (iEA items (⟨n, S.exact hn nf e⟩) (R.flats_same S hD hs))
  | iter l =>
    (refine oEEEAAA r ?_; try clear r; rintro la i items hi him hl hs)
    exact (iEEEAAA la i items (liter_same S hn hi) (hI la him (let ⟨o, e, _⟩ := hl; ⟨o, e⟩)) (list_same S (fun q => him (hD _ q)) hl) (R.flats_same S hD hs))
  | rng x n c => exact S.exact hn nf r
  | plain => (refine oEAA r ?_; try clear r; rintro o e c d); exact (iEAA o (S.exact hn nf e) c d)
  | fin => (refine oEAA r ?_; try clear r; rintro o e c d); exact (iEAA o (S.exact hn nf e) c d)
  | junk => (refine oEA r ?_; try clear r; rintro o e c); exact (iEA o (S.exact hn nf e) c)
theorem Rep.grow (R : Rep X ρ st s) (G : Grow X.toWx X.F s s') : Rep X ρ st s' := by
  have hD : ∀ a, a = X.tabA → mu X ρ a := fun a h => .inr (.inr (.inr h))
  refine ⟨fun b o e => G.same.exact (fun h => ?_) (fun hf => ?_) (R.keep b o e), R.new, fun b hb => ⟨(R.fr b hb).1, ?_⟩, ?_, fun x c hc => ?_, R.cnd, fun x av e => ?_, fun k ao e => ?_, R.len, R.nd, G.tab R.tab⟩
  · rw [R.new b (hD b h)] at e; cases e
  · rw [(R.fr b hf).1] at e; cases e
  · (refine oAEEEA (R.fr b hb) ?_; rintro _ o es n e d)
    (refine oEAA (G.same.at (R.F_notT hb) e) ?_; rintro o' e' _ d')
    exact (iEEEA o' es n e' (d'.trans d))
  · obtain ⟨m, n⟩ := R.ns; exact ⟨m, ns_same G.same (R.ns_notT n) n⟩
  · obtain ⟨v, n⟩ := R.cl x c hc; exact ⟨v, cell_same G.same (R.cell_notT n) n⟩
  · (refine oEA (R.var x av e) ?_; rintro v hv r)
    refine (iEA v ?_ (R.val_same G.same hD (fun _ h _ => h) (fun _ _ h => h) r))
    rcases hv with ⟨k, m, n, q⟩ | ⟨k, c, q, n⟩
    · exact .inl (iAEA k m (ns_same G.same (R.ns_notT n) n) q)
    · exact .inr (iAEA k c q (cell_same G.same (R.cell_notT n) n))
  · (refine oEA (R.obj k ao e) ?_; rintro a ea r)
    exact (iEA a ea (R.obj_same G.same hD (fun _ h _ => h) (List.mem_of_getElem? ea) (R.own_notT (List.mem_of_getElem? ea)) r))
theorem Rep.val_grow (R : Rep X ρ st s) (G : Grow X.toWx X.F s s') {av : AV} {v : Value} (r : RepV s.heap (im X ρ) ρ av v) : RepV s'.heap (im X ρ) ρ av v :=
  R.val_same G.same (fun a h => .inr (.inr (.inr h))) (fun _ h _ => h) (fun _ _ h => h) r
theorem Rep.flat_grow (R : Rep X ρ st s) (G : Grow X.toWx X.F s s') {x : FV} {v : Value} (r : RepF s.heap x v) : RepF s'.heap x v :=
  R.flat_same G.same (fun a h => .inr (.inr (.inr h))) r
theorem Rep.flats_grow (R : Rep X ρ st s) (G : Grow X.toWx X.F s s') {x : List FV} {v : List Value} (r : RepFs s.heap x v) : RepFs s'.heap x v :=
  R.flats_same G.same (fun a h => .inr (.inr (.inr h))) r
end
end Mine
end
section
open PySem PySem.W PySem.Calls PyProof.Rows
set_option Elab.async false
set_option linter.unusedVariables false
namespace Mine

noncomputable abbrev NoE : Value → Shared → Prop := fun _ _ => False
noncomputable abbrev Fx.M (X : Fx) : Model := model X.prog X.w
noncomputable abbrev Fx.G (X : Fx) (s s' : Shared) : Prop := Grow X.toWx X.F s s'

/- a tree that gives av and changes nothing -/
noncomputable def Gives (X : Fx) (ρ : List Addr) (s : Shared) (t : Sem Value) (av : AV) : Prop :=
  wpAny X.M X.A t (fun v s' => X.G s s' ∧ RepV s'.heap (im X ρ) ρ av v) NoE s
noncomputable def PE (X : Fx) (st : St) (e : Expr) (av : AV) : Prop := ∀ ρ s, Rep X ρ st s → Gives X ρ s (eval e X.env) av
/- a test -/
noncomputable def PT (X : Fx) (st : St) (e : Expr) (b : Bool) : Prop := ∀ ρ s, Rep X ρ st s → wpAny X.M X.A (isTrue e X.env (eval e X.env)) (fun b' s' => b' = b ∧ X.G s s') NoE s
/- a comparison of two values -/
noncomputable def CO (X : Fx) (st : St) (op : CmpOp) (a c : AV) (b : Bool) : Prop := ∀ ρ s v u, Rep X ρ st s → RepV s.heap (im X ρ) ρ a v → RepV s.heap (im X ρ) ρ c u →
  wpAny X.M X.A (compareOp op v u) (fun r s' => r = .bool b ∧ X.G s s') NoE s
/- a truth of a value -/
noncomputable def TO (X : Fx) (st : St) (a : AV) (b : Bool) : Prop := ∀ ρ s v, Rep X ρ st s → RepV s.heap (im X ρ) ρ a v →
  wpAny X.M X.A (truthy v) (fun r s' => r = b ∧ X.G s s') NoE s

section
variable {X : Fx} {st : St} {ρ : List Addr} {s : Shared}

theorem Gives.andThen {t : Sem Value} {a : AV} (R : Rep X ρ st s) (g : Gives X ρ s t a) {Q : Value → Shared → Prop} (k : ∀ v s', Rep X ρ st s' → X.G s s' → RepV s'.heap (im X ρ) ρ a v → Q v s') : wpAny X.M X.A t Q NoE s :=
  wpAny_mono g (fun v s' h => k v s' (R.grow h.1) h.1 h.2) fun _ _ h => h
theorem PE.on {e : Expr} {a : AV} (p : PE X st e a) (R : Rep X ρ st s) {Q : Value → Shared → Prop} (k : ∀ v s', Rep X ρ st s' → X.G s s' → RepV s'.heap (im X ρ) ρ a v → Q v s') : wpAny X.M X.A (eval e X.env) Q NoE s :=
  Gives.andThen R (p ρ s R) k

theorem pe_loc {x : Str} {pos : Pos} {av : AV} (h : st.loc.lookup x = some av) (hd : (x == ("__debug__" : Str)) = false := by decide) (hc : (x == ("__classdict__" : Str)) = false := by decide) : PE X st (.Name x pos) av := fun ρ s R => by
  (refine oEA (R.var x av h) ?_; rintro v hv r)
  refine wpAny_Name ?_ hd
  rcases hv with ⟨k, m, n, q⟩ | ⟨k, c, q, n⟩
  · exact wpAny_loadName_local X.hk k n q ⟨.refl, r⟩
  · rcases k with k | k
    · exact wpAny_loadName_cell X.hk k q n ⟨.refl, r⟩
    · exact wpAny_loadName_free X.hk k q n ⟨.refl, r⟩ hc
theorem pe_glo {x : Str} {pos : Pos} {v : Value} (hk : X.env.kindOf x = some .globalImplicit) (h : X.gl.lookup x = some v) (hd : (x == ("__debug__" : Str)) = false := by decide) : PE X st (.Name x pos) (.val v) := fun ρ s R => by
  (refine oEEAA X.glo ?_; rintro mg mb G B k)
  refine Name_function_global X.hk hk ?_ hd
  rcases k x v h with e | ⟨e, e'⟩
  · exact loadGlobal_global (mg := mg) (X.hg ▸ G.keeps R.keep) e ⟨.refl, rfl⟩
  · exact loadGlobal_builtin (mg := mg) (mb := mb) (X.hg ▸ G.keeps R.keep) e (X.hb ▸ B.keeps R.keep) e' ⟨.refl, rfl⟩
theorem pe_int {i : Int} {k pos} : PE X st (.Constant (.int i) k pos) (.f (.int i)) := fun ρ s R => wpAny_Constant_int (iAE (.toks _) _ rfl)
theorem pe_none {k pos} : PE X st (.Constant .none k pos) (.f .none) := fun ρ s R => wpAny_Constant_none ⟨.refl, rfl⟩
theorem pe_bool {b k pos} : PE X st (.Constant (.bool b) k pos) (.f (.bool b)) := fun ρ s R => wpAny_Constant_bool ⟨.refl, rfl⟩

/- an operation of two values -/
noncomputable def BO (X : Fx) (st : St) (op : Operator) (a c r : AV) : Prop := ∀ ρ s v u, Rep X ρ st s → RepV s.heap (im X ρ) ρ a v → RepV s.heap (im X ρ) ρ c u → Gives X ρ s (binaryOp op v u) r
theorem pe_bin {l r : Expr} {op : Operator} {pos : Pos} {a c d : AV} (hl : PE X st l a) (hr : PE X st r c) (ho : BO X st op a c d) : PE X st (.BinOp l op r pos) d := fun ρ s R => by
  refine wpAny_BinOp (hl.on R fun v s₁ R₁ G₁ r₁ => hr.on R₁ fun u s₂ R₂ G₂ r₂ => ?_)
  exact wpAny_mono (ho ρ s₂ v u R₂ (R₁.val_grow G₂ r₁) r₂) (fun v s' h => ⟨(G₁.trans G₂).trans h.1, h.2⟩) fun _ _ h => h
theorem bo_add {i j : Int} : BO X st .Add (.f (.int i)) (.f (.int j)) (.f (.int (i + j))) := by
  rintro ρ s _ _ R ⟨t, rfl⟩ ⟨u, rfl⟩; exact add_int (iAE (.toks _) _ rfl)
theorem bo_sub {i j : Int} : BO X st .Sub (.f (.int i)) (.f (.int j)) (.f (.int (i - j))) := by
  rintro ρ s _ _ R ⟨t, rfl⟩ ⟨u, rfl⟩; exact sub_int (iAE (.toks _) _ rfl)
theorem bo_mul {i j : Int} (h : IntMulOk i j) : BO X st .Mult (.f (.int i)) (.f (.int j)) (.f (.int (i * j))) := by
  rintro ρ s _ _ R ⟨t, rfl⟩ ⟨u, rfl⟩; exact mul_int (iAE (.toks _) _ rfl) h
theorem bo_mod {i j : Int} (h : j ≠ 0) : BO X st .Mod (.f (.int i)) (.f (.int j)) (.f (.int (i.fmod j))) := by
  rintro ρ s _ _ R ⟨t, rfl⟩ ⟨u, rfl⟩; exact mod_int h (iAE (.toks _) _ rfl)
theorem bo_fdiv {i j : Int} (h : j ≠ 0) (hp : Builtin.divisionGoesByPylong i j = false) : BO X st .FloorDiv (.f (.int i)) (.f (.int j)) (.f (.int (i.fdiv j))) := by
  rintro ρ s _ _ R ⟨t, rfl⟩ ⟨u, rfl⟩; exact floordiv_int h (iAE (.toks _) _ rfl) (.inl hp)
theorem bo_shr {i : Int} : BO X st .RShift (.f (.int i)) (.f (.int 1)) (.f (.int (i.fdiv 2))) := by
  rintro ρ s _ _ R ⟨t, rfl⟩ ⟨u, rfl⟩; exact rshift_int (by decide) (iAE (.toks _) _ rfl)
theorem pe_neg {e : Expr} {pos : Pos} {i : Int} (h : PE X st e (.f (.int i))) : PE X st (.UnaryOp .USub e pos) (.f (.int (-i))) := fun ρ s R => by
  refine wpAny_UnaryOp (h.on R fun v s₁ R₁ G₁ r₁ => ?_)
  obtain ⟨t, rfl⟩ := r₁
  exact neg_int (iAE (G₁.trans (.toks _)) _ rfl)

theorem pe_cmp {l r : Expr} {op : CmpOp} {pos : Pos} {a c : AV} {b : Bool} (hl : PE X st l a) (hr : PE X st r c) (ho : CO X st op a c b) (hm : behindInMarks op r = false := by with_unfolding_all rfl) : PE X st (.Compare l [op] [r] pos) (.f (.bool b)) := fun ρ s R => by
  refine wpAny_Compare1 (hl.on R fun v s₁ R₁ G₁ r₁ => hr.on R₁ fun u s₂ R₂ G₂ r₂ => ?_) hm
  exact wpAny_mono (ho ρ s₂ v u R₂ (R₁.val_grow G₂ r₁) r₂) (fun v s' h => ⟨(G₁.trans G₂).trans h.2, h.1⟩) fun _ _ h => h
theorem pt_cmp {l r : Expr} {op : CmpOp} {pos : Pos} {a c : AV} {b : Bool} (hl : PE X st l a) (hr : PE X st r c) (ho : CO X st op a c b) (hm : behindInMarks op r = false := by with_unfolding_all rfl) : PT X st (.Compare l [op] [r] pos) b := fun ρ s R => by
  refine wpAny_isTrue_Compare1 (hl.on R fun v s₁ R₁ G₁ r₁ => hr.on R₁ fun u s₂ R₂ G₂ r₂ => ?_) hm
  refine wpAny_mono (ho ρ s₂ v u R₂ (R₁.val_grow G₂ r₁) r₂) (fun v s' h => ?_) fun _ _ h => h
  rw [h.1]
  exact wpAny_truthy_bool ⟨rfl, (G₁.trans G₂).trans h.2⟩
theorem pt_val {e : Expr} {a : AV} {b : Bool} (h : PE X st e a) (ht : TO X st a b) (he : ∀ whole, isTrue e X.env whole = (do let v ← whole; standAt e.pos; holding [v] (truthy v)) := by intro _; rfl) : PT X st e b := fun ρ s R => by
  refine wpAny_isTrue_value (h.on R fun v s₁ R₁ G₁ r₁ => ?_) (he _)
  exact wpAny_mono (ht ρ s₁ v R₁ r₁) (fun v s' h => ⟨h.1, G₁.trans h.2⟩) fun _ _ h => h
theorem pt_not {e : Expr} {pos : Pos} {b : Bool} (h : PT X st e b) : PT X st (.UnaryOp .Not e pos) (!b) := fun ρ s R =>
  wpAny_isTrue_Not (wpAny_mono (h ρ s R) (fun b' s' k => ⟨by rw [k.1], k.2⟩) fun _ _ h => h)
theorem pt_and {x y : Expr} {pos : Pos} {a b : Bool} (h1 : PT X st x a) (h2 : a = true → PT X st y b) : PT X st (.BoolOp .And [x, y] pos) (a && b) := fun ρ s R => by
  refine wpAny_isTrue_BoolOp (wpAny_allTrue_And_cons (wpAny_mono (h1 ρ s R) (fun a' s₁ k => ?_) fun _ _ h => h))
  obtain ⟨rfl, G⟩ := k
  cases a' with
  | false => exact ⟨rfl, G⟩
  | true =>
    refine wpAny_allTrue_And_cons (wpAny_mono (h2 rfl ρ s₁ (R.grow G)) (fun b' s₂ k => ?_) fun _ _ h => h)
    obtain ⟨rfl, G'⟩ := k
    cases b' with
    | false => exact ⟨rfl, G.trans G'⟩
    | true => exact wpAny_allTrue_And_nil ⟨rfl, G.trans G'⟩
theorem pt_or {x y : Expr} {pos : Pos} {a b : Bool} (h1 : PT X st x a) (h2 : a = false → PT X st y b) : PT X st (.BoolOp .Or [x, y] pos) (a || b) := fun ρ s R => by
  refine wpAny_isTrue_BoolOp (wpAny_allTrue_Or_cons (wpAny_mono (h1 ρ s R) (fun a' s₁ k => ?_) fun _ _ h => h))
  obtain ⟨rfl, G⟩ := k
  cases a' with
  | true => exact ⟨rfl, G⟩
  | false =>
    refine wpAny_allTrue_Or_cons (wpAny_mono (h2 rfl ρ s₁ (R.grow G)) (fun b' s₂ k => ?_) fun _ _ h => h)
    obtain ⟨rfl, G'⟩ := k
    cases b' with
    | true => exact ⟨rfl, G.trans G'⟩
    | false => exact wpAny_allTrue_Or_nil ⟨rfl, G.trans G'⟩
theorem pe_if {t e f : Expr} {pos : Pos} {b : Bool} {a : AV} (ht : PT X st t b) (h1 : b = true → PE X st e a) (h2 : b = false → PE X st f a) : PE X st (.IfExp t e f pos) a := fun ρ s R => by
  refine wpAny_IfExp (wpAny_mono (ht ρ s R) (fun b' s₁ k => ?_) fun _ _ h => h)
  obtain ⟨rfl, G⟩ := k
  cases b' with
  | true => exact (h1 rfl).on (R.grow G) fun v s' _ G' r => ⟨G.trans G', r⟩
  | false => exact (h2 rfl).on (R.grow G) fun v s' _ G' r => ⟨G.trans G', r⟩

theorem co_lt_int {i j : Int} : CO X st .Lt (.f (.int i)) (.f (.int j)) (decide (i < j)) := by rintro ρ s _ _ R ⟨t, rfl⟩ ⟨u, rfl⟩; exact lt_int ⟨rfl, .refl⟩
theorem co_le_int {i j : Int} : CO X st .LtE (.f (.int i)) (.f (.int j)) (decide (i ≤ j)) := by rintro ρ s _ _ R ⟨t, rfl⟩ ⟨u, rfl⟩; exact le_int ⟨rfl, .refl⟩
theorem co_gt_int {i j : Int} : CO X st .Gt (.f (.int i)) (.f (.int j)) (decide (j < i)) := by rintro ρ s _ _ R ⟨t, rfl⟩ ⟨u, rfl⟩; exact gt_int ⟨rfl, .refl⟩
theorem co_ge_int {i j : Int} : CO X st .GtE (.f (.int i)) (.f (.int j)) (decide (j ≤ i)) := by rintro ρ s _ _ R ⟨t, rfl⟩ ⟨u, rfl⟩; exact ge_int ⟨rfl, .refl⟩
theorem co_eq_int {i j : Int} : CO X st .Eq (.f (.int i)) (.f (.int j)) (i == j) := by rintro ρ s _ _ R ⟨t, rfl⟩ ⟨u, rfl⟩; exact eq_int ⟨rfl, .refl⟩
theorem to_bool {b : Bool} : TO X st (.f (.bool b)) b := by rintro ρ s _ R rfl; exact wpAny_truthy_bool ⟨rfl, .refl⟩

/- the list that a value is -/
noncomputable def asL (hp : List AO) : AV → Option (List FV)
  | .lst l => some l
  | .obj k => match hp[k]? with | some (.list l) => some l | _ => none
  | _ => none
theorem Rep.asL (R : Rep X ρ st s) {a : AV} {l : List FV} {v : Value} (h : asL st.hp a = some l) (r : RepV s.heap (im X ρ) ρ a v) : ∃ la items, v = .ref la ∧ s.heap.IsList la items ∧ RepFs s.heap l items.toList ∧ items.size = l.length := by
  cases a with
  | lst l' =>
    cases h
    (refine oEEAAA r ?_; try clear r; rintro la items e _ hl hs)
    exact (iEEAAA la items e hl.list hs (by rw [← hs.length]; simp))
  | obj k =>
    simp only [Mine.asL] at h
    split at h
    · rename_i l' e
      cases h
      (refine oEA (R.obj k _ e) ?_; rintro a ea ra)
      (refine oEA r ?_; try clear r; rintro a' ea' ev)
      obtain rfl : a = a' := Option.some.inj (ea.symm.trans ea')
      (refine oEA ra ?_; try clear ra; rintro items ⟨n, e⟩ hs)
      exact (iEEAAA a items ev ((iEAAE _ e rfl n rfl)) hs (by rw [← hs.length]; simp))
    · cases h
  | f x => cases h
  | val x => cases h
  | lam p e sc => cases h
theorem to_list {a : AV} {l : List FV} (h : asL st.hp a = some l) (hz : l.length ≤ 2 ^ 20) : TO X st a (!l.isEmpty) := by
  intro ρ s v R r
  (refine oEEAAA (R.asL h r) ?_; rintro la items rfl hl hs e)
  refine wpAny_truthy_list hl (by lia) ⟨?_, .toks _⟩
  have : items.isEmpty = l.isEmpty := by
    rcases l with _ | ⟨y, ys⟩
    · simp at e; simp [e]
    · cases q : items.isEmpty with
      | false => rfl
      | true => simp at q; simp [q] at e
  rw [this]

theorem pe_item {e i : Expr} {pos : Pos} {a : AV} {l : List FV} {k : Int} {x : FV} (he : PE X st e a) (hi : PE X st i (.f (.int k))) (hl : asL st.hp a = some l) (h0 : 0 ≤ k) (hx : l[k.toNat]? = some x) (hz : l.length ≤ 2 ^ 20)
    (hs : ∀ la t, subscripted i false (.ref la) (.int k t) = operate [.ref la, .int k t] (getItem (.ref la) (.int k t)) := by intro _ _; with_unfolding_all rfl) : PE X st (.Subscript e i pos) (.f x) := fun ρ s R => by
  refine Subscript_ (he.on R fun v s₁ R₁ G₁ r₁ => hi.on R₁ fun u s₂ R₂ G₂ r₂ => ?_)
  obtain ⟨t, rfl⟩ := r₂
  (refine oEEAAA (R₂.asL hl (R₁.val_grow G₂ r₁)) ?_; rintro la items rfl hl hr e)
  (refine oEA (hr.get hx) ?_; rintro y ey ry)
  have hlt : k.toNat < l.length := by
    rcases Nat.lt_or_ge k.toNat l.length with h | h
    · exact h
    · rw [List.getElem?_eq_none h] at hx; cases hx
  exact tail_any hl.typeIs slot_list_getitem.lookup (wpAny_getItem_list hl h0 (by lia) (by rw [← Array.getElem?_toList]; exact ey) ⟨G₁.trans G₂, ry⟩) (hs _ _)
theorem pe_tupitem {e i : Expr} {pos : Pos} {l : List FV} {k : Nat} {x : FV} (he : PE X st e (.f (.tup l))) (hi : PE X st i (.f (.int k))) (hx : l[k]? = some x) (hz : l.length ≤ 1000)
    (hs : ∀ la t, subscripted i false (.ref la) (.int k t) = operate [.ref la, .int k t] (getItem (.ref la) (.int k t)) := by intro _ _; with_unfolding_all rfl) : PE X st (.Subscript e i pos) (.f x) := fun ρ s R => by
  refine Subscript_ (he.on R fun v s₁ R₁ G₁ r₁ => hi.on R₁ fun u s₂ R₂ G₂ r₂ => ?_)
  obtain ⟨t, rfl⟩ := r₂
  have r₁' := R₁.val_grow G₂ r₁
  simp only [RepV, RepF] at r₁'
  (refine oEEAA r₁' ?_; try clear r₁'; rintro la items rfl hT hr)
  (refine oEA (hr.get hx) ?_; rintro y ey ry)
  have hlt : k < l.length := by
    rcases Nat.lt_or_ge k l.length with h | h
    · exact h
    · rw [List.getElem?_eq_none h] at hx; cases hx
  have e : items.size = l.length := by rw [← hr.length]; simp
  refine tail_any (T := "tuple") hT.typeIs slot_tuple_getitem.lookup (getItem_tuple (j := k) hT (by lia) (by lia) ?_ (by rw [← Array.getElem?_toList]; exact ey) ⟨G₁.trans G₂, ry⟩) (hs _ _)
  simp [seqIndex?, e]; lia

/- several expressions -/
inductive PEs (X : Fx) (st : St) : List Expr → List AV → Prop
  | nil : PEs X st [] []
  | cons {e es a as} : PE X st e a → PEs X st es as → (starEach (e :: es) X.env = (false, eval e X.env) :: starEach es X.env) → PEs X st (e :: es) (a :: as)
inductive RepVs (h : Heap) (I : Addr → Prop) (ρ : List Addr) : List AV → List Value → Prop
  | nil : RepVs h I ρ [] []
  | cons {a v as vs} : RepV h I ρ a v → RepVs h I ρ as vs → RepVs h I ρ (a :: as) (v :: vs)
theorem RepVs.head1 {h : Heap} {I : Addr → Prop} {ρ : List Addr} {a : AV} {as : List AV} {vs : List Value} {G : List Value → Prop} (r : RepVs h I ρ (a :: as) vs) (k : ∀ v vs, RepV h I ρ a v → RepVs h I ρ as vs → G (v :: vs)) : G vs := by cases r with | cons r rs => exact k _ _ r rs
@[elab_as_elim] theorem RepVs.c0 {h : Heap} {I : Addr → Prop} {ρ : List Addr} {vs : List Value} {G : List Value → Prop} (r : RepVs h I ρ [] vs) (k : G []) : G vs := by cases r; exact k
@[elab_as_elim] theorem RepVs.c1 {h : Heap} {I : Addr → Prop} {ρ : List Addr} {a0 : AV} {vs : List Value} {G : List Value → Prop} (r : RepVs h I ρ [a0] vs) (k : ∀ v0, RepV h I ρ a0 v0 → G [v0]) : G vs := r.head1 (G := G) fun v0 _ r rs => rs.c0 (G := fun vs => G (v0 :: vs)) (k v0 r)
@[elab_as_elim] theorem RepVs.c2 {h : Heap} {I : Addr → Prop} {ρ : List Addr} {a0 a1 : AV} {vs : List Value} {G : List Value → Prop} (r : RepVs h I ρ [a0, a1] vs) (k : ∀ v0 v1, RepV h I ρ a0 v0 → RepV h I ρ a1 v1 → G [v0, v1]) : G vs := r.head1 (G := G) fun v0 _ r rs => rs.c1 (G := fun vs => G (v0 :: vs)) fun v1 r1 => k v0 v1 r r1
@[elab_as_elim] theorem RepVs.c3 {h : Heap} {I : Addr → Prop} {ρ : List Addr} {a0 a1 a2 : AV} {vs : List Value} {G : List Value → Prop} (r : RepVs h I ρ [a0, a1, a2] vs) (k : ∀ v0 v1 v2, RepV h I ρ a0 v0 → RepV h I ρ a1 v1 → RepV h I ρ a2 v2 → G [v0, v1, v2]) : G vs := r.head1 (G := G) fun v0 _ r rs => rs.c2 (G := fun vs => G (v0 :: vs)) fun v1 v2 r1 r2 => k v0 v1 v2 r r1 r2
@[elab_as_elim] theorem RepVs.c4 {h : Heap} {I : Addr → Prop} {ρ : List Addr} {a0 a1 a2 a3 : AV} {vs : List Value} {G : List Value → Prop} (r : RepVs h I ρ [a0, a1, a2, a3] vs) (k : ∀ v0 v1 v2 v3, RepV h I ρ a0 v0 → RepV h I ρ a1 v1 → RepV h I ρ a2 v2 → RepV h I ρ a3 v3 → G [v0, v1, v2, v3]) : G vs := r.head1 (G := G) fun v0 _ r rs => rs.c3 (G := fun vs => G (v0 :: vs)) fun v1 v2 v3 r1 r2 r3 => k v0 v1 v2 v3 r r1 r2 r3
@[elab_as_elim] theorem RepVs.c5 {h : Heap} {I : Addr → Prop} {ρ : List Addr} {a0 a1 a2 a3 a4 : AV} {vs : List Value} {G : List Value → Prop} (r : RepVs h I ρ [a0, a1, a2, a3, a4] vs) (k : ∀ v0 v1 v2 v3 v4, RepV h I ρ a0 v0 → RepV h I ρ a1 v1 → RepV h I ρ a2 v2 → RepV h I ρ a3 v3 → RepV h I ρ a4 v4 → G [v0, v1, v2, v3, v4]) : G vs := r.head1 (G := G) fun v0 _ r rs => rs.c4 (G := fun vs => G (v0 :: vs)) fun v1 v2 v3 v4 r1 r2 r3 r4 => k v0 v1 v2 v3 v4 r r1 r2 r3 r4
theorem Rep.vals_grow {s' : Shared} (R : Rep X ρ st s) (G : X.G s s') {as : List AV} {vs : List Value} (r : RepVs s.heap (im X ρ) ρ as vs) : RepVs s'.heap (im X ρ) ρ as vs := by
  induction r with
  | nil => exact .nil
  | cons a _ ih => exact .cons (R.val_grow G a) ih
theorem PEs.on {pos : Pos} : ∀ {es : List Expr} {as : List AV} {s : Shared}, PEs X st es as → Rep X ρ st s → ∀ {Q : List Value → Shared → Prop}, (∀ vs s', Rep X ρ st s' → X.G s s' → RepVs s'.heap (im X ρ) ρ as vs → Q vs s') → wpAny X.M X.A (spliced (backTo pos (starEach es X.env))) Q NoE s
 := by
  intro es as s h
  induction h generalizing s with
  | nil => exact fun R _ k => wpAny_items_nil (k [] s R .refl .nil)
  | cons p ps he ih => exact fun R _ k => wpAny_items_cons (p.on R fun v s₁ R₁ G₁ r₁ => ih R₁ fun vs s₂ R₂ G₂ r₂ => k _ s₂ R₂ (G₁.trans G₂) (.cons (R₁.val_grow G₂ r₁) r₂)) he
theorem RepVs.flat {h : Heap} {I : Addr → Prop} : ∀ {l : List FV} {vs : List Value}, RepVs h I ρ (l.map .f) vs → RepFs h l vs
  | [], _, r => by cases r; simp [RepFs]
  | x :: xs, _, r => by
    cases r with
    | cons a b => simp only [RepFs]; exact (iEEAA _ _ rfl a (RepVs.flat b))
theorem pe_tuple {es : List Expr} {c : Nat} {pos : Pos} {l : List FV} (h : PEs X st es (l.map .f)) (hz : l.length ≤ 1000) : PE X st (.Tuple es c pos) (.f (.tup l)) := fun ρ s R => by
  refine wpAny_Tuple_spliced (h.on R fun vs s₁ R₁ G₁ r₁ => ?_)
  have rf := RepVs.flat r₁
  have hs : sizeLine = 16777216 := rfl
  refine ⟨by rw [rf.length]; (exact Nat.le_trans ‹_› (by decide)), G₁.trans (.keeps fun b o e => Heap.get?_push_of_some _ e), ?_⟩
  simp only [RepV, RepF]
  exact (iEEAA _ vs.toArray rfl ((iEAAE _ (Heap.get?_push_size _ rfl) rfl _ rfl)) (by simpa using R₁.flats_same (D := Nowhere) (F := X.F) (.of_keeps fun b o e => Heap.get?_push_of_some _ e) (fun _ h => h.elim) rf))
end
end Mine
end
section
open PySem PySem.W PySem.Calls PyProof.Rows
set_option Elab.async false
set_option linter.unusedVariables false
set_option linter.unusedSimpArgs false
namespace Mine

structure Ext (X : Fx) (ρ : List Addr) (s : Shared) (ρ' : List Addr) (s' : Shared) : Prop where
  same : Same (mu X ρ) X.F s.heap s'.heap
  pre : ∀ (k : Nat) a, ρ[k]? = some a → ρ'[k]? = some a
  mu : ∀ a, mu X ρ' a → mu X ρ a ∨ s.heap.get? a = none
  ex : ∀ a o, s.heap.get? a = some o → ∃ o', s'.heap.get? a = some o'
  gens : s'.gens = s.gens
  os : s'.os = s.os

section
variable {X : Fx} {st : St} {ρ ρ' ρ'' : List Addr} {s s' s'' : Shared}
theorem Ext.refl : Ext X ρ s ρ s := ⟨.refl, fun _ _ h => h, fun _ h => .inl h, fun _ o e => ⟨o, e⟩, rfl, rfl⟩
theorem Ext.none (E : Ext X ρ s ρ' s') {a : Addr} (h : s'.heap.get? a = none) : s.heap.get? a = none := by
  cases e : s.heap.get? a with
  | none => rfl
  | some o => obtain ⟨o', e'⟩ := E.ex a o e; rw [h] at e'; cases e'
theorem Ext.im_of (E : Ext X ρ s ρ' s') {a : Addr} (h : im X ρ a) (he : ∃ o, s.heap.get? a = some o) : im X ρ' a := fun q => by
  rcases E.mu a q with q | q
  · exact h q
  · obtain ⟨o, e⟩ := he; rw [q] at e; cases e
theorem Ext.trans (E : Ext X ρ s ρ' s') (E' : Ext X ρ' s' ρ'' s'') : Ext X ρ s ρ'' s'' := by
  refine ⟨fun b o hb e => ?_, fun k a h => E'.pre k a (E.pre k a h), fun a h => ?_, fun a o e => ?_, E'.gens.trans E.gens, E'.os.trans E.os⟩
  · (refine oEA (E.same b o hb e) ?_; rintro o' e' k)
    (refine oEA (E'.same b o' (E.im_of hb ⟨o, e⟩) e') ?_; rintro o'' e'' k')
    exact (iEA o'' e'' (k.trans k'))
  · rcases E'.mu a h with q | q
    · exact E.mu a q
    · exact .inr (E.none q)
  · obtain ⟨o', e'⟩ := E.ex a o e; exact E'.ex a o' e'
theorem Rep.ext (R : Rep X ρ st s) (G : X.G s s') : Ext X ρ s ρ s' := ⟨G.same.mono fun a h => .inr (.inr (.inr h)), fun _ _ h => h, fun _ h => .inl h, fun a o e => by
  by_cases q : a = X.tabA
  · (refine oEA (G.tab R.tab) ?_; rintro ps e' _); exact ⟨_, q ▸ e'⟩
  · (refine oEA (G.same a o q e) ?_; rintro o' e' _); exact ⟨o', e'⟩, G.gens, G.os⟩
theorem Rep.val_ext (R : Rep X ρ st s) (E : Ext X ρ s ρ' s') {av : AV} {v : Value} (r : RepV s.heap (im X ρ) ρ av v) : RepV s'.heap (im X ρ') ρ' av v :=
  R.val_same E.same (fun _ h => h) (fun a h e => E.im_of h e) E.pre r
noncomputable def setL (x : Str) (a : AV) : List (Str × AV) → List (Str × AV)
  | [] => [(x, a)]
  | (y, b) :: r => if y == x then (x, a) :: r else (y, b) :: setL x a r
theorem setL_lookup (x : Str) (a : AV) (y : Str) : ∀ l : List (Str × AV), (setL x a l).lookup y = if y = x then some a else l.lookup y
  | [] => by
    simp only [setL, List.lookup_cons, List.lookup_nil]
    by_cases h : y = x
    · subst h; simp
    · simp only [beq_eq_false_iff_ne.mpr h, h, if_false]
  | (z, b) :: r => by
    have ih := setL_lookup x a y r
    simp only [setL]
    by_cases hz : z = x
    · subst hz
      simp only [BEq.rfl, if_true, List.lookup_cons]
      by_cases h : y = z
      · subst h; simp
      · simp only [beq_eq_false_iff_ne.mpr h, h, if_false]
    · simp only [beq_eq_false_iff_ne.mpr hz, Bool.false_eq_true, if_false, List.lookup_cons]
      by_cases h : y = z
      · subst h; simp [hz]
      · simp only [beq_eq_false_iff_ne.mpr h, Bool.false_eq_true, if_false]; exact ih
noncomputable def St.set (st : St) (x : Str) (a : AV) : St := { st with loc := setL x a st.loc }

theorem lookup_mem {α β} [BEq α] [LawfulBEq α] {l : List (α × β)} {x : α} {c : β} (h : l.lookup x = some c) : (x, c) ∈ l := by
  induction l with
  | nil => cases h
  | cons p l ih =>
    obtain ⟨y, d⟩ := p
    simp only [List.lookup_cons] at h
    by_cases e : x = y
    · subst e; simp at h; subst h; exact .head _
    · simp only [beq_eq_false_iff_ne.mpr e, Bool.false_eq_true, if_false] at h; exact .tail _ (ih h)
theorem nodup_snd {α β} {l : List (α × β)} (nd : (l.map (·.2)).Nodup) {x y : α} {c : β} (h1 : (x, c) ∈ l) (h2 : (y, c) ∈ l) : x = y := by
  induction l with
  | nil => cases h1
  | cons p l ih =>
    simp only [List.map_cons, List.nodup_cons] at nd
    rcases List.mem_cons.mp h1 with e1 | h1 <;> rcases List.mem_cons.mp h2 with e2 | h2
    · rw [← e1] at e2; exact (Prod.mk.inj e2).1.symm
    · exact absurd (List.mem_map.mpr ⟨_, h2, by rw [← e1]⟩) nd.1
    · exact absurd (List.mem_map.mpr ⟨_, h1, by rw [← e2]⟩) nd.1
    · exact ih nd.2 h1 h2

/- the frame changed at one of its own places -/
theorem Rep.changed (R : Rep X ρ st s) {d : Addr} {s' : Shared} {st' : St} (hd : mu X ρ d) (hT : d ≠ X.tabA) (hs : Same (fun a => a = d) X.F s.heap s'.heap)
    (ns : ∃ m, s'.heap.Ns X.env.locals m) (cl : ∀ x c, (x, c) ∈ X.env.cells → ∃ v, s'.heap.IsCell c v)
    (fr : ∀ b ∈ X.F, b = d → ∃ o es n, s'.heap.get? b = some o ∧ o.data = .dict es n)
    (var : ∀ x av, st'.loc.lookup x = some av → ∃ v, VarIs X s'.heap x v ∧ RepV s'.heap (im X ρ) ρ av v)
    (obj : ∀ (k : Nat) ao, st'.hp[k]? = some ao → ∃ a, ρ[k]? = some a ∧ RepO s'.heap (im X ρ) ao a) (len : st'.hp.length = ρ.length) : Rep X ρ st' s' := by
  refine ⟨fun b o e => ?_, R.new, fun b hb => ⟨(R.fr b hb).1, ?_⟩, ns, cl, R.cnd, var, obj, len, R.nd, R.tab_same hs (fun a q => q ▸ hd) (fun q => hT q.symm) fun q => R.F_notT q rfl⟩
  · refine hs.exact (fun q => ?_) (fun hf => ?_) (R.keep b o e)
    · rw [R.new b (q ▸ hd)] at e; cases e
    · rw [(R.fr b hf).1] at e; cases e
  · by_cases q : b = d
    · exact fr b hb q
    · (refine oAEEEA (R.fr b hb) ?_; rintro _ o es n e dd)
      (refine oEAA (hs.at q e) ?_; rintro o' e' _ d')
      exact (iEEEA o' es n e' (d'.trans dd))
theorem changed_ext (hd : mu X ρ d) (hs : Same (fun a => a = d) X.F s.heap s'.heap) (hx : ∃ o, s'.heap.get? d = some o) (g : s'.gens = s.gens) (os : s'.os = s.os) : Ext X ρ s ρ s' := by
  refine ⟨hs.mono (fun x q => q ▸ hd), fun _ _ h => h, fun _ h => .inl h, fun a o e => ?_, g, os⟩
  by_cases q : a = d
  · rw [q]; exact hx
  · (refine oEA (hs a o q e) ?_; rintro o' e' _); exact ⟨o', e'⟩

theorem Rep.store (R : Rep X ρ st s) {x : Str} {v : Value} {av : AV} (hk : X.env.kindOf x = some .local ∨ (X.env.kindOf x = some .cell ∧ (X.env.cells.lookup x).isSome = true)) (r : RepV s.heap (im X ρ) ρ av v) {Q : Unit → Shared → Prop}
    (k : ∀ s', Rep X ρ (st.set x av) s' → Ext X ρ s ρ s' → Q () s') : wpAny X.M X.A (storeName X.env x v) Q NoE s := by
  rcases hk with hk | ⟨hk, hc⟩
  · obtain ⟨m, n⟩ := R.ns
    have hp : (X.env.scope.kind == .class || (X.env.scope.kind == .module && X.env.locals != X.env.globals)) = false := by rw [X.hk]; rfl
    refine wpAny_storeName_local hk n (fun h' hn hs => ?_) hp
    have hS : Same (fun a => a = X.env.locals) X.F s.heap h' := Same.of_but hs rfl
    have hmu : mu X ρ X.env.locals := .inl rfl
    have hD : ∀ a, a = X.env.locals → mu X ρ a := fun a q => q ▸ hmu
    have hnc : ∀ c, (∃ v, s.heap.IsCell c v) → c ≠ X.env.locals := by
      (rintro c zq1 rfl; refine oEEA zq1 ?_; clear zq1; rintro v o e d)
      (refine oEEEAA n ?_; try clear n; rintro o' es ep e' d' _)
      rw [e] at e'; cases e'; rw [d] at d'; cases d'
    have hnr : ∀ a ∈ ρ, a ≠ X.env.locals := by
      rintro a ha rfl
      (refine oEEAA (R.own ha) ?_; rintro _ ao _ _ rr)
      (refine oEAAAAA rr.kind ?_; rintro o e _ _ _ d _)
      (refine oEEEAA n ?_; try clear n; rintro o' es ep e' d' _)
      rw [e] at e'; cases e'; exact d _ _ d'
    (refine oEEEAA (id hn) ?_; rintro oL esL epL eL dL rL)
    refine k _ (R.changed hmu (R.ns_notT n) hS ⟨_, hn⟩ (fun x c hc => ?_) (fun b hb q => q ▸ (iEEEA oL esL epL eL dL)) (fun y bv e => ?_) (fun i ao e => ?_) R.len) (changed_ext hmu hS ⟨oL, eL⟩ rfl rfl)
    · obtain ⟨v, n⟩ := R.cl x c hc; exact ⟨v, cell_same hS (hnc c ⟨v, n⟩) n⟩
    · simp only [St.set, setL_lookup] at e
      by_cases q : y = x
      · subst q
        simp only [if_true, Option.some.injEq] at e
        subst e
        exact (iEA v (.inl (iAEA hk _ hn (by simp))) (R.val_same hS hD (fun _ h _ => h) (fun _ _ h => h) r))
      · simp only [q, if_false] at e
        (refine oEA (R.var y bv e) ?_; rintro u hv ru)
        refine (iEA u ?_ (R.val_same hS hD (fun _ h _ => h) (fun _ _ h => h) ru))
        rcases hv with ⟨k', m', n', q'⟩ | ⟨k', c, q', n'⟩
        · exact .inl (iAEA k' _ hn (by simp only [q, if_false]; rw [n.agree n']; exact q'))
        · exact .inr (iAEA k' c q' (cell_same hS (hnc c ⟨_, n'⟩) n'))
    · (refine oEA (R.obj i ao e) ?_; rintro a ea ra)
      have ha := List.mem_of_getElem? ea
      exact (iEA a ea (R.obj_same hS hD (fun _ h _ => h) ha (hnr a ha) ra))
  · obtain ⟨c, hc⟩ := Option.isSome_iff_exists.mp hc
    obtain ⟨v₀, n⟩ := R.cl x c (lookup_mem hc)
    refine wpAny_storeName_cell X.hk hk hc n fun h' hn hs => ?_
    have hS : Same (fun a => a = c) X.F s.heap h' := Same.of_but hs rfl
    have hmu : mu X ρ c := .inr (.inl ⟨x, lookup_mem hc⟩)
    have hD : ∀ a, a = c → mu X ρ a := fun a q => q ▸ hmu
    have hnL : ∀ b m, s.heap.Ns b m → b ≠ c := by
      (rintro b m zq1 rfl; refine oEEEAA zq1 ?_; clear zq1; rintro o' es ep e' d' _)
      (refine oEA n ?_; try clear n; rintro o e d)
      rw [e] at e'; cases e'; rw [d] at d'; cases d'
    have hnr : ∀ a ∈ ρ, a ≠ c := by
      rintro a ha rfl
      (refine oEEAA (R.own ha) ?_; rintro _ ao _ _ rr)
      (refine oEAAAAAA rr.kind ?_; rintro o e _ _ _ _ d _)
      (refine oEA n ?_; try clear n; rintro o' e' d')
      rw [e] at e'; cases e'; exact d _ d'
    (refine oEA (id hn) ?_; rintro oL eL dL)
    refine k _ (R.changed hmu (R.cell_notT n) hS ?_ (fun y c' hc' => ?_) (fun b hb q => ?_) (fun y bv e => ?_) (fun i ao e => ?_) R.len) (changed_ext hmu hS ⟨oL, eL⟩ rfl rfl)
    · obtain ⟨m, nm⟩ := R.ns; exact ⟨m, ns_same hS (hnL _ _ nm) nm⟩
    · by_cases q : c' = c
      · exact ⟨_, q ▸ hn⟩
      · obtain ⟨v, n⟩ := R.cl y c' hc'; exact ⟨v, cell_same hS q n⟩
    · (refine oAEEEA (R.fr b hb) ?_; rintro _ o es n' e d)
      (refine oEA n ?_; try clear n; rintro o' e' d')
      rw [q, e'] at e; cases e; rw [d'] at d; cases d
    · simp only [St.set, setL_lookup] at e
      by_cases q : y = x
      · subst q
        simp only [if_true, Option.some.injEq] at e
        subst e
        exact (iEA v (.inr (iAEA (.inl hk) c hc hn)) (R.val_same hS hD (fun _ h _ => h) (fun _ _ h => h) r))
      · simp only [q, if_false] at e
        (refine oEA (R.var y bv e) ?_; rintro u hv ru)
        refine (iEA u ?_ (R.val_same hS hD (fun _ h _ => h) (fun _ _ h => h) ru))
        rcases hv with ⟨k', m', n', q'⟩ | ⟨k', c', q', n'⟩
        · exact .inl (iAEA k' _ (ns_same hS (hnL _ _ n') n') q')
        · refine .inr (iAEA k' c' q' (cell_same hS (fun z => q ?_) n'))
          exact nodup_snd R.cnd (lookup_mem q') (z ▸ lookup_mem hc)
    · (refine oEA (R.obj i ao e) ?_; rintro a ea ra)
      have ha := List.mem_of_getElem? ea
      exact (iEA a ea (R.obj_same hS hD (fun _ h _ => h) ha (hnr a ha) ra))

/- how a statement ends -/
inductive AF where
  | next | brk | cont
  | ret (a : AV)
noncomputable def RepFl (s s' : Shared) (ρ' : List Addr) : AF → Flow → Prop
  | .next, f => f = .next
  | .brk, f => f = .brk
  | .cont, f => f = .cont
  | .ret a, f => ∃ v, f = .ret v ∧ RepV s'.heap (fun b => s.heap.get? b = none) ρ' a v
noncomputable def Ends (X : Fx) (ρ : List Addr) (s : Shared) (Q : AF → St → Prop) (fl : Flow) (s' : Shared) : Prop :=
  ∃ ρ' af st', Rep X ρ' st' s' ∧ Ext X ρ s ρ' s' ∧ RepFl s s' ρ' af fl ∧ Q af st'
noncomputable def WS (X : Fx) (c : List Stmt) (st : St) (Q : AF → St → Prop) : Prop := ∀ ρ s, Rep X ρ st s → wpAny X.M X.A (execs c X.env) (Ends X ρ s Q) NoE s
noncomputable def WS1 (X : Fx) (c : Stmt) (st : St) (Q : AF → St → Prop) : Prop := ∀ ρ s, Rep X ρ st s → wpAny X.M X.A (exec c X.env) (Ends X ρ s Q) NoE s
/- an expression that may change things -/
noncomputable def WE (X : Fx) (e : Expr) (st : St) (Q : AV → St → Prop) : Prop := ∀ ρ s, Rep X ρ st s → wpAny X.M X.A (eval e X.env) (fun v s' => ∃ ρ' av st', Rep X ρ' st' s' ∧ Ext X ρ s ρ' s' ∧ RepV s'.heap (im X ρ') ρ' av v ∧ Q av st') NoE s

theorem RepV.weaken {h : Heap} {I I' : Addr → Prop} {a : AV} {v : Value} (hI : ∀ b, I b → I' b) (r : RepV h I ρ a v) : RepV h I' ρ a v := by
  cases a with
  | lst l => (refine oEEAA r ?_; try clear r; rintro a items e hi hl); exact (iEEAA a items e (hI a hi) hl)
  | f x => exact r
  | obj k => exact r
  | val v' => exact r
  | lam p e sc => exact r
theorem Ends.before {Q : AF → St → Prop} {fl : Flow} (E : Ext X ρ s ρ' s') (h : Ends X ρ' s' Q fl s'') : Ends X ρ s Q fl s'' := by
  (refine oEEEAAA h ?_; try clear h; rintro ρ₂ af st' R E' r q)
  refine (iEEEAAA ρ₂ af st' R (E.trans E') ?_ q)
  cases af with
  | ret a => (refine oEA r ?_; try clear r; rintro v e rv); exact (iEA v e (rv.weaken fun b h => E.none h))
  | next => exact r
  | brk => exact r
  | cont => exact r
theorem Ends.mono {Q Q' : AF → St → Prop} {fl : Flow} (h : Ends X ρ s Q fl s') (hq : ∀ a st', Q a st' → Q' a st') : Ends X ρ s Q' fl s' := by
  (refine oEEEAAA h ?_; try clear h; rintro ρ₂ af st' R E' r q)
  exact (iEEEAAA ρ₂ af st' R E' r (hq _ _ q))
theorem WS.mono {c : List Stmt} {Q Q' : AF → St → Prop} (h : WS X c st Q) (hq : ∀ a st', Q a st' → Q' a st') : WS X c st Q' := fun ρ s R => wpAny_mono (h ρ s R) (fun _ _ e => e.mono hq) fun _ _ x => x
theorem WS1.mono {c : Stmt} {Q Q' : AF → St → Prop} (h : WS1 X c st Q) (hq : ∀ a st', Q a st' → Q' a st') : WS1 X c st Q' := fun ρ s R => wpAny_mono (h ρ s R) (fun _ _ e => e.mono hq) fun _ _ x => x

theorem ws_nil {Q : AF → St → Prop} (h : Q .next st) : WS X [] st Q := fun ρ s R => wpAny_execs_nil (iEEEAAA ρ (.next) st R (.refl) rfl h)
noncomputable def Then (X : Fx) (rest : List Stmt) (Q : AF → St → Prop) : AF → St → Prop
  | .next, st' => WS X rest st' Q
  | a, st' => Q a st'
theorem ws_cons {c : Stmt} {rest : List Stmt} {Q : AF → St → Prop} (h : WS1 X c st (Then X rest Q)) : WS X (c :: rest) st Q := fun ρ s R => by
  refine wpAny_execs_cons (wpAny_mono (h ρ s R) (fun fl s' e => ?_) fun _ _ x => x)
  (refine oEEEAAA e ?_; try clear e; rintro ρ' af st' R' E r q)
  cases af with
  | next =>
    simp only [RepFl] at r; subst r
    exact wpAny_mono (q ρ' s' R') (fun _ _ h => h.before E) fun _ _ x => x
  | brk => simp only [RepFl] at r; subst r; exact (iEEEAAA ρ' (.brk) st' R' E rfl q)
  | cont => simp only [RepFl] at r; subst r; exact (iEEEAAA ρ' (.cont) st' R' E rfl q)
  | ret a => (refine oEA r ?_; try clear r; rintro v rfl rv); exact (iEEEAAA ρ' (.ret a) st' R' E ((iEA v rfl rv)) q)
theorem ws_one {c : Stmt} {Q : AF → St → Prop} (h : WS1 X c st Q) : WS X [c] st Q := ws_cons (h.mono fun a st' q => by cases a with
  | next => exact ws_nil q
  | brk => exact q
  | cont => exact q
  | ret a => exact q)

theorem PE.we {e : Expr} {av : AV} (h : PE X st e av) {Q : AV → St → Prop} (q : Q av st) : WE X e st Q := fun ρ s R => h.on R fun v s' R' G r => (iEEEAAA ρ av st R' (R.ext G) r q)
theorem WE.on {e : Expr} {Q : AV → St → Prop} (h : WE X e st Q) (R : Rep X ρ st s) {P : Value → Shared → Prop} (k : ∀ v s' ρ' av st', Rep X ρ' st' s' → Ext X ρ s ρ' s' → RepV s'.heap (im X ρ') ρ' av v → Q av st' → P v s') : wpAny X.M X.A (eval e X.env) P NoE s :=
  wpAny_mono (h ρ s R) (fun v s' ⟨ρ', av, st', R', E, r, q⟩ => k v s' ρ' av st' R' E r q) fun _ _ x => x

noncomputable abbrev Keeps (X : Fx) (x : Str) : Prop := X.env.kindOf x = some .local ∨ (X.env.kindOf x = some .cell ∧ (X.env.cells.lookup x).isSome = true)
theorem ws1_assignE {x : Str} {p pos : Pos} {e : Expr} {Q : AF → St → Prop} (hk : Keeps X x) (h : WE X e st (fun av st' => Q .next (st'.set x av))) (hs : swapsWith e (some (.Name x p)) pos.line X.env = pure false := by rfl) :
    WS1 X (.Assign [.Name x p] e pos) st Q := fun ρ s R =>
  wpAny_Assign_Name (h.on R fun v s' ρ' av st' R' E r q => R'.store hk r fun s₂ R₂ E₂ => (iEEEAAA ρ' (.next) _ R₂ (E.trans E₂) rfl q)) hs
theorem ws1_assign {x : Str} {p pos : Pos} {e : Expr} {av : AV} {Q : AF → St → Prop} (hk : Keeps X x) (h : PE X st e av) (q : Q .next (st.set x av)) (hs : swapsWith e (some (.Name x p)) pos.line X.env = pure false := by rfl) :
    WS1 X (.Assign [.Name x p] e pos) st Q := ws1_assignE hk (h.we q) hs
theorem ws1_if {t : Expr} {b₁ b₂ : List Stmt} {pos : Pos} {b : Bool} {Q : AF → St → Prop} (ht : PT X st t b) (h1 : b = true → WS X b₁ st Q) (h2 : b = false → WS X b₂ st Q) : WS1 X (.If t b₁ b₂ pos) st Q := fun ρ s R => by
  refine wpAny_If (wpAny_mono (ht ρ s R) (fun b' s₁ k => ?_) fun _ _ x => x)
  obtain ⟨rfl, G⟩ := k
  cases b' with
  | true => exact wpAny_mono (h1 rfl ρ s₁ (R.grow G)) (fun _ _ h => h.before (R.ext G)) fun _ _ x => x
  | false => exact wpAny_mono (h2 rfl ρ s₁ (R.grow G)) (fun _ _ h => h.before (R.ext G)) fun _ _ x => x
theorem ws1_break {pos : Pos} {Q : AF → St → Prop} (q : Q .brk st) : WS1 X (.Break pos) st Q := fun ρ s R => wpAny_Break (iEEEAAA ρ (.brk) st R (.refl) rfl q)
theorem ws1_continue {pos : Pos} {Q : AF → St → Prop} (q : Q .cont st) : WS1 X (.Continue pos) st Q := fun ρ s R => wpAny_Continue (iEEEAAA ρ (.cont) st R (.refl) rfl q)
/- a value that no list is -/
noncomputable def AV.bare : AV → Bool
  | .lst _ => false
  | _ => true
theorem RepV.bare {h : Heap} {I I' : Addr → Prop} {a : AV} {v : Value} (hb : a.bare = true) (r : RepV h I ρ a v) : RepV h I' ρ a v := by
  cases a with
  | lst l => cases hb
  | f x => exact r
  | obj k => exact r
  | val v' => exact r
  | lam p e sc => exact r
theorem ws1_return {e : Expr} {pos : Pos} {av : AV} {Q : AF → St → Prop} (h : PE X st e av) (hb : av.bare = true) (q : Q (.ret av) st) : WS1 X (.Return (some e) pos) st Q := fun ρ s R =>
  wpAny_Return_some (h.on R fun v s' R' G r => (iEEEAAA ρ (.ret av) st R' (R.ext G) ((iEA v rfl (r.bare hb))) q))
/- a new list -/
noncomputable def PN (X : Fx) (st : St) (e : Expr) (l : List FV) : Prop := ∀ ρ s, Rep X ρ st s → wpAny X.M X.A (eval e X.env) (fun v s' => X.G s s' ∧ ∃ a items, v = .ref a ∧ s.heap.get? a = none ∧ s'.heap.PlainList a items ∧ RepFs s'.heap l items.toList) NoE s
theorem PN.pe {e : Expr} {l : List FV} (h : PN X st e l) : PE X st e (.lst l) := fun ρ s R =>
  wpAny_mono (h ρ s R) (fun v s' ⟨G, a, items, e, hn, ⟨n, hp⟩, hs⟩ => (iAEEAAA G a items e (R.fresh_im hn) ((iEAAAE _ hp rfl rfl n rfl)) hs)) fun _ _ x => x
theorem ws1_returnN {e : Expr} {pos : Pos} {l : List FV} {Q : AF → St → Prop} (h : PN X st e l) (q : Q (.ret (.lst l)) st) : WS1 X (.Return (some e) pos) st Q := fun ρ s R =>
  wpAny_Return_some (wpAny_mono (h ρ s R) (fun v s' ⟨G, a, items, e, hn, ⟨n, hp⟩, hs⟩ => (iEEEAAA ρ (.ret (.lst l)) st (R.grow G) (R.ext G) ((iEAEEAAA v rfl a items e hn ((iEAAAE _ hp rfl rfl n rfl)) hs)) q)) fun _ _ x => x)

/- a new object of the call's own -/
theorem Rep.alloc (R : Rep X ρ st s) (G : X.G s s') {a : Addr} {ao : AO} (hn : s.heap.get? a = none) (ho : RepO s'.heap (im X (ρ ++ [a])) ao a) : Rep X (ρ ++ [a]) { st with hp := st.hp ++ [ao] } s' ∧ Ext X ρ s (ρ ++ [a]) s' := by
  have R' := R.grow G
  have h0 : X.h₀.get? a = none := by
    cases e : X.h₀.get? a with
    | none => rfl
    | some o => rw [R.keep a o e] at hn; cases hn
  have hmu : ∀ b, mu X (ρ ++ [a]) b → mu X ρ b ∨ b = a := by
    rintro b (h | h | h)
    · exact .inl (.inl h)
    · exact .inl (.inr (.inl h))
    · rcases h with h | h
      · rcases List.mem_append.mp h with h | h
        · exact .inl (.inr (.inr (.inl h)))
        · exact .inr (List.mem_singleton.mp h)
      · exact .inl (.inr (.inr (.inr h)))
  have hnm : a ∉ ρ := fun h => R.fresh_im hn (.inr (.inr (.inl h)))
  have E : Ext X ρ s (ρ ++ [a]) s' := by
    refine ⟨(R.ext G).same, fun k b h => ?_, fun b h => ?_, (R.ext (ρ := ρ) G).ex, G.gens, G.os⟩
    · rw [List.getElem?_append_left]; exact h; exact (List.getElem?_eq_some_iff.mp h).1
    · rcases hmu b h with h | rfl
      · exact .inl h
      · exact .inr hn
  refine ⟨⟨R'.keep, fun b h => ?_, R'.fr, R'.ns, R'.cl, R'.cnd, fun x av e => ?_, fun k ao' e => ?_, by simp [R'.len], ?_, R'.tab⟩, E⟩
  · rcases hmu b h with h | rfl
    · exact R'.new b h
    · exact h0
  · (refine oEA (R.var x av e) ?_; rintro v hv r)
    (refine oEA (R'.var x av e) ?_; rintro v' hv' r')
    refine (iEA v ?_ (R.val_ext E r))
    rcases hv with ⟨k, m, n, q⟩ | ⟨k, c, q, n⟩
    · exact .inl (iAEA k m (ns_same G.same (R.ns_notT n) n) q)
    · exact .inr (iAEA k c q (cell_same G.same (R.cell_notT n) n))
  · rcases Nat.lt_or_ge k st.hp.length with hk | hk
    · rw [List.getElem?_append_left hk] at e
      (refine oEA (R.obj k ao' e) ?_; rintro b eb rb)
      exact (iEA b (E.pre k b eb) (R.obj_same G.same (fun a h => .inr (.inr (.inr h))) (fun c h e => E.im_of h e) (List.mem_of_getElem? eb) (R.own_notT (List.mem_of_getElem? eb)) rb))
    · rw [List.getElem?_append_right hk] at e
      have hk0 : k = st.hp.length := by
        rcases Nat.lt_or_ge (k - st.hp.length) 1 with h | h
        · lia
        · rw [List.getElem?_eq_none (by simpa using h)] at e; cases e
      subst hk0
      simp only [Nat.sub_self, List.getElem?_cons_zero, Option.some.injEq] at e
      subst e
      exact (iEA a (by rw [List.getElem?_append_right (by rw [R.len]; exact Nat.le_refl _)]; simp [R.len]) ho)
  · exact List.nodup_append.mpr ⟨R.nd, by simp, fun b hb c hc => by rw [List.mem_singleton.mp hc]; exact fun q => hnm (q ▸ hb)⟩
theorem PN.own {e : Expr} {l : List FV} (h : PN X st e l) {Q : AV → St → Prop} (q : Q (.obj st.hp.length) { st with hp := st.hp ++ [.list l] }) : WE X e st Q := fun ρ s R =>
  wpAny_mono (h ρ s R) (fun v s' ⟨G, a, items, e, hn, hp, hs⟩ => by
    obtain ⟨R', E⟩ := R.alloc (ao := .list l) G hn (iEA items hp hs)
    refine (iEEEAAA _ (.obj _) _ R' E (⟨a, ?_, e⟩) q)
    rw [List.getElem?_append_right (by rw [R.len]; exact Nat.le_refl _)]; simp [R.len]) fun _ _ x => x

/- while -/
theorem ws1_while {t : Expr} {body : List Stmt} {pos : Pos} {Q : AF → St → Prop} (I : Nat → St → Prop) (n : Nat) (h0 : I n st)
    (turn : ∀ n st, I n st → ∃ b, PT X st t b ∧ (b = false → Q .next st) ∧ (b = true → WS X body st fun af st' => match af with
      | .next | .cont => ∃ m, m < n ∧ I m st'
      | .brk => Q .next st'
      | .ret a => Q (.ret a) st')) : WS1 X (.While t body [] pos) st Q := fun ρ s R => by
  refine wpAny_While (codeAny_whileLoop (fun n s₁ => ∃ ρ₁ st₁, Rep X ρ₁ st₁ s₁ ∧ Ext X ρ s ρ₁ s₁ ∧ I n st₁) ?_ n (iEEAA ρ st R (.refl) h0))
  (rintro n s₁ zq1; refine oEEAA zq1 ?_; clear zq1; rintro ρ₁ st₁ R₁ E₁ hI)
  (refine oEAA (turn n st₁ hI) ?_; rintro b ht hf hb)
  refine wpAny_mono (ht ρ₁ s₁ R₁) (fun b' s₂ k => ?_) fun _ _ x => x.elim
  obtain ⟨rfl, G⟩ := k
  cases b' with
  | false => exact wpAny_execs_nil (iEEEAAA ρ₁ (.next) st₁ (R₁.grow G) (E₁.trans (R₁.ext G)) rfl (hf rfl))
  | true =>
    refine wpAny_mono (hb rfl ρ₁ s₂ (R₁.grow G)) (fun fl s₃ h => ?_) fun _ _ x => x.elim
    have h := h.before (E₁.trans (R₁.ext G))
    (refine oEEEAAA h ?_; try clear h; rintro ρ₂ af st₂ R₂ E₂ r q)
    cases af with
    | next => simp only [RepFl] at r; subst r; (refine oEA q ?_; try clear q; rintro m hm hI); exact (iEAEEAA m hm ρ₂ st₂ R₂ E₂ hI)
    | cont => simp only [RepFl] at r; subst r; (refine oEA q ?_; try clear q; rintro m hm hI); exact (iEAEEAA m hm ρ₂ st₂ R₂ E₂ hI)
    | brk => simp only [RepFl] at r; subst r; exact (iEEEAAA ρ₂ (.next) st₂ R₂ E₂ rfl q)
    | ret a => (refine oEA r ?_; try clear r; rintro v rfl rv); exact (iEEEAAA ρ₂ (.ret a) st₂ R₂ E₂ ((iEA v rfl rv)) q)
end
end Mine
end
section
open PySem PySem.W PySem.Calls PyProof.Rows
set_option Elab.async false
set_option linter.unusedVariables false
set_option linter.unusedSimpArgs false
namespace Mine

structure AOk (A : Around) (F : List Addr) (n : Nat) : Prop where
  hh : A.handled = none
  hd : A.depth + n < recursionLimit
  hu : A.units + 10 * n + 400 < cLine
  hF : ∃ outer, A.frames = some outer ∧ outer.filterMap (·.frame) = F ∧ ∀ e ∈ outer, e.scope.kind ≠ .module ∧ e.frame.isSome = true
theorem AOk.le {A F n m} (h : AOk A F n) (hm : m ≤ n) : AOk A F m := ⟨h.hh, by have := h.hd; lia, by have := h.hu; lia, h.hF⟩
theorem Fx.ok (X : Fx) : AOk X.A X.F X.n := ⟨X.hh, X.hd, X.hu, X.hF⟩

noncomputable def im0 (W : Wx) (ρ : List Addr) (a : Addr) : Prop := a ∉ ρ ∧ a ≠ W.tabA
structure Rep0 (W : Wx) (F ρ : List Addr) (hp : List AO) (s : Shared) : Prop where
  keep : ∀ b o, W.h₀.get? b = some o → s.heap.get? b = some o
  new : ∀ a, (a ∈ ρ ∨ a = W.tabA) → W.h₀.get? a = none
  fr : ∀ b ∈ F, W.h₀.get? b = none ∧ ∃ o es n, s.heap.get? b = some o ∧ o.data = .dict es n
  obj : ∀ (k : Nat) ao, hp[k]? = some ao → ∃ a, ρ[k]? = some a ∧ RepO s.heap (im0 W ρ) ao a
  len : hp.length = ρ.length
  nd : ρ.Nodup
  tab : TabOk W s.heap
structure Back (W : Wx) (F ρ : List Addr) (s s' : Shared) : Prop where
  same : Same (fun a => a ∈ ρ ∨ a = W.tabA) F s.heap s'.heap
  ex : ∀ a o, s.heap.get? a = some o → ∃ o', s'.heap.get? a = some o'
  gens : s'.gens = s.gens
  os : s'.os = s.os
inductive RepKs (h : Heap) (I : Addr → Prop) (ρ : List Addr) : List (Str × AV) → List (Str × Value) → Prop
  | nil : RepKs h I ρ [] []
  | cons {x a v as vs} : RepV h I ρ a v → RepKs h I ρ as vs → RepKs h I ρ ((x, a) :: as) ((x, v) :: vs)
theorem RepKs.head1 {h : Heap} {I : Addr → Prop} {ρ : List Addr} {x : Str} {a : AV} {as : List (Str × AV)} {vs : List (Str × Value)} {G : List (Str × Value) → Prop} (r : RepKs h I ρ ((x, a) :: as) vs) (k : ∀ v vs, RepV h I ρ a v → RepKs h I ρ as vs → G ((x, v) :: vs)) : G vs := by cases r with | cons r rs => exact k _ _ r rs
@[elab_as_elim] theorem RepKs.c0 {h : Heap} {I : Addr → Prop} {ρ : List Addr} {vs : List (Str × Value)} {G : List (Str × Value) → Prop} (r : RepKs h I ρ [] vs) (k : G []) : G vs := by cases r; exact k
@[elab_as_elim] theorem RepKs.c1 {h : Heap} {I : Addr → Prop} {ρ : List Addr} {x0 : Str} {a0 : AV} {vs : List (Str × Value)} {G : List (Str × Value) → Prop} (r : RepKs h I ρ [(x0, a0)] vs) (k : ∀ v0, RepV h I ρ a0 v0 → G [(x0, v0)]) : G vs := r.head1 (G := G) fun v0 _ r rs => rs.c0 (G := fun vs => G ((_, v0) :: vs)) (k v0 r)
@[elab_as_elim] theorem RepKs.c2 {h : Heap} {I : Addr → Prop} {ρ : List Addr} {x0 : Str} {x1 : Str} {a0 a1 : AV} {vs : List (Str × Value)} {G : List (Str × Value) → Prop} (r : RepKs h I ρ [(x0, a0), (x1, a1)] vs) (k : ∀ v0 v1, RepV h I ρ a0 v0 → RepV h I ρ a1 v1 → G [(x0, v0), (x1, v1)]) : G vs := r.head1 (G := G) fun v0 _ r rs => rs.c1 (G := fun vs => G ((_, v0) :: vs)) fun v1 r1 => k v0 v1 r r1
@[elab_as_elim] theorem RepKs.c3 {h : Heap} {I : Addr → Prop} {ρ : List Addr} {x0 : Str} {x1 : Str} {x2 : Str} {a0 a1 a2 : AV} {vs : List (Str × Value)} {G : List (Str × Value) → Prop} (r : RepKs h I ρ [(x0, a0), (x1, a1), (x2, a2)] vs) (k : ∀ v0 v1 v2, RepV h I ρ a0 v0 → RepV h I ρ a1 v1 → RepV h I ρ a2 v2 → G [(x0, v0), (x1, v1), (x2, v2)]) : G vs := r.head1 (G := G) fun v0 _ r rs => rs.c2 (G := fun vs => G ((_, v0) :: vs)) fun v1 v2 r1 r2 => k v0 v1 v2 r r1 r2
/- what a call does -/
noncomputable def Con (W : Wx) (f : Value) (n : Nat) (as : List AV) (kw : List (Str × AV)) (hp : List AO) (Q : AV → List AO → Prop) : Prop :=
  ∀ A F ρ s vs kvs, AOk A F n → Rep0 W F ρ hp s → RepVs s.heap (im0 W ρ) ρ as vs → RepKs s.heap (im0 W ρ) ρ kw kvs →
    wpAny (model W.prog W.w) A (call f vs kvs) (fun v s' => ∃ av hp', Back W F ρ s s' ∧ Rep0 W F ρ hp' s' ∧ RepV s'.heap (fun a => s.heap.get? a = none) [] av v ∧ Q av hp') NoE s
section
variable {X : Fx} {st : St} {ρ ρ' ρ'' : List Addr} {s s' s'' : Shared}

noncomputable def retAV (n : Nat) (hp' : List AO) : AF → Option AV
  | .next => some (.f .none)
  | .ret (.obj k) => if n ≤ k then (match hp'[k]? with | some (.list l) => some (.lst l) | _ => none) else none
  | .ret a => some a
  | _ => none

theorem RepKs.mem {h I ρ} : ∀ {as : List (Str × AV)} {vs : List (Str × Value)} {x : Str} {av : AV}, RepKs h I ρ as vs → as.lookup x = some av → ∃ v, (x, v) ∈ vs ∧ RepV h I ρ av v
  | _, _, x, av, .nil, e => by cases e
  | _, _, x, av, .cons (x := y) (a := a) (v := v) (as := as) (vs := vs) r rs, e => by
    simp only [List.lookup_cons] at e
    by_cases q : x = y
    · subst q
      simp only [BEq.rfl] at e
      cases e
      exact (iEA v (.head _) r)
    · simp only [beq_eq_false_iff_ne.mpr q] at e
      (refine oEA (RepKs.mem rs e) ?_; rintro u eu ru)
      exact (iEA u (.tail _ eu) ru)
theorem RepKs.names {h I ρ} : ∀ {as : List (Str × AV)} {vs : List (Str × Value)}, RepKs h I ρ as vs → vs.map (·.1) = as.map (·.1)
 := by
  intro as vs h
  induction h with
  | nil => rfl
  | cons _ _ ih => simp only [List.map_cons, ih]
theorem bindL_other {kindOf : Str → Option NameKind} {x : Str} : ∀ {binds : List (Str × Value)} {m : Str → Option Value}, x ∉ binds.map (·.1) → bindL kindOf binds m x = m x
  | [], m, _ => rfl
  | (n, v) :: r, m, h => by
    simp only [List.map_cons, List.mem_cons, not_or] at h
    simp only [bindL]
    rw [bindL_other h.2]
    split
    · simp [h.1]
    · rfl
theorem bindL_mem {kindOf : Str → Option NameKind} {x : Str} {v : Value} : ∀ {binds : List (Str × Value)} {m : Str → Option Value}, (x, v) ∈ binds → (binds.map (·.1)).Nodup → kindOf x = some .local → bindL kindOf binds m x = some v
  | (n, u) :: r, m, h, nd, hk => by
    simp only [List.map_cons, List.nodup_cons] at nd
    simp only [bindL]
    rcases List.mem_cons.mp h with e | h
    · cases e
      rw [bindL_other nd.1, if_pos hk]; simp
    · exact bindL_mem h nd.2 hk
theorem bindC_other {kindOf : Str → Option NameKind} {x : Str} : ∀ {binds : List (Str × Value)} {m : Str → Option Value}, x ∉ binds.map (·.1) → bindC kindOf binds m x = m x
  | [], m, _ => rfl
  | (n, v) :: r, m, h => by
    simp only [List.map_cons, List.mem_cons, not_or] at h
    simp only [bindC]
    rw [bindC_other h.2]
    split
    · rfl
    · simp [h.1]
theorem bindC_mem {kindOf : Str → Option NameKind} {x : Str} {v : Value} : ∀ {binds : List (Str × Value)} {m : Str → Option Value}, (x, v) ∈ binds → (binds.map (·.1)).Nodup → kindOf x ≠ some .local → bindC kindOf binds m x = some v
  | (n, u) :: r, m, h, nd, hk => by
    simp only [List.map_cons, List.nodup_cons] at nd
    simp only [bindC]
    rcases List.mem_cons.mp h with e | h
    · cases e
      rw [bindC_other nd.1, if_neg hk]; simp
    · exact bindC_mem h nd.2 hk
theorem mem_lookup {α β} [BEq α] [LawfulBEq α] {l : List (α × β)} {x : α} {c : β} (nd : (l.map (·.1)).Nodup) (h : (x, c) ∈ l) : l.lookup x = some c := by
  induction l with
  | nil => cases h
  | cons p l ih =>
    obtain ⟨y, d⟩ := p
    simp only [List.map_cons, List.nodup_cons] at nd
    simp only [List.lookup_cons]
    rcases List.mem_cons.mp h with e | h
    · cases e; simp
    · have : x ≠ y := fun q => nd.1 (q ▸ List.mem_map.mpr (iEA _ h rfl))
      simp only [beq_eq_false_iff_ne.mpr this, Bool.false_eq_true, if_false]; exact ih nd.2 h
/- the frame of a def -/
noncomputable def envOf (q : Str) (scope : Scope) (L f : Addr) (cd : Value) : Env := newEnv scope L mainGlobals (cellsFrom (L + 1) scope.names []) (q ++ ".<locals>.") (some f) cd none builtinsNs
/- the frame of a plain def -/
theorem con_def {W : Wx} {f : Addr} {o : Obj} {nm q : Str} {params : Arguments} {body : List Stmt} {scope : Scope} {dV kV doc pm cd ct : Value} {an : Option Addr}
    (ho : W.h₀.get? f = some o) (hd : o.data = .func (fnX nm q params body scope [] dV kV doc pm an cd ct)) (hcd : W.h₀.CodeRec cd q)
    {n : Nat} {as : List AV} {kw : List (Str × AV)} {hp : List AO} {Q : AV → List AO → Prop} (abinds : List (Str × AV))
    (hbind : ∀ s F ρ vs kvs, Rep0 W F ρ hp s → RepVs s.heap (im0 W ρ) ρ as vs → RepKs s.heap (im0 W ρ) ρ kw kvs → ∃ binds, BindsTo s (fnX nm q params body scope [] dV kV doc pm an cd ct) ⟨vs, kvs⟩ binds ∧ RepKs s.heap (im0 W ρ) ρ abinds binds)
    (hnd : (abinds.map (·.1)).Nodup) (hloc : ∀ y ∈ abinds, scope.names.lookup y.1 = some .local ∨ (scope.names.lookup y.1 = some .cell ∧ ∀ k, ((cellsFrom k scope.names []).lookup y.1).isSome = true))
    (hcn : ∀ k, ((cellsFrom k scope.names []).map (·.1)).Nodup) (hco : scope.isCoroutine = false) (hgen : scope.isGenerator = false) (hk : scope.kind = .function)
    (hb : ∀ X : Fx, X.toWx = W → X.n = n → (∃ L, X.env = envOf q scope L f cd) → (∃ outer, X.A.frames = some (X.env :: outer)) → WS X body ⟨abinds, hp⟩ (fun af st' => ∃ av, retAV hp.length st'.hp af = some av ∧ Q av (st'.hp.take hp.length))) : Con W (.ref f) (n + 1) as kw hp Q := by
  intro A F ρ s vs kvs hA R hv hkv
  (refine oEA (hbind s F ρ vs kvs R hv hkv) ?_; rintro binds hB rb)
  have hnames : ∀ y ∈ binds, ∃ z ∈ abinds, z.1 = y.1 := by
    clear hB hb hloc hnd hbind
    induction rb with
    | nil => intro y hy; cases hy
    | cons r rs ih =>
      intro y hy
      rcases List.mem_cons.mp hy with rfl | hy
      · exact (iEA _ (.head _) rfl)
      · (refine oEA (ih y hy) ?_; rintro z hz e); exact (iEA z (.tail _ hz) e)
  refine wpAny_call (codeAny_call_function (by have := hA.hd; (exact Nat.lt_of_le_of_lt (Nat.le_add_right _ _) ‹_›)) (R.keep _ _ ho) hd hco hgen rfl (hcd.keeps R.keep) (hB _ _ _ _ ?_))
  refine wpAny_newFunctionEnv_cells hk (fun y hy => ?_) fun env he s₁ hin => ⟨(W.nol.keeps R.keep).keeps hin.toInCall.keep, codeAny_func ?_⟩
  · (refine oEA (hnames y hy) ?_; rintro z hz e)
    rcases hloc z hz with h | ⟨h1, h2⟩
    · exact .inl (e ▸ h)
    · exact .inr ⟨e ▸ h1, e ▸ h2 _⟩
  · have hns := hin.toInCall.ns
    have hkp := hin.toInCall.keep
    have henv : env.locals = s.heap.objs.size ∧ env.scope = scope ∧ env.cells = cellsFrom (s.heap.objs.size + 1) scope.names [] ∧ env.globals = mainGlobals ∧ env.builtins = builtinsNs ∧ env.frame = some s.heap.objs.size := by subst he; exact ⟨rfl, rfl, rfl, rfl, rfl, rfl⟩
    (refine oAAAAA henv ?_; try clear henv; rintro henv1 henv2 henv3 henv4 henv5 henv6)
    have heO : env = envOf q scope s.heap.objs.size f cd := he
    clear he
    (refine oEE hin.toInCall.same ?_; rintro h₁ tk₁ rfl)
    have hcells : ∀ x c, (x, c) ∈ env.cells → s.heap.get? c = none := fun x c hc => Heap.get?_none_of_le (by have := hin.above x c hc; rw [henv1] at this; exact Nat.le_of_lt this)
    have hcnd : (env.cells.map (·.2)).Nodup := by
      have := hin.apart
      rw [List.Nodup, List.pairwise_map]
      exact this
    have hcell1 : ∀ x c, (x, c) ∈ env.cells → h₁.IsCell c (bindC env.kindOf binds (fun _ => none) x) := fun x c hc => hin.cell x c (mem_lookup (henv3 ▸ hcn _) hc)
    (refine oEAA hA.hF ?_; rintro outer hf1 hf2 hf3)
    have hFF : ∃ outer', (A.deeper env).frames = some outer' ∧ outer'.filterMap (·.frame) = s.heap.objs.size :: F ∧ ∀ e ∈ outer', e.scope.kind ≠ .module ∧ e.frame.isSome = true :=
      (iEAA (env :: outer) (by show A.frames.map (env :: ·) = _; rw [hf1]; rfl) (by simp [List.filterMap_cons, henv6, hf2]) (fun e he => by
        rcases List.mem_cons.mp he with rfl | he
        · exact ⟨by rw [henv2, hk]; decide, by rw [henv6]; rfl⟩
        · exact hf3 e he))
    let X : Fx := ⟨W, env, A.deeper env, s.heap.objs.size :: F, n, by rw [henv2]; exact hk, henv4, henv5, hA.hh, (by have := hA.hd; show A.depth + 1 + n < _; lia), (by have := hA.hu; show A.units + 3 + 10 * n + 400 < _; lia), hFF⟩
    have hfresh : ∀ a, (∃ o, s.heap.get? a = some o) → a ≠ s.heap.objs.size := fun a ⟨o, e⟩ => Nat.ne_of_lt (Heap.lt_size e)
    have hLn : s.heap.get? s.heap.objs.size = none := Heap.get?_none_of_le (Nat.le_refl _)
    have hmu : ∀ a, mu X ρ a ↔ (a = s.heap.objs.size ∨ ∃ x, (x, a) ∈ env.cells) ∨ a ∈ ρ ∨ a = W.tabA := fun a => by
      show (a = env.locals ∨ (∃ x, (x, a) ∈ env.cells) ∨ a ∈ ρ ∨ a = W.tabA) ↔ _
      rw [henv1, or_assoc]
    have hnew : ∀ a, (a = s.heap.objs.size ∨ ∃ x, (x, a) ∈ env.cells) → s.heap.get? a = none := by
      rintro a (rfl | ⟨x, h⟩)
      · exact hLn
      · exact hcells x a h
    have hS : Same Nowhere F s.heap h₁ := .of_keeps hkp
    have him : ∀ a, im0 W ρ a → (∃ o, s.heap.get? a = some o) → im X ρ a := fun a h ⟨o, e⟩ q => by
      rcases (hmu a).mp q with q | q | q
      · rw [hnew a q] at e; cases e
      · exact h.1 q
      · exact h.2 q
    have hval : ∀ av v, RepV s.heap (im0 W ρ) ρ av v → RepV h₁ (im X ρ) ρ av v := fun av v r => by
      have nt : ∀ a items, s.heap.IsTuple a items → ¬ Nowhere a := fun _ _ _ h => h
      cases av with
      | f x => exact RepF.same hS nt x r
      | lst l => (refine oEEAAA r ?_; try clear r; rintro a items e hi hl hs); exact (iEEAAA a items e (him a hi (let ⟨o, e, _⟩ := hl; ⟨o, e⟩)) (pl_same hS (fun h => h) hl) (RepFs.same hS nt l hs))
      | obj k => exact r
      | val v' => exact r
      | lam p e sc => (refine oEA r ?_; try clear r; rintro a q x); exact (iEA a q (x.same hS (fun h => h) fun _ _ _ h => h))
    have hobj : ∀ ao a, RepO s.heap (im0 W ρ) ao a → RepO h₁ (im X ρ) ao a := fun ao a r => by
      have nt : ∀ a items, s.heap.IsTuple a items → ¬ Nowhere a := fun _ _ _ h => h
      cases ao with
      | list l => (refine oEA r ?_; try clear r; rintro items ⟨n, e⟩ hs); exact (iEA items (⟨n, hkp _ _ e⟩) (RepFs.same hS nt l hs))
      | iter l => (refine oEEEAAA r ?_; try clear r; rintro la i items hi hm hl hs); exact (iEEEAAA la i items (liter_same hS (fun h => h) hi) (him la hm (let ⟨o, e, _⟩ := hl; ⟨o, e⟩)) (list_same hS (fun h => h) hl) (RepFs.same hS nt l hs))
      | rng x n c => exact hkp _ _ r
      | plain => (refine oEA r ?_; try clear r; rintro o e c); exact (iEA o (hkp _ _ e) c)
      | fin => (refine oEA r ?_; try clear r; rintro o e c); exact (iEA o (hkp _ _ e) c)
      | junk => (refine oEA r ?_; try clear r; rintro o e c); exact (iEA o (hkp _ _ e) c)
    have hw0 : ∀ a, s.heap.get? a = none → W.h₀.get? a = none := fun a h => by
      cases e : W.h₀.get? a with
      | none => rfl
      | some o => rw [R.keep _ _ e] at h; cases h
    have R₁ : Rep X ρ ⟨abinds, hp⟩ { s with heap := h₁, toks := tk₁ } := by
      refine ⟨fun b o e => hkp b o (R.keep b o e), fun a h => ?_, fun b hb => ?_, ⟨_, hns⟩, fun x c hc => ⟨_, hcell1 x c hc⟩, hcnd, fun x av e => ?_, fun k ao e => ?_, R.len, R.nd, R.tab.keeps hkp⟩
      · rcases (hmu a).mp h with h | h
        · exact hw0 a (hnew a h)
        · exact R.new a h
      · rcases List.mem_cons.mp hb with rfl | hb
        · refine ⟨hw0 _ hLn, ?_⟩
          (refine oEEEAA hns ?_; try clear hns; rintro o es ep e d _); exact (iEEEA o es ep (henv1 ▸ e) d)
        · (refine oAEEEA (R.fr b hb) ?_; rintro h1 o es n e d); exact (iAEEEA h1 o es n (hkp _ _ e) d)
      · (refine oEA (rb.mem e) ?_; rintro v ev rv)
        have hbn : (binds.map (·.1)).Nodup := rb.names ▸ hnd
        refine (iEA v ?_ (hval _ _ rv))
        have hkn : env.kindOf x = scope.names.lookup x := by show env.scope.names.lookup x = _; rw [henv2]
        rcases hloc _ (lookup_mem e) with h | ⟨h1, h2⟩
        · exact .inl (iAEA (hkn.trans h) _ hns (bindL_mem ev hbn (hkn.trans h)))
        · obtain ⟨c, hc⟩ := Option.isSome_iff_exists.mp (h2 (s.heap.objs.size + 1))
          rw [← henv3] at hc
          refine .inr (iAEA (.inl (hkn.trans h1)) c hc ?_)
          have := hcell1 x c (lookup_mem hc)
          rwa [bindC_mem ev hbn (by rw [hkn, h1]; decide)] at this
      · (refine oEA (R.obj k ao e) ?_; rintro a ea ra); exact (iEA a ea (hobj _ _ ra))
    have fin := hb X rfl rfl ⟨_, heO⟩ ⟨outer, by show A.frames.map (env :: ·) = _; rw [hf1]; rfl⟩ ρ _ R₁
    refine wpAny_mono fin (fun fl s' h => ?_) fun _ _ x => x.elim
    (refine oEEEAAAEA h ?_; try clear h; rintro ρ' af st' R' E rf av hav hQ)
    have hpre : ρ.length ≤ ρ'.length := by
      rcases Nat.eq_zero_or_pos ρ.length with h | h
      · lia
      · have := E.pre (ρ.length - 1) ρ[ρ.length - 1] (by simp)
        have := (List.getElem?_eq_some_iff.mp this).1
        omega
    have B : Back W F ρ s s' := by
      refine ⟨fun b o hb e => ?_, fun a o e => E.ex a o (hkp a o e), E.gens, E.os⟩
      obtain ⟨o', e', k⟩ := E.same b o (fun q => by
        rcases (hmu b).mp q with q | q
        · rw [hnew b q] at e; cases e
        · exact hb q) (hkp b o e)
      refine (iEA o' e' (k.elim .inl fun q => .inr ⟨?_, q.2⟩))
      rcases List.mem_cons.mp q.1 with q1 | q1
      · exact absurd q1 (hfresh b ⟨o, e⟩)
      · exact q1
    have hlen' : (st'.hp.take hp.length).length = ρ.length := by simp [R'.len, R.len]; lia
    have R0 : Rep0 W F ρ (st'.hp.take hp.length) s' := by
      refine ⟨R'.keep, R.new, fun b hb => R'.fr b (List.mem_cons_of_mem _ hb), fun k ao e => ?_, hlen', R.nd, R'.tab⟩
      have hk : k < ρ.length := by rw [← hlen']; exact (List.getElem?_eq_some_iff.mp e).1
      rw [List.getElem?_take_of_lt (by rw [R.len]; exact hk)] at e
      (refine oEA (R'.obj k ao e) ?_; rintro a ea ra)
      have ea' := E.pre k ρ[k] (by simp [hk])
      obtain rfl : a = ρ[k] := Option.some.inj (ea.symm.trans ea')
      refine (iEA _ (List.getElem?_eq_getElem hk) ?_)
      cases ao with
      | iter l =>
        (refine oEEEAAA ra ?_; try clear ra; rintro la i items hi hm hl hs)
        refine (iEEEAAA la i items hi (⟨fun q => hm (.inr (.inr (.inl ?_))), fun q => hm (.inr (.inr (.inr q)))⟩) hl hs)
        obtain ⟨j, hj, e⟩ := List.mem_iff_getElem.mp q
        exact List.mem_of_getElem? (E.pre j la (by rw [← e]; simp [hj]))
      | list l => exact ra
      | rng x n c => exact ra
      | plain => exact ra
      | fin => exact ra
      | junk => exact ra
    refine (iEEAAA av _ B R0 ?_ hQ)
    have hn1 : ∀ a, h₁.get? a = none → s.heap.get? a = none := fun a h => by
      cases e : s.heap.get? a with
      | none => rfl
      | some o => rw [hkp _ _ e] at h; cases h
    cases af with
    | next => simp only [RepFl] at rf; subst rf; simp only [retAV] at hav; cases hav; exact rfl
    | brk => simp [retAV] at hav
    | cont => simp [retAV] at hav
    | ret a =>
      (refine oEA rf ?_; try clear rf; rintro v rfl rv)
      cases a with
      | obj k =>
        simp only [retAV] at hav
        split at hav
        · rename_i hk
          split at hav
          · rename_i l el
            cases hav
            (refine oEAEA (R'.obj k _ el) ?_; rintro a ea items hpl hs)
            (refine oEA rv ?_; try clear rv; rintro a' ea' ev)
            obtain rfl : a = a' := Option.some.inj (ea.symm.trans ea')
            obtain ⟨nn, hpl'⟩ := hpl
            refine (iEEAAA a items ev ?_ ((iEAAAE _ hpl' rfl rfl nn rfl)) hs)
            have hmem := List.mem_of_getElem? ea
            rcases E.mu a (.inr (.inr (.inl hmem))) with q | q
            · rcases (hmu a).mp q with q | q | q
              · exact hnew a q
              · obtain ⟨j, hj, e⟩ := List.mem_iff_getElem.mp q
                have e2 := E.pre j a (by rw [← e]; simp [hj])
                have hjk := (List.getElem?_inj (by exact (List.getElem?_eq_some_iff.mp e2).1) R'.nd).mp (e2.trans ea.symm)
                rw [R.len] at hk; lia
              · exact (R'.own_notT hmem q).elim
            · exact hn1 a q
          · cases hav
        · cases hav
      | f x => simp only [retAV] at hav; cases hav; exact rv
      | lst l => simp only [retAV] at hav; cases hav; (refine oEEAA rv ?_; try clear rv; rintro a items e hi r); exact (iEEAA a items e (hn1 a hi) r)
      | val x => simp only [retAV] at hav; cases hav; exact rv
      | lam p e sc => simp only [retAV] at hav; cases hav; exact rv
end
end Mine
end
section
open PySem PySem.W PySem.Calls PyProof.Rows
set_option Elab.async false
set_option linter.unusedVariables false
set_option linter.unusedSimpArgs false
namespace Mine

section
variable {X : Fx} {st : St} {ρ ρ' ρ'' : List Addr} {s s' s'' : Shared}

/- an argument as the callee sees it -/
noncomputable def convA (hp : List AO) (ks : List Nat) : AV → Option AV
  | .obj k => if k ∈ ks then (ks.idxOf? k).map .obj else (match hp[k]? with | some (.list l) => some (.lst l) | _ => none)
  | a => some a
noncomputable def convAs (hp : List AO) (ks : List Nat) : List AV → Option (List AV)
  | [] => some []
  | a :: as => match convA hp ks a, convAs hp ks as with | some b, some bs => some (b :: bs) | _, _ => none
noncomputable def convKs (hp : List AO) (ks : List Nat) : List (Str × AV) → Option (List (Str × AV))
  | [] => some []
  | (x, a) :: as => match convA hp ks a, convKs hp ks as with | some b, some bs => some ((x, b) :: bs) | _, _ => none
noncomputable def pickO (hp : List AO) : List Nat → Option (List AO)
  | [] => some []
  | k :: ks => match hp[k]?, pickO hp ks with | some o, some os => some (o :: os) | _, _ => none
noncomputable def pickA (ρ : List Addr) : List Nat → Option (List Addr)
  | [] => some []
  | k :: ks => match ρ[k]?, pickA ρ ks with | some o, some os => some (o :: os) | _, _ => none
noncomputable def putAll (hp : List AO) : List Nat → List AO → List AO
  | [], _ => hp
  | _ :: _, [] => hp
  | k :: ks, o :: os => putAll (hp.set k o) ks os
noncomputable def AO.noIter : AO → Bool
  | .iter _ => false
  | _ => true

theorem pickO_get {hp : List AO} : ∀ {ks : List Nat} {os : List AO}, pickO hp ks = some os → os.length = ks.length ∧ ∀ (j : Nat) k, ks[j]? = some k → ∃ o, os[j]? = some o ∧ hp[k]? = some o
  | [], os, h => by cases h; exact ⟨rfl, fun j k e => by simp at e⟩
  | k :: ks, os, h => by
    simp only [pickO] at h
    split at h
    · rename_i o os' e1 e2
      cases h
      obtain ⟨l, g⟩ := pickO_get e2
      refine ⟨by simp [l], fun j k' e => ?_⟩
      cases j with
      | zero => simp only [List.getElem?_cons_zero, Option.some.injEq] at e; subst e; exact (iEA o rfl e1)
      | succ j => simp only [List.getElem?_cons_succ] at e ⊢; exact g j k' e
    · cases h
theorem pickA_get {ρ : List Addr} : ∀ {ks : List Nat} {os : List Addr}, pickA ρ ks = some os → os.length = ks.length ∧ (∀ (j : Nat) k, ks[j]? = some k → ∃ o, os[j]? = some o ∧ ρ[k]? = some o) ∧ ∀ a ∈ os, ∃ k ∈ ks, ρ[k]? = some a
  | [], os, h => by cases h; exact ⟨rfl, fun j k e => by simp at e, fun a h => nomatch h⟩
  | k :: ks, os, h => by
    simp only [pickA] at h
    split at h
    · rename_i o os' e1 e2
      cases h
      (refine oAA (pickA_get e2) ?_; rintro l g g2)
      refine ⟨by simp [l], fun j k' e => ?_, fun a ha => ?_⟩
      · cases j with
        | zero => simp only [List.getElem?_cons_zero, Option.some.injEq] at e; subst e; exact (iEA o rfl e1)
        | succ j => simp only [List.getElem?_cons_succ] at e ⊢; exact g j k' e
      · rcases List.mem_cons.mp ha with rfl | ha
        · exact (iEA k (.head _) e1)
        · (refine oEA (g2 a ha) ?_; rintro k' hk e); exact (iEA k' (.tail _ hk) e)
    · cases h
theorem pickA_some {ρ : List Addr} : ∀ {ks : List Nat}, (∀ k ∈ ks, k < ρ.length) → ∃ os, pickA ρ ks = some os
  | [], _ => ⟨[], rfl⟩
  | k :: ks, h => by
    obtain ⟨os, e⟩ := pickA_some (ks := ks) fun k' hk => h k' (.tail _ hk)
    have := h k (.head _)
    refine ⟨ρ[k] :: os, ?_⟩
    simp only [pickA, List.getElem?_eq_getElem this, e]
theorem pickA_nodup {ρ : List Addr} (nd : ρ.Nodup) : ∀ {ks : List Nat} {os : List Addr}, ks.Nodup → pickA ρ ks = some os → os.Nodup
  | [], os, _, h => by cases h; exact .nil
  | k :: ks, os, hk, h => by
    simp only [pickA] at h
    split at h
    · rename_i o os' e1 e2
      cases h
      rw [List.nodup_cons] at hk ⊢
      refine ⟨fun hm => ?_, pickA_nodup nd hk.2 e2⟩
      (refine oEA ((pickA_get e2).2.2 o hm) ?_; rintro k' hk' e)
      have := (List.getElem?_inj (List.getElem?_eq_some_iff.mp e1).1 nd).mp (e1.trans e.symm)
      exact hk.1 (this ▸ hk')
    · cases h
theorem putAll_length : ∀ (ks : List Nat) (os hp : List AO), (putAll hp ks os).length = hp.length
  | [], _, _ => by simp [putAll]
  | _ :: _, [], _ => by simp [putAll]
  | k :: ks, o :: os, hp => by simp [putAll, putAll_length ks os]
theorem putAll_ne : ∀ (ks : List Nat) (os hp : List AO) (k : Nat), k ∉ ks → (putAll hp ks os)[k]? = hp[k]?
  | [], _, _, _, _ => by simp [putAll]
  | _ :: _, [], _, _, _ => by simp [putAll]
  | k :: ks, o :: os, hp, j, h => by
    simp only [List.mem_cons, not_or] at h
    simp only [putAll, putAll_ne ks os _ j h.2]
    rw [List.getElem?_set_ne (fun q => h.1 q.symm)]
theorem putAll_get : ∀ (ks : List Nat) (os hp : List AO) (j k : Nat) (o : AO), ks.Nodup → os.length = ks.length → ks[j]? = some k → os[j]? = some o → k < hp.length → (putAll hp ks os)[k]? = some o
  | [], _, _, j, _, _, _, _, e, _, _ => by simp at e
  | _ :: _, [], _, _, _, _, _, h, _, _, _ => by simp at h
  | k :: ks, o :: os, hp, j, k', o', nd, h, e, e', hk => by
    rw [List.nodup_cons] at nd
    simp only [putAll]
    cases j with
    | zero =>
      simp only [List.getElem?_cons_zero, Option.some.injEq] at e e'
      subst e; subst e'
      rw [putAll_ne ks os _ k nd.1]
      rw [List.getElem?_set_self hk]
    | succ j =>
      simp only [List.getElem?_cons_succ] at e e'
      exact putAll_get ks os _ j k' o' nd.2 (by simpa using h) e e' (by simpa using hk)

theorem conv_rep (R : Rep X ρ st s) {ks : List Nat} {ρc : List Addr} (hc : pickA ρ ks = some ρc) {a b : AV} {v : Value} (h : convA st.hp ks a = some b) (r : RepV s.heap (im X ρ) ρ a v) : RepV s.heap (im0 X.toWx ρc) ρc b v := by
  (refine oAA (pickA_get hc) ?_; rintro hl hg hm)
  have sub : ∀ x, im X ρ x → im0 X.toWx ρc x := fun x h => ⟨fun q => by
    (refine oEA (hm x q) ?_; rintro k _ e)
    exact h (.inr (.inr (.inl (List.mem_of_getElem? e)))), fun q => h (.inr (.inr (.inr q)))⟩
  cases a with
  | f x => cases h; exact r
  | val x => cases h; exact r
  | lam p e sc => cases h; exact r
  | lst l => cases h; (refine oEEAA r ?_; try clear r; rintro a items e hi r); exact (iEEAA a items e (sub a hi) r)
  | obj k =>
    (refine oEA r ?_; try clear r; rintro a ea ev)
    simp only [convA] at h
    split at h
    · rename_i hk
      rw [Option.map_eq_some_iff] at h
      (refine oEA h ?_; try clear h; rintro j ej rfl)
      have hj : ks[j]? = some k := by
        rw [List.idxOf?, List.findIdx?_eq_some_iff_getElem] at ej
        (refine oEA ej ?_; try clear ej; rintro hj q _)
        rw [List.getElem?_eq_getElem hj]
        simpa using q
      (refine oEA (hg j k hj) ?_; rintro o e1 e2)
      refine (iEA a ?_ ev)
      rw [e1, ← e2, ea]
    · rename_i hk
      split at h
      · rename_i l e
        cases h
        (refine oEAEA (R.obj k _ e) ?_; rintro a' ea' items ⟨n, hp⟩ hs)
        obtain rfl : a = a' := Option.some.inj (ea.symm.trans ea')
        refine (iEEAAA a items ev (⟨fun q => ?_, R.own_notT (List.mem_of_getElem? ea)⟩) ((iEAAAE _ hp rfl rfl n rfl)) hs)
        (refine oEA (hm a q) ?_; rintro k' hk' e')
        have := (List.getElem?_inj (List.getElem?_eq_some_iff.mp ea).1 R.nd).mp (ea.trans e'.symm)
        exact hk (this ▸ hk')
      · cases h
theorem convs_rep (R : Rep X ρ st s) {ks : List Nat} {ρc : List Addr} (hc : pickA ρ ks = some ρc) : ∀ {as bs : List AV} {vs : List Value}, convAs st.hp ks as = some bs → RepVs s.heap (im X ρ) ρ as vs → RepVs s.heap (im0 X.toWx ρc) ρc bs vs
  | _, _, _, h, .nil => by cases h; exact .nil
  | _, _, _, h, .cons r rs => by
    simp only [convAs] at h
    split at h
    · rename_i b bs' e1 e2
      cases h
      exact .cons (conv_rep R hc e1 r) (convs_rep R hc e2 rs)
    · cases h
theorem convKs_rep (R : Rep X ρ st s) {ks : List Nat} {ρc : List Addr} (hc : pickA ρ ks = some ρc) : ∀ {as bs : List (Str × AV)} {vs : List (Str × Value)}, convKs st.hp ks as = some bs → RepKs s.heap (im X ρ) ρ as vs → RepKs s.heap (im0 X.toWx ρc) ρc bs vs
  | _, _, _, h, .nil => by cases h; exact .nil
  | _, _, _, h, .cons r rs => by
    simp only [convKs] at h
    split at h
    · rename_i b bs' e1 e2
      cases h
      exact .cons (conv_rep R hc e1 r) (convKs_rep R hc e2 rs)
    · cases h

/- the call itself -/
theorem Con.on (R : Rep X ρ st s) {f : Value} {n : Nat} {as bs : List AV} {kw kw' : List (Str × AV)} {ks : List Nat} {hp : List AO} {Q : AV → List AO → Prop} (C : Con X.toWx f n bs kw' hp Q) (hn : n ≤ X.n) (hnd : ks.Nodup) (hpk : pickO st.hp ks = some hp) (hca : convAs st.hp ks as = some bs) (hck : convKs st.hp ks kw = some kw')
    (hni : ∀ a hp', Q a hp' → hp'.all AO.noIter = true)
    {vs : List Value} {kvs : List (Str × Value)} (rv : RepVs s.heap (im X ρ) ρ as vs) (rk : RepKs s.heap (im X ρ) ρ kw kvs) {P : Value → Shared → Prop}
    (k : ∀ v s' av hp', Rep X ρ { st with hp := putAll st.hp ks hp' } s' → Ext X ρ s ρ s' → (ks = [] → X.G s s') → RepV s'.heap (fun a => s.heap.get? a = none) [] av v → Q av hp' → P v s') : wpAny X.M X.A (call f vs kvs) P NoE s := by
  obtain ⟨hol, hog⟩ := pickO_get hpk
  have hks : ∀ k ∈ ks, k < ρ.length := fun k hk => by
    obtain ⟨j, hj, e⟩ := List.mem_iff_getElem.mp hk
    (refine oEA (hog j k (by rw [← e]; simp [hj])) ?_; rintro o _ e')
    rw [← R.len]; exact (List.getElem?_eq_some_iff.mp e').1
  obtain ⟨ρc, hc⟩ := pickA_some hks
  (refine oAA (pickA_get hc) ?_; rintro hl hg hm)
  have hmem : ∀ a ∈ ρc, a ∈ ρ := fun a ha => by (refine oEA (hm a ha) ?_; rintro k _ e); exact List.mem_of_getElem? e
  have R0 : Rep0 X.toWx X.F ρc hp s := by
    refine ⟨R.keep, fun a h => R.new a (.inr (.inr (h.imp (hmem a) fun q => q))), R.fr, fun j ao e => ?_, by rw [hl, hol], pickA_nodup R.nd hnd hc, R.tab⟩
    have hj : j < ks.length := by rw [← hol]; exact (List.getElem?_eq_some_iff.mp e).1
    (refine oEA (hog j ks[j] (by simp [hj])) ?_; rintro o e1 e2)
    obtain rfl : ao = o := Option.some.inj (e.symm.trans e1)
    (refine oEA (R.obj ks[j] ao e2) ?_; rintro a ea ra)
    (refine oEA (hg j ks[j] (by simp [hj])) ?_; rintro a' e3 e4)
    obtain rfl : a = a' := Option.some.inj (ea.symm.trans e4)
    refine (iEA a e3 ?_)
    cases ao with
    | iter l =>
      (refine oEEEAA ra ?_; try clear ra; rintro la i items hi hm' hr)
      exact (iEEEAA la i items hi (⟨fun q => hm' (.inr (.inr (.inl (hmem _ q)))), fun q => hm' (.inr (.inr (.inr q)))⟩) hr)
    | list l => exact ra
    | rng x n c => exact ra
    | plain => exact ra
    | fin => exact ra
    | junk => exact ra
  refine wpAny_mono (C X.A X.F ρc s vs kvs (X.ok.le hn) R0 (convs_rep R hc hca rv) (convKs_rep R hc hck rk)) (fun v s' h => ?_) fun _ _ x => x
  (refine oEEAAA h ?_; try clear h; rintro av hp' B R1 rr hQ)
  have hD : ∀ a, (a ∈ ρc ∨ a = X.tabA) → mu X ρ a := fun a h => .inr (.inr (h.imp (hmem a) fun q => q))
  have nL : ∀ a m, s.heap.Ns a m → ¬ (a ∈ ρc ∨ a = X.tabA) := by
    rintro a m n (h | h)
    · (refine oEEAA (R.own (hmem a h)) ?_; rintro _ ao _ _ rr)
      (refine oEAAAAA rr.kind ?_; rintro o e _ _ _ d _)
      (refine oEEEAA n ?_; try clear n; rintro o' es ep e' d' _)
      rw [e] at e'; cases e'; exact d _ _ d'
    · exact R.ns_notT n h
  have nC : ∀ a v, s.heap.IsCell a v → ¬ (a ∈ ρc ∨ a = X.tabA) := by
    rintro a m n (h | h)
    · (refine oEEAA (R.own (hmem a h)) ?_; rintro _ ao _ _ rr)
      (refine oEAAAAAA rr.kind ?_; rintro o e _ _ _ _ d _)
      (refine oEA n ?_; try clear n; rintro o' e' d')
      rw [e] at e'; cases e'; exact d _ d'
    · exact R.cell_notT n h
  have R' : Rep X ρ { st with hp := putAll st.hp ks hp' } s' := by
    refine ⟨R1.keep, R.new, R1.fr, ?_, fun x c hc => ?_, R.cnd, fun x av e => ?_, fun i ao e => ?_, by simp [putAll_length, R.len], R.nd, R1.tab⟩
    · obtain ⟨m, n⟩ := R.ns; exact ⟨m, ns_same B.same (nL _ _ n) n⟩
    · obtain ⟨v, n⟩ := R.cl x c hc; exact ⟨v, cell_same B.same (nC _ _ n) n⟩
    · (refine oEA (R.var x av e) ?_; rintro v hv r)
      refine (iEA v ?_ (R.val_same B.same hD (fun _ h _ => h) (fun _ _ h => h) r))
      rcases hv with ⟨k, m, n, q⟩ | ⟨k, c, q, n⟩
      · exact .inl (iAEA k m (ns_same B.same (nL _ _ n) n) q)
      · exact .inr (iAEA k c q (cell_same B.same (nC _ _ n) n))
    · by_cases hi : i ∈ ks
      · obtain ⟨j, hj, ej⟩ := List.mem_iff_getElem.mp hi
        have ej' : ks[j]? = some i := by rw [← ej]; simp [hj]
        have hlen' : hp'.length = ks.length := by rw [R1.len, hl]
        have e1 : hp'[j]? = some ao := by
          have := putAll_get ks hp' st.hp j i (hp'[j]'(by (exact Nat.lt_of_lt_of_eq ‹_› (Eq.symm ‹_›)))) hnd hlen' ej' (by simp) (by rw [R.len]; exact hks i hi)
          rw [List.getElem?_eq_getElem (by lia)]
          rw [← this]; exact e
        (refine oEA (R1.obj j ao e1) ?_; rintro a ea ra)
        (refine oEA (hg j i ej') ?_; rintro a' e3 e4)
        obtain rfl : a = a' := Option.some.inj (ea.symm.trans e3)
        refine (iEA a e4 ?_)
        have hno := List.all_eq_true.mp (hni av hp' hQ) ao (List.mem_of_getElem? e1)
        cases ao with
        | iter l => cases hno
        | list l => exact ra
        | rng x n c => exact ra
        | plain => exact ra
        | fin => exact ra
        | junk => exact ra
      · simp only [putAll_ne ks hp' st.hp i hi] at e
        (refine oEA (R.obj i ao e) ?_; rintro a ea ra)
        have ha := List.mem_of_getElem? ea
        refine (iEA a ea (R.obj_same B.same hD (fun _ h _ => h) ha ?_ ra))
        rintro (h | h)
        · (refine oEA (hm a h) ?_; rintro k' hk' e')
          have := (List.getElem?_inj (List.getElem?_eq_some_iff.mp ea).1 R.nd).mp (ea.trans e'.symm)
          exact hi (this ▸ hk')
        · exact R.own_notT ha h
  refine k v s' av hp' R' ⟨B.same.mono hD, fun _ _ h => h, fun _ h => .inl h, B.ex, B.gens, B.os⟩ (fun hk => ?_) rr hQ
  subst hk
  cases hc
  exact ⟨B.same.mono fun a h => h.elim (fun h => nomatch h) fun q => q, fun _ => R1.tab, B.gens, B.os⟩

/- keywords -/
inductive PKs (X : Fx) (st : St) : List Keyword → List (Str × AV) → Prop
  | nil : PKs X st [] []
  | cons {x : Str} {e : Expr} {p : Pos} {es a as} : PE X st e a → PKs X st es as → PKs X st (⟨some x, e, p⟩ :: es) ((x, a) :: as)
theorem PKs.on {pos : Pos} : ∀ {es : List Keyword} {as : List (Str × AV)} {s : Shared}, PKs X st es as → Rep X ρ st s → ∀ {Q : List Value → Shared → Prop}, (∀ ks s', Rep X ρ st s' → X.G s s' → RepKs s'.heap (im X ρ) ρ as (((backToKw pos (keywordEach es X.env)).filterMap (·.1)).zip ks) → Q ks s') → wpAny X.M X.A (evalAll ((backToKw pos (keywordEach es X.env)).map (·.2))) Q NoE s
 := by
  intro es as s h
  induction h generalizing s with
  | nil => exact fun R _ k => wpAny_evalAll_nil (k [] s R .refl .nil)
  | cons p ps ih => exact fun R _ k => wpAny_evalAll_cons (wpAny_bind (p.on R fun v s₁ R₁ G₁ r₁ => wpAny_bind (wpAny_standAt (wpAny_pure (ih R₁ fun vs s₂ R₂ G₂ r₂ => k _ s₂ R₂ (G₁.trans G₂) (.cons (R₁.val_grow G₂ r₁) r₂))))))
theorem PKs.all {pos : Pos} : ∀ {es : List Keyword} {as : List (Str × AV)}, PKs X st es as → (backToKw pos (keywordEach es X.env)).all (·.1.isSome) = true
 := by
  intro es as h
  induction h with
  | nil => rfl
  | cons p ps ih =>
    show (true && (backToKw pos (keywordEach _ X.env)).all (·.1.isSome)) = true
    rw [ih]; rfl
theorem PEs.plain {pos : Pos} : ∀ {es : List Expr} {as : List AV}, PEs X st es as → (backTo pos (starEach es X.env)).any (·.1) = false
 := by
  intro es as h
  induction h with
  | nil => rfl
  | cons p ps he ih => rw [he]; show (false || (backTo pos (starEach _ X.env)).any (·.1)) = false; rw [ih]; rfl

theorem evalArgs_on {pos : Pos} {f : Value} {es : List Expr} {as : List AV} {kws : List Keyword} {kas : List (Str × AV)} (R : Rep X ρ st s) (h1 : PEs X st es as) (h2 : PKs X st kws kas) {Q : Args → Shared → Prop}
    (k : ∀ vs kvs s', Rep X ρ st s' → X.G s s' → RepVs s'.heap (im X ρ) ρ as vs → RepKs s'.heap (im X ρ) ρ kas kvs → Q ⟨vs, kvs⟩ s') : wpAny X.M X.A (evalArgs f true (backTo pos (starEach es X.env)) (backToKw pos (keywordEach kws X.env))) Q NoE s := by
  cases h1 with
  | nil => exact evalArgs_kw_nil h2.all (h2.on R fun ks s' R' G r => k _ _ s' R' G .nil r)
  | cons p ps he =>
    rw [he]
    refine evalArgs_kw h2.all ?_
    have := (PEs.cons p ps he).on (pos := pos) R (Q := fun vs s₁ => wpAny X.M X.A (evalAll ((backToKw pos (keywordEach kws X.env)).map (·.2))) (fun ks s₂ => Q ⟨vs, ((backToKw pos (keywordEach kws X.env)).filterMap (·.1)).zip ks⟩ s₂) NoE s₁) fun vs s₁ R₁ G₁ r₁ => h2.on R₁ fun ks s₂ R₂ G₂ r₂ => k _ _ s₂ R₂ (G₁.trans G₂) (R₁.vals_grow G₂ r₁) r₂
    rw [he] at this
    exact this

theorem we_call {fn : Str} {p pos : Pos} {es : List Expr} {kws : List Keyword} {f : Value} {n : Nat} {as bs : List AV} {kas kbs : List (Str × AV)} {ks : List Nat} {hp : List AO} {Q : AV → List AO → Prop} {P : AV → St → Prop}
    (hf : PE X st (.Name fn p) (.val f)) (hfo : ∃ a o fd, f = .ref a ∧ X.h₀.get? a = some o ∧ o.data = .func fd) (h1 : PEs X st es as) (h2 : PKs X st kws kas)
    (C : Con X.toWx f n bs kbs hp Q) (hn : n ≤ X.n) (hnd : ks.Nodup) (hpk : pickO st.hp ks = some hp) (hca : convAs st.hp ks as = some bs) (hck : convKs st.hp ks kas = some kbs) (hni : ∀ a hp', Q a hp' → hp'.all AO.noIter = true)
    (k : ∀ av hp', Q av hp' → P av { st with hp := putAll st.hp ks hp' }) : WE X (.Call (.Name fn p) es kws pos) st P := fun ρ s R => by
  refine wpAny_Call_ofName (hf.on R fun v s₁ R₁ G₁ r₁ => ?_)
  cases r₁
  (refine oEEEAA hfo ?_; try clear hfo; rintro a o fd rfl ho hd)
  refine callWith_of (P := fun h => h.get? a = some o) (by rw [h1.plain]; have := h2.all (pos := pos); simp only [List.all_eq_true, Bool.false_or, List.any_eq_false] at this ⊢; intro x hx; have := this x hx; cases q : x.1 <;> simp_all) (fun h hh => (iEA (.frame) (.inl rfl) ((Looks.ld (part := none) hh).andThen (by rw [hd]; exact .now)))) ?_
  refine evalArgs_on R₁ h1 h2 fun vs kvs s₂ R₂ G₂ rv rk => ⟨R₂.keep _ _ ho, ?_⟩
  refine C.on R₂ hn hnd hpk hca hck hni (by simpa using rv) rk fun v s' av hp' R' E _ rr hQ => (iEEEAAA ρ av _ R' ((R.ext (G₁.trans G₂)).trans E) ?_ (k av hp' hQ))
  cases av with
  | lst l => (refine oEEAA rr ?_; try clear rr; rintro a items e hi r); exact (iEEAA a items e (R₂.fresh_im hi) r)
  | f x => exact rr
  | val x => exact rr
  | lam p e sc => exact rr
  | obj k => (refine oEA rr ?_; try clear rr; rintro a e _); simp at e
/- a call that changes nothing -/
theorem call_on {fn : Str} {p pos : Pos} {es : List Expr} {kws : List Keyword} {f : Value} {n : Nat} {as bs : List AV} {kas kbs : List (Str × AV)} {Q : AV → List AO → Prop}
    (hf : PE X st (.Name fn p) (.val f)) (hfo : ∃ a o fd, f = .ref a ∧ X.h₀.get? a = some o ∧ o.data = .func fd) (h1 : PEs X st es as) (h2 : PKs X st kws kas)
    (C : Con X.toWx f n bs kbs [] Q) (hn : n ≤ X.n) (hca : convAs st.hp [] as = some bs) (hck : convKs st.hp [] kas = some kbs) (R : Rep X ρ st s) {P : Value → Shared → Prop}
    (k : ∀ v s' av hp', Rep X ρ st s' → X.G s s' → RepV s'.heap (fun a => s.heap.get? a = none) [] av v → Q av hp' → P v s') : wpAny X.M X.A (eval (.Call (.Name fn p) es kws pos) X.env) P NoE s := by
  refine wpAny_Call_ofName (hf.on R fun v s₁ R₁ G₁ r₁ => ?_)
  cases r₁
  (refine oEEEAA hfo ?_; try clear hfo; rintro a o fd rfl ho hd)
  refine callWith_of (P := fun h => h.get? a = some o) (by rw [h1.plain]; have := h2.all (pos := pos); simp only [List.all_eq_true, Bool.false_or, List.any_eq_false] at this ⊢; intro x hx; have := this x hx; cases q : x.1 <;> simp_all) (fun h hh => (iEA (.frame) (.inl rfl) ((Looks.ld (part := none) hh).andThen (by rw [hd]; exact .now)))) ?_
  refine evalArgs_on R₁ h1 h2 fun vs kvs s₂ R₂ G₂ rv rk => ⟨R₂.keep _ _ ho, ?_⟩
  have C' : Con X.toWx (.ref a) n bs kbs [] (fun av hp' => Q av [] ∨ (Q av hp' ∧ hp' = [])) := by
    intro A F ρ s vs kvs h1 h2 h3 h4
    refine wpAny_mono (C A F ρ s vs kvs h1 h2 h3 h4) (fun v s' ⟨av, hp', b, r, rv, q⟩ => (iEEAAA av hp' b r rv ?_)) fun _ _ x => x
    have hz : hp' = [] := by
      have e1 := r.len; have e2 := h2.len
      apply List.eq_nil_of_length_eq_zero
      rw [e1, ← e2]; rfl
    exact .inr ⟨q, hz⟩
  have C'' : Con X.toWx (.ref a) n bs kbs [] (fun av hp' => Q av hp' ∧ hp' = []) := by
    intro A F ρ s vs kvs h1 h2 h3 h4
    refine wpAny_mono (C A F ρ s vs kvs h1 h2 h3 h4) (fun v s' ⟨av, hp', b, r, rv, q⟩ => (iEEAAAA av hp' b r rv q ?_)) fun _ _ x => x
    have e1 := r.len; have e2 := h2.len
    apply List.eq_nil_of_length_eq_zero
    rw [e1, ← e2]; rfl
  refine C''.on R₂ hn .nil rfl hca hck (fun a hp' q => by rw [q.2]; rfl) (by simpa using rv) rk fun v s' av hp' R' E hG rr hQ => ?_
  have G := (G₁.trans G₂).trans (hG rfl)
  refine k v s' av hp' (R.grow G) G ?_ hQ.1
  exact rr.weaken fun b h => (R.ext (G₁.trans G₂)).none h
theorem pe_call {fn : Str} {p pos : Pos} {es : List Expr} {kws : List Keyword} {f : Value} {n : Nat} {as bs : List AV} {kas kbs : List (Str × AV)} {av : AV}
    (hf : PE X st (.Name fn p) (.val f)) (hfo : ∃ a o fd, f = .ref a ∧ X.h₀.get? a = some o ∧ o.data = .func fd) (h1 : PEs X st es as) (h2 : PKs X st kws kas)
    (C : Con X.toWx f n bs kbs [] (fun a _ => a = av)) (hn : n ≤ X.n) (hca : convAs st.hp [] as = some bs) (hck : convKs st.hp [] kas = some kbs) : PE X st (.Call (.Name fn p) es kws pos) av := fun ρ s R =>
  call_on hf hfo h1 h2 C hn hca hck R fun v s' av' hp' R' G rr hq => ⟨G, by
    subst hq
    cases av' with
    | lst l => (refine oEEAA rr ?_; try clear rr; rintro a items e hi r); exact (iEEAA a items e (R.fresh_im hi) r)
    | f x => exact rr
    | val x => exact rr
    | lam p e sc => exact rr
    | obj k => (refine oEA rr ?_; try clear rr; rintro a e _); simp at e⟩
end
end Mine
end
section
open PySem PySem.W PySem.Calls PyProof.Rows
set_option Elab.async false
set_option linter.unusedVariables false
set_option linter.unusedSimpArgs false
namespace Mine

/- ints and tuples of such, n deep at most -/
noncomputable def okF : Nat → FV → Bool
  | _, .int _ => true
  | n + 1, .tup l => l.all (okF n)
  | _, _ => false
mutual
noncomputable def toPy : FV → PyData
  | .none => .none
  | .bool b => .bool b
  | .int i => .int i
  | .tup l => .tuple (toPys l)
noncomputable def toPys : List FV → List PyData
  | [] => []
  | x :: xs => toPy x :: toPys xs
end
mutual
theorem RepF.reads {h : Heap} : ∀ (x : FV) {v : Value}, RepF h x v → ∃ as, Reads h v (toPy x) as
  | .none, _, r => by simp only [RepF] at r; subst r; exact ⟨_, by simp only [toPy]; exact .none⟩
  | .bool b, _, r => by simp only [RepF] at r; subst r; exact ⟨_, by simp only [toPy]; exact .bool b⟩
  | .int i, _, r => by simp only [RepF] at r; obtain ⟨t, rfl⟩ := r; exact ⟨_, by simp only [toPy]; exact .int i t⟩
  | .tup l, _, r => by
    simp only [RepF] at r
    (refine oEEAA r ?_; try clear r; rintro a items rfl ⟨o, e, c, n, d⟩ hs)
    obtain ⟨as, ra⟩ := RepFs.reads l hs
    exact ⟨as, by simp only [toPy]; exact .tuple e c d ra⟩
theorem RepFs.reads {h : Heap} : ∀ (x : List FV) {v : List Value}, RepFs h x v → ∃ as, ReadsAll h v (toPys x) as
  | [], _, r => by simp only [RepFs] at r; subst r; exact ⟨_, by simp only [toPys]; exact .nil⟩
  | x :: xs, _, r => by
    simp only [RepFs] at r
    (refine oEEAA r ?_; try clear r; rintro v vs rfl h1 h2)
    obtain ⟨as, ra⟩ := RepF.reads x h1
    obtain ⟨bs, rb⟩ := RepFs.reads xs h2
    exact ⟨_, by simp only [toPys]; exact .cons ra rb⟩
end
theorem toPy_lay : ∀ (n : Nat) (d : FV), okF n d = true → (toPy d).canLay0 = true ∧ (toPy d).depth ≤ n := by
  have all : ∀ (n : Nat), (∀ d, okF n d = true → (toPy d).canLay0 = true ∧ (toPy d).depth ≤ n) → ∀ ds : List FV, (∀ d ∈ ds, okF n d = true) → PyData.canLayAll0 (toPys ds) = true ∧ PyData.depthAll (toPys ds) ≤ n := by
    intro n ih ds
    induction ds with
    | nil => intro _; simp [toPys, PyData.canLayAll0, PyData.depthAll]
    | cons d ds hi =>
      intro h
      have h1 := ih d (h d (.head _))
      have h2 := hi fun e he => h e (.tail _ he)
      simp only [toPys, PyData.canLayAll0, PyData.depthAll, h1.1, h2.1, Bool.and_self, true_and]
      have a1 := h1.2
      have a2 := h2.2
      lia
  intro n
  induction n with
  | zero => intro d h; cases d <;> simp_all [okF, toPy, PyData.canLay0, PyData.depth]
  | succ n ih =>
    intro d h
    cases d with
    | none => simp [okF] at h
    | bool b => simp [okF] at h
    | int i => simp [toPy, PyData.canLay0, PyData.depth]
    | tup ds =>
      have q := all n ih ds (by simpa [okF] using h)
      have q2 := q.2
      simp only [toPy, PyData.canLay0, PyData.depth, q.1, true_and]
      (exact Nat.lt_succ_of_le ‹_›)
theorem toPys_lay (n : Nat) (ds : List FV) (h : ∀ d ∈ ds, okF n d = true) : PyData.canLayAll0 (toPys ds) = true ∧ PyData.depthAll (toPys ds) ≤ n := by
  have := toPy_lay (n + 1) (.tup ds) (by simpa [okF] using h)
  simp only [toPy, PyData.canLay0, PyData.depth] at this
  exact ⟨this.1, by lia⟩
theorem toPy_eqv : ∀ (n : Nat) (d e : FV) (k : Nat), okF n d = true → okF k e = true → (PyData.eqv (toPy d) (toPy e) = true ↔ d = e) := by
  have all : ∀ (n : Nat), (∀ d e k, okF n d = true → okF k e = true → (PyData.eqv (toPy d) (toPy e) = true ↔ d = e)) → ∀ (k : Nat) (ds es : List FV), (∀ d ∈ ds, okF n d = true) → (∀ d ∈ es, okF k d = true) →
      (PyData.eqvAll (toPys ds) (toPys es) = true ↔ ds = es) := by
    intro n ih k ds
    induction ds with
    | nil => intro es _ _; cases es <;> simp [toPys, PyData.eqvAll]
    | cons d ds hi =>
      intro es h1 h2
      rcases es with _ | ⟨e, es⟩
      · simp [toPys, PyData.eqvAll]
      ·
        have q1 := ih d e k (h1 d (.head _)) (h2 e (.head _))
        have q2 := hi es (fun x hx => h1 x (.tail _ hx)) fun x hx => h2 x (.tail _ hx)
        simp only [toPys, PyData.eqvAll, Bool.and_eq_true, q1, q2, List.cons.injEq]
  intro n
  induction n with
  | zero => intro d e k h1 h2; cases d <;> cases e <;> cases k <;> simp_all [okF, toPy, PyData.eqv]
  | succ n ih =>
    intro d e k h1 h2
    cases d with
    | tup ds =>
      cases e with
      | tup es =>
        cases k with
        | zero => simp [okF] at h2
        | succ k =>
          simp only [toPy, PyData.eqv, FV.tup.injEq]
          exact all n ih k ds es (by simpa [okF] using h1) (by simpa [okF] using h2)
      | _ => cases k <;> simp_all [okF, toPy, PyData.eqv]
    | _ => cases e <;> cases k <;> simp_all [okF, toPy, PyData.eqv]
theorem toPys_eqv (n : Nat) (ds es : List FV) (h1 : ∀ d ∈ ds, okF n d = true) (h2 : ∀ d ∈ es, okF n d = true) : PyData.eqvAll (toPys ds) (toPys es) = true ↔ ds = es := by
  have := toPy_eqv (n + 1) (.tup ds) (.tup es) (n + 1) (by simpa [okF] using h1) (by simpa [okF] using h2)
  simpa [toPy, PyData.eqv] using this

open Classical
section
variable {X : Fx} {st : St} {ρ : List Addr} {s : Shared}

theorem eqBool_flat {prog : Program} {w : World} {A : Around} {E : Value → Shared → Prop} {s : Shared} {x y : FV} {v u : Value} {Q : Bool → Shared → Prop} (r1 : RepF s.heap x v) (r2 : RepF s.heap y u) {n m : Nat} (h1 : okF n x = true) (h2 : okF m y = true) (hn : n ≤ 60) (hu : A.units + 64 < cLine) (h : Q (decide (x = y)) s) : wpAny (model prog w) A (eqBool v u) Q E s := by
  obtain ⟨as, ra⟩ := r1.reads
  obtain ⟨bs, rb⟩ := r2.reads
  have l1 := toPy_lay n x h1
  have l2 := toPy_lay m y h2
  have e : PyData.eqv (toPy x) (toPy y) = decide (x = y) := by
    have q := toPy_eqv n x y m h1 h2
    by_cases hq : x = y
    · rw [decide_eq_true hq]; exact q.mpr hq
    · rw [decide_eq_false hq]; exact Bool.eq_false_iff.mpr fun z => hq (q.mp z)
  have l12 := l1.2
  exact SeqAt.eqBoolOverData prog w A E s v u _ _ as bs Q ra rb l1.1 l2.1 (by have := Nat.min_le_left (toPy x).depth (toPy y).depth; lia) (e ▸ h)

theorem listReads {h : Heap} {la : Addr} {items : Array Value} {l : List FV} (hl : h.IsList la items) (hs : RepFs h l items.toList) : ∃ as, Reads h (.ref la) (.list (toPys l)) as := by
  obtain ⟨as, ra⟩ := hs.reads
  (refine oEAAE hl ?_; try clear hl; rintro o e c n d)
  exact ⟨_, .list e c d ra⟩
theorem co_eqL {a c : AV} {l m : List FV} {n : Nat} (ha : asL st.hp a = some l) (hc : asL st.hp c = some m) (h1 : ∀ d ∈ l, okF n d = true) (h2 : ∀ d ∈ m, okF n d = true) (hn : n ≤ 60) : CO X st .Eq a c (decide (l = m)) := by
  intro ρ s v u R r1 r2
  (refine oEEAAA (R.asL ha r1) ?_; rintro la items rfl hl hs _)
  (refine oEEAAA (R.asL hc r2) ?_; rintro lb items' rfl hl' hs' _)
  obtain ⟨as, ra⟩ := listReads hl hs
  obtain ⟨bs, rb⟩ := listReads hl' hs'
  have l1 := toPys_lay n l h1
  have l2 := toPys_lay n m h2
  have e : PyData.eqv (.list (toPys l)) (.list (toPys m)) = decide (l = m) := by
    have q := toPys_eqv n l m h1 h2
    simp only [PyData.eqv]
    by_cases hq : l = m
    · rw [decide_eq_true hq]; exact q.mpr hq
    · rw [decide_eq_false hq]; exact Bool.eq_false_iff.mpr fun z => hq (q.mp z)
  refine eq_dataH ra rb ?_ ?_ (by have := X.hu; lia) ⟨by rw [e], .refl⟩
  · simp only [SeqAt.shaped, PyData.canLay0, PyData.depth, l1.1, Bool.true_and]; exact decide_eq_true (by lia)
  · simp only [SeqAt.shaped, PyData.canLay0, PyData.depth, l2.1, Bool.true_and]; exact decide_eq_true (by lia)
theorem co_neL {a c : AV} {l m : List FV} {n : Nat} (ha : asL st.hp a = some l) (hc : asL st.hp c = some m) (h1 : ∀ d ∈ l, okF n d = true) (h2 : ∀ d ∈ m, okF n d = true) (hn : n ≤ 60) : CO X st .NotEq a c (!decide (l = m)) := by
  intro ρ s v u R r1 r2
  (refine oEEAAA (R.asL ha r1) ?_; rintro la items rfl hl hs _)
  (refine oEEAAA (R.asL hc r2) ?_; rintro lb items' rfl hl' hs' _)
  obtain ⟨as, ra⟩ := listReads hl hs
  obtain ⟨bs, rb⟩ := listReads hl' hs'
  have l1 := toPys_lay n l h1
  have l2 := toPys_lay n m h2
  have e : PyData.eqv (.list (toPys l)) (.list (toPys m)) = decide (l = m) := by
    have q := toPys_eqv n l m h1 h2
    simp only [PyData.eqv]
    by_cases hq : l = m
    · rw [decide_eq_true hq]; exact q.mpr hq
    · rw [decide_eq_false hq]; exact Bool.eq_false_iff.mpr fun z => hq (q.mp z)
  refine ne_dataH ra rb ?_ ?_ (by have := X.hu; lia) ⟨by rw [e], .refl⟩
  · simp only [SeqAt.shaped, PyData.canLay0, PyData.depth, l1.1, Bool.true_and]; exact decide_eq_true (by lia)
  · simp only [SeqAt.shaped, PyData.canLay0, PyData.depth, l2.1, Bool.true_and]; exact decide_eq_true (by lia)
theorem toPys_any (n : Nat) (x : FV) (hx : okF n x = true) : ∀ (l : List FV), (∀ d ∈ l, okF n d = true) → ((toPys l).any fun y => PyData.eqv y (toPy x)) = decide (x ∈ l)
  | [], _ => by simp [toPys]
  | y :: ys, h => by
    have ih := toPys_any n x hx ys fun d hd => h d (.tail _ hd)
    have q := toPy_eqv n y x n (h y (.head _)) hx
    simp only [toPys, List.any_cons, ih, List.mem_cons, Bool.decide_or]
    congr 1
    by_cases hq : x = y
    · rw [decide_eq_true hq]; exact q.mpr hq.symm
    · rw [decide_eq_false hq]; exact Bool.eq_false_iff.mpr fun z => hq (q.mp z).symm
theorem co_in {c : AV} {x : FV} {m : List FV} {n : Nat} (hc : asL st.hp c = some m) (h1 : okF n x = true) (h2 : ∀ d ∈ m, okF n d = true) (hn : n ≤ 60) : CO X st .In (.f x) c (decide (x ∈ m)) := by
  intro ρ s v u R r1 r2
  (refine oEEAAA (R.asL hc r2) ?_; rintro lb items' rfl hl' hs' _)
  obtain ⟨as, ra⟩ := RepF.reads x r1
  obtain ⟨bs, rb⟩ := listReads hl' hs'
  have l1 := toPy_lay n x h1
  have l2 := toPys_lay n m h2
  refine SeqAt.in_list_reads rb ra l2.1 l1.1 ?_ ⟨by rw [toPys_any n x h1 m h2], .refl⟩
  have := Nat.min_le_right (PyData.depthAll (toPys m)) (toPy x).depth
  have := X.hu
  have := l1.2
  lia

mutual
noncomputable def FV.lt : FV → FV → Bool
  | .int i, y => match y with | .int j => decide (i < j) | _ => false
  | .tup l, y => match y with | .tup m => ltL l m | _ => false
  | _, _ => false
noncomputable def ltL : List FV → List FV → Bool
  | [], ys => match ys with | [] => false | _ :: _ => true
  | x :: xs, ys => match ys with | [] => false | y :: ys => if x = y then ltL xs ys else x.lt y
end
/- two values that may be set in order -/
noncomputable def CmpF : Nat → FV → FV → Prop
  | _, .int _, .int _ => True
  | n + 1, .tup l, .tup m => CmpFs (CmpF n) l m
  | _, _, _ => False
where CmpFs (C : FV → FV → Prop) : List FV → List FV → Prop
  | [], _ => True
  | _ :: _, [] => True
  | x :: xs, y :: ys => okF 20 x = true ∧ okF 20 y = true ∧ (x = y → CmpFs C xs ys) ∧ (x ≠ y → C x y)

theorem lt_tree {prog : Program} {w : World} {A : Around} {E : Value → Shared → Prop} {s : Shared} {P : PySem.Fin → Shared → Prop} {l m : List FV} {a b : Addr} {xs ys : Array Value} (C : FV → FV → Prop)
    (hlt : ∀ x y v u, C x y → RepF s.heap x v → RepF s.heap y u → ∀ Q : Value → Shared → Prop, Q (.bool (x.lt y)) s → wpAny (model prog w) A (richCompare .Lt v u) Q E s) (hu : A.units + 64 < cLine)
    (ha : s.heap.IsTuple a xs) (hb : s.heap.IsTuple b ys) (ra : RepFs s.heap l xs.toList) (rb : RepFs s.heap m ys.toList) (hc : CmpF.CmpFs C l m) (h : P (.done (.ret (.bool (ltL l m)))) s) :
    wpAny (model prog w) A (Builtin.«tuple.__lt__» ⟨[.ref a, .ref b], []⟩) P E s := by
  have hTb := hb.typeIs
  (refine oEAAE ha ?_; try clear ha; rintro oa hoa _ na hda)
  (refine oEAAE hb ?_; try clear hb; rintro ob hob _ nb hdb)
  show wpAny _ _ (isInstance (.ref b) (.type "tuple") >>= _) _ _ s
  refine wpAny_bind (wpAny_isInstance hTb isSubtype_tuple_tuple ?_)
  simp only [Bool.not_true, Bool.false_eq_true, if_false]
  refine wpAny_bind (wpAny_tupleItemsOf hoa hda ?_)
  refine wpAny_bind (wpAny_tupleItemsOf hob hdb ?_)
  refine wpAny_bind ?_
  refine wpAny_forIn_list _
    (fun rest r s' => r.1 = none ∧ s' = s ∧ ∃ l' m' xs' ys', rest = List.zip xs' ys' ∧ RepFs s.heap l' xs' ∧ RepFs s.heap m' ys' ∧ CmpF.CmpFs C l' m' ∧ ltL l' m' = ltL l m ∧ decide (xs'.length < ys'.length) = decide (xs.size < ys.size))
    _ ?_ ?_ _ _ ⟨rfl, rfl, l, m, xs.toList, ys.toList, rfl, ra, rb, hc, rfl, by simp⟩
  · (rintro ⟨u, v⟩ rest r s' zq1; refine oAAEEEEAAAAA zq1 ?_; clear zq1; rintro hr rfl l' m' xs' ys' hz hx' hy' hcm hdec hlen)
    rcases l' with _ | ⟨x, l'⟩
    · simp only [RepFs] at hx'; subst hx'; simp at hz
    ·
      rcases m' with _ | ⟨y, m'⟩
      · simp only [RepFs] at hy'; subst hy'; simp at hz
      ·
        simp only [RepFs] at hx' hy'
        (refine oEEAA hx' ?_; try clear hx'; rintro v1 vs rfl rx rxs)
        (refine oEEAA hy' ?_; try clear hy'; rintro u1 us rfl ry rys)
        simp only [List.zip_cons_cons, List.cons.injEq, Prod.mk.injEq] at hz
        obtain ⟨⟨rfl, rfl⟩, rfl⟩ := hz
        simp only [CmpF.CmpFs] at hcm
        (refine oAAA hcm ?_; try clear hcm; rintro o1 o2 c1 c2)
        refine wpAny_bind (eqBool_flat rx ry o1 o2 (by (exact Nat.le_add_left _ _)) hu ?_)
        by_cases hk : x = y
        · rw [decide_eq_true hk]
          simp only [Bool.not_true, Bool.false_eq_true, if_false]
          refine wpAny_pure ⟨rfl, rfl, l', m', vs, us, rfl, rxs, rys, c1 hk, ?_, by simpa using hlen⟩
          rw [← hdec]; simp only [ltL, if_pos hk]
        · rw [decide_eq_false hk]
          simp only [Bool.not_false, if_true]
          refine wpAny_bind (wpAny_rule (wpAny_bind (hlt x y _ _ (c2 hk) rx ry _ ?_)))
          have hf : x.lt y = ltL l m := by rw [← hdec]; simp only [ltL, if_neg hk]
          rw [hf]
          exact wpAny_bind (wpAny_pure (wpAny_pure (wpAny_pure h)))
  · (rintro ⟨r1, r2⟩ s' zq1; refine oAAEEEEAAAAA zq1 ?_; clear zq1; rintro hr rfl l' m' xs' ys' hz hx' hy' hcm hdec hlen)
    simp only at hr
    subst hr
    refine wpAny_pure ?_
    have hfin : decide (xs.size < ys.size) = ltL l m := by
      rw [← hdec, ← hlen, hx'.length, hy'.length]
      rcases l' with _ | ⟨_, _⟩
      ·
        rcases m' with _ | ⟨_, _⟩
        · simp [ltL]
        · simp [ltL]
      ·
        rcases m' with _ | ⟨_, _⟩
        · simp [ltL]
        ·
          simp only [RepFs] at hx' hy'
          (refine oEEA hx' ?_; try clear hx'; rintro _ _ rfl _)
          (refine oEEA hy' ?_; try clear hy'; rintro _ _ rfl _)
          simp at hz
    show P (.done (.ret (.bool (decide (xs.size < ys.size))))) s'
    rw [hfin]; exact h
theorem lt_flat {prog : Program} {w : World} {E : Value → Shared → Prop} {s : Shared} : ∀ (n : Nat) (A : Around) (x y : FV) (v u : Value), CmpF n x y → RepF s.heap x v → RepF s.heap y u → A.units + n + 65 < cLine → ∀ Q : Value → Shared → Prop, Q (.bool (x.lt y)) s → wpAny (model prog w) A (richCompare .Lt v u) Q E s := by
  intro n
  induction n with
  | zero =>
    intro A x y v u hc r1 r2 hu Q h
    cases x <;> cases y <;> simp only [CmpF] at hc
    simp only [RepF] at r1 r2
    obtain ⟨t, rfl⟩ := r1
    obtain ⟨t', rfl⟩ := r2
    exact lt_int (by simpa [FV.lt] using h)
  | succ n ih =>
    intro A x y v u hc r1 r2 hu Q h
    cases x <;> cases y <;> simp only [CmpF] at hc
    · simp only [RepF] at r1 r2
      obtain ⟨t, rfl⟩ := r1
      obtain ⟨t', rfl⟩ := r2
      exact lt_int (by simpa [FV.lt] using h)
    · rename_i l m
      simp only [RepF] at r1 r2
      (refine oEEAA r1 ?_; try clear r1; rintro a xs rfl ha ra)
      (refine oEEAA r2 ?_; try clear r2; rintro b ys rfl hb rb)
      refine wpAny_richCompare_same_room (T := "tuple") ha.typeIs hb.typeIs F.slot_tuple_lt ?_ (by lia)
      refine wpAny_call_entry F.slot_tuple_lt ha.typeIs F.entry_tuple_lt (lt_tree (CmpF n) (fun x y v u c r1 r2 Q q => ih A.in1 x y v u c r1 r2 (by simp only [Around.in1_units]; lia) Q q) (by simp only [Around.in1_units]; lia) ha hb ra rb hc (iEAA _ rfl (by simp) ?_)) (F.args_tuple_lt_2 _ _)
      simpa [FV.lt] using h
theorem co_lt {x y : FV} {n : Nat} (hc : CmpF n x y) (hn : n ≤ 60) : CO X st .Lt (.f x) (.f y) (x.lt y) := by
  intro ρ s v u R r1 r2
  exact lt_flat n X.A x y v u hc r1 r2 (by have := X.hu; lia) _ ⟨rfl, .refl⟩
end
end Mine
end
section
open PySem PySem.W PySem.Calls PyProof.Rows
set_option Elab.async false
set_option maxRecDepth 100000
set_option linter.unusedVariables false
set_option linter.unusedSimpArgs false
namespace Mine
section
variable {X : Fx} {st : St} {ρ ρ' ρ'' : List Addr} {s s' s'' : Shared}

/- one own object is changed -/
theorem Rep.mutate (R : Rep X ρ st s) {k : Nat} {a : Addr} {ao' : AO} (ha : ρ[k]? = some a) (hs : Heap.SameBut a s.heap s'.heap) (ho : RepO s'.heap (im X ρ) ao' a) (g : s'.gens = s.gens) (os : s'.os = s.os) :
    Rep X ρ { st with hp := st.hp.set k ao' } s' ∧ Ext X ρ s ρ s' := by
  have hm := List.mem_of_getElem? ha
  have hk : k < ρ.length := (List.getElem?_eq_some_iff.mp ha).1
  have hmu : mu X ρ a := .inr (.inr (.inl hm))
  have hS : Same (fun b => b = a) X.F s.heap s'.heap := Same.of_but hs rfl
  have hD : ∀ b, b = a → mu X ρ b := fun b q => q ▸ hmu
  (refine oEEAA (R.own hm) ?_; rintro _ ao _ _ rr)
  (refine oEAAAAAA rr.kind ?_; rintro o e _ _ _ d1 d2 _)
  have nL : ∀ b m, s.heap.Ns b m → b ≠ a := by
    (rintro b m zq1 rfl; refine oEEEAA zq1 ?_; clear zq1; rintro o' es ep e' d' _)
    rw [e] at e'; cases e'; exact d1 _ _ d'
  have nC : ∀ b v, s.heap.IsCell b v → b ≠ a := by
    (rintro b m zq1 rfl; refine oEA zq1 ?_; clear zq1; rintro o' e' d')
    rw [e] at e'; cases e'; exact d2 _ d'
  (refine oEA ho.kind ?_; rintro o' e' _)
  refine ⟨R.changed hmu (R.own_notT hm) hS ?_ (fun x c hc => ?_) (fun b hb q => absurd (q ▸ hb) (R.own_notF hm)) (fun x av e => ?_) (fun i ao e => ?_) (by simp [R.len]), changed_ext hmu hS ⟨o', e'⟩ g os⟩
  · obtain ⟨m, n⟩ := R.ns; exact ⟨m, ns_same hS (nL _ _ n) n⟩
  · obtain ⟨v, n⟩ := R.cl x c hc; exact ⟨v, cell_same hS (nC _ _ n) n⟩
  · (refine oEA (R.var x av e) ?_; rintro v hv r)
    refine (iEA v ?_ (R.val_same hS hD (fun _ h _ => h) (fun _ _ h => h) r))
    rcases hv with ⟨k, m, n, q⟩ | ⟨k, c, q, n⟩
    · exact .inl (iAEA k m (ns_same hS (nL _ _ n) n) q)
    · exact .inr (iAEA k c q (cell_same hS (nC _ _ n) n))
  · simp only [List.getElem?_set] at e
    split at e
    · rename_i q
      subst q
      rw [if_pos (by rw [R.len]; exact hk)] at e
      cases e
      exact (iEA a ha ho)
    · rename_i q
      (refine oEA (R.obj i ao e) ?_; rintro b eb rb)
      refine (iEA b eb (R.obj_same hS hD (fun _ h _ => h) (List.mem_of_getElem? eb) (fun z => q ?_) rb))
      have z : b = a := z
      subst z
      exact (List.getElem?_inj hk R.nd).mp (ha.trans eb.symm)
theorem Rep.objList (R : Rep X ρ st s) {k : Nat} {l : List FV} {v : Value} (h : st.hp[k]? = some (.list l)) (r : RepV s.heap (im X ρ) ρ (.obj k) v) : ∃ a items n, ρ[k]? = some a ∧ v = .ref a ∧ s.heap.get? a = some (listOf items n) ∧ RepFs s.heap l items.toList ∧ items.size = l.length := by
  (refine oEAEA (R.obj k _ h) ?_; rintro a ea items ⟨n, e⟩ hs)
  (refine oEA r ?_; try clear r; rintro a' ea' ev)
  obtain rfl : a = a' := Option.some.inj (ea.symm.trans ea')
  exact (iEEEAAAA a items n ea ev e hs (by rw [← hs.length]; simp))
theorem mapSeq_list (items : Array Value) (n : Nat) (f : Array Value → Array Value) : ∃ n', Obj.mapSeq f (listOf items n) = listOf (f items) n' := ⟨_, rfl⟩
theorem Rep.remap (R : Rep X ρ st s) {k : Nat} {a : Addr} {items : Array Value} {n : Nat} {f : Array Value → Array Value} {l' : List FV} {tk : Nat} (ha : ρ[k]? = some a) (ho : s.heap.get? a = some (listOf items n)) (hr : RepFs s.heap l' (f items).toList) :
    Rep X ρ { st with hp := st.hp.set k (.list l') } { s with heap := s.heap.update a (Obj.mapSeq f), toks := tk } ∧ Ext X ρ s ρ { s with heap := s.heap.update a (Obj.mapSeq f), toks := tk } := by
  obtain ⟨n', e⟩ := mapSeq_list items n f
  have hm := List.mem_of_getElem? ha
  have hs : Heap.SameBut a s.heap (s.heap.update a (Obj.mapSeq f)) := Heap.SameBut.update ..
  refine R.mutate (s' := { s with heap := s.heap.update a (Obj.mapSeq f), toks := tk }) ha hs (iEA (f items) (⟨n', ?_⟩) ?_) rfl rfl
  · show (s.heap.update a (Obj.mapSeq f)).get? a = _
    rw [Heap.get?_update_self _ ho (by rw [e]; rfl), e]
  · exact R.flats_same (D := fun b => b = a) (F := X.F) (Same.of_but hs rfl) (fun b q => q ▸ .inr (.inr (.inl hm))) hr

theorem sl20 : (2 : Nat) ^ 20 ≤ sizeLine := by decide

/- o[i] = e -/
theorem ws1_setitem {o i e : Expr} {p pos : Pos} {k : Nat} {j : Int} {x : FV} {l : List FV} {Q : AF → St → Prop} (he : PE X st e (.f x)) (ho : PE X st o (.obj k)) (hi : PE X st i (.f (.int j))) (hl : st.hp[k]? = some (.list l)) (h0 : 0 ≤ j) (h1 : j < l.length) (hz : l.length ≤ 2 ^ 20)
    (q : Q .next { st with hp := st.hp.set k (.list (l.set j.toNat x)) }) (hs : swapsWith e (some (.Subscript o i p)) pos.line X.env = pure false := by rfl) : WS1 X (.Assign [.Subscript o i p] e pos) st Q := fun ρ s R => by
  refine wpAny_Assign_Subscript (he.on R fun v s₁ R₁ G₁ r₁ => ho.on R₁ fun ov s₂ R₂ G₂ r₂ => hi.on R₂ fun iv s₃ R₃ G₃ r₃ => ?_) hs
  obtain ⟨t, rfl⟩ := r₃
  (refine oEEEAAAA (R₃.objList hl (R₂.val_grow G₃ r₂)) ?_; rintro a items n ea rfl eo hr hsz)
  have rx : RepF s₃.heap x v := R₁.flat_grow (G₂.trans G₃) r₁
  refine ki_setAt eo h0 (by lia) (by lia) ?_
  obtain ⟨R', E⟩ := R₃.remap (tk := s₃.toks) (l' := l.set j.toNat x) (f := fun xs => xs.setIfInBounds j.toNat v) ea eo (by rw [Array.toList_setIfInBounds]; exact hr.set rx)
  exact (iEEEAAA ρ (.next) _ R' ((R.ext ((G₁.trans G₂).trans G₃)).trans E) rfl q)

theorem ws1_expr {e : Expr} {pos : Pos} {Q : AF → St → Prop} (h : WE X e st (fun _ st' => Q .next st')) (hi : interactive X.env = false) (hs : swapsWith e none pos.line X.env = pure false := by rfl) : WS1 X (.Expr e pos) st Q := fun ρ s R =>
  wpAny_Expr_any (h.on R fun v s' ρ' av st' R' E r q => (iEEEAAA ρ' (.next) st' R' E rfl q)) hi hs
theorem Fx.notInteractive (X : Fx) : interactive X.env = false := by unfold interactive; rw [X.hk]; rfl

/- a builtin called by its name -/
theorem pe_builtin {fn : Str} {p pos : Pos} {es : List Expr} {id : String} {as : List AV} {av : AV} (hf : PE X st (.Name fn p) (.val (.builtin id))) (h1 : PEs X st es as)
    (ho : ∀ ρ s vs, Rep X ρ st s → RepVs s.heap (im X ρ) ρ as vs → Gives X ρ s (call (.builtin id) vs) av) : PE X st (.Call (.Name fn p) es [] pos) av := fun ρ s R => by
  refine wpAny_Call_ofName (hf.on R fun v s₁ R₁ G₁ r₁ => ?_)
  cases r₁
  refine callWith_builtin h1.plain (evalArgs_on R₁ h1 .nil fun vs kvs s₂ R₂ G₂ rv rk => ?_)
  cases rk
  exact wpAny_mono (ho ρ s₂ vs R₂ rv) (fun v s' h => ⟨(G₁.trans G₂).trans h.1, h.2⟩) fun _ _ x => x
theorem pe_len {p pos : Pos} {e : Expr} {a : AV} {l : List FV} (hf : PE X st (.Name "len" p) (.val (.builtin "len"))) (he : PE X st e a) (hl : asL st.hp a = some l) (hz : l.length ≤ 2 ^ 20) (hst : starEach [e] X.env = [(false, eval e X.env)] := by rfl) : PE X st (.Call (.Name "len" p) [e] [] pos) (.f (.int l.length)) := by
  refine pe_builtin hf (.cons he .nil hst) fun ρ s vs R r => ?_
  refine r.c1 (fun _ r => ?_)
  ·
    (refine oEEAAA (R.asL hl r) ?_; rintro la items rfl hL hs e)
    exact call_len_list hL (by lia) (iAE (.toks _) (s.toks + 1) (by rw [e]))

/- a method of an own list -/
theorem method_on {o : Expr} {name : Str} {apos pos : Pos} {es : List Expr} {id : String} {k : Nat} {l : List FV} (R : Rep X ρ st s) (ho : PE X st o (.obj k)) (hl : st.hp[k]? = some (.list l)) (slot : Slot "list" name id) (hty : typeOf (.builtin id) = pure (.type "method_descriptor"))
    (hbase : attributeBase o name X.env (eval o X.env) = eval o X.env)
    (hfew : ((backTo pos (starEach es X.env)).all (fun x => !x.1) && (backToKw pos (keywordEach [] X.env)).all (fun x => x.1.isSome) && decide (es.length + ([] : List Keyword).length + (if ([] : List Keyword).isEmpty then 0 else 1) < 30)) = true)
    (hline : (apos.endLine == pos.line) = true) {P : Value → Shared → Prop}
    (k : ∀ a s₁, Rep X ρ st s₁ → X.G s s₁ → RepV s₁.heap (im X ρ) ρ (.obj k) (.ref a) → wpAny X.M X.A (callWith pos (.builtin id) [.ref a] (backTo pos (starEach es X.env)) []) P NoE s₁) :
    wpAny X.M X.A (eval (.Call (.Attribute o name apos) es [] pos) X.env) P NoE s := by
  refine wpAny_Call_method hbase hfew hline F.plainAttrs_list slot hty (ho.on R fun v s₁ R₁ G₁ r₁ => ?_)
  (refine oEEEAAAA (R₁.objList hl r₁) ?_; rintro a items n ea rfl eo hr hsz)
  exact ⟨⟨_, eo, rfl⟩, fun b e => by cases e; exact (iEA _ eo rfl), k a s₁ R₁ G₁ r₁⟩
theorem we_append {o e : Expr} {apos pos : Pos} {k : Nat} {l₀ : List FV} {P : AV → St → Prop} (ho : PE X st o (.obj k)) (hl : st.hp[k]? = some (.list l₀))
    (he : WE X e st (fun av st' => ∃ x l, av = .f x ∧ st'.hp[k]? = some (.list l) ∧ l.length ≤ 2 ^ 20 ∧ P (.f .none) { st' with hp := st'.hp.set k (.list (l ++ [x])) }))
    (hbase : attributeBase o "append" X.env (eval o X.env) = eval o X.env := by rfl) (hst : starEach [e] X.env = [(false, eval e X.env)] := by rfl) (hline : (apos.endLine == pos.line) = true := by rfl) :
    WE X (.Call (.Attribute o "append" apos) [e] [] pos) st P := fun ρ s R => by
  refine method_on R ho hl F.slot_list_append F.type_list_append hbase (by rw [hst]; rfl) hline fun a s₁ R₁ G₁ r₁ => ?_
  rw [hst]
  refine callWith_builtin rfl (evalArgs_plain (spliced_cons ?_))
  refine he.on R₁ fun v s₂ ρ₂ av st₂ R₂ E₂ rv q => spliced_nil ?_
  (refine oEEAAA q ?_; try clear q; rintro x l rfl hl2 hz q)
  have r₁' := R₁.val_ext E₂ r₁
  (refine oEEEAAAA (R₂.objList hl2 r₁') ?_; rintro a' items n ea e2 eo hr hsz)
  cases e2
  refine wpAny_list_append_plain ⟨n, eo⟩ (fun h' hp hs => ?_) (by have := sl20; (exact Nat.le_trans (Nat.le_of_eq ‹_›) (Nat.le_trans ‹_› (by decide))))
  have hm := List.mem_of_getElem? ea
  obtain ⟨R', E⟩ := R₂.mutate (s' := { s₂ with heap := h' }) (ao' := .list (l ++ [x])) ea hs (iEA _ hp (by
    rw [Array.toList_push]
    refine (R₂.flats_same (D := fun b => b = a) (F := X.F) (Same.of_but hs rfl) (fun b q => q ▸ .inr (.inr (.inl hm))) hr).append ?_
    simp only [RepFs]
    exact (iEEAA v ([]) rfl (R₂.flat_same (D := fun b => b = a) (F := X.F) (Same.of_but hs rfl) (fun b q => q ▸ .inr (.inr (.inl hm))) rv) rfl))) rfl rfl
  exact (iEEEAAA ρ₂ (.f .none) _ R' (((R.ext G₁).trans E₂).trans E) rfl q)
theorem insert_plain {prog : Program} {w : World} {A : Around} {E : Value → Shared → Prop} {a : Addr} {items : Array Value} {n : Nat} {j : Int} {t : Tok} {v : Value} {Q : Value → Shared → Prop} (eo : s.heap.get? a = some (listOf items n)) (h0 : 0 ≤ j) (h1 : j ≤ items.size) (hz : items.size ≤ 2 ^ 20)
    (h : ∀ f : Array Value → Array Value, f items = (items.extract 0 j.toNat).push v ++ items.extract j.toNat → Q .none { s with heap := s.heap.update a (Obj.mapSeq f), toks := s.toks }) : wpAny (model prog w) A (call (.builtin "list.insert") [.ref a, .int j t, v]) Q E s := by
  have hf2 : ¬ (!Builtin.List.listFitsIndex j) = true := by
    have : Builtin.List.listFitsIndex j = true := by
      simp only [Builtin.List.listFitsIndex, Bool.and_eq_true, decide_eq_true_eq]; lia
    rw [this]; decide
  refine call_meets F.slot_list_insert (iEA _ eo rfl) F.entry_list_insert (F.args_list_insert_3 _ _ _) (AutoSeq1.list_insert_list_int_val_1 a items n j t v hf2 (Nat.le_trans hz sl20)) ⟨eo, h _ ?_⟩
  have h3 : ¬ (j < 0) := by lia
  have h2 : min j.toNat items.size = j.toNat := by lia
  simp only [h3, if_false, h2]
theorem we_insert {o i e : Expr} {apos pos : Pos} {k : Nat} {j : Nat} {x : FV} {l : List FV} {P : AV → St → Prop} (ho : PE X st o (.obj k)) (hl : st.hp[k]? = some (.list l)) (hi : PE X st i (.f (.int j))) (he : PE X st e (.f x)) (hj : j ≤ l.length) (hz : l.length ≤ 2 ^ 20)
    (q : P (.f .none) { st with hp := st.hp.set k (.list (l.take j ++ [x] ++ l.drop j)) })
    (hbase : attributeBase o "insert" X.env (eval o X.env) = eval o X.env := by rfl) (hst : starEach [i, e] X.env = [(false, eval i X.env), (false, eval e X.env)] := by rfl) (hline : (apos.endLine == pos.line) = true := by rfl) :
    WE X (.Call (.Attribute o "insert" apos) [i, e] [] pos) st P := fun ρ s R => by
  refine method_on R ho hl F.slot_list_insert F.type_list_insert hbase (by rw [hst]; rfl) hline fun a s₁ R₁ G₁ r₁ => ?_
  rw [hst]
  refine callWith_builtin rfl (evalArgs_plain (spliced_cons (hi.on R₁ fun iv s₂ R₂ G₂ r₂ => spliced_cons (he.on R₂ fun v s₃ R₃ G₃ r₃ => spliced_nil ?_))))
  obtain ⟨t, rfl⟩ := r₂
  have r₁' := R₁.val_grow (G₂.trans G₃) r₁
  (refine oEEEAAAA (R₃.objList hl r₁') ?_; rintro a' items n ea e2 eo hr hsz)
  cases e2
  refine insert_plain eo (by lia) (by lia) (by (exact Nat.le_trans (Nat.le_of_eq ‹_›) ‹_›)) fun f hf => ?_
  obtain ⟨R', E⟩ := R₃.remap (tk := s₃.toks) (l' := l.take j ++ [x] ++ l.drop j) (f := f) ea eo (by
    rw [hf]
    simp only [Int.toNat_natCast, Array.toList_append, Array.toList_push, Array.toList_extract, List.extract_eq_take_drop, Nat.sub_zero, List.drop_zero]
    refine ((hr.take j).append (by simp only [RepFs]; exact (iEEAA v ([]) rfl r₃ rfl))).append ?_
    have : List.take (items.size - j) (List.drop j items.toList) = List.drop j items.toList := by
      apply List.take_of_length_le; simp
    rw [this]; exact hr.drop j)
  exact (iEEEAAA ρ (.f .none) _ R' ((R.ext ((G₁.trans G₂).trans G₃)).trans E) rfl q)
theorem we_pop {o : Expr} {apos pos : Pos} {k : Nat} {x : FV} {l : List FV} {P : AV → St → Prop} (ho : PE X st o (.obj k)) (hl : st.hp[k]? = some (.list (l ++ [x]))) (hz : l.length < 2 ^ 20)
    (q : P (.f x) { st with hp := st.hp.set k (.list l) })
    (hbase : attributeBase o "pop" X.env (eval o X.env) = eval o X.env := by rfl) (hst : starEach [] X.env = [] := by rfl) (hline : (apos.endLine == pos.line) = true := by rfl) :
    WE X (.Call (.Attribute o "pop" apos) [] [] pos) st P := fun ρ s R => by
  refine method_on R ho hl F.slot_list_pop F.type_list_pop hbase (by rw [hst]; rfl) hline fun a s₁ R₁ G₁ r₁ => ?_
  rw [hst]
  refine callWith_builtin rfl (evalArgs_nil3 ?_)
  (refine oEEEAAAA (R₁.objList hl r₁) ?_; rintro a' items n ea e2 eo hr hsz)
  cases e2
  simp only [List.length_append, List.length_cons, List.length_nil, Nat.zero_add] at hsz
  (refine oEA (hr.get (i := l.length) (x := x) (by simp)) ?_; rintro v hv rv)
  have hl0 : l.length = items.size - 1 := by lia
  refine call_meets F.slot_list_pop (iEA _ eo rfl) F.entry_list_pop (F.args_list_pop_1 _) (MeetsSeq.list_pop_last a items n v (by rw [← hl0, ← Array.getElem?_toList]; exact hv) (by have := sl20; (exact Nat.le_trans (Nat.le_of_eq ‹_›) (Nat.le_trans ‹_› (by decide))))) ⟨eo, ?_⟩
  have hd := hr.take l.length
  obtain ⟨R', E⟩ := R₁.remap (tk := s₁.toks) (l' := l) (f := fun xs => xs.eraseIdxIfInBounds (items.size - 1)) ea eo (by
    have : (items.eraseIdxIfInBounds (items.size - 1)).toList = items.toList.take l.length := by
      rw [Array.toList_eraseIdxIfInBounds, ← hl0, List.eraseIdx_eq_take_drop_succ]
      have : List.drop (l.length + 1) items.toList = [] := by apply List.drop_of_length_le; simp; (exact Nat.le_of_eq ‹_›)
      rw [this]; simp
    rw [this]
    simpa using hd)
  obtain ⟨t', et⟩ : ∃ v', v' = v := ⟨_, rfl⟩
  refine (iEEEAAA ρ (.f x) _ R' ((R.ext G₁).trans E) ?_ q)
  exact R₁.flat_same (D := fun b => b = a) (F := X.F) (Same.of_but (Heap.SameBut.update ..) rfl) (fun b q => q ▸ .inr (.inr (.inl (List.mem_of_getElem? ea)))) rv
end
end Mine
end
section
open PySem PySem.W PySem.Calls PyProof.Rows
set_option Elab.async false
set_option maxRecDepth 100000
set_option linter.unusedVariables false
set_option linter.unusedSimpArgs false
namespace Mine
section
variable {X : Fx} {st : St} {ρ ρ' ρ'' : List Addr} {s s' s'' : Shared}

/- a target takes a value -/
noncomputable def AT (X : Fx) (t : Expr) (x : FV) (st st' : St) : Prop := ∀ ρ s v, Rep X ρ st s → RepF s.heap x v → wpAny X.M X.A (assign t X.env v) (fun _ s' => Rep X ρ st' s' ∧ Ext X ρ s ρ s') NoE s
theorem at_name {x : Str} {pos : Pos} {d : FV} (hk : Keeps X x) : AT X (.Name x pos) d st (st.set x (.f d)) := fun ρ s v R r =>
  wpAny_assign_Name (R.store (av := .f d) hk r fun s' R' E => ⟨R', E⟩)
/- several names -/
inductive ATs (X : Fx) : List Expr → List FV → St → St → Prop
  | nil (st : St) : ATs X [] [] st st
  | cons {t : Expr} {ts : List Expr} {x : FV} {xs : List FV} {st st' st'' : St} : AT X t x st st' → ATs X ts xs st' st'' → assignEach (t :: ts) X.env = (false, assign t X.env) :: assignEach ts X.env → ATs X (t :: ts) (x :: xs) st st''
theorem ATs.len : ∀ {ts xs} {st st' : St}, ATs X ts xs st st' → (assignEach ts X.env).length = xs.length ∧ (assignEach ts X.env).findIdx? (·.1) = none
 := by
  intro ts xs st st' h
  induction h with
  | nil => exact ⟨rfl, rfl⟩
  | cons _ r e this =>
    rw [e]
    exact ⟨by simp [this.1], by simp [List.findIdx?_cons, this.2]⟩
theorem ATs.on : ∀ {ts xs} {st st' : St} {vs : List Value} {s : Shared}, ATs X ts xs st st' → Rep X ρ st s → RepFs s.heap xs vs → wpAny X.M X.A (assignInOrder ((assignEach ts X.env).map (·.2)) vs) (fun _ s' => Rep X ρ st' s' ∧ Ext X ρ s ρ s') NoE s
 := by
  intro ts xs st st' vs s h
  induction h generalizing vs s with
  | nil => exact fun R _ => assignInOrder_nil ⟨R, .refl⟩
  | cons a r e ih =>
    intro R rv
    simp only [RepFs] at rv
    (refine oEEAA rv ?_; try clear rv; rintro v vs rfl h1 h2)
    rw [e]
    refine assignInOrder_cons (wpAny_mono (a ρ s v R h1) (fun _ s₁ h => ?_) fun _ _ x => x)
    obtain ⟨R₁, E₁⟩ := h
    exact wpAny_mono (ih R₁ (R.flats_same E₁.same (fun _ h => h) h2)) (fun _ s₂ h => ⟨h.1, E₁.trans h.2⟩) fun _ _ x => x
theorem at_tuple {ts : List Expr} {xs : List FV} {c : Nat} {pos : Pos} {st' : St} (h : ATs X ts xs st st') : AT X (.Tuple ts c pos) (.tup xs) st st' := fun ρ s v R r => by
  simp only [RepF] at r
  (refine oEEAA r ?_; try clear r; rintro a items rfl hT hs)
  have hl := h.len
  refine wpAny_assign_Tuple X.hh hT (by rw [hl.1, ← hs.length]; simp) hl.2 fun h' he => ?_
  have hk : ∀ b o, s.heap.get? b = some o → h'.get? b = some o := fun b o e => he b o (Nat.ne_of_lt (Heap.lt_size e)) e
  have G : X.G s { s with heap := h' } := ⟨.of_keeps hk, .keeps hk, rfl, rfl⟩
  exact wpAny_mono (h.on (R.grow G) (R.flats_grow G hs)) (fun _ s₂ q => ⟨q.1, (R.ext G).trans q.2⟩) fun _ _ x => x
theorem at_pair {a b : Str} {pa pb pos : Pos} {c : Nat} {x y : FV} (h1 : Keeps X a) (h2 : Keeps X b) : AT X (.Tuple [.Name a pa, .Name b pb] c pos) (.tup [x, y]) st ((st.set a (.f x)).set b (.f y)) :=
  at_tuple (.cons (at_name h1) (.cons (at_name h2) (.nil _) rfl) rfl)
theorem at_three {a b d : Str} {pa pb pd pos : Pos} {c : Nat} {x y z : FV} (h1 : Keeps X a) (h2 : Keeps X b) (h3 : Keeps X d) : AT X (.Tuple [.Name a pa, .Name b pb, .Name d pd] c pos) (.tup [x, y, z]) st (((st.set a (.f x)).set b (.f y)).set d (.f z)) :=
  at_tuple (.cons (at_name h1) (.cons (at_name h2) (.cons (at_name h3) (.nil _) rfl) rfl) rfl)

/- an iterator of the call's own -/
noncomputable def WI (X : Fx) (e : Expr) (st : St) (P : Nat → St → Prop) : Prop := ∀ ρ s, Rep X ρ st s → wpAny X.M X.A (eval e X.env) (fun v s₁ => wpAny X.M X.A (pyIter v) (fun it s₂ =>
  ∃ ρ' st' k a, Rep X ρ' st' s₂ ∧ Ext X ρ s ρ' s₂ ∧ ρ'[k]? = some a ∧ it = .ref a ∧ P k st') NoE s₁) NoE s
theorem last_at (h : st.hp.length = ρ.length) (a : Addr) : (ρ ++ [a])[st.hp.length]? = some a := by rw [List.getElem?_append_right (by rw [h]; exact Nat.le_refl _)]; simp [h]
theorem im_more {a b : Addr} (h : im X ρ a) (hn : a ≠ b) : im X (ρ ++ [b]) a := by
  rintro (q | q | q | q)
  · exact h (.inl q)
  · exact h (.inr (.inl q))
  · rcases List.mem_append.mp q with q | q
    · exact h (.inr (.inr (.inl q)))
    · exact hn (List.mem_singleton.mp q)
  · exact h (.inr (.inr (.inr q)))
theorem wi_list {e : Expr} {l : List FV} {P : Nat → St → Prop} (h : PE X st e (.lst l)) (q : P st.hp.length { st with hp := st.hp ++ [.iter l] }) : WI X e st P := fun ρ s R =>
  h.on R fun v s₁ R₁ G₁ r => by
    (refine oEEAAA r ?_; try clear r; rintro la items rfl hi hl hs)
    have hl := hl.list
    refine wpAny_pyIter_list hl ?_
    have hk : ∀ b o, s₁.heap.get? b = some o → (s₁.heap.push { cls := .type "list_iterator", data := .fields #[.ref la, .int 0 0] }).get? b = some o := fun b o e => Heap.get?_push_of_some _ e
    have G : X.G s₁ { s₁ with heap := s₁.heap.push { cls := .type "list_iterator", data := .fields #[.ref la, .int 0 0] } } := ⟨.of_keeps hk, .keeps hk, rfl, rfl⟩
    have hla : la ≠ s₁.heap.objs.size := by (refine oEA hl ?_; try clear hl; rintro o e _); exact Nat.ne_of_lt (Heap.lt_size e)
    obtain ⟨R', E⟩ := R₁.alloc (ao := .iter l) G (a := s₁.heap.objs.size) (Heap.get?_none_of_le (Nat.le_refl _)) (iEEEAAA la 0 items ((iEAA _ (Heap.get?_push_size _ rfl) rfl rfl)) (im_more hi hla) (hl.push _) (by simpa using R₁.flats_grow G hs))
    exact (iEEEEAAAA _ _ _ _ R' ((R.ext G₁).trans E) (last_at R.len _) rfl q)
theorem wi_fin {e : Expr} {k : Nat} {P : Nat → St → Prop} (h : PE X st e (.obj k)) (hk : st.hp[k]? = some .fin) (q : P k st) : WI X e st P := fun ρ s R =>
  h.on R fun v s₁ R₁ G₁ r => by
    (refine oEA r ?_; try clear r; rintro a ea rfl)
    (refine oEAEAAE (R₁.obj k _ hk) ?_; rintro a' ea' o e c i d)
    obtain rfl : a = a' := Option.some.inj (ea.symm.trans ea')
    have hT : s₁.TypeIs (.ref a) "list_iterator" := (iEA o e c)
    refine wpAny_pyIter_slot hT slot_listiter_iter (wpAny_call_entry slot_listiter_iter hT entry_listiter_iter ?_ (args_listiter_iter _))
    show wpAny _ _ (ret (.ref a)) _ _ s₁
    exact wpAny_pure (iEAEEAA _ rfl ("list_iterator") _ hT slot_listiter_next.lookup ((iEEEEAAAA ρ st k a R₁ (R.ext G₁) ea rfl q)))
theorem wi_own {e : Expr} {k : Nat} {l : List FV} {P : Nat → St → Prop} (h : PE X st e (.obj k)) (hk : st.hp[k]? = some (.iter l)) (q : P k st) : WI X e st P := fun ρ s R =>
  h.on R fun v s₁ R₁ G₁ r => by
    (refine oEA r ?_; try clear r; rintro a ea rfl)
    (refine oEAEEEA (R₁.obj k _ hk) ?_; rintro a' ea' la i items hit _)
    obtain rfl : a = a' := Option.some.inj (ea.symm.trans ea')
    exact wpAny_pyIter_listiter hit (iEEEEAAAA ρ st k a R₁ (R.ext G₁) ea rfl q)

end
section
variable {prog : Program} {w : World} {A : Around} {E : Value → Shared → Prop} {s : Shared} {I : Addr → Prop}
theorem list_end_junk {it l : Addr} {i : Nat} {items} {Q : Option Value → Shared → Prop} (hh : A.handled = none)
    (hit : s.heap.IsListIter it l i) (hl : s.heap.IsList l items) (hx : items[i]? = none)
    (hQ : ∀ h', Heap.ExtBut it s.heap h' → RepO h' I .junk it → Q none { s with heap := h' }) : wpAny (model prog w) A (pyNext (.ref it)) Q E s := by
  (refine oEAA (id hit) ?_; rintro o ho hc hd)
  (refine oEAAE hl ?_; try clear hl; rintro ol hol _ nl hdl)
  unfold pyNext
  refine wpAny_bind (wpAny_attempt (wpAny_callSpecial?_slot (name := Str.ofString "__next__") hit.typeIs slot_listiter_next
    (wpAny_call_entry slot_listiter_next hit.typeIs entry_listiter_next ?_ (args_listiter_next _))))
  show wpAny _ _ (field (.ref it) 0 >>= _) _ _ s
  refine wpAny_bind (wpAny_field ho hd (x := .ref l) rfl ?_)
  show wpAny _ _ (if (Value.ref l == Value.none) = true then _ else _) _ _ s
  rw [if_neg (show ¬ ((Value.ref l == Value.none) = true) from Bool.false_ne_true)]
  show wpAny _ _ (field (.ref it) 1 >>= _) _ _ s
  refine wpAny_bind (wpAny_field ho hd (x := .int i 0) rfl ?_)
  show wpAny _ _ (seqItems? (.ref l) >>= _) _ _ s
  refine wpAny_bind (wpAny_seqItems hol hdl ?_)
  simp only [Int.toNat_natCast, hx]
  refine wpAny_bind (wpAny_rule (wpAny_bind (wpAny_setField ho hd (by simp) ?_)))
  show wpAny _ _ (newExc (.type "StopIteration") [] >>= _) _ _ _
  refine wpAny_bind ?_
  simp only [newExc, newTuple]
  refine wpAny_bind (wpAny_newObj_type ?_ (by size_fits))
  refine wpAny_bind (m := firstArgMember _ _) (wpAny_of_eq (a := Value.none) (by first | rfl | (simp only [firstArgMember]; rfl)) ?_)
  refine wpAny_newObj_type ?_ (by size_fits)
  simp only [raiseNew]
  refine wpAny_bind (wpAny_handled ?_)
  rw [show A.in1.handled = none from hh]
  refine wpAny_bind (wpAny_pure (wpAny_throw ?_))
  refine wpAny_bind (wpAny_isInstance (T := "StopIteration") (b := true) (iEA _ (Heap.get?_push_size _ rfl) rfl) isSubtype_stop ?_)
  refine wpAny_pure (hQ _ (((Heap.SameBut.update ..).extBut.push _).push _) ?_)
  have hg := Heap.get?_update_self (h := s.heap) (fun o : Obj => o.mapFields (·.setIfInBounds 0 .none)) ho (Obj.isFreed_of_fields (Obj.data_mapFields hd _))
  refine (iEAAAA _ (Heap.get?_push_of_some _ (Heap.get?_push_of_some _ hg)) (.inr (.inl ((Obj.cls_mapFields ..).trans hc))) ?_ ?_ ?_)
  · intro es n; rw [Obj.data_mapFields hd]; simp
  · intro v; rw [Obj.data_mapFields hd]; simp
  · intro vs hv q t; rw [Obj.data_mapFields hd] at hv; cases hv; simp
theorem fin_end_junk {it : Addr} {Q : Option Value → Shared → Prop} (hh : A.handled = none) (hit : RepO s.heap I .fin it)
    (hQ : ∀ h', Heap.ExtBut it s.heap h' → RepO h' I .junk it → Q none { s with heap := h' }) : wpAny (model prog w) A (pyNext (.ref it)) Q E s := by
  (refine oEAAE (id hit) ?_; rintro o ho hc i hd)
  have hT : s.TypeIs (.ref it) "list_iterator" := (iEA _ ho hc)
  unfold pyNext
  refine wpAny_bind (wpAny_attempt (wpAny_callSpecial?_slot (name := Str.ofString "__next__") hT slot_listiter_next
    (wpAny_call_entry slot_listiter_next hT entry_listiter_next ?_ (args_listiter_next _))))
  show wpAny _ _ (field (.ref it) 0 >>= _) _ _ s
  refine wpAny_bind (wpAny_field ho hd (x := .none) rfl ?_)
  show wpAny _ _ (if (Value.none == Value.none) = true then _ else _) _ _ s
  rw [if_pos (by rfl)]
  refine wpAny_bind (wpAny_rule ?_)
  refine wpAny_bind ?_
  show wpAny _ _ (newExc (.type "StopIteration") [] >>= _) _ _ _
  refine wpAny_bind ?_
  simp only [newExc, newTuple]
  refine wpAny_bind (wpAny_newObj_type ?_ (by size_fits))
  refine wpAny_bind (m := firstArgMember _ _) (wpAny_of_eq (a := Value.none) (by first | rfl | (simp only [firstArgMember]; rfl)) ?_)
  refine wpAny_newObj_type ?_ (by size_fits)
  simp only [raiseNew]
  refine wpAny_bind (wpAny_handled ?_)
  rw [show A.in1.handled = none from hh]
  refine wpAny_bind (wpAny_pure (wpAny_throw ?_))
  refine wpAny_bind (wpAny_isInstance (T := "StopIteration") (b := true) (iEA _ (Heap.get?_push_size _ rfl) rfl) isSubtype_stop ?_)
  refine wpAny_pure (hQ _ (((Heap.ExtBut.refl it s.heap).push _).push _) ?_)
  refine (iEAAAA _ (Heap.get?_push_of_some _ (Heap.get?_push_of_some _ ho)) (.inr (.inl hc)) (by simp [hd]) (by simp [hd]) ?_)
  intro vs hv q t; rw [hd] at hv; cases hv; simp
theorem range_end_junk {it : Addr} {x left step : Int} {Q : Option Value → Shared → Prop} (hh : A.handled = none) (hit : IsRangeIter s.heap it x left step) (hleft : left ≤ 0)
    (hQ : ∀ h', Heap.ExtBut it s.heap h' → RepO h' I .junk it → Q none { s with heap := h' }) : wpAny (model prog w) A (pyNext (.ref it)) Q E s := by
  have hT : s.TypeIs (.ref it) "range_iterator" := (iEA _ hit rfl)
  unfold pyNext
  refine wpAny_bind (wpAny_attempt (wpAny_callSpecial?_slot (name := Str.ofString "__next__") hT F.slot_range_iterator_next
    (wpAny_call_entry F.slot_range_iterator_next hT F.entry_range_iterator_next ?_ (F.args_range_iterator_next_1 _))))
  show wpAny _ _ (field (.ref it) 0 >>= _) _ _ s
  refine wpAny_bind (wpAny_field hit rfl (x := rawInt x) rfl ?_)
  show wpAny _ _ (field (.ref it) 1 >>= _) _ _ s
  refine wpAny_bind (wpAny_field hit rfl (x := rawInt left) rfl ?_)
  show wpAny _ _ (field (.ref it) 2 >>= _) _ _ s
  refine wpAny_bind (wpAny_field hit rfl (x := rawInt step) rfl ?_)
  show wpAny _ _ (if left ≤ 0 then _ else _) _ _ s
  rw [if_pos hleft]
  refine wpAny_bind (wpAny_rule ?_)
  refine wpAny_bind ?_
  show wpAny _ _ (newExc (.type "StopIteration") [] >>= _) _ _ _
  refine wpAny_bind ?_
  simp only [newExc, newTuple]
  refine wpAny_bind (wpAny_newObj_type ?_ (by size_fits))
  refine wpAny_bind (m := firstArgMember _ _) (wpAny_of_eq (a := Value.none) (by first | rfl | (simp only [firstArgMember]; rfl)) ?_)
  refine wpAny_newObj_type ?_ (by size_fits)
  simp only [raiseNew]
  refine wpAny_bind (wpAny_handled ?_)
  first | rw [show A.in1.handled = none from hh] | rw [hh]
  refine wpAny_bind (wpAny_pure (wpAny_throw ?_))
  refine wpAny_bind (wpAny_isInstance (T := "StopIteration") (b := true) (iEA _ (Heap.get?_push_size _ rfl) rfl) isSubtype_stop ?_)
  refine wpAny_pure (hQ _ (((Heap.ExtBut.refl it s.heap).push _).push _) ?_)
  refine (iEAAAA _ (Heap.get?_push_of_some _ (Heap.get?_push_of_some _ hit)) (.inr (.inr (.inr rfl))) (by simp) (by simp) ?_)
  intro vs hv q t; cases hv; simp [rawInt]
end
section
variable {X : Fx} {st : St} {ρ ρ' ρ'' : List Addr} {s s' s'' : Shared}
/- the next thing -/
noncomputable def draw : AO → Option (FV × AO)
  | .iter (x :: l) => some (x, .iter l)
  | .rng x n c => if 0 < n then some (.int x, .rng (x + c) (n - 1) c) else none
  | _ => none
noncomputable def AO.walks : AO → Bool
  | .iter _ => true
  | .rng _ _ _ => true
  | .fin => true
  | _ => false
theorem same_ext {a : Addr} {h h' : Heap} {F : List Addr} (he : Heap.ExtBut a h h') : Same (fun b => b = a) F h h' := fun b o hb e => (iEA o (he b o hb e) (.inl rfl))
theorem Rep.mutateE (R : Rep X ρ st s) {k : Nat} {a : Addr} {ao' : AO} (ha : ρ[k]? = some a) (hs : Heap.ExtBut a s.heap s'.heap) (ho : RepO s'.heap (im X ρ) ao' a) (g : s'.gens = s.gens) (os : s'.os = s.os) :
    Rep X ρ { st with hp := st.hp.set k ao' } s' ∧ Ext X ρ s ρ s' := by
  have hm := List.mem_of_getElem? ha
  have hk : k < ρ.length := (List.getElem?_eq_some_iff.mp ha).1
  have hmu : mu X ρ a := .inr (.inr (.inl hm))
  have hS : Same (fun b => b = a) X.F s.heap s'.heap := same_ext hs
  have hD : ∀ b, b = a → mu X ρ b := fun b q => q ▸ hmu
  (refine oEEAA (R.own hm) ?_; rintro _ ao _ _ rr)
  (refine oEAAAAAA rr.kind ?_; rintro o e _ _ _ d1 d2 _)
  have nL : ∀ b m, s.heap.Ns b m → b ≠ a := by
    (rintro b m zq1 rfl; refine oEEEAA zq1 ?_; clear zq1; rintro o' es ep e' d' _)
    rw [e] at e'; cases e'; exact d1 _ _ d'
  have nC : ∀ b v, s.heap.IsCell b v → b ≠ a := by
    (rintro b m zq1 rfl; refine oEA zq1 ?_; clear zq1; rintro o' e' d')
    rw [e] at e'; cases e'; exact d2 _ d'
  (refine oEA ho.kind ?_; rintro o' e' _)
  refine ⟨R.changed hmu (R.own_notT hm) hS ?_ (fun x c hc => ?_) (fun b hb q => absurd (q ▸ hb) (R.own_notF hm)) (fun x av e => ?_) (fun i ao e => ?_) (by simp [R.len]), changed_ext hmu hS ⟨o', e'⟩ g os⟩
  · obtain ⟨m, n⟩ := R.ns; exact ⟨m, ns_same hS (nL _ _ n) n⟩
  · obtain ⟨v, n⟩ := R.cl x c hc; exact ⟨v, cell_same hS (nC _ _ n) n⟩
  · (refine oEA (R.var x av e) ?_; rintro v hv r)
    refine (iEA v ?_ (R.val_same hS hD (fun _ h _ => h) (fun _ _ h => h) r))
    rcases hv with ⟨k, m, n, q⟩ | ⟨k, c, q, n⟩
    · exact .inl (iAEA k m (ns_same hS (nL _ _ n) n) q)
    · exact .inr (iAEA k c q (cell_same hS (nC _ _ n) n))
  · simp only [List.getElem?_set] at e
    split at e
    · rename_i q
      subst q
      rw [if_pos (by rw [R.len]; exact hk)] at e
      cases e
      exact (iEA a ha ho)
    · rename_i q
      (refine oEA (R.obj i ao e) ?_; rintro b eb rb)
      refine (iEA b eb (R.obj_same hS hD (fun _ h _ => h) (List.mem_of_getElem? eb) (fun z => q ?_) rb))
      have z : b = a := z
      subst z
      exact (List.getElem?_inj hk R.nd).mp (ha.trans eb.symm)
theorem Rep.objIter (R : Rep X ρ st s) {k : Nat} {ao : AO} {a : Addr} (h : st.hp[k]? = some ao) (ha : ρ[k]? = some a) : RepO s.heap (im X ρ) ao a := by
  (refine oEA (R.obj k ao h) ?_; rintro a' e r)
  obtain rfl : a = a' := Option.some.inj (ha.symm.trans e)
  exact r
theorem next_item (R : Rep X ρ st s) {k : Nat} {ao ao' : AO} {x : FV} {a : Addr} (h : st.hp[k]? = some ao) (ha : ρ[k]? = some a) (hd : draw ao = some (x, ao')) {Q : Option Value → Shared → Prop}
    (q : ∀ v s', Rep X ρ { st with hp := st.hp.set k ao' } s' → Ext X ρ s ρ s' → RepF s'.heap x v → Q (some v) s') : wpAny X.M X.A (pyNext (.ref a)) Q NoE s := by
  have r := R.objIter h ha
  have hm := List.mem_of_getElem? ha
  cases ao with
  | iter l =>
    cases l with
    | nil => cases hd
    | cons y l =>
      cases hd
      (refine oEEEAAA r ?_; try clear r; rintro la i items hit hi hl hs)
      have hla : la ≠ a := fun q => hi (q ▸ .inr (.inr (.inl hm)))
      obtain ⟨v, vs, e, rv, rs⟩ : ∃ v vs, items.toList.drop i = v :: vs ∧ RepF s.heap x v ∧ RepFs s.heap l vs := by simpa only [RepFs] using hs
      have hv : items[i]? = some v := by
        rw [← Array.getElem?_toList]
        have := congrArg (fun z => z[0]?) e
        simpa using this
      refine wpAny_pyNext_list_item hit hl hv fun h' hit' hs' => ?_
      have hS : Same (fun b => b = a) X.F s.heap h' := Same.of_but hs' rfl
      have hD : ∀ b, b = a → mu X ρ b := fun b q => q ▸ .inr (.inr (.inl hm))
      obtain ⟨R', E⟩ := R.mutate (s' := { s with heap := h' }) (ao' := .iter l) ha hs' (iEEEAAA la (i + 1) items hit' hi (list_same hS hla hl) (by
        have e2 : items.toList.drop (i + 1) = vs := by rw [← List.drop_drop, e]; rfl
        rw [e2]; exact R.flats_same hS hD rs)) rfl rfl
      exact q v _ R' E (R.flat_same hS hD rv)
  | rng y n c =>
    simp only [draw] at hd
    split at hd
    · rename_i hn
      cases hd
      refine wpAny_pyNext_range_item (x := y) (step := c) r hn fun h' hit' hs' => ?_
      obtain ⟨R', E⟩ := R.mutate (s' := { s with heap := h', toks := s.toks + 1 }) (ao' := .rng (y + c) (n - 1) c) ha hs' hit' rfl rfl
      exact q _ _ R' E ⟨_, rfl⟩
    · cases hd
  | list l => cases hd
  | plain => cases hd
  | fin => cases hd
  | junk => cases hd
theorem next_end (R : Rep X ρ st s) {k : Nat} {ao : AO} {a : Addr} (h : st.hp[k]? = some ao) (ha : ρ[k]? = some a) (hd : draw ao = none) (hw : ao.walks = true) {Q : Option Value → Shared → Prop}
    (q : ∀ s', Rep X ρ { st with hp := st.hp.set k .junk } s' → Ext X ρ s ρ s' → Q none s') : wpAny X.M X.A (pyNext (.ref a)) Q NoE s := by
  have r := R.objIter h ha
  have hm := List.mem_of_getElem? ha
  cases ao with
  | iter l =>
    cases l with
    | cons y l => cases hd
    | nil =>
      (refine oEEEAAA r ?_; try clear r; rintro la i items hit hi hl hs)
      simp only [RepFs] at hs
      have hv : items[i]? = none := by
        rw [← Array.getElem?_toList]
        have := congrArg (fun z => z[0]?) hs
        simpa using this
      refine list_end_junk (I := im X ρ) X.hh hit hl hv fun h' he ho => ?_
      obtain ⟨R', E⟩ := R.mutateE (s' := { s with heap := h' }) (ao' := .junk) ha he ho rfl rfl
      exact q _ R' E
  | rng y n c =>
    simp only [draw] at hd
    split at hd
    · cases hd
    · rename_i hn
      refine range_end_junk (I := im X ρ) X.hh r (by lia) fun h' he ho => ?_
      obtain ⟨R', E⟩ := R.mutateE (s' := { s with heap := h' }) (ao' := .junk) ha he ho rfl rfl
      exact q _ R' E
  | list l => cases hw
  | plain => cases hw
  | fin =>
    refine fin_end_junk (I := im X ρ) X.hh r fun h' he ho => ?_
    obtain ⟨R', E⟩ := R.mutateE (s' := { s with heap := h' }) (ao' := .junk) ha he ho rfl rfl
    exact q _ R' E
  | junk => cases hw
theorem own_go {t : Expr} {k : Nat} {ao : AO} {a : Addr} {v : Value} (R : Rep X ρ st s) (h : st.hp[k]? = some ao) (ha : ρ[k]? = some a) (hw : ao.walks = true) {Q : Unit → Shared → Prop} (q : Q () s) : wpAny X.M X.A (letOwnedTupleGo t (.ref a) v) Q NoE s := by
  have r := R.objIter h ha
  have : ∃ o vs, s.heap.get? a = some o ∧ (o.cls = .type "list_iterator" ∨ o.cls = .type "range_iterator") ∧ o.data = .fields vs := by
    cases ao with
    | iter l => (refine oEEEA r ?_; try clear r; rintro la i items ⟨o, e, c, d⟩ _); exact (iEEAA o _ e (.inl c) d)
    | rng y n c => exact (iEEAA _ _ r (.inr rfl) rfl)
    | list l => cases hw
    | plain => cases hw
    | fin => (refine oEAAE r ?_; try clear r; rintro o e c i d); exact (iEEAA o _ e (.inl c) d)
    | junk => cases hw
  (refine oEEAA this ?_; try clear this; rintro o vs e c d)
  unfold letOwnedTupleGo
  split
  all_goals first
    | exact wpAny_pure q
    | (cases v <;> first
        | exact wpAny_pure q
        | (refine wpAny_bind (wpAny_load e ?_); rcases c with c | c <;> (rw [c, d]; dsimp only; rw [if_neg (by simp)]; exact wpAny_pure q)))

/- for -/
theorem ws1_for {t iter : Expr} {body : List Stmt} {pos : Pos} {Q : AF → St → Prop} (k : Nat) (I : Nat → St → Prop) (n : Nat) (hi : WI X iter st (fun k' st' => k' = k ∧ I n st'))
    (turn : ∀ n st, I n st → ∃ ao, st.hp[k]? = some ao ∧ ao.walks = true ∧ match draw ao with
      | none => Q .next { st with hp := st.hp.set k .junk }
      | some (x, ao') => ao'.walks = true ∧ ∃ st₂, AT X t x { st with hp := st.hp.set k ao' } st₂ ∧ WS X body st₂ fun af st' => match af with
        | .next | .cont => ∃ m, m < n ∧ I m st'
        | .brk => Q .next st'
        | .ret a => Q (.ret a) st') (hs : ∀ x, foldedSetIterable iter X.env x = pure x := by intro _; rfl) : WS1 X (.For t iter body [] pos) st Q := fun ρ s R => by
  refine wpAny_For (wpAny_mono (hi ρ s R) (fun v s₁ h₁ => wpAny_mono h₁ (fun it s₂ h₂ => ?_) fun _ _ x => x) fun _ _ x => x) hs
  (refine oEEEEAAAAA h₂ ?_; try clear h₂; rintro ρ₀ st₀ k' a R₀ E₀ ha rfl rfl hI)
  refine codeAny_forLoop_any (fun n s₁ => ∃ ρ₁ st₁, Rep X ρ₁ st₁ s₁ ∧ Ext X ρ s ρ₁ s₁ ∧ ρ₁[k']? = some a ∧ I n st₁) ?_ n (iEEAAA ρ₀ st₀ R₀ E₀ ha hI)
  (rintro n s₁ zq1; refine oEEAAA zq1 ?_; clear zq1; rintro ρ₁ st₁ R₁ E₁ ha₁ hI)
  (refine oEAA (turn n st₁ hI) ?_; rintro ao hao hw hd)
  cases e : draw ao with
  | none =>
    rw [e] at hd
    refine wpAny_mono (next_end R₁ hao ha₁ e hw (Q := fun r s₂ => r = none ∧ Rep X ρ₁ { st₁ with hp := st₁.hp.set k' .junk } s₂ ∧ Ext X ρ₁ s₁ ρ₁ s₂) fun s' R' E => ⟨rfl, R', E⟩) (fun r s₂ h => ?_) fun _ _ x => x.elim
    (refine oAA h ?_; try clear h; rintro rfl R' E)
    exact wpAny_execs_nil (iEEEAAA ρ₁ (.next) _ R' (E₁.trans E) rfl hd)
  | some p =>
    obtain ⟨x, ao'⟩ := p
    rw [e] at hd
    (refine oAEA hd ?_; try clear hd; rintro hw' st₂ hat hb)
    refine wpAny_mono (next_item R₁ hao ha₁ e (Q := fun r s₂ => ∃ v, r = some v ∧ Rep X ρ₁ { st₁ with hp := st₁.hp.set k' ao' } s₂ ∧ Ext X ρ₁ s₁ ρ₁ s₂ ∧ RepF s₂.heap x v) fun v s' R' E rv => (iEAAA v rfl R' E rv)) (fun r s₂ h => ?_) fun _ _ x => x.elim
    (refine oEAAA h ?_; try clear h; rintro v rfl R' E rv)
    have hset : ({ st₁ with hp := st₁.hp.set k' ao' } : St).hp[k']? = some ao' := by
      show (st₁.hp.set k' ao')[k']? = _
      rw [List.getElem?_set_self (List.getElem?_eq_some_iff.mp hao).1]
    refine wpAny_mono (own_go R' hset ha₁ hw' (Q := fun _ s' => s' = s₂) rfl) (fun _ s₃ h => ?_) fun _ _ x => x.elim
    subst h
    refine wpAny_mono (hat ρ₁ s₃ v R' rv) (fun _ s₄ h => ?_) fun _ _ x => x.elim
    obtain ⟨R₄, E₄⟩ := h
    refine wpAny_mono (hb ρ₁ s₄ R₄) (fun fl s₅ h => ?_) fun _ _ x => x.elim
    (refine oEEEAAA h ?_; try clear h; rintro ρ₂ af st₅ R₅ E₅' r q)
    have ha₂ := E₅'.pre _ _ ha₁
    have E₅ := (E₁.trans (E.trans E₄)).trans E₅'
    cases af with
    | next => simp only [RepFl] at r; subst r; (refine oEA q ?_; try clear q; rintro m hm hI); exact (iEAEEAAA m hm ρ₂ st₅ R₅ E₅ ha₂ hI)
    | cont => simp only [RepFl] at r; subst r; (refine oEA q ?_; try clear q; rintro m hm hI); exact (iEAEEAAA m hm ρ₂ st₅ R₅ E₅ ha₂ hI)
    | brk => simp only [RepFl] at r; subst r; exact (iEEEAAA ρ₂ (.next) st₅ R₅ E₅ rfl q)
    | ret a => (refine oEA r ?_; try clear r; rintro v rfl rv); exact (iEEEAAA ρ₂ (.ret a) st₅ R₅ E₅ ((iEA v rfl (rv.weaken fun b h => (E₁.trans (E.trans E₄)).none h))) q)
end
end Mine
end
section
open PySem PySem.W PySem.Calls PyProof.Rows
set_option Elab.async false
set_option maxRecDepth 100000
set_option linter.unusedVariables false
set_option linter.unusedSimpArgs false
namespace Mine

structure Chg (D : Addr → Prop) (F : List Addr) (s s' : Shared) : Prop where
  same : Same D F s.heap s'.heap
  ex : ∀ a o, s.heap.get? a = some o → ∃ o', s'.heap.get? a = some o'
  gens : s'.gens = s.gens
  os : s'.os = s.os
theorem Chg.refl {D F s} : Chg D F s s := ⟨.refl, fun _ o e => ⟨o, e⟩, rfl, rfl⟩
theorem Chg.trans {D F s s' s''} (a : Chg D F s s') (b : Chg D F s' s'') : Chg D F s s'' := ⟨a.same.trans b.same, fun x o e => let ⟨o', e'⟩ := a.ex x o e; b.ex x o' e', b.gens.trans a.gens, b.os.trans a.os⟩
theorem Chg.mono {D D' : Addr → Prop} {F s s'} (a : Chg D F s s') (h : ∀ x, D x → D' x) : Chg D' F s s' := ⟨a.same.mono h, a.ex, a.gens, a.os⟩
theorem Chg.of_keeps {D F} {s : Shared} {h' : Heap} {tk : Nat} (k : ∀ b o, s.heap.get? b = some o → h'.get? b = some o) : Chg D F s { s with heap := h', toks := tk } := ⟨.of_keeps k, fun a o e => ⟨o, k a o e⟩, rfl, rfl⟩
theorem Chg.of_but {D : Addr → Prop} {F} {s : Shared} {h' : Heap} {d : Addr} {tk : Nat} (k : Heap.SameBut d s.heap h') (hd : D d) (he : ∃ o, h'.get? d = some o) : Chg D F s { s with heap := h', toks := tk } :=
  ⟨.of_but k hd, fun a o e => by
    by_cases q : a = d
    · exact q ▸ he
    · exact ⟨o, (k.2 a q).trans e⟩, rfl, rfl⟩

section
variable {X : Fx} {st : St} {ρ ρ' ρ'' : List Addr} {s s' s'' : Shared}
theorem Rep.chg_grow (R : Rep X ρ st s) (G : X.G s s') : Chg (fun a => a = X.tabA) X.F s s' := ⟨G.same, (R.ext G).ex, G.gens, G.os⟩

/- a target of local names alone -/
noncomputable def ATL (X : Fx) (t : Expr) (x : FV) (st st' : St) : Prop := ∀ ρ s v, Rep X ρ st s → RepF s.heap x v → wpAny X.M X.A (assign t X.env v) (fun _ s' => Rep X ρ st' s' ∧ Chg (fun a => a = X.env.locals ∨ a = X.tabA) X.F s s') NoE s
theorem storeL (R : Rep X ρ st s) {x : Str} {v : Value} {av : AV} (hk : X.env.kindOf x = some .local) (r : RepV s.heap (im X ρ) ρ av v) {Q : Unit → Shared → Prop}
    (k : ∀ s', Rep X ρ (st.set x av) s' → Chg (fun a => a = X.env.locals ∨ a = X.tabA) X.F s s' → Q () s') : wpAny X.M X.A (storeName X.env x v) Q NoE s := by
  have hp : (X.env.scope.kind == .class || (X.env.scope.kind == .module && X.env.locals != X.env.globals)) = false := by rw [X.hk]; rfl
  obtain ⟨m, n⟩ := R.ns
  have hmu : mu X ρ X.env.locals := .inl rfl
  have hD : ∀ a, a = X.env.locals → mu X ρ a := fun a q => q ▸ hmu
  refine wpAny_storeName_local hk n (fun h' hn hs => ?_) hp
  have hS : Same (fun a => a = X.env.locals) X.F s.heap h' := Same.of_but hs rfl
  have hnc : ∀ c, (∃ v, s.heap.IsCell c v) → c ≠ X.env.locals := by
    (rintro c zq1 rfl; refine oEEA zq1 ?_; clear zq1; rintro v o e d)
    (refine oEEEAA n ?_; try clear n; rintro o' es ep e' d' _)
    rw [e] at e'; cases e'; rw [d] at d'; cases d'
  have hnr : ∀ a ∈ ρ, a ≠ X.env.locals := by
    rintro a ha rfl
    (refine oEEAA (R.own ha) ?_; rintro _ ao _ _ rr)
    (refine oEAAAAA rr.kind ?_; rintro o e _ _ _ d _)
    (refine oEEEAA n ?_; try clear n; rintro o' es ep e' d' _)
    rw [e] at e'; cases e'; exact d _ _ d'
  (refine oEEEAA (id hn) ?_; rintro oL esL epL eL dL _)
  refine k _ (R.changed hmu (R.ns_notT n) hS ⟨_, hn⟩ (fun y c hc => ?_) (fun b hb q => (iEEEA oL esL epL (q ▸ eL) dL)) (fun y bv e => ?_) (fun i ao e => ?_) R.len) (.of_but hs (.inl rfl) ⟨oL, eL⟩)
  · obtain ⟨v, n⟩ := R.cl y c hc; exact ⟨v, cell_same hS (hnc c ⟨v, n⟩) n⟩
  · simp only [St.set, setL_lookup] at e
    by_cases q : y = x
    · subst q
      simp only [if_true, Option.some.injEq] at e
      subst e
      exact (iEA v (.inl (iAEA hk _ hn (by simp))) (R.val_same hS hD (fun _ h _ => h) (fun _ _ h => h) r))
    · simp only [q, if_false] at e
      (refine oEA (R.var y bv e) ?_; rintro u hv ru)
      refine (iEA u ?_ (R.val_same hS hD (fun _ h _ => h) (fun _ _ h => h) ru))
      rcases hv with ⟨k', m', n', q'⟩ | ⟨k', c, q', n'⟩
      · exact .inl (iAEA k' _ hn (by simp only [q, if_false]; rw [n.agree n']; exact q'))
      · exact .inr (iAEA k' c q' (cell_same hS (hnc c ⟨_, n'⟩) n'))
  · (refine oEA (R.obj i ao e) ?_; rintro a ea ra)
    have ha := List.mem_of_getElem? ea
    exact (iEA a ea (R.obj_same hS hD (fun _ h _ => h) ha (hnr a ha) ra))
theorem atl_name {x : Str} {pos : Pos} {d : FV} (hk : X.env.kindOf x = some .local) : ATL X (.Name x pos) d st (st.set x (.f d)) := fun ρ s v R r =>
  wpAny_assign_Name (storeL R (av := .f d) hk r fun s' R' E => ⟨R', E⟩)
inductive ATLs (X : Fx) : List Expr → List FV → St → St → Prop
  | nil (st : St) : ATLs X [] [] st st
  | cons {t : Expr} {ts : List Expr} {x : FV} {xs : List FV} {st st' st'' : St} : ATL X t x st st' → ATLs X ts xs st' st'' → assignEach (t :: ts) X.env = (false, assign t X.env) :: assignEach ts X.env → ATLs X (t :: ts) (x :: xs) st st''
theorem ATLs.len : ∀ {ts xs} {st st' : St}, ATLs X ts xs st st' → (assignEach ts X.env).length = xs.length ∧ (assignEach ts X.env).findIdx? (·.1) = none
 := by
  intro ts xs st st' h
  induction h with
  | nil => exact ⟨rfl, rfl⟩
  | cons _ r e this =>
    rw [e]
    exact ⟨by simp [this.1], by simp [List.findIdx?_cons, this.2]⟩
theorem Rep.flats_loc (R : Rep X ρ st s) (C : Chg (fun a => a = X.env.locals ∨ a = X.tabA) X.F s s') {x : List FV} {v : List Value} (r : RepFs s.heap x v) : RepFs s'.heap x v :=
  R.flats_same C.same (fun a h => h.elim .inl fun q => .inr (.inr (.inr q))) r
theorem ATLs.on : ∀ {ts xs} {st st' : St} {vs : List Value} {s : Shared}, ATLs X ts xs st st' → Rep X ρ st s → RepFs s.heap xs vs → wpAny X.M X.A (assignInOrder ((assignEach ts X.env).map (·.2)) vs) (fun _ s' => Rep X ρ st' s' ∧ Chg (fun a => a = X.env.locals ∨ a = X.tabA) X.F s s') NoE s
 := by
  intro ts xs st st' vs s h
  induction h generalizing vs s with
  | nil => exact fun R _ => assignInOrder_nil ⟨R, .refl⟩
  | cons a r e ih =>
    intro R rv
    simp only [RepFs] at rv
    (refine oEEAA rv ?_; try clear rv; rintro v vs rfl h1 h2)
    rw [e]
    refine assignInOrder_cons (wpAny_mono (a ρ s v R h1) (fun _ s₁ h => ?_) fun _ _ x => x)
    obtain ⟨R₁, E₁⟩ := h
    exact wpAny_mono (ih R₁ (R.flats_loc E₁ h2)) (fun _ s₂ h => ⟨h.1, E₁.trans h.2⟩) fun _ _ x => x
theorem atl_tuple {ts : List Expr} {xs : List FV} {c : Nat} {pos : Pos} {st' : St} (h : ATLs X ts xs st st') : ATL X (.Tuple ts c pos) (.tup xs) st st' := fun ρ s v R r => by
  simp only [RepF] at r
  (refine oEEAA r ?_; try clear r; rintro a items rfl hT hs)
  have hl := h.len
  refine wpAny_assign_Tuple X.hh hT (by rw [hl.1, ← hs.length]; simp) hl.2 fun h' he => ?_
  have hk : ∀ b o, s.heap.get? b = some o → h'.get? b = some o := fun b o e => he b o (Nat.ne_of_lt (Heap.lt_size e)) e
  have G : X.G s { s with heap := h' } := ⟨.of_keeps hk, .keeps hk, rfl, rfl⟩
  exact wpAny_mono (h.on (R.grow G) (R.flats_grow G hs)) (fun _ s₂ q => ⟨q.1, ((R.chg_grow G).mono fun _ h => .inr h).trans q.2⟩) fun _ _ x => x
theorem atl_pair {a b : Str} {pa pb pos : Pos} {c : Nat} {x y : FV} (h1 : X.env.kindOf a = some .local) (h2 : X.env.kindOf b = some .local) : ATL X (.Tuple [.Name a pa, .Name b pb] c pos) (.tup [x, y]) st ((st.set a (.f x)).set b (.f y)) :=
  atl_tuple (.cons (atl_name h1) (.cons (atl_name h2) (.nil _) rfl) rfl)
theorem atl_three {a b d : Str} {pa pb pd pos : Pos} {c : Nat} {x y z : FV} (h1 : X.env.kindOf a = some .local) (h2 : X.env.kindOf b = some .local) (h3 : X.env.kindOf d = some .local) : ATL X (.Tuple [.Name a pa, .Name b pb, .Name d pd] c pos) (.tup [x, y, z]) st (((st.set a (.f x)).set b (.f y)).set d (.f z)) :=
  atl_tuple (.cons (atl_name h1) (.cons (atl_name h2) (.cons (atl_name h3) (.nil _) rfl) rfl) rfl)

/- the tests of a comprehension -/
inductive PTs (X : Fx) (st : St) : List Expr → Bool → Prop
  | nil : PTs X st [] true
  | one {c : Expr} {b : Bool} : PT X st c b → PTs X st [c] b
theorem PTs.on {cs : List Expr} {b : Bool} (h : PTs X st cs b) (R : Rep X ρ st s) {Q : Bool → Shared → Prop} (q : ∀ s', X.G s s' → Q b s') :
    wpAny X.M X.A (forIn cs true fun c r => if r = true then do let ok ← isTrue c X.env (eval c X.env); pure (ForInStep.yield ok) else pure (ForInStep.yield r)) Q NoE s := by
  cases h with
  | nil => exact wpAny_tests_nil (q s .refl)
  | one h => exact wpAny_tests_one (wpAny_mono (h ρ s R) (fun b' s' k => k.1 ▸ q s' k.2) fun _ _ x => x)

/- names forgotten -/
theorem Rep.forget {st' : St} (R : Rep X ρ st s) (hp : st'.hp = st.hp) (h : ∀ x av, st'.loc.lookup x = some av → st.loc.lookup x = some av) : Rep X ρ st' s :=
  ⟨R.keep, R.new, R.fr, R.ns, R.cl, R.cnd, fun x av e => R.var x av (h x av e), fun k ao e => R.obj k ao (hp ▸ e), hp ▸ R.len, R.nd, R.tab⟩
end

/- where a comprehension draws from -/
structure Src (X : Fx) (D : Addr) (t : Expr) (it : Value) (cap : List (Str × AV)) (Good : FV → Prop) (DI : Addr → Prop) (S : List FV → Shared → Prop) (Fin : Shared → Prop) : Prop where
  item : ∀ x l s built, (∀ y ∈ built, Good y) → S (x :: l) s → Rep X [D] ⟨cap, [.list built]⟩ s → wpAny X.M X.A (pyNext it) (fun r s₁ => ∃ v, r = some v ∧ wpAny X.M X.A (letOwnedTupleGo t it v) (fun _ s₂ => Chg DI X.F s s₂ ∧ Rep X [D] ⟨cap, [.list built]⟩ s₂ ∧ S l s₂ ∧ RepF s₂.heap x v) NoE s₁) NoE s
  done : ∀ s built, (∀ y ∈ built, Good y) → S [] s → Rep X [D] ⟨cap, [.list built]⟩ s → wpAny X.M X.A (pyNext it) (fun r s₁ => r = none ∧ Chg DI X.F s s₁ ∧ Rep X [D] ⟨cap, [.list built]⟩ s₁ ∧ Fin s₁) NoE s
  stay : ∀ l s s' st, Rep X [D] st s → S l s → Chg (fun a => a = D ∨ a = X.env.locals ∨ a = X.tabA) X.F s s' → S l s'
  keep : ∀ l s s', S l s → Chg Nowhere X.F s s' → S l s'
  self : ∀ l s, S l s → wpAny X.M X.A (pyIter it) (fun v s' => v = it ∧ s' = s) NoE s

section
variable {X : Fx} {ρ : List Addr} {s : Shared}
theorem comp_loop {t iter elt : Expr} {ifs : List Expr} {scope : Scope} {pos : Pos} {it : Value} {D : Addr} {cap : List (Str × AV)} {Good : FV → Prop} {DI : Addr → Prop} {S : List FV → Shared → Prop} {Fin : Shared → Prop}
    (W : Src X D t it cap Good DI S Fin) (p : FV → Bool) (f : FV → FV) (U : FV → Prop)
    (turn : ∀ x built, U x → ∃ st₂, ATL X t x ⟨cap, [.list built]⟩ st₂ ∧ PTs X st₂ ifs (p x) ∧ (p x = true → PE X st₂ elt (.f (f x)) ∧ Good (f x)) ∧ st₂.hp = [.list built] ∧ ∀ y av, cap.lookup y = some av → st₂.loc.lookup y = some av)
    {R : Result → Shared → Prop} :
    ∀ (l built : List FV) (s : Shared), (∀ x ∈ l, U x) → (∀ y ∈ built, Good y) → built.length + l.length ≤ 2 ^ 20 → S l s → Rep X [D] ⟨cap, [.list built]⟩ s →
      (∀ s', Chg (fun a => DI a ∨ a = D ∨ a = X.env.locals ∨ a = X.tabA) X.F s s' → Rep X [D] ⟨cap, [.list (built ++ (l.filter p).map f)]⟩ s' → Fin s' → R (.ok .next) s') →
      codeAny X.M X.A (.compLoop (.ListComp elt [⟨t, iter, ifs, 0⟩] scope pos) 0 it (.ref D) X.env) R s := by
  intro l
  induction l with
  | nil =>
    intro built s hU hg hz hS hR fin
    refine codeAny_of_tree ?_
    show wpAny _ _ ((compTurn (.ListComp elt [⟨t, iter, ifs, 0⟩] scope pos) 0 it (.ref D) X.env).onRaise (fun x => do noteFrame x X.env; theTreesLotGoes x)) _ _ s
    refine wpAny_noted ?_
    rw [compTurn_list]
    refine wpAny_bind (wpAny_standAt (wpAny_bind (wpAny_mono (W.done s built hg hS hR) (fun r s₁ h => ?_) fun _ _ x => x.elim)))
    (refine oAAA h ?_; try clear h; rintro rfl C R₁ S₁)
    exact wpAny_pure (fin s₁ (C.mono fun _ h => .inl h) (by simpa using R₁) S₁)
  | cons x l ih =>
    intro built s hU hg hz hS hR fin
    refine codeAny_of_tree ?_
    show wpAny _ _ ((compTurn (.ListComp elt [⟨t, iter, ifs, 0⟩] scope pos) 0 it (.ref D) X.env).onRaise (fun x => do noteFrame x X.env; theTreesLotGoes x)) _ _ s
    refine wpAny_noted ?_
    rw [compTurn_list]
    refine wpAny_bind (wpAny_standAt (wpAny_bind (wpAny_mono (W.item x l s built hg hS hR) (fun r s₁ h => ?_) fun _ _ x => x.elim)))
    (refine oEA h ?_; try clear h; rintro v rfl h)
    refine wpAny_bind (wpAny_mono h (fun _ s₂ h => ?_) fun _ _ x => x.elim)
    (refine oAAA h ?_; try clear h; rintro C₂ R₂ S₂ rx)
    (refine oEAAAA (turn x built (hU x (.head _))) ?_; rintro st₂ hat hts hel hhp hcap)
    refine wpAny_bind (wpAny_mono (hat [D] s₂ v R₂ rx) (fun _ s₃ h => ?_) fun _ _ x => x.elim)
    obtain ⟨R₃, C₃⟩ := h
    have S₃ := W.stay l _ _ _ R₂ S₂ (C₃.mono fun _ h => .inr h)
    refine wpAny_bind (wpAny_mono (hts.on R₃ (Q := fun b s₄ => b = p x ∧ X.G s₃ s₄) fun s₄ G₄ => ⟨rfl, G₄⟩) (fun b s₄ h => ?_) fun _ _ x => x.elim)
    obtain ⟨rfl, G₄⟩ := h
    have R₄ := R₃.grow G₄
    have C₄ : Chg (fun a => a = D ∨ a = X.env.locals ∨ a = X.tabA) X.F s₃ s₄ := (R₃.chg_grow G₄).mono fun _ h => .inr (.inr h)
    have S₄ := W.stay l _ _ _ R₃ S₃ C₄
    have C24 : Chg (fun a => DI a ∨ a = D ∨ a = X.env.locals ∨ a = X.tabA) X.F s s₄ := (C₂.mono fun _ h => .inl h).trans (((C₃.mono fun _ h => .inr h).trans C₄).mono fun _ h => .inr h)
    cases hpx : p x with
    | false =>
      simp only [Bool.false_eq_true, if_false]
      refine wpAny_pure ⟨rfl, ?_⟩
      refine ih built s₄ (fun y hy => hU y (.tail _ hy)) hg (by simp only [List.length_cons] at hz; (exact Nat.le_of_lt ‹_›)) S₄ (R₄.forget hhp.symm hcap) fun s' C' R' S' => fin s' (C24.trans C') ?_ S'
      rw [List.filter_cons_of_neg (by simp [hpx])]; exact R'
    | true =>
      simp only [if_true]
      obtain ⟨he, hgx⟩ := hel hpx
      refine wpAny_bind (wpAny_bind (wpAny_mono (he.on R₄ (Q := fun y s₅ => Rep X [D] st₂ s₅ ∧ X.G s₄ s₅ ∧ RepF s₅.heap (f x) y) fun y s₅ R₅ G₅ ry => ⟨R₅, G₅, ry⟩) (fun y s₅ h => ?_) fun _ _ x => x.elim))
      (refine oAA h ?_; try clear h; rintro R₅ G₅ ry)
      have C₅ : Chg (fun a => a = D ∨ a = X.env.locals ∨ a = X.tabA) X.F s₄ s₅ := (R₄.chg_grow G₅).mono fun _ h => .inr (.inr h)
      have S₅ := W.stay l _ _ _ R₄ S₄ C₅
      (refine oEAEA (R₅.obj 0 (.list built) (by rw [hhp]; rfl)) ?_; rintro D' eD items hpl hb)
      cases eD
      have hsz : items.size = built.length := by rw [← hb.length]; simp
      refine wpAny_bind (wpAny_list_append_plain hpl (fun h' hpl' hs => wpAny_pure (wpAny_pure ⟨rfl, ?_⟩)) (by have := sl20; simp only [List.length_cons] at hz; lia))
      have hS6 : Same (fun b => b = D) X.F s₅.heap h' := Same.of_but hs rfl
      have hD6 : ∀ b, b = D → mu X [D] b := fun b q => q ▸ .inr (.inr (.inl (.head _)))
      obtain ⟨R₆, _⟩ := R₅.mutate (s' := { s₅ with heap := h' }) (k := 0) (ao' := .list (built ++ [f x])) rfl hs (iEA _ hpl' (by
        rw [Array.toList_push]
        refine (R₅.flats_same hS6 hD6 hb).append ?_
        simp only [RepFs]
        exact (iEEAA y ([]) rfl (R₅.flat_same hS6 hD6 ry) rfl))) rfl rfl
      have C₆ : Chg (fun a => a = D ∨ a = X.env.locals ∨ a = X.tabA) X.F s₅ { s₅ with heap := h' } := .of_but (tk := s₅.toks) hs (.inl rfl) (let ⟨n, e⟩ := hpl'; ⟨_, e⟩)
      have S₆ := W.stay l _ _ _ R₅ S₅ C₆
      have R₆' : Rep X [D] ⟨cap, [.list (built ++ [f x])]⟩ { s₅ with heap := h' } := R₆.forget (by show _ = st₂.hp.set 0 _; rw [hhp]; rfl) hcap
      refine ih (built ++ [f x]) _ (fun y hy => hU y (.tail _ hy)) (fun y hy => ?_) (by simp only [List.length_cons, List.length_append, List.length_nil] at hz ⊢; lia) S₆ R₆' fun s' C' R' S' => fin s' ((C24.trans ((C₅.trans C₆).mono fun _ h => .inr h)).trans C') ?_ S'
      · rcases List.mem_append.mp hy with h | h
        · exact hg y h
        · rw [List.mem_singleton.mp h]; exact hgx
      · have e : built ++ ((x :: l).filter p).map f = (built ++ [f x]) ++ (l.filter p).map f := by rw [List.filter_cons_of_pos hpx]; simp
        rw [e]; exact R'
end

/- the frame within a comprehension -/
noncomputable def Fx.comp (X : Fx) (sc : Scope) (cl : List (Str × Addr)) (C : Addr) (hk : sc.kind = .function) : Fx :=
  { X with env := compEnvC sc cl C X.env, hk := hk }
theorem convL_rep {X : Fx} {st : St} {ρ : List Addr} {s : Shared} (R : Rep X ρ st s) {a b : AV} {v : Value} (h : convA st.hp [] a = some b) (r : RepV s.heap (im X ρ) ρ a v) : RepV s.heap (im0 X.toWx []) [] b v := conv_rep R (ks := []) (ρc := []) rfl h r

section
variable {X : Fx} {st : St} {ρ : List Addr} {s : Shared}
/- what a comprehension sees of its def's names -/
noncomputable def Caps (X : Fx) (st : St) (sc : Scope) (cl : List (Str × Addr)) (cap : List (Str × AV)) : Prop :=
  ∀ y av, cap.lookup y = some av → ∃ av₀ c, st.loc.lookup y = some av₀ ∧ convA st.hp [] av₀ = some av ∧ X.env.cells.lookup y = some c ∧ cl.lookup y = some c ∧ X.env.kindOf y = some .cell ∧ ((relabel sc X.env).names.lookup y = some .cell ∨ (relabel sc X.env).names.lookup y = some .free)
theorem comp_block {t iter elt : Expr} {ifs : List Expr} {sc : Scope} {pos : Pos} {it : Value} {cl : List (Str × Addr)} {cap : List (Str × AV)} {Good : FV → Prop} {DI : Addr → Prop} {S : List FV → Shared → Prop} {Fin : Shared → Prop} {l : List FV}
    (R : Rep X ρ st s) (hk : sc.kind = .function) (hcell : ∀ x ∈ sc.names, x.2 ≠ .cell) (hcl : ∀ x ∈ cl, x ∈ X.env.cells) (hcnd : (cl.map (·.2)).Nodup) (hcap : Caps X st sc cl cap)
    (W : ∀ C D, s.heap.get? D = none → s.heap.get? C = none → D ≠ C → Src (X.comp sc cl C hk) D t it cap Good DI S Fin) (p : FV → Bool) (f : FV → FV) (U : FV → Prop)
    (turn : ∀ C x built, U x → ∃ st₂, ATL (X.comp sc cl C hk) t x ⟨cap, [.list built]⟩ st₂ ∧ PTs (X.comp sc cl C hk) st₂ ifs (p x) ∧ (p x = true → PE (X.comp sc cl C hk) st₂ elt (.f (f x)) ∧ Good (f x)) ∧ st₂.hp = [.list built] ∧ ∀ y av, cap.lookup y = some av → st₂.loc.lookup y = some av)
    (hU : ∀ x ∈ l, U x) (hz : l.length ≤ 2 ^ 20) (hS : S l s) (hDI : ∀ a, DI a → ∃ o, s.heap.get? a = some o) {RR : Value → Addr → Result → Shared → Prop}
    (hRR : ∀ D C s' items, s.heap.get? D = none → s.heap.get? C = none → D ≠ C → Chg (fun a => DI a ∨ a = X.tabA) X.F s s' → (∃ m, s'.heap.Ns C m) → s'.heap.PlainList D items → RepFs s'.heap ((l.filter p).map f) items.toList → TabOk X.toWx s'.heap → Fin s' → RR (.ref D) C (.ok .next) s')
    {E : Value → Shared → Prop} :
    wpAny X.M X.A (newList []) (fun acc s₃ => wpAny X.M X.A (newFunctionEnv sc X.env.globals cl [] X.env.qual none .none (some X.env)) (fun cenv s₄ =>
      codeAny X.M X.A (.compStart (.ListComp elt [⟨t, iter, ifs, 0⟩] sc pos) 0 it acc { cenv with scope := relabel sc X.env }) (RR acc cenv.locals) s₄) E s₃) E s := by
  refine wpAny_newObj_type (wpAny_newFunctionEnv hcell (by intro y hy; simp at hy) (fun h₁ hns₁ hsb₁ => ?_) hk)
  dsimp only at hns₁ hsb₁ ⊢
  generalize hH2 : s.heap.push { cls := .type "list", dict := none, data := .seq ([] : List Value).toArray } = H2 at hns₁ hsb₁ ⊢
  have hC : H2.objs.size = s.heap.objs.size + 1 := by rw [← hH2, Heap.size_push]
  have hDC : s.heap.objs.size ≠ H2.objs.size := by rw [hC]; exact Nat.ne_of_lt (Nat.lt_succ_self _)
  have old : ∀ b o, s.heap.get? b = some o → h₁.get? b = some o := fun b o e =>
    hsb₁.extBut b o (by rw [hC]; exact Nat.ne_of_lt (Nat.lt_succ_of_lt (Heap.lt_size e))) (Heap.get?_push_of_some _ (hH2 ▸ Heap.get?_push_of_some _ e))
  have hacc : h₁.PlainList s.heap.objs.size #[] := ⟨_, hsb₁.extBut _ _ hDC (Heap.get?_push_of_some _ (hH2 ▸ Heap.get?_push_size _ rfl))⟩
  have fresh : ∀ a, s.heap.objs.size ≤ a → s.heap.get? a = none := fun a ha => Heap.get?_none_of_le ha
  have nD := fresh s.heap.objs.size (Nat.le_refl _)
  have nC := fresh H2.objs.size (by rw [hC]; (exact Nat.le_add_right _ _))
  generalize hDd : s.heap.objs.size = D at *
  generalize hCd : H2.objs.size = C at *
  have W' := W C D nD nC hDC
  let s₁ : Shared := { s with heap := h₁, toks := s.toks + ([] : List (Str × Value)).length }
  have C₁ : ∀ {Y : Addr → Prop}, Chg Y X.F s s₁ := fun {Y} => .of_keeps old
  have h0 : ∀ a, s.heap.get? a = none → X.h₀.get? a = none := fun a h => by
    cases e : X.h₀.get? a with
    | none => rfl
    | some o => rw [R.keep a o e] at h; cases h
  have hmu : ∀ a, mu (X.comp sc cl C hk) [D] a ↔ a = C ∨ (∃ x, (x, a) ∈ cl) ∨ a = D ∨ a = X.tabA := fun a => by
    show (a = C ∨ (∃ x, (x, a) ∈ cl) ∨ a ∈ [D] ∨ a = X.tabA) ↔ _
    simp
  have R₁ : Rep (X.comp sc cl C hk) [D] ⟨cap, [.list []]⟩ s₁ := by
    refine ⟨fun b o e => old b o (R.keep b o e), fun a h => ?_, fun b hb => ?_, ⟨_, hns₁⟩, fun x c hc => ?_, hcnd, fun y av e => ?_, fun k ao e => ?_, rfl, by simp, R.tab.keeps old⟩
    · rcases (hmu a).mp h with q | ⟨x, h⟩ | q | q <;> (try subst a)
      · exact h0 _ nC
      · exact R.new a (.inr (.inl ⟨x, hcl _ h⟩))
      · exact h0 _ nD
      · exact R.new _ (.inr (.inr (.inr rfl)))
    · (refine oAEEEA (R.fr b hb) ?_; rintro h1 o es n e d); exact (iAEEEA h1 o es n (old _ _ e) d)
    · (refine oEEA (R.cl x c (hcl _ hc)) ?_; rintro v o e d); exact (iEEA v o (old _ _ e) d)
    · (refine oEEAAAAA (hcap y av e) ?_; rintro av₀ c e1 e2 e3 e4 e5 e6)
      (refine oEA (R.var y av₀ e1) ?_; rintro v hv rv)
      have hvc : s.heap.IsCell c (some v) := by
        rcases hv with ⟨k, _⟩ | ⟨_, c', q, n⟩
        · rw [e5] at k; cases k
        · rw [e3] at q; cases q; exact n
      refine (iEA v (.inr (iAEA e6 c e4 (let ⟨o, e, d⟩ := hvc; (iEA o (old _ _ e) d)))) ?_)
      have rb := convL_rep R e2 rv
      have hS1 : Same Nowhere X.F s.heap h₁ := .of_keeps old
      have nt : ∀ a items, s.heap.IsTuple a items → ¬ Nowhere a := fun _ _ _ h => h
      cases av with
      | f x => exact RepF.same hS1 nt x rb
      | lst l =>
        (refine oEEAAA rb ?_; try clear rb; rintro a items ev hi hl hs)
        refine (iEEAAA a items ev (fun q => ?_) (pl_same hS1 (fun h => h) hl) (RepFs.same hS1 nt l hs))
        (refine oEA (id hl) ?_; rintro o eo _)
        rcases (hmu a).mp q with rfl | ⟨x, h⟩ | rfl | rfl
        · rw [nC] at eo; cases eo
        · obtain ⟨v, n⟩ := R.cl x a (hcl _ h); exact no_seq_cell (.inr hl.list) n
        · rw [nD] at eo; cases eo
        · exact hi.2 rfl
      | obj k => (refine oEA rb ?_; try clear rb; rintro a ea _); simp at ea
      | val v' => exact rb
      | lam p e sc => (refine oEA rb ?_; try clear rb; rintro a q x); exact (iEA a q (x.same hS1 (fun h => h) fun _ _ _ h => h))
    · cases k with
      | zero => cases e; exact (iEAEA D rfl (#[]) hacc (by simp [RepFs]))
      | succ k => simp at e
  have S₁ : S l s₁ := W'.keep l s s₁ hS C₁
  have loop : codeAny X.M X.A (.compLoop (.ListComp elt [⟨t, iter, ifs, 0⟩] sc pos) 0 it (.ref D) (compEnvC sc cl C X.env)) (RR (.ref D) C) s₁ := by
    refine comp_loop (X := X.comp sc cl C hk) W' p f U (turn C) l [] s₁ hU (fun y h => nomatch h) (by simpa using hz) S₁ R₁ fun s' C' R' S' => ?_
    (refine oEAEA (R'.obj 0 _ rfl) ?_; rintro D' eD items hpl hb)
    cases eD
    refine hRR D C s' items nD nC hDC ⟨fun b o hb e => ?_, fun a o e => C'.ex a o (old a o e), C'.gens, C'.os⟩ R'.ns hpl (by simpa using hb) R'.tab S'
    refine C'.same b o (fun q => ?_) (old b o e)
    rcases q with q | q | q | q
    · exact hb (.inl q)
    · rw [q, nD] at e; cases e
    · have q' : b = C := q
      rw [q', nC] at e; cases e
    · exact hb (.inr q)
  exact codeAny_compStart_list loop (wpAny_mono (W'.self l s₁ S₁) (fun v s' h => by obtain ⟨rfl, rfl⟩ := h; exact loop) fun _ _ x => x.elim)
end
end Mine
end
section
open PySem PySem.W PySem.Calls PyProof.Rows
set_option Elab.async false
set_option maxRecDepth 100000
set_option linter.unusedVariables false
set_option linter.unusedSimpArgs false
namespace Mine

/- an iterator, as no name holds it -/
noncomputable def OffObj (o : Obj) : Prop := (o.cls = .type "list_iterator" ∨ o.cls = .type "range_iterator" ∨ o.cls = .type "zip" ∨ o.cls = .type "tuple") ∧ (∀ es n, o.data ≠ .dict es n) ∧ (∀ v, o.data ≠ .cell v) ∧ (∀ vs, o.data = .fields vs → ∀ q t, vs[1]? ≠ some (.str q t))
noncomputable def avGood (P : FV → Prop) : AV → Prop
  | .f x => P x
  | .lst l => ∀ x ∈ l, P x
  | _ => True
noncomputable def aoGood (P : FV → Prop) : AO → Prop
  | .list l => ∀ x ∈ l, P x
  | .iter l => ∀ x ∈ l, P x
  | _ => True
theorem RepFs.turn {P : FV → Prop} {h h' : Heap} (k : ∀ y u, P y → RepF h y u → RepF h' y u) {l : List FV} {vs : List Value} (hg : ∀ x ∈ l, P x) (r : RepFs h l vs) : RepFs h' l vs := by
  rw [RepFs.iff] at r ⊢
  exact ⟨r.1, fun i x e => let ⟨v, e', r⟩ := r.2 i x e; (iEA v e' (k x v (hg x (List.mem_of_getElem? e)) r))⟩

section
variable {X : Fx} {st : St} {ρ ρ' : List Addr} {s s' : Shared}
theorem Rep.off (R : Rep X ρ st s) {DI : Addr → Prop} (C : Chg DI X.F s s') (P : FV → Prop) (hg : ∀ x av, st.loc.lookup x = some av → avGood P av) (hgo : ∀ (k : Nat) ao, st.hp[k]? = some ao → aoGood P ao)
    (hf : ∀ y u, P y → RepF s.heap y u → RepF s'.heap y u) (hDI : ∀ a, DI a → X.h₀.get? a = none ∧ a ∉ ρ ∧ ∃ o, s.heap.get? a = some o ∧ OffObj o) : Rep X ρ st s' := by
  have nD : ∀ a o, s.heap.get? a = some o → (o.cls = .type "list" ∨ o.cls = .type "function" ∨ o.cls = .none ∨ (∃ es n, o.data = .dict es n) ∨ (∃ v, o.data = .cell v) ∨ ∃ vs q t, o.data = .fields vs ∧ vs[1]? = some (.str q t)) → ¬ DI a := by
    intro a o e h q
    (refine oAAEAAAA (hDI a q) ?_; rintro _ _ o' e' hc d1 d2 d3)
    rw [e] at e'; cases e'
    rcases h with h | h | h | ⟨es, n, h⟩ | ⟨v, h⟩ | ⟨vs, q, t, h, h'⟩
    · rcases hc with hc | hc | hc | hc <;> (rw [hc] at h; simp at h)
    · rcases hc with hc | hc | hc | hc <;> (rw [hc] at h; simp at h)
    · rcases hc with hc | hc | hc | hc <;> (rw [hc] at h; simp at h)
    · exact d1 _ _ h
    · exact d2 _ h
    · exact d3 _ h _ _ h'
  have nN : ∀ a m, s.heap.Ns a m → ¬ DI a := fun a m ⟨o, es, ep, e, d, _⟩ => nD a o e (.inr (.inr (.inr (.inl (iEE es ep d)))))
  have nC : ∀ a v, s.heap.IsCell a v → ¬ DI a := fun a v ⟨o, e, d⟩ => nD a o e (.inr (.inr (.inr (.inr (.inl ⟨_, d⟩)))))
  have nL : ∀ a items, s.heap.IsList a items → ¬ DI a := fun a items ⟨o, e, c, _⟩ => nD a o e (.inl c)
  have nK : ∀ c q, s.heap.CodeRec (.ref c) q → ¬ DI c := fun c q ⟨c', o, vs, t, e0, e, d, h⟩ => by cases e0; exact nD c o e (.inr (.inr (.inr (.inr (.inr (iEEEA vs _ _ d h))))))
  refine ⟨fun b o e => C.same.exact (fun q => ?_) (fun hf => ?_) (R.keep b o e), R.new, fun b hb => ⟨(R.fr b hb).1, ?_⟩, ?_, fun x c hc => ?_, R.cnd, fun x av e => ?_, fun k ao e => ?_, R.len, R.nd, ?_⟩
  · rw [(hDI b q).1] at e; cases e
  · rw [(R.fr b hf).1] at e; cases e
  · (refine oAEEEA (R.fr b hb) ?_; rintro _ o es n e d)
    (refine oEAA (C.same.at (nD b o e (.inr (.inr (.inr (.inl (iEE es n d)))))) e) ?_; rintro o' e' _ d')
    exact (iEEEA o' es n e' (d'.trans d))
  · obtain ⟨m, n⟩ := R.ns; exact ⟨m, ns_same C.same (nN _ _ n) n⟩
  · obtain ⟨v, n⟩ := R.cl x c hc; exact ⟨v, cell_same C.same (nC _ _ n) n⟩
  · (refine oEA (R.var x av e) ?_; rintro v hv r)
    refine (iEA v ?_ ?_)
    · rcases hv with ⟨k, m, n, q⟩ | ⟨k, c, q, n⟩
      · exact .inl (iAEA k m (ns_same C.same (nN _ _ n) n) q)
      · exact .inr (iAEA k c q (cell_same C.same (nC _ _ n) n))
    · have g := hg x av e
      cases av with
      | f y => exact hf y v g r
      | lst l => (refine oEEAAA r ?_; try clear r; rintro a items ev hi hl hs); exact (iEEAAA a items ev hi (pl_same C.same (nL _ _ hl.list) hl) (hs.turn hf g))
      | obj k => exact r
      | val u => exact r
      | lam p e sc =>
        (refine oEA r ?_; try clear r; rintro a q x)
        refine (iEA a q (x.same C.same ?_ nK))
        (refine oEEEEEAAA x ?_; try clear x; rintro o q pm cd ct e1 c1 d1 _)
        exact nD a o e1 (.inr (.inl c1))
  · (refine oEA (R.obj k ao e) ?_; rintro a ea r)
    have hm := List.mem_of_getElem? ea
    have ha : ¬ DI a := fun q => (hDI a q).2.1 hm
    have nf := R.own_notF hm
    have g := hgo k ao e
    refine (iEA a ea ?_)
    cases ao with
    | list l => (refine oEA r ?_; try clear r; rintro items ⟨n, e⟩ hs); exact (iEA items (⟨n, C.same.exact ha nf e⟩) (hs.turn hf g))
    | iter l => (refine oEEEAAA r ?_; try clear r; rintro la i items hi him hl hs); exact (iEEEAAA la i items (liter_same C.same ha hi) him (list_same C.same (nL _ _ hl) hl) (hs.turn hf g))
    | rng x n c => exact C.same.exact ha nf r
    | plain => (refine oEA r ?_; try clear r; rintro o e c); exact (iEA o (C.same.exact ha nf e) c)
    | fin => (refine oEA r ?_; try clear r; rintro o e c); exact (iEA o (C.same.exact ha nf e) c)
    | junk => (refine oEA r ?_; try clear r; rintro o e c); exact (iEA o (C.same.exact ha nf e) c)
  · (refine oEAA R.tab ?_; rintro ps e hk hc)
    exact (iEAA ps (C.same.exact (nD _ _ e (.inr (.inr (.inl rfl)))) (fun q => R.F_notT q rfl) e) hk (fun pos cv h => codeRec_same C.same (fun c hc' => nK c X.tabQ (hc' ▸ hc pos cv h)) (hc pos cv h)))

/- an iterator that is no tuple -/
theorem Rep.off1 (R : Rep X ρ st s) {I : Addr} (C : Chg (fun a => a = I) X.F s s') (h0 : X.h₀.get? I = none) (hn : I ∉ ρ) {o : Obj} (ho : s.heap.get? I = some o) (hO : OffObj o) (ht : o.cls ≠ .type "tuple") : Rep X ρ st s' := by
  refine R.off C (fun _ => True) (fun x av _ => by cases av <;> simp [avGood]) (fun k ao _ => by cases ao <;> simp [aoGood]) (fun y u _ r => RepF.same C.same (fun a items x q => ?_) y r) fun a q => by
    have q : a = I := q
    subst q; exact (iAAEA h0 hn o ho hO)
  have q : a = I := q
  subst q
  (refine oEAA x ?_; try clear x; rintro o' e' c' _)
  rw [ho] at e'; cases e'; exact ht c'
theorem offObj_iter {o : Obj} {la : Addr} {i : Nat} (c : o.cls = .type "list_iterator") (d : o.data = .fields #[.ref la, .int i 0]) : OffObj o := ⟨.inl c, by simp [d], by simp [d], by intro vs hv q t; rw [d] at hv; cases hv; simp⟩
theorem offObj_rng {x n c : Int} : OffObj { cls := .type "range_iterator", dict := none, data := .fields #[rawInt x, rawInt n, rawInt c], slots := #[] } := ⟨.inr (.inl rfl), by simp, by simp, by intro vs hv q t; cases hv; simp [rawInt]⟩

theorem owned_plain {prog : Program} {w : World} {A : Around} {E : Value → Shared → Prop} {t : Expr} {a : Addr} {o : Obj} {v : Value} {vs : Array Value} (e : s.heap.get? a = some o) (c : o.cls = .type "list_iterator" ∨ o.cls = .type "range_iterator") (d : o.data = .fields vs) {Q : Unit → Shared → Prop} (q : Q () s) : wpAny (model prog w) A (letOwnedTupleGo t (.ref a) v) Q E s := by
  unfold letOwnedTupleGo
  split
  all_goals first
    | exact wpAny_pure q
    | (cases v <;> first
        | exact wpAny_pure q
        | (refine wpAny_bind (wpAny_load e ?_); rcases c with c | c <;> (rw [c, d]; dsimp only; rw [if_neg (by simp)]; exact wpAny_pure q)))
/- drawing from a list -/
noncomputable def ListSt (I la : Addr) (l : List FV) (s : Shared) : Prop := ∃ i items, s.heap.IsListIter I la i ∧ s.heap.IsList la items ∧ RepFs s.heap l (items.toList.drop i)
theorem src_list {D I la : Addr} {t : Expr} {cap : List (Str × AV)} (h0 : X.h₀.get? I = none) (hID : I ≠ D) (hIl : I ≠ X.env.locals) (hIt : I ≠ X.tabA) (hl : la ≠ I) (hlD : la ≠ D) (hlL : la ≠ X.env.locals) (hlT : la ≠ X.tabA) :
    Src X D t (.ref I) cap (fun _ => True) (fun a => a = I) (ListSt I la) (fun _ => True) where
  item := by
    (rintro x l s built _ zq1 R; refine oEEAA zq1 ?_; clear zq1; rintro i items hit hli hs)
    obtain ⟨v, vs, e, rv, rs⟩ : ∃ v vs, items.toList.drop i = v :: vs ∧ RepF s.heap x v ∧ RepFs s.heap l vs := by simpa only [RepFs] using hs
    have hv : items[i]? = some v := by
      rw [← Array.getElem?_toList]
      have := congrArg (fun z => z[0]?) e
      simpa using this
    (refine oEAA (id hit) ?_; rintro o ho hc hd)
    refine wpAny_pyNext_list_item hit hli hv fun h' hit' hs' => (iEA v rfl ?_)
    have C : Chg (fun a => a = I) X.F s { s with heap := h' } := .of_but (tk := s.toks) hs' rfl (let ⟨o, e, _⟩ := hit'; ⟨o, e⟩)
    have nt : ∀ a its, s.heap.IsTuple a its → ¬ a = I := by
      (rintro a its zq1 rfl; refine oEAA zq1 ?_; clear zq1; rintro o' e' c' _)
      rw [ho] at e'; cases e'; rw [hc] at c'; simp at c'
    (refine oEAA (id hit') ?_; rintro o' ho' hc' hd')
    refine owned_plain ho' (.inl hc') hd' ⟨C, R.off1 C h0 (by simpa using hID) ho (offObj_iter hc hd) (by rw [hc]; simp), (iEEAA (i + 1) items hit' (list_same C.same hl hli) ?_), RepF.same C.same nt x rv⟩
    have e2 : items.toList.drop (i + 1) = vs := by rw [← List.drop_drop, e]; rfl
    rw [e2]; exact RepFs.same C.same nt l rs
  done := by
    (rintro s built _ zq1 R; refine oEEAA zq1 ?_; clear zq1; rintro i items hit hli hs)
    simp only [RepFs] at hs
    have hv : items[i]? = none := by
      rw [← Array.getElem?_toList]
      have := congrArg (fun z => z[0]?) hs
      simpa using this
    (refine oEAA (id hit) ?_; rintro o ho hc hd)
    refine list_end_junk (I := fun _ => True) X.hh hit hli hv fun h' he hj => ⟨rfl, ?_⟩
    have C : Chg (fun a => a = I) X.F s { s with heap := h' } := ⟨same_ext he, fun a o e => by
      by_cases q : a = I
      · (refine oEA hj ?_; try clear hj; rintro o' e' _); exact ⟨o', q ▸ e'⟩
      · exact ⟨o, he a o q e⟩, rfl, rfl⟩
    exact ⟨C, R.off1 C h0 (by simpa using hID) ho (offObj_iter hc hd) (by rw [hc]; simp), trivial⟩
  stay := by
    (rintro l s s' st R zq1 C; refine oEEAA zq1 ?_; clear zq1; rintro i items hit hli hs)
    have nt : ∀ a its, s.heap.IsTuple a its → ¬ (a = D ∨ a = X.env.locals ∨ a = X.tabA) := fun a its x q => R.tuple_im x (by
      rcases q with q | q | q <;> subst a
      · exact .inr (.inr (.inl (.head _)))
      · exact .inl rfl
      · exact .inr (.inr (.inr rfl)))
    exact (iEEAA i items (liter_same C.same (fun q => q.elim hID fun q => q.elim hIl hIt) hit) (list_same C.same (fun q => q.elim hlD fun q => q.elim hlL hlT) hli) (RepFs.same C.same nt l hs))
  keep := by
    (rintro l s s' zq1 C; refine oEEAA zq1 ?_; clear zq1; rintro i items hit hli hs)
    exact (iEEAA i items (liter_same C.same (fun q => q) hit) (list_same C.same (fun q => q) hli) (RepFs.same C.same (fun _ _ _ q => q) l hs))
  self := by
    (rintro l s zq1; refine oEEAA zq1 ?_; clear zq1; rintro i items hit hli hs)
    exact wpAny_pyIter_listiter hit ⟨rfl, rfl⟩
/- drawing from a range -/
noncomputable def rangeL (x : Int) (c : Int) : Nat → List FV
  | 0 => []
  | n + 1 => .int x :: rangeL (x + c) c n
noncomputable def RngSt (I : Addr) (l : List FV) (s : Shared) : Prop := ∃ x n c, IsRangeIter s.heap I x n c ∧ l = rangeL x c n.toNat
theorem src_rng {D I : Addr} {t : Expr} {cap : List (Str × AV)} (h0 : X.h₀.get? I = none) (hID : I ≠ D) (hIl : I ≠ X.env.locals) (hIt : I ≠ X.tabA) (hIF : I ∉ X.F) :
    Src X D t (.ref I) cap (fun _ => True) (fun a => a = I) (RngSt I) (fun _ => True) where
  item := by
    (rintro y l s built _ zq1 R; refine oEEEA zq1 ?_; clear zq1; rintro x n c hit hl)
    have hn : 0 < n := by
      rcases Nat.eq_zero_or_pos n.toNat with h | h
      · rw [h] at hl; cases hl
      · lia
    obtain ⟨k, hk⟩ : ∃ k, n.toNat = k + 1 := ⟨n.toNat - 1, by lia⟩
    rw [hk] at hl
    simp only [rangeL] at hl
    cases hl
    refine wpAny_pyNext_range_item hit hn fun h' hit' hs' => (iEA _ rfl ?_)
    have C : Chg (fun a => a = I) X.F s { s with heap := h', toks := s.toks + 1 } := .of_but hs' rfl ⟨_, hit'⟩
    exact owned_plain hit' (.inr rfl) rfl ⟨C, R.off1 C h0 (by simpa using hID) hit offObj_rng (by simp), (iEEEA (x + c) (n - 1) c hit' (by rw [show (n - 1).toNat = k by lia])), ⟨_, rfl⟩⟩
  done := by
    (rintro s built _ zq1 R; refine oEEEA zq1 ?_; clear zq1; rintro x n c hit hl)
    have hn : n ≤ 0 := by
      rcases Nat.eq_zero_or_pos n.toNat with h | h
      · lia
      · obtain ⟨k, hk⟩ : ∃ k, n.toNat = k + 1 := ⟨n.toNat - 1, by lia⟩
        rw [hk] at hl; cases hl
    refine range_end_junk (I := fun _ => True) X.hh hit hn fun h' he hj => ⟨rfl, ?_⟩
    have C : Chg (fun a => a = I) X.F s { s with heap := h' } := ⟨same_ext he, fun a o e => by
      by_cases q : a = I
      · (refine oEA hj ?_; try clear hj; rintro o' e' _); exact ⟨o', q ▸ e'⟩
      · exact ⟨o, he a o q e⟩, rfl, rfl⟩
    exact ⟨C, R.off1 C h0 (by simpa using hID) hit offObj_rng (by simp), trivial⟩
  stay := by
    (rintro l s s' st R zq1 C; refine oEEEA zq1 ?_; clear zq1; rintro x n c hit hl)
    exact (iEEEA x n c (C.same.exact (fun q => q.elim hID fun q => q.elim hIl hIt) hIF hit) hl)
  keep := by
    (rintro l s s' zq1 C; refine oEEEA zq1 ?_; clear zq1; rintro x n c hit hl)
    exact (iEEEA x n c (C.same.exact (fun q => q) hIF hit) hl)
  self := by
    (rintro l s zq1; refine oEEEA zq1 ?_; clear zq1; rintro x n c hit hl)
    have hT : s.TypeIs (.ref I) "range_iterator" := (iEA _ hit rfl)
    refine wpAny_pyIter_slot hT F.slot_range_iterator_iter (wpAny_call_entry F.slot_range_iterator_iter hT F.entry_range_iterator_iter ?_ (F.args_range_iterator_iter_1 _))
    show wpAny _ _ (ret (.ref I)) _ _ s
    exact wpAny_pure (iEAEEAAA _ rfl ("range_iterator") _ hT F.slot_range_iterator_next.lookup rfl rfl)
end
end Mine
end
section
open PySem PySem.W PySem.Calls PyProof.Rows
set_option Elab.async false
set_option maxRecDepth 100000
set_option linter.unusedVariables false
set_option linter.unusedSimpArgs false
namespace Mine
section
variable {X : Fx} {st : St} {ρ ρ' : List Addr} {s s' s'' : Shared}

/- where an iterator stands -/
noncomputable def SrcAt (I : Addr) (l : List FV) (s : Shared) : Prop := (∃ la, la ≠ I ∧ ListSt I la l s) ∨ RngSt I l s
/- what a comprehension draws from, as an expression -/
noncomputable def CS (X : Fx) (st : St) (e : Expr) (l : List FV) : Prop := ∀ ρ s, Rep X ρ st s → wpAny X.M X.A (eval e X.env) (fun v s₁ => wpAny X.M X.A (pyIter v) (fun it s₂ => X.G s s₂ ∧ ∃ I, it = .ref I ∧ s.heap.get? I = none ∧ SrcAt I l s₂) NoE s₁) NoE s
theorem cs_list {e : Expr} {a : AV} {l : List FV} (h : PE X st e a) (hl : asL st.hp a = some l) : CS X st e l := fun ρ s R => h.on R fun v s₁ R₁ G₁ r => by
  (refine oEEAAA (R₁.asL hl r) ?_; rintro la items rfl hli hs _)
  refine wpAny_pyIter_list hli ?_
  have hk : ∀ b o, s₁.heap.get? b = some o → (s₁.heap.push { cls := .type "list_iterator", data := .fields #[.ref la, .int 0 0] }).get? b = some o := fun b o e => Heap.get?_push_of_some _ e
  have G : X.G s₁ { s₁ with heap := s₁.heap.push { cls := .type "list_iterator", data := .fields #[.ref la, .int 0 0] } } := ⟨.of_keeps hk, .keeps hk, rfl, rfl⟩
  refine (iAEAA (G₁.trans G) _ rfl ?_ (.inl (iEAEEAA la ?_ 0 items ((iEAA _ (Heap.get?_push_size _ rfl) rfl rfl)) (hli.push _) (by simpa using R₁.flats_grow G hs))))
  · exact (R.ext G₁).none (Heap.get?_none_of_le (Nat.le_refl _))
  · (refine oEA hli ?_; try clear hli; rintro o e _); exact Nat.ne_of_lt (Heap.lt_size e)

theorem tab_but {W : Wx} {h h' : Heap} {C : Addr} {m} (x : TabOk W h) (hn : h.Ns C m) (hs : Heap.SameBut C h h') : TabOk W h' := by
  (refine oEAA x ?_; try clear x; rintro ps e hk hc)
  (refine oEEEAA hn ?_; try clear hn; rintro o es ep e' d _)
  have hS : Same (fun a => a = C) [] h h' := Same.of_but hs rfl
  refine (iEAA ps (hS.exact (fun q => ?_) (by simp) e) hk (fun pos cv h => codeRec_same hS (fun c hc' q => ?_) (hc pos cv h)))
  · have q : W.tabA = C := q
    rw [q, e'] at e; cases e; cases d
  · have q : c = C := q
    (refine oEEEEAAA (hc pos cv h) ?_; rintro c' o' vs t e0 e1 d1 _)
    rw [hc'] at e0; cases e0
    rw [q, e'] at e1; cases e1; rw [d] at d1; cases d1

theorem SrcAt.some {I l} (h : SrcAt I l s) : ∃ o, s.heap.get? I = some o := by
  rcases h with ⟨la, _, i, items, ⟨o, e, _⟩, _⟩ | ⟨x, n, c, e, _⟩
  · exact ⟨o, e⟩
  · exact ⟨_, e⟩
/- the block of a comprehension over a list or a range -/
theorem comp_over {t iter elt : Expr} {ifs : List Expr} {sc : Scope} {pos : Pos} {I : Addr} {cl : List (Str × Addr)} {cap : List (Str × AV)} {l : List FV}
    (R : Rep X ρ st s) (hk : sc.kind = .function) (hcell : ∀ x ∈ sc.names, x.2 ≠ .cell) (hcl : ∀ x ∈ cl, x ∈ X.env.cells) (hcnd : (cl.map (·.2)).Nodup) (hcap : Caps X st sc cl cap)
    (h0 : X.h₀.get? I = none) (hIF : I ∉ X.F) (hI : SrcAt I l s) (p : FV → Bool) (f : FV → FV) (U : FV → Prop)
    (turn : ∀ C x built, U x → ∃ st₂, ATL (X.comp sc cl C hk) t x ⟨cap, [.list built]⟩ st₂ ∧ PTs (X.comp sc cl C hk) st₂ ifs (p x) ∧ (p x = true → PE (X.comp sc cl C hk) st₂ elt (.f (f x))) ∧ st₂.hp = [.list built] ∧ ∀ y av, cap.lookup y = some av → st₂.loc.lookup y = some av)
    (hU : ∀ x ∈ l, U x) (hz : l.length ≤ 2 ^ 20) {RR : Value → Addr → Result → Shared → Prop}
    (hRR : ∀ D C s' items, s.heap.get? D = none → s.heap.get? C = none → D ≠ C → Chg (fun a => a = I ∨ a = X.tabA) X.F s s' → (∃ m, s'.heap.Ns C m) → s'.heap.PlainList D items → RepFs s'.heap ((l.filter p).map f) items.toList → TabOk X.toWx s'.heap → RR (.ref D) C (.ok .next) s')
    {E : Value → Shared → Prop} :
    wpAny X.M X.A (newList []) (fun acc s₃ => wpAny X.M X.A (newFunctionEnv sc X.env.globals cl [] X.env.qual none .none (some X.env)) (fun cenv s₄ =>
      codeAny X.M X.A (.compStart (.ListComp elt [⟨t, iter, ifs, 0⟩] sc pos) 0 (.ref I) acc { cenv with scope := relabel sc X.env }) (RR acc cenv.locals) s₄) E s₃) E s := by
  obtain ⟨oI, eI⟩ := hI.some
  have tabE : ∃ o, s.heap.get? X.tabA = some o := let ⟨ps, e, _⟩ := R.tab; ⟨_, e⟩
  have hIt : I ≠ X.tabA := by
    rintro rfl
    (refine oEA R.tab ?_; rintro ps e _)
    rcases hI with ⟨la, _, i, items, ⟨o, e', c, _⟩, _⟩ | ⟨x, n, c, e', _⟩
    · rw [e] at e'; cases e'; cases c
    · have e' : s.heap.get? _ = _ := e'
      rw [e] at e'; cases e'
  have ne : ∀ {a b : Addr}, (∃ o, s.heap.get? a = some o) → s.heap.get? b = none → a ≠ b := by
    rintro a b ⟨o, e⟩ e' rfl; rw [e] at e'; cases e'
  rcases hI with ⟨la, hla, hI⟩ | hI
  · (refine oEEAA (id hI) ?_; rintro i items hit hli hs)
    have lae : ∃ o, s.heap.get? la = some o := let ⟨o, e, _⟩ := hli; ⟨o, e⟩
    have hlt : la ≠ X.tabA := by
      rintro rfl
      (refine oEA R.tab ?_; rintro ps e _)
      (refine oEAA hli ?_; try clear hli; rintro o e' c _)
      rw [e] at e'; cases e'; cases c
    refine comp_block (Good := fun _ => True) (DI := fun a => a = I) (S := ListSt I la) (Fin := fun _ => True) R hk hcell hcl hcnd hcap (fun C D nD nC hDC => src_list h0 (ne ⟨_, eI⟩ nD) (ne ⟨_, eI⟩ nC) hIt hla (ne lae nD) (ne lae nC) hlt) p f U
      (fun C x built hx => let ⟨st₂, a, b, c, d, e⟩ := turn C x built hx; ⟨st₂, a, b, fun h => ⟨c h, trivial⟩, d, e⟩) hU hz hI (fun a q => by have q : a = I := q; exact q ▸ ⟨_, eI⟩) fun D C s' items a b c d e f g h _ => hRR D C s' items a b c d e f g h
  · refine comp_block (Good := fun _ => True) (DI := fun a => a = I) (S := RngSt I) (Fin := fun _ => True) R hk hcell hcl hcnd hcap (fun C D nD nC hDC => src_rng h0 (ne ⟨_, eI⟩ nD) (ne ⟨_, eI⟩ nC) hIt hIF) p f U
      (fun C x built hx => let ⟨st₂, a, b, c, d, e⟩ := turn C x built hx; ⟨st₂, a, b, fun h => ⟨c h, trivial⟩, d, e⟩) hU hz hI (fun a q => by have q : a = I := q; exact q ▸ ⟨_, eI⟩) fun D C s' items a b c d e f g h _ => hRR D C s' items a b c d e f g h

/- the whole setting of a comprehension -/
structure CompOk (X : Fx) (st : St) (t iter elt : Expr) (ifs : List Expr) (sc : Scope) (l : List FV) (p : FV → Bool) (f : FV → FV) : Prop where
  src : CS X st iter l
  kind : sc.kind = .function
  cells : ∀ x ∈ sc.names, x.2 ≠ .cell
  names : ∀ x ∈ sc.names, x.2 = .local → sc.names.lookup x.1 = some .local
  rest : ∃ cl cap, closureFor sc X.env = pure cl ∧ (∀ x ∈ cl, x ∈ X.env.cells) ∧ (cl.map (·.2)).Nodup ∧ Caps X st sc cl cap ∧
    ∀ C x built, x ∈ l → ∃ st₂, ATL (X.comp sc cl C kind) t x ⟨cap, [.list built]⟩ st₂ ∧ PTs (X.comp sc cl C kind) st₂ ifs (p x) ∧ (p x = true → PE (X.comp sc cl C kind) st₂ elt (.f (f x))) ∧ st₂.hp = [.list built] ∧ ∀ y av, cap.lookup y = some av → st₂.loc.lookup y = some av
  size : l.length ≤ 2 ^ 20

theorem Grow.close {I C : Addr} (R : Rep X ρ st s) (G : X.G s s') (hI : s.heap.get? I = none) (hC : s'.heap.get? C = none) (Cg : Chg (fun a => a = I ∨ a = X.tabA) X.F s' s'') {h : Heap} {m} (hn : s''.heap.Ns C m) (hs : Heap.SameBut C s''.heap h) (ht : TabOk X.toWx s''.heap) : X.G s { s'' with heap := h } := by
  have hC0 : s.heap.get? C = none := (R.ext G).none hC
  refine ⟨fun b o hb e => ?_, fun _ => tab_but ht hn hs, Cg.gens.trans G.gens, Cg.os.trans G.os⟩
  (refine oEA (G.same b o hb e) ?_; rintro o' e' k)
  obtain ⟨o'', e'', k'⟩ := Cg.same b o' (fun q => by
    rcases q with rfl | q
    · rw [hI] at e; cases e
    · exact hb q) e'
  refine (iEA o'' ((hs.2 b (fun q => ?_)).trans e'') (k.trans k'))
  rw [q, hC0] at e; cases e

theorem pn_comp {t iter elt : Expr} {ifs : List Expr} {sc : Scope} {pos : Pos} {l : List FV} {p : FV → Bool} {f : FV → FV} (h : CompOk X st t iter elt ifs sc l p f) (hs : ∀ x, foldedSetIterable iter X.env x = pure x := by intro _; rfl) :
    PN X st (.ListComp elt [⟨t, iter, ifs, 0⟩] sc pos) ((l.filter p).map f) := fun ρ s R => by
  (refine oEEAAAA h.rest ?_; rintro cl cap hclos hcl hcnd hcap turn)
  rw [eval_ListComp]
  refine wpAny_comprehension_free (use := none) rfl hs hclos h.kind h.names (wpAny_mono (h.src ρ s R) (fun v s₁ h₁ => wpAny_mono h₁ (fun it s₂ h₂ => ?_) fun _ _ x => x) fun _ _ x => x)
  (refine oAEAA h₂ ?_; try clear h₂; rintro G I rfl hI hsrc)
  have R₂ := R.grow G
  have h0 : X.h₀.get? I = none := by
    cases e : X.h₀.get? I with
    | none => rfl
    | some o => rw [R.keep _ _ e] at hI; cases hI
  have hIF : I ∉ X.F := fun hf => by (refine oAEEEA (R.fr I hf) ?_; rintro _ o es n e d); rw [hI] at e; cases e
  refine comp_over R₂ h.kind h.cells hcl hcnd hcap h0 hIF hsrc p f (· ∈ l) turn (fun x hx => hx) h.size fun D C s' items nD nC hDC Cg hn hpl hb ht => ?_
  obtain ⟨m, hn⟩ := hn
  refine (iEA m hn (fun h' hs' => (iAEEAAA (Grow.close R G hI nC Cg hn hs' ht) D items rfl ((R.ext G).none nD) ?_ ?_)))
  · obtain ⟨n, e⟩ := hpl; exact ⟨n, (hs'.2 D hDC).trans e⟩
  · refine RepFs.same (D := fun a => a = C) (F := X.F) (Same.of_but hs' rfl) (fun a its x q => ?_) _ hb
    have q : a = C := q
    exact no_seq_dict (.inl x) (q ▸ hn)
/- the frame behind a change of the comprehension's names -/
theorem Rep.offC (R : Rep X ρ st s) {C : Addr} {m} {h' : Heap} {tk : Nat} (hn : s.heap.Ns C m) (hs : Heap.SameBut C s.heap h') (hL : C ≠ X.env.locals) (hF : C ∉ X.F) (h0 : X.h₀.get? C = none) : Rep X ρ st { s with heap := h', toks := tk } := by
  have S : Same (fun a => a = C) X.F s.heap h' := Same.of_but hs rfl
  (refine oEEEAA (id hn) ?_; rintro oC esC epC eC dC _)
  have nt : ∀ a its, s.heap.IsTuple a its → ¬ a = C := fun a its x q => no_seq_dict (.inl x) (q ▸ hn)
  have nl : ∀ a its, s.heap.IsList a its → ¬ a = C := fun a its x q => no_seq_dict (.inr x) (q ▸ hn)
  have nk : ∀ c q, s.heap.CodeRec (.ref c) q → ¬ c = C := by
    (rintro c q zq1 rfl; refine oEEEEAAA zq1 ?_; clear zq1; rintro c' o' vs t e0 e1 d1 _)
    cases e0; rw [eC] at e1; cases e1; rw [dC] at d1; cases d1
  have nc : ∀ a v, s.heap.IsCell a v → ¬ a = C := by
    (rintro a v zq1 rfl; refine oEA zq1 ?_; clear zq1; rintro o e d)
    rw [eC] at e; cases e; rw [dC] at d; cases d
  have nr : ∀ a ∈ ρ, ¬ a = C := by
    rintro a ha rfl
    (refine oEEAA (R.own ha) ?_; rintro _ ao _ _ rr)
    (refine oEAAAAA rr.kind ?_; rintro o e _ _ _ d _)
    rw [eC] at e; cases e; exact d _ _ dC
  have nT : X.tabA ≠ C := fun q => R.ns_notT hn q.symm
  have him : im X ρ C := by
    rintro (q | ⟨x, q⟩ | q | q)
    · exact hL q
    · obtain ⟨v, n⟩ := R.cl x C q; exact nc C v n rfl
    · exact nr C q rfl
    · exact nT q.symm
  refine ⟨fun b o e => S.exact (fun q => ?_) (fun hf => ?_) (R.keep b o e), R.new, fun b hb => ⟨(R.fr b hb).1, ?_⟩, ?_, fun x c hc => ?_, R.cnd, fun x av e => ?_, fun k ao e => ?_, R.len, R.nd, tab_but R.tab hn hs⟩
  · have q : b = C := q
    rw [q, h0] at e; cases e
  · rw [(R.fr b hf).1] at e; cases e
  · (refine oAEEEA (R.fr b hb) ?_; rintro _ o es n e d)
    (refine oEAA (S.at (fun q => hF (q ▸ hb)) e) ?_; rintro o' e' _ d')
    exact (iEEEA o' es n e' (d'.trans d))
  · obtain ⟨m, n⟩ := R.ns; exact ⟨m, ns_same S (fun q => hL q.symm) n⟩
  · obtain ⟨v, n⟩ := R.cl x c hc; exact ⟨v, cell_same S (nc _ _ n) n⟩
  · (refine oEA (R.var x av e) ?_; rintro v hv r)
    refine (iEA v ?_ ?_)
    · rcases hv with ⟨k, m, n, q⟩ | ⟨k, c, q, n⟩
      · exact .inl (iAEA k m (ns_same S (fun z => hL z.symm) n) q)
      · exact .inr (iAEA k c q (cell_same S (nc _ _ n) n))
    · cases av with
      | f y => exact RepF.same S nt y r
      | lst l => (refine oEEAAA r ?_; try clear r; rintro a items ev hi hl hs); exact (iEEAAA a items ev hi (pl_same S (nl _ _ hl.list) hl) (RepFs.same S nt l hs))
      | obj k => exact r
      | val u => exact r
      | lam p e sc =>
        (refine oEA r ?_; try clear r; rintro a q x)
        refine (iEA a q (x.same S ?_ nk))
        (refine oEEEEEAAA x ?_; try clear x; rintro o q pm cd ct e1 c1 d1 _)
        rintro rfl
        rw [eC] at e1; cases e1; rw [dC] at d1; cases d1
  · (refine oEA (R.obj k ao e) ?_; rintro a ea r)
    have hm := List.mem_of_getElem? ea
    have nf := R.own_notF hm
    refine (iEA a ea ?_)
    cases ao with
    | list l => (refine oEA r ?_; try clear r; rintro items ⟨n, e⟩ hs); exact (iEA items (⟨n, S.exact (nr a hm) nf e⟩) (RepFs.same S nt l hs))
    | iter l => (refine oEEEAAA r ?_; try clear r; rintro la i items hi him hl hs); exact (iEEEAAA la i items (liter_same S (nr a hm) hi) him (list_same S (nl _ _ hl) hl) (RepFs.same S nt _ hs))
    | rng x n c => exact S.exact (nr a hm) nf r
    | plain => (refine oEA r ?_; try clear r; rintro o e c); exact (iEA o (S.exact (nr a hm) nf e) c)
    | fin => (refine oEA r ?_; try clear r; rintro o e c); exact (iEA o (S.exact (nr a hm) nf e) c)
    | junk => (refine oEA r ?_; try clear r; rintro o e c); exact (iEA o (S.exact (nr a hm) nf e) c)
theorem Ext.offC (E : Ext X ρ s ρ' s') {C : Addr} {h' : Heap} {tk : Nat} (hC : s.heap.get? C = Option.none) (hs : Heap.SameBut C s'.heap h') : Ext X ρ s ρ' { s' with heap := h', toks := tk } :=
  ⟨fun b o hb e => by
    (refine oEA (E.same b o hb e) ?_; rintro o' e' k)
    exact (iEA o' ((hs.2 b (fun q => by rw [q, hC] at e; cases e)).trans e') k), E.pre, E.mu, fun a o e => by
    obtain ⟨o', e'⟩ := E.ex a o e
    exact ⟨o', (hs.2 a (fun q => by rw [q, hC] at e; cases e)).trans e'⟩, E.gens, E.os⟩
/- y = [..]: the list is not changed any more -/
theorem ws1_compF {t iter elt : Expr} {ifs : List Expr} {sc : Scope} {pos spos : Pos} {y : Str} {py : Pos} {l : List FV} {p : FV → Bool} {f : FV → FV} {Q : AF → St → Prop} (h : CompOk X st t iter elt ifs sc l p f) (hy : X.env.kindOf y = some .local)
    (q : Q .next (st.set y (.lst ((l.filter p).map f)))) (hsw : swapsWith (.ListComp elt [⟨t, iter, ifs, 0⟩] sc pos) (some (.Name y py)) spos.line X.env = pure true) (hs : ∀ x, foldedSetIterable iter X.env x = pure x := by intro _; rfl) :
    WS1 X (.Assign [.Name y py] (.ListComp elt [⟨t, iter, ifs, 0⟩] sc pos) spos) st Q := fun ρ s R => by
  (refine oEEAAAA h.rest ?_; rintro cl cap hclos hcl hcnd hcap turn)
  rw [exec_Assign_Name_used _ _ _ _ hsw]
  refine wpAny_bind (wpAny_standAt (wpAny_bind ?_))
  show wpAny _ X.A (do let _ ← comprehension (.ListComp elt [⟨t, iter, ifs, 0⟩] sc pos) sc X.env _ (newList []) false (eval iter X.env) (some (assign (.Name y py) X.env))) _ _ s
  refine wpAny_bind (wpAny_mono (wpAny_comprehension_free (use := some (assign (.Name y py) X.env)) (Q := fun _ s' => Ends X ρ s Q .next s') rfl hs hclos h.kind h.names
    (wpAny_mono (h.src ρ s R) (fun v s₁ h₁ => wpAny_mono h₁ (fun it s₂ h₂ => ?_) fun _ _ x => x) fun _ _ x => x)) (fun _ s' hq => wpAny_pure (wpAny_pure hq)) fun _ _ e => e)
  (refine oAEAA h₂ ?_; try clear h₂; rintro G I rfl hI hsrc)
  have R₂ := R.grow G
  have h0 : ∀ a, s.heap.get? a = none → X.h₀.get? a = none := fun a h => by
    cases e : X.h₀.get? a with
    | none => rfl
    | some o => rw [R.keep _ _ e] at h; cases h
  have hF : ∀ a, s.heap.get? a = none → a ∉ X.F := fun a h hf => by (refine oAEEEA (R.fr a hf) ?_; rintro _ o es n e d); rw [h] at e; cases e
  refine comp_over R₂ h.kind h.cells hcl hcnd hcap (h0 I hI) (hF I hI) hsrc p f (· ∈ l) turn (fun x hx => hx) h.size fun D C s' items nD nC hDC Cg hn hpl hb ht => ?_
  obtain ⟨m, hn⟩ := hn
  have nC0 := (R.ext G).none nC
  have nD0 := (R.ext G).none nD
  have G' : X.G s s' := Grow.close (h := s'.heap) R G hI nC Cg hn (.refl ..) ht
  have R' := R.grow G'
  obtain ⟨n, eD⟩ := hpl
  have rD : RepV s'.heap (im X ρ) ρ (.lst ((l.filter p).map f)) (.ref D) := (iEEAAA D items rfl (R.fresh_im nD0) ((iEAAAE _ eD rfl rfl n rfl)) hb)
  show wpAny _ _ (assign (.Name y py) X.env (.ref D)) _ _ _
  refine wpAny_assign_Name (storeL R' hy rD fun s₃ R₃ C₃ => ?_)
  have hCL : C ≠ X.env.locals := fun q => by (refine oEEEEA R.ns ?_; rintro m o _ _ e _); rw [q, e] at nC0; cases nC0
  have hCT : C ≠ X.tabA := R'.ns_notT hn
  have hn₃ : s₃.heap.Ns C m := ns_same C₃.same (fun q => q.elim hCL hCT) hn
  have E₃ : Ext X ρ s ρ s₃ := (R.ext G').trans ⟨C₃.same.mono fun a h => h.elim .inl fun q => .inr (.inr (.inr q)), fun _ _ h => h, fun _ h => .inl h, C₃.ex, C₃.gens, C₃.os⟩
  exact (iEA m hn₃ (fun h' hs' => (iEEEAAA ρ (.next) _ (R₃.offC (tk := s₃.toks) hn₃ hs' hCL (hF C nC0) (h0 C nC0)) (E₃.offC nC0 hs') rfl q)))
end
end Mine
end
section
open PySem PySem.W PySem.Calls PyProof.Rows
set_option Elab.async false
set_option maxRecDepth 100000
set_option linter.unusedVariables false
set_option linter.unusedSimpArgs false
namespace Mine

theorem triplesOk_app {a b : Nat} {c : Value} : ∀ (l : List Value), TriplesOk l → TriplesOk (l ++ [rawInt a, rawInt b, c]) := by
  intro l h
  fun_induction TriplesOk l with
  | case1 => simp [TriplesOk, rawInt]
  | case2 i t j u x rest ih => simp only [List.cons_append, TriplesOk]; exact ih h
  | case3 => exact h.elim
theorem codeAmong_app {pos : Pos} {a b : Nat} {c cv : Value} : ∀ (l : List Value), TriplesOk l → codeAmong pos (l ++ [rawInt a, rawInt b, c]) = some cv → codeAmong pos l = some cv ∨ cv = c := by
  intro l h
  fun_induction TriplesOk l with
  | case1 =>
    intro e
    simp only [List.nil_append, codeAmong, rawInt] at e
    split at e
    · exact .inr (Option.some.inj e).symm
    · cases e
  | case2 i t j u x rest ih =>
    intro e
    simp only [List.cons_append, codeAmong] at e ⊢
    split
    · rename_i hq
      rw [if_pos hq] at e; exact .inl e
    · rename_i hq
      rw [if_neg hq] at e; exact ih h e
  | case3 => exact h.elim
/- where lambdas are made -/
structure LamOk (W : Wx) (c : Addr) : Prop where
  code : CodeHd W.h₀ c W.tabA
  bi : ∃ mg, W.h₀.Ns mainGlobals mg ∧ W.h₀.BuiltinsAt mg W.tabA
  new : W.h₀.get? W.tabA = none

section
variable {X : Fx} {st : St} {ρ ρ' : List Addr} {s s' s'' : Shared}
theorem pe_lambda {c : Addr} {ps : Arguments} {e : Expr} {sc : Scope} {pos : Pos} (L : LamOk X.toWx c) (hc : X.env.code = .ref c) (hq : X.env.qual ++ "<lambda>" = X.tabQ) (hcl : closureFor sc X.env = pure []) (hdef : defaultsOf ps X.env = ([], [])) : PE X st (.Lambda ps e sc pos) (.lam ps e sc) := fun ρ s R => by
  refine kla_eval hdef ?_
  (refine oEAA R.tab ?_; rintro psT eT hT hcT)
  (refine oEA L.bi ?_; rintro mg hg hb)
  have hgP : mainGlobals ≠ X.tabA := fun q => by (refine oEEEA hg ?_; try clear hg; rintro o es ep e _); rw [q, L.new] at e; cases e
  have hb' : s.heap.BuiltinsAt mg X.tabA := by
    (refine oEEAAAAA hb ?_; try clear hb; rintro bm o b1 b2 b3 b4 b5 b6)
    exact (iEEAAAAA bm o b1 b2 b3 b4 (R.keep _ _ b5) b6)
  rw [hq]
  cases hf : codeAmong pos psT.toList with
  | none =>
    refine kla_makeFunction hcl X.hg (hg.keeps R.keep) hc (L.code.keeps R.keep) eT hT hf hgP hb' fun c' ctv h' tk hx hge hlt hrec htb => ?_
    have hS : Same (fun a => a = X.tabA) X.F s.heap (h'.push (kla_obj "<lambda>" X.tabQ ps e sc [] ((mg "__name__").getD .none) c' ctv)) := fun b o hb e => (iEA o (Heap.get?_push_of_some _ (hx b o hb e)) (.inl rfl))
    have hrec' : ∀ cv, h'.CodeRec cv X.tabQ → (h'.push (kla_obj "<lambda>" X.tabQ ps e sc [] ((mg "__name__").getD .none) c' ctv)).CodeRec cv X.tabQ := fun cv x => x.keeps fun b o e => Heap.get?_push_of_some _ e
    refine (iAEA (⟨hS, fun _ => (iEAA _ (Heap.get?_push_of_some _ htb) ?_ (fun pos' cv h => ?_)), rfl, rfl⟩) _ rfl ((iEEEEEAAA _ X.tabQ _ _ _ (Heap.get?_push_size _ rfl) rfl rfl (hrec' _ hrec))))
    · rw [Array.toList_append]; exact triplesOk_app _ hT
    · rw [Array.toList_append] at h
      rcases codeAmong_app _ hT h with h | h
      · refine hrec' _ ?_
        have hx' : Same (fun a => a = X.tabA) [] s.heap h' := fun b o hb e => (iEA o (hx b o hb e) (.inl rfl))
        exact codeRec_same hx' (fun c hc' q => R.code_im (q := X.tabQ) (hc' ▸ hcT pos' cv h) (.inr (.inr (.inr q)))) (hcT pos' cv h)
      · rw [h]; exact hrec' _ hrec
  | some cv =>
    refine kla_makeFunctionHit hcl X.hg (hg.keeps R.keep) hc (L.code.keeps R.keep) eT hT hf hb' fun ctv h' tk hk hsz => ?_
    have hk' : ∀ b o, s.heap.get? b = some o → (h'.push { cls := .type "function", data := .func (kla_fn "<lambda>" X.tabQ ps e sc [] ((mg "__name__").getD .none) cv ctv) }).get? b = some o := fun b o e => Heap.get?_push_of_some _ (hk b o e)
    exact (iAEA (⟨.of_keeps hk', .keeps hk', rfl, rfl⟩) _ rfl ((iEEEEEAAA _ X.tabQ _ _ _ (Heap.get?_push_size _ rfl) rfl rfl ((hcT pos cv hf).keeps hk'))))

/- a lambda of one argument that gives y of x -/
noncomputable def LamGives (W : Wx) (ps : Arguments) (e : Expr) (sc : Scope) (n : Nat) (x y : FV) : Prop := ∀ A F ρ hp s a v, AOk A F n → Rep0 W F ρ hp s → LamAt s.heap a ps e sc → RepF s.heap x v →
  wpAny (model W.prog W.w) A (call (.ref a) [v]) (fun u s' => Grow W F s s' ∧ RepF s'.heap y u) NoE s
theorem lam_gives {W : Wx} {ps : Arguments} {e : Expr} {sc : Scope} {n : Nat} {x y : FV} {nm : Str} (hbind : ∀ q pm cd ct v, bindArgs (kla_fn "<lambda>" q ps e sc [] pm cd ct) ⟨[v], []⟩ = pure [(nm, v)])
    (hloc : sc.names.lookup nm = some .local) (hcell : ∀ x ∈ sc.names, x.2 ≠ .cell) (hco : sc.isCoroutine = false) (hgen : sc.isGenerator = false) (hk : sc.kind = .function)
    (hb : ∀ X : Fx, X.toWx = W → X.n = n → X.env.scope = sc → PE X ⟨[(nm, .f x)], []⟩ e (.f y)) : LamGives W ps e sc (n + 1) x y := by
  intro A F ρ hp s a v hA R hl rx
  (refine oEEEEEAAA hl ?_; try clear hl; rintro o q pm cd ct ho hc hd hcd)
  refine wpAny_call (kla_callFunE (by have := hA.hd; (exact Nat.lt_of_le_of_lt (Nat.le_add_right _ _) ‹_›)) ho hd hco hgen rfl hcd ?_)
  rw [hbind]
  refine wpAny_pure (wpAny_newFunctionEnv hcell (by intro z hz; rw [List.mem_singleton.mp hz]; exact hloc) (fun h₁ hns hsb => ?_) hk)
  have hkp : ∀ b o, s.heap.get? b = some o → h₁.get? b = some o := fun b o e => hsb.extBut b o (Nat.ne_of_lt (Heap.lt_size e)) (Heap.get?_push_of_some _ e)
  refine ⟨(W.nol.keeps R.keep).keeps hkp, kla_codeExpr ?_⟩
  generalize henv : newEnv sc s.heap.objs.size (kla_fn "<lambda>" q ps e sc [] pm cd ct).globals (kla_fn "<lambda>" q ps e sc [] pm cd ct).closure ((kla_fn "<lambda>" q ps e sc [] pm cd ct).qualname ++ ".<locals>.") (some a) (kla_fn "<lambda>" q ps e sc [] pm cd ct).code none (kla_fn "<lambda>" q ps e sc [] pm cd ct).builtins = env
  have henv' : env.locals = s.heap.objs.size ∧ env.scope = sc ∧ env.cells = [] ∧ env.globals = mainGlobals ∧ env.builtins = builtinsNs ∧ env.frame = some s.heap.objs.size := by subst henv; exact ⟨rfl, rfl, rfl, rfl, rfl, rfl⟩
  (refine oAAAAA henv' ?_; try clear henv'; rintro henv1 henv2 henv3 henv4 henv5 henv6)
  have hLn : s.heap.get? s.heap.objs.size = none := Heap.get?_none_of_le (Nat.le_refl _)
  (refine oEAA hA.hF ?_; rintro outer hf1 hf2 hf3)
  have hFF : ∃ outer', (A.deeper env).frames = some outer' ∧ outer'.filterMap (·.frame) = s.heap.objs.size :: F ∧ ∀ e ∈ outer', e.scope.kind ≠ .module ∧ e.frame.isSome = true :=
    (iEAA (env :: outer) (by show A.frames.map (env :: ·) = _; rw [hf1]; rfl) (by simp [List.filterMap_cons, henv6, hf2]) (fun e he => by
      rcases List.mem_cons.mp he with rfl | he
      · exact ⟨by rw [henv2, hk]; decide, by rw [henv6]; rfl⟩
      · exact hf3 e he))
  let X : Fx := ⟨W, env, A.deeper env, s.heap.objs.size :: F, n, by rw [henv2]; exact hk, henv4, henv5, hA.hh, (by have := hA.hd; show A.depth + 1 + n < _; lia), (by have := hA.hu; show A.units + 3 + 10 * n + 400 < _; lia), hFF⟩
  have hw0 : ∀ a, s.heap.get? a = none → W.h₀.get? a = none := fun a h => by
    cases e : W.h₀.get? a with
    | none => rfl
    | some o => rw [R.keep _ _ e] at h; cases h
  have R₁ : Rep X [] ⟨[(nm, .f x)], []⟩ { s with heap := h₁, toks := s.toks + [(nm, v)].length } := by
    refine ⟨fun b o e => hkp b o (R.keep b o e), fun b h => ?_, fun b hb => ?_, ⟨_, by rw [show X.env.locals = _ from henv1]; exact hns⟩, fun z c hc => ?_, ?_, fun z av ez => ?_, fun k ao ek => by simp at ek, rfl, .nil, R.tab.keeps hkp⟩
    · rcases h with h | ⟨z, h⟩ | h | h
      · have h : b = env.locals := h
        rw [h, henv1]; exact hw0 _ hLn
      · have h : (z, b) ∈ env.cells := h
        rw [henv3] at h; cases h
      · cases h
      · exact R.new b (.inr h)
    · rcases List.mem_cons.mp hb with rfl | hb
      · refine ⟨hw0 _ hLn, ?_⟩
        (refine oEEEAA hns ?_; try clear hns; rintro o es ep e d _); exact (iEEEA o es ep e d)
      · (refine oAEEEA (R.fr b hb) ?_; rintro h1 o es n e d); exact (iAEEEA h1 o es n (hkp _ _ e) d)
    · have hc : (z, c) ∈ env.cells := hc
      rw [henv3] at hc; cases hc
    · show (env.cells.map (·.2)).Nodup
      rw [henv3]; exact .nil
    · simp only [List.lookup_cons, List.lookup_nil] at ez
      by_cases hz : z = nm
      · subst hz
        simp only [BEq.rfl] at ez
        cases ez
        refine (iEA v (.inl (iAEA ?_ _ (by rw [show X.env.locals = _ from henv1]; exact hns) (by simp))) (RepF.same (D := Nowhere) (F := F) (.of_keeps hkp) (fun _ _ _ h => h) x rx))
        show env.scope.names.lookup z = _
        rw [henv2]; exact hloc
      · simp only [beq_eq_false_iff_ne.mpr hz] at ez; cases ez
  refine wpAny_mono (hb X rfl rfl henv2 [] _ R₁) (fun u s' h => ?_) fun _ _ x => x.elim
  obtain ⟨G, ry⟩ := h
  refine ⟨⟨fun b o hb e => ?_, fun h => G.tab (h.keeps hkp), G.gens, G.os⟩, ry⟩
  (refine oEA (G.same b o hb (hkp b o e)) ?_; rintro o' e' k)
  refine (iEA o' e' (k.elim .inl fun q => .inr ⟨?_, q.2⟩))
  rcases List.mem_cons.mp q.1 with q1 | q1
  · exact absurd q1 (Nat.ne_of_lt (Heap.lt_size e))
  · exact q1
theorem Rep.rep0 (R : Rep X ρ st s) : Rep0 X.toWx X.F [] [] s :=
  ⟨R.keep, fun a h => R.new a (h.elim (fun h => nomatch h) fun q => .inr (.inr (.inr q))), R.fr, fun k ao e => by simp at e, rfl, .nil, R.tab⟩
theorem LamGives.on {ps : Arguments} {e : Expr} {sc : Scope} {n : Nat} {x y : FV} (L : LamGives X.toWx ps e sc n x y) (hn : n ≤ X.n) (R : Rep X ρ st s) {a : Addr} {v : Value} (hl : LamAt s.heap a ps e sc) (rx : RepF s.heap x v) : wpAny X.M X.A (call (.ref a) [v]) (fun u s' => X.G s s' ∧ RepF s'.heap y u) NoE s :=
  L X.A X.F [] [] s a v (X.ok.le hn) R.rep0 hl rx
/- a lambda called by its name -/
theorem pe_lamcall {fn : Str} {p pos : Pos} {arg : Expr} {ps : Arguments} {e : Expr} {sc : Scope} {n : Nat} {x y : FV} (hf : PE X st (.Name fn p) (.lam ps e sc)) (h1 : PE X st arg (.f x)) (L : LamGives X.toWx ps e sc n x y) (hn : n ≤ X.n) (hst : starEach [arg] X.env = [(false, eval arg X.env)] := by rfl) :
    PE X st (.Call (.Name fn p) [arg] [] pos) (.f y) := fun ρ s R => by
  refine wpAny_Call_ofName (hf.on R fun v s₁ R₁ G₁ r₁ => ?_)
  (refine oEA r₁ ?_; try clear r₁; rintro a rfl hl)
  (refine oEEEEEAAA (id hl) ?_; rintro o q pm cd ct ho hc hd hcd)
  have hes : PEs X st [arg] [.f x] := .cons h1 .nil hst
  refine callWith_of (P := fun h => ∃ o, h.get? a = some o ∧ o.data = .func (kla_fn "<lambda>" q ps e sc [] pm cd ct)) (by rw [hes.plain]; rfl) (fun h ⟨o, ho, hd⟩ => (iEA (.frame) (.inl rfl) ((Looks.ld (part := none) ho).andThen (by rw [hd]; exact .now)))) ?_
  refine evalArgs_on R₁ hes .nil fun vs kvs s₂ R₂ G₂ rv rk => ?_
  cases rk
  refine rv.c1 (fun _ rx => ?_)
  ·
    have hl₂ : LamAt s₂.heap a ps e sc := by
      (refine oEA (R₁.val_grow (av := .lam ps e sc) (v := .ref a) G₂ (iEA a rfl hl)) ?_; rintro a' ea x)
      cases ea; exact x
    have ho₂ : ∃ o, s₂.heap.get? a = some o ∧ o.data = .func (kla_fn "<lambda>" q ps e sc [] pm cd ct) := by
      (refine oEAA (G₂.same.at (fun z => R₁.func_im ho hc hd (.inr (.inr (.inr z)))) ho) ?_; rintro o' e' _ d')
      exact (iEA o' e' (d'.trans hd))
    exact ⟨ho₂, wpAny_mono (L.on hn R₂ hl₂ rx) (fun u s' h => ⟨(G₁.trans G₂).trans h.1, h.2⟩) fun _ _ x => x⟩
end
end Mine
end
section
open PySem PySem.W PySem.Calls PyProof.Rows
set_option Elab.async false
set_option maxRecDepth 100000
set_option linter.unusedVariables false
set_option linter.unusedSimpArgs false
namespace Mine
section
variable {X : Fx} {st : St} {ρ ρ' : List Addr} {s s' s'' : Shared}

/- [a, b, ..] -/
theorem pn_list {es : List Expr} {pos : Pos} {l : List FV} (h : PEs X st es (l.map .f)) (hz : l.length ≤ 1000) : PN X st (.List es pos) l := fun ρ s R => by
  refine wpAny_List_spliced (h.on R fun vs s₁ R₁ G₁ r₁ => ?_)
  have rf := RepVs.flat r₁
  have hs : sizeLine = 16777216 := rfl
  have hk : ∀ b o, s₁.heap.get? b = some o → (s₁.heap.push { cls := .type "list", data := .seq vs.toArray }).get? b = some o := fun b o e => Heap.get?_push_of_some _ e
  refine (iAAEEAAA (by rw [rf.length]; (exact Nat.le_trans ‹_› (by decide))) (G₁.trans (.keeps hk)) _ vs.toArray rfl ((R.ext G₁).none (Heap.get?_none_of_le (Nat.le_refl _))) (⟨0, Heap.get?_push_size _ rfl⟩) ?_)
  simpa using R₁.flats_same (D := Nowhere) (F := X.F) (.of_keeps hk) (fun _ h => h.elim) rf

/- a call of a type by its name -/
theorem type_on {fn : Str} {p pos : Pos} {es : List Expr} {T : String} {as : List AV} (R : Rep X ρ st s) (hf : PE X st (.Name fn p) (.val (.type T))) (h1 : PEs X st es as) {P : Value → Shared → Prop}
    (k : ∀ vs s', Rep X ρ st s' → X.G s s' → RepVs s'.heap (im X ρ) ρ as vs → wpAny X.M X.A (call (.type T) vs) P NoE s') : wpAny X.M X.A (eval (.Call (.Name fn p) es [] pos) X.env) P NoE s := by
  refine wpAny_Call_ofName (hf.on R fun v s₁ R₁ G₁ r₁ => ?_)
  cases r₁
  refine PyProof.Rows.callWith_type h1.plain (evalArgs_on R₁ h1 .nil fun vs kvs s₂ R₂ G₂ rv rk => ?_)
  cases rk
  exact k vs s₂ R₂ (G₁.trans G₂) rv
theorem builtin_on {fn : Str} {p pos : Pos} {es : List Expr} {id : String} {as : List AV} (R : Rep X ρ st s) (hf : PE X st (.Name fn p) (.val (.builtin id))) (h1 : PEs X st es as) {P : Value → Shared → Prop}
    (k : ∀ vs s', Rep X ρ st s' → X.G s s' → RepVs s'.heap (im X ρ) ρ as vs → wpAny X.M X.A (call (.builtin id) vs) P NoE s') : wpAny X.M X.A (eval (.Call (.Name fn p) es [] pos) X.env) P NoE s := by
  refine wpAny_Call_ofName (hf.on R fun v s₁ R₁ G₁ r₁ => ?_)
  cases r₁
  refine callWith_builtin h1.plain (evalArgs_on R₁ h1 .nil fun vs kvs s₂ R₂ G₂ rv rk => ?_)
  cases rk
  exact k vs s₂ R₂ (G₁.trans G₂) rv

/- a new range -/
noncomputable def PRng (X : Fx) (st : St) (e : Expr) (a b c : Int) : Prop := ∀ ρ s, Rep X ρ st s → wpAny X.M X.A (eval e X.env) (fun v s' => X.G s s' ∧ ∃ r t u w, v = .ref r ∧ s.heap.get? r = none ∧ IsRange s'.heap r a b c t u w) NoE s
theorem prng1 {p pos : Pos} {e : Expr} {b : Int} (hf : PE X st (.Name "range" p) (.val (.type "range"))) (h : PE X st e (.f (.int b))) (hst : starEach [e] X.env = [(false, eval e X.env)] := by rfl) : PRng X st (.Call (.Name "range" p) [e] [] pos) 0 b 1 := fun ρ s R =>
  type_on R hf (.cons h .nil hst) fun vs s₁ R₁ G₁ rv => by
    refine rv.c1 (fun _ r => ?_)
    ·
      obtain ⟨t, rfl⟩ := r
      refine call_range_1 (iAEEEEAA (G₁.trans (.keeps fun b o e => Heap.get?_push_of_some _ e)) _ _ _ _ rfl ((R.ext G₁).none (Heap.get?_none_of_le (Nat.le_refl _))) (IsRange.new ..))
theorem prng2 {p pos : Pos} {e e' : Expr} {a b : Int} (hf : PE X st (.Name "range" p) (.val (.type "range"))) (h : PE X st e (.f (.int a))) (h' : PE X st e' (.f (.int b))) (hst : starEach [e, e'] X.env = [(false, eval e X.env), (false, eval e' X.env)] := by rfl) (hst' : starEach [e'] X.env = [(false, eval e' X.env)] := by rfl) : PRng X st (.Call (.Name "range" p) [e, e'] [] pos) a b 1 := fun ρ s R =>
  type_on R hf (.cons h (.cons h' .nil hst') (by rw [hst, hst'])) fun vs s₁ R₁ G₁ rv => by
    refine rv.c2 (fun _ _ r r' => ?_)
    ·
        obtain ⟨t, rfl⟩ := r
        obtain ⟨t', rfl⟩ := r'
        refine call_range_2 (iAEEEEAA (G₁.trans (.keeps fun b o e => Heap.get?_push_of_some _ e)) _ _ _ _ rfl ((R.ext G₁).none (Heap.get?_none_of_le (Nat.le_refl _))) (IsRange.new ..))
theorem prng3 {p pos : Pos} {e e' e'' : Expr} {a b c : Int} (hf : PE X st (.Name "range" p) (.val (.type "range"))) (h : PE X st e (.f (.int a))) (h' : PE X st e' (.f (.int b))) (h'' : PE X st e'' (.f (.int c))) (hc : c ≠ 0) (hp : Builtin.divisionGoesByPylong (b - a) c = false)
    (hst : starEach [e, e', e''] X.env = [(false, eval e X.env), (false, eval e' X.env), (false, eval e'' X.env)] := by rfl) (hst' : starEach [e', e''] X.env = [(false, eval e' X.env), (false, eval e'' X.env)] := by rfl) (hst'' : starEach [e''] X.env = [(false, eval e'' X.env)] := by rfl) : PRng X st (.Call (.Name "range" p) [e, e', e''] [] pos) a b c := fun ρ s R =>
  type_on R hf (.cons h (.cons h' (.cons h'' .nil hst'') (by rw [hst', hst''])) (by rw [hst, hst'])) fun vs s₁ R₁ G₁ rv => by
    refine rv.c3 (fun _ _ _ r r' r'' => ?_)
    ·
          obtain ⟨t, rfl⟩ := r
          obtain ⟨t', rfl⟩ := r'
          obtain ⟨t'', rfl⟩ := r''
          refine call_range_3 hc (iAEEEEAA (G₁.trans (.keeps fun b o e => Heap.get?_push_of_some _ e)) _ _ _ _ rfl ((R.ext G₁).none (Heap.get?_none_of_le (Nat.le_refl _))) (IsRange.new ..)) (.inl hp)
theorem cs_rng {e : Expr} {a b c : Int} (h : PRng X st e a b c) (hs : Builtin.Range.small a b c = true) : CS X st e (rangeL a c (Builtin.Range.rangeSize a b c).toNat) := fun ρ s R =>
  wpAny_mono (h ρ s R) (fun v s₁ ⟨G, r, t, u, w, ev, hn, hr⟩ => by
    subst ev
    refine wpAny_pyIter_range hr hs ?_
    exact (iAEAA (G.trans (.keeps fun b o e => Heap.get?_push_of_some _ e)) _ rfl ((R.ext G).none (Heap.get?_none_of_le (Nat.le_refl _))) (.inr (iEEEA _ _ _ (Heap.get?_push_size _ rfl) rfl)))) fun _ _ x => x
theorem wi_rng {e : Expr} {a b c : Int} {P : Nat → St → Prop} (h : PRng X st e a b c) (hs : Builtin.Range.small a b c = true) (q : P st.hp.length ⟨st.loc, st.hp ++ [.rng a (Builtin.Range.rangeSize a b c) c]⟩) : WI X e st P := fun ρ s R =>
  wpAny_mono (h ρ s R) (fun v s₁ ⟨G, r, t, u, w, ev, hn, hr⟩ => by
    subst ev
    refine wpAny_pyIter_range hr hs ?_
    obtain ⟨R', E⟩ := R.alloc (ao := .rng a (Builtin.Range.rangeSize a b c) c) (s' := { s₁ with heap := s₁.heap.push { cls := .type "range_iterator", data := .fields #[rawInt a, rawInt (Builtin.Range.rangeSize a b c), rawInt c] } }) (G.trans (.keeps fun b o e => Heap.get?_push_of_some _ e)) (a := s₁.heap.objs.size) ((R.ext G).none (Heap.get?_none_of_le (Nat.le_refl _))) (Heap.get?_push_size _ rfl)
    exact (iEEEEAAAA _ _ _ _ R' E (last_at R.len _) rfl q)) fun _ _ x => x

theorem fitsL {i : Int} (h1 : -(2 ^ 63) ≤ i) (h2 : i < 2 ^ 63) : Builtin.Range.rangeFitsLong i = true := by
  unfold Builtin.Range.rangeFitsLong
  rw [Bool.and_eq_true]
  exact ⟨decide_eq_true h1, decide_eq_true h2⟩
theorem seq_rng (n : Nat) (h : n ≤ 2 ^ 20) : Builtin.Range.small 0 n 1 = true ∧ Builtin.Range.rangeSize 0 n 1 = n := by
  have e : Builtin.Range.rangeSize 0 n 1 = n := by rw [rangeSize_one]; split <;> (first | rfl | lia)
  refine ⟨?_, e⟩
  unfold Builtin.Range.small
  rw [e, fitsL (i := 0) (by lia) (by lia), fitsL (i := (n : Int)) (by lia) (by lia), fitsL (i := 1) (by lia) (by lia), fitsL (i := (n : Int) + (1 - 1)) (by lia) (by lia)]
  simp

/- iter(e) -/
theorem kind_iter' : builtinKind "iter" = none := by decide +kernel
theorem plain_iter' : plainId "iter" = true := by decide +kernel
theorem call_iter' {prog : Program} {w : World} {A : Around} {E : Value → Shared → Prop} {v : Value} {Q : Value → Shared → Prop} (h : wpAny (model prog w) A.in1 (pyIter v) Q E s) : wpAny (model prog w) A (call (.builtin "iter") [v]) Q E s := by
  refine Calls.call_function_entry kind_iter' plain_iter' kdk_entry_iter (kdk_args_iter _) ?_
  unfold Builtin.«iter»
  refine wpAny_bind (m := someArgs "iter" 1 2 _) (wpAny_of_eq (a := [v]) (by first | rfl | kernel_rfl!) ?_)
  exact wpAny_bind (wpAny_mono h (fun it s' q => wpAny_pure (iEA _ rfl q)) fun _ _ x => x)
theorem we_iter {e : Expr} {p pos : Pos} {a : AV} {l : List FV} {P : AV → St → Prop} (hf : PE X st (.Name "iter" p) (.val (.builtin "iter"))) (he : PE X st e a) (hl : a = .lst l) (q : P (.obj st.hp.length) ⟨st.loc, st.hp ++ [.iter l]⟩) (hst : starEach [e] X.env = [(false, eval e X.env)] := by rfl) : WE X (.Call (.Name "iter" p) [e] [] pos) st P := fun ρ s R =>
  builtin_on R hf (.cons he .nil hst) fun vs s₁ R₁ G₁ rv => by
    refine rv.c1 (fun _ r => ?_)
    ·
      subst hl
      (refine oEEAAA r ?_; try clear r; rintro la items rfl hi hl hs)
      have hl := hl.list
      refine call_iter' (wpAny_pyIter_list hl ?_)
      have hk : ∀ b o, s₁.heap.get? b = some o → (s₁.heap.push { cls := .type "list_iterator", data := .fields #[.ref la, .int 0 0] }).get? b = some o := fun b o e => Heap.get?_push_of_some _ e
      have G : X.G s₁ { s₁ with heap := s₁.heap.push { cls := .type "list_iterator", data := .fields #[.ref la, .int 0 0] } } := ⟨.of_keeps hk, .keeps hk, rfl, rfl⟩
      have hla : la ≠ s₁.heap.objs.size := by (refine oEA hl ?_; try clear hl; rintro o e _); exact Nat.ne_of_lt (Heap.lt_size e)
      obtain ⟨R', E⟩ := R₁.alloc (ao := .iter l) G (a := s₁.heap.objs.size) (Heap.get?_none_of_le (Nat.le_refl _)) (iEEEAAA la 0 items ((iEAA _ (Heap.get?_push_size _ rfl) rfl rfl)) (im_more hi hla) (hl.push _) (by simpa using R₁.flats_grow G hs))
      exact (iEEEAAA _ (.obj _) _ R' ((R.ext G₁).trans E) (⟨_, last_at R.len _, rfl⟩) q)
theorem we_iter_own {e : Expr} {p pos : Pos} {k : Nat} {l : List FV} {P : AV → St → Prop} (hf : PE X st (.Name "iter" p) (.val (.builtin "iter"))) (he : PE X st e (.obj k)) (hk : st.hp[k]? = some (.iter l)) (q : P (.obj k) st) (hst : starEach [e] X.env = [(false, eval e X.env)] := by rfl) : WE X (.Call (.Name "iter" p) [e] [] pos) st P := fun ρ s R =>
  builtin_on R hf (.cons he .nil hst) fun vs s₁ R₁ G₁ rv => by
    refine rv.c1 (fun _ r => ?_)
    ·
      (refine oEA r ?_; try clear r; rintro a ea rfl)
      (refine oEEEA (R₁.objIter hk ea) ?_; rintro la i items hit _)
      exact call_iter' (wpAny_pyIter_listiter hit (iEEEAAA ρ (.obj k) st R₁ (R.ext G₁) ((iEA a ea rfl)) q))

/- l[a:b] -/
inductive PPart (X : Fx) (st : St) : Option Expr → Option Int → Prop
  | none : PPart X st none none
  | some {e : Expr} {i : Int} : PE X st e (.f (.int i)) → PPart X st (some e) (some i)
theorem PPart.on {e : Option Expr} {o : Option Int} (h : PPart X st e o) (R : Rep X ρ st s) {Q : Value → Shared → Prop} (k : ∀ v s', Rep X ρ st s' → X.G s s' → IsPart v o → Q v s') : wpAny X.M X.A (evalPart e X.env) Q NoE s := by
  cases h with
  | none => exact wpAny_evalPart_none (k _ s R .refl .none)
  | some h => exact wpAny_evalPart_some (h.on R fun v s' R' G r => by obtain ⟨t, rfl⟩ := r; exact k _ s' R' G (.int _ _))
noncomputable def pickL (l : List FV) (lo hi : Option Int) : List FV := (l.drop (kms_lo lo l.length)).take (kms_hi hi l.length - kms_lo lo l.length)
theorem pn_slice {v : Expr} {lo hi : Option Expr} {a b : Option Int} {p pos : Pos} {av : AV} {l : List FV} (hv : PE X st v av) (hl : asL st.hp av = some l) (h1 : PPart X st lo a) (h2 : PPart X st hi b) (hz : l.length ≤ 2 ^ 20) (ht : ∀ o r, letTemporaryGo v o r = pure () := by intro _ _; rfl) :
    PN X st (.Subscript v (.Slice lo hi none p) pos) (pickL l a b) := fun ρ s R => by
  refine wpAny_Subscript_list_slice (hv.on R fun ov s₁ R₁ G₁ r₁ => h1.on R₁ fun v1 s₂ R₂ G₂ p1 => h2.on R₂ fun v2 s₃ R₃ G₃ p2 => ?_) ht
  (refine oEEAAA (R₃.asL hl (R₁.val_grow (G₂.trans G₃) r₁)) ?_; rintro la items rfl hli hs hsz)
  have hk : ∀ c o, s₃.heap.get? c = some o → ((s₃.heap.push { cls := .type "slice", data := .fields #[v1, v2, .none] }).push { cls := .type "list", data := .seq (slicePick items a b none) }).get? c = some o := fun c o e => Heap.get?_push_of_some _ (Heap.get?_push_of_some _ e)
  have G := (G₁.trans G₂).trans G₃
  refine ⟨la, items, a, b, rfl, hli, by have := sl20; (exact Nat.le_trans (Nat.le_of_eq ‹_›) (Nat.le_trans ‹_› (by decide))), p1, p2, G.trans (.keeps hk), _, slicePick items a b none, rfl, ?_, ⟨0, ?_⟩, ?_⟩
  · exact (R.ext G).none (Heap.get?_none_of_le (Nat.le_succ _))
  · have e1 := Heap.get?_push_size (s₃.heap.push { cls := .type "slice", data := .fields #[v1, v2, .none] }) (o := { cls := .type "list", data := .seq (slicePick items a b none) }) rfl
    rw [Heap.size_push] at e1
    exact e1
  · have r := RepFs.same (D := Nowhere) (F := X.F) (.of_keeps hk) (fun _ _ _ h => h) l hs
    have e : (slicePick items a b none).toList = kms_pick items.toList a b := by rw [kms_pick_eq]
    rw [e]
    show RepFs _ (pickL l a b) (kms_pick items.toList a b)
    have hlen : items.toList.length = l.length := hs.length
    unfold kms_pick pickL
    rw [hlen]
    exact (r.drop _).take _

/- a + b of lists -/
theorem pn_add {x y : Expr} {pos : Pos} {a c : AV} {l m : List FV} (hx : PE X st x a) (hy : PE X st y c) (hl : asL st.hp a = some l) (hm : asL st.hp c = some m) (hz : l.length + m.length ≤ 2 ^ 20) : PN X st (.BinOp x .Add y pos) (l ++ m) := fun ρ s R => by
  refine wpAny_BinOp (hx.on R fun v s₁ R₁ G₁ r₁ => hy.on R₁ fun u s₂ R₂ G₂ r₂ => ?_)
  (refine oEEAAA (R₂.asL hl (R₁.val_grow G₂ r₁)) ?_; rintro la items rfl hli hs hsz)
  (refine oEEAAA (R₂.asL hm r₂) ?_; rintro lb items' rfl hli' hs' hsz')
  (refine oEAAE (id hli) ?_; rintro ⟨cls, dd, data, sl⟩ ho hc n hd)
  (refine oEAAE (id hli') ?_; rintro ⟨cls2, dd2, data2, sl2⟩ ho2 hc2 n2 hd2)
  simp only at hc hd hc2 hd2
  subst hc hd hc2 hd2
  refine concat_meets ⟨_, ho, rfl⟩ (iEA _ ho2 rfl) noFill_list_add seq_list_add PySem.F.slot_list_add PySem.F.entry_list_add (PySem.F.args_list_add_2 _ _) (list_addW la lb items items' n n2 dd dd2 sl sl2 (by have := sl20; lia)) ⟨ho, ho2, ?_⟩
  have hk : ∀ b o, s₂.heap.get? b = some o → (s₂.heap.push { cls := Value.type "list", data := Data.seq (items ++ items') }).get? b = some o := fun b o e => Heap.get?_push_of_some _ e
  have G := G₁.trans G₂
  refine (iAEEAAA (G.trans (.keeps hk)) _ (items ++ items') rfl ((R.ext G).none (Heap.get?_none_of_le (Nat.le_refl _))) (⟨0, Heap.get?_push_size _ rfl⟩) ?_)
  rw [Array.toList_append]
  exact RepFs.same (D := Nowhere) (F := X.F) (.of_keeps hk) (fun _ _ _ h => h) _ (hs.append hs')
end
end Mine
end
section
open PySem PySem.W PySem.Calls PyProof.Rows
set_option Elab.async false
set_option maxRecDepth 100000
set_option linter.unusedVariables false
set_option linter.unusedSimpArgs false
namespace Mine
section
variable {prog : Program} {w : World} {A : Around} {E : Value → Shared → Prop} {s : Shared}
theorem rangeFields' {r : Addr} {a b c : Int} {t u v : Tok} {Q : Int × Int × Int → Shared → Prop} (hr : IsRange s.heap r a b c t u v) (h : Q (a, b, c) s) : wpAny (model prog w) A (Builtin.Range.rangeFields (.ref r)) Q E s :=
  wpAny_bind (wpAny_field hr rfl (x := .int a t) rfl (wpAny_bind (wpAny_of_eq (a := some a) rfl (wpAny_bind (wpAny_field hr rfl (x := .int b u) rfl (wpAny_bind (wpAny_of_eq (a := some b) rfl (wpAny_bind (wpAny_field hr rfl (x := .int c v) rfl (wpAny_bind (wpAny_of_eq (a := some c) rfl (wpAny_pure h))))))))))))
/- reversed(range) -/
theorem call_range_reversed' {r : Addr} {n : Nat} {t u v : Tok} {Q : Value → Shared → Prop} (hr : IsRange s.heap r 0 n 1 t u v) (hn : n ≤ 2 ^ 20)
    (h : Q (.ref s.heap.objs.size) { s with heap := s.heap.push { cls := .type "range_iterator", data := .fields #[rawInt ((n : Int) - 1), rawInt n, rawInt (-1)] } }) : wpAny (model prog w) A (call (.builtin "range.__reversed__") [.ref r]) Q E s := by
  have hT : s.TypeIs (.ref r) "range" := (iEA _ hr rfl)
  refine wpAny_call_entry F.slot_range_reversed hT F.entry_range_reversed ?_ (F.args_range_reversed_1 _)
  have hz := (seq_rng n hn).2
  have hsm : (Builtin.Range.rangeFitsLong 0 && Builtin.Range.rangeFitsLong (n : Int) && Builtin.Range.rangeFitsLong 1 && Builtin.Range.rangeFitsLong (-1) && Builtin.Range.rangeFitsLong (0 - 1) && Builtin.Range.rangeFitsLong (Builtin.Range.rangeSize 0 n 1)) = true := by
    rw [hz, fitsL (i := 0) (by lia) (by lia), fitsL (i := (n : Int)) (by lia) (by lia), fitsL (i := 1) (by lia) (by lia), fitsL (i := -1) (by lia) (by lia), fitsL (i := 0 - 1) (by lia) (by lia)]
    rfl
  have hx : (0 : Int) + (Builtin.Range.rangeSize 0 n 1 - 1) * 1 = (n : Int) - 1 := by rw [hz]; simp
  unfold Builtin.«range.__reversed__»
  refine wpAny_bind (wpAny_of_eq (a := Value.ref r) rfl ?_)
  refine wpAny_bind (rangeFields' hr ?_)
  dsimp only
  rw [hsm]
  simp only [Bool.not_true, Bool.false_eq_true, if_false, if_true]
  refine wpAny_bind (wpAny_newObj_type (wpAny_pure (iEA _ rfl ?_)) (by size_fits))
  rw [hx, hz]
  exact h
theorem sub_ri_reversed : isSubtype (.type "range_iterator") (.type "reversed") = pure false := by rw [isSubtype_type]; kernel_rfl
theorem call_reversed_rng {r : Addr} {n : Nat} {t u v : Tok} {Q : Value → Shared → Prop} (hr : IsRange s.heap r 0 n 1 t u v) (hn : n ≤ 2 ^ 20)
    (h : Q (.ref s.heap.objs.size) { s with heap := s.heap.push { cls := .type "range_iterator", data := .fields #[rawInt ((n : Int) - 1), rawInt n, rawInt (-1)] } }) : wpAny (model prog w) A (call (.type "reversed") [.ref r]) Q E s := by
  have hT : s.TypeIs (.ref r) "range" := (iEA _ hr rfl)
  have hnew : codeAny (model prog w) A.in1 (.call (.builtin "reversed.__new__") ⟨[.type "reversed", .ref r], []⟩) (wants (fun obj s₁ => obj = .ref s.heap.objs.size ∧ s₁ = { s with heap := s.heap.push { cls := .type "range_iterator", data := .fields #[rawInt ((n : Int) - 1), rawInt n, rawInt (-1)] } }) E) s := by
    refine codeAny_of_tree ?_
    show wpAny _ A.in1.in1 (do checkBuiltinCall "reversed.__new__" ⟨[.type "reversed", .ref r], []⟩; again (.builtin "reversed.__new__" ⟨[.type "reversed", .ref r], []⟩)) _ _ s
    refine wpAny_bind (wpAny_of_eq (F.newCall_reversed_1 _) (wpAny_pure ⟨plainId_quiet F.plain_reversed_new _, codeAny_builtin F.entry_reversed_new ?_⟩))
    rw [Around.under_plainId F.plain_reversed_new _]
    unfold Builtin.«reversed.__new__»
    refine wpAny_bind (wpAny_of_eq (newClass_reversed _) ?_)
    try dsimp only
    refine wpAny_bind (wpAny_of_eq (a := ()) (by first | rfl | kernel_rfl) ?_)
    refine wpAny_bind (wpAny_of_eq (a := ()) (by first | rfl | kernel_rfl) ?_)
    try dsimp only
    refine wpAny_bind (wpAny_specialOf hT F.slot_range_reversed.lookup ?_)
    try dsimp only
    refine wpAny_bind (wpAny_of_eq (F.slot_range_reversed.bind _) ?_)
    try dsimp only
    first
    | rw [if_neg (show ¬ ((Value.builtin "range.__reversed__" == Value.none) = true) from Bool.false_ne_true)]
    | (show wpAny _ _ (if (Value.builtin "range.__reversed__" == Value.none) = true then _ else _) _ _ _; rw [if_neg (show ¬ ((Value.builtin "range.__reversed__" == Value.none) = true) from Bool.false_ne_true)])
    refine wpAny_bind (wpAny_rule ?_)
    refine wpAny_bind (m := runValue (.call (.builtin "range.__reversed__") ⟨[.ref r], []⟩)) (show wpAny _ _ (call (.builtin "range.__reversed__") [.ref r]) _ _ _ from call_range_reversed' hr hn ?_)
    first
    | exact wpAny_pure ⟨rfl, rfl⟩
    | exact wpAny_bind (wpAny_pure (wpAny_pure ⟨rfl, rfl⟩))
  refine callType_other (U := "range_iterator") (Q₁ := fun obj s₁ => obj = .ref s.heap.objs.size ∧ s₁ = { s with heap := s.heap.push { cls := .type "range_iterator", data := .fields #[rawInt ((n : Int) - 1), rawInt n, rawInt (-1)] } }) (by decide +kernel) F.create_reversed (iEE _ _ F.mro_reversed) F.made_reversed sub_ri_reversed (F.typeCall_reversed_1 _) hnew ?_
  rintro obj s₁ ⟨rfl, rfl⟩
  exact ⟨(iEA _ (Heap.get?_push_size _ rfl) rfl), h⟩
theorem pyIter_rngiter {I : Addr} {x n c : Int} {Q : Value → Shared → Prop} (hit : IsRangeIter s.heap I x n c) (h : Q (.ref I) s) : wpAny (model prog w) A (pyIter (.ref I)) Q E s := by
  have hT : s.TypeIs (.ref I) "range_iterator" := (iEA _ hit rfl)
  refine wpAny_pyIter_slot hT F.slot_range_iterator_iter (wpAny_call_entry F.slot_range_iterator_iter hT F.entry_range_iterator_iter ?_ (F.args_range_iterator_iter_1 _))
  show wpAny _ _ (ret (.ref I)) _ _ s
  exact wpAny_pure (iEAEEAA _ rfl ("range_iterator") _ hT F.slot_range_iterator_next.lookup h)
end
section
variable {X : Fx} {st : St} {ρ ρ' : List Addr} {s s' s'' : Shared}

theorem Rep.asPL (R : Rep X ρ st s) {a : AV} {l : List FV} {v : Value} (h : Mine.asL st.hp a = some l) (r : RepV s.heap (im X ρ) ρ a v) : ∃ la items, v = .ref la ∧ PL s.heap la items ∧ RepFs s.heap l items.toList ∧ items.size = l.length := by
  cases a with
  | lst l' =>
    cases h
    (refine oEEAAA r ?_; try clear r; rintro la items e _ hl hs)
    exact (iEEAAA la items e hl hs (by rw [← hs.length]; simp))
  | obj k =>
    simp only [Mine.asL] at h
    split at h
    · rename_i l' e
      cases h
      (refine oEA (R.obj k _ e) ?_; rintro a ea ra)
      (refine oEA r ?_; try clear r; rintro a' ea' ev)
      obtain rfl : a = a' := Option.some.inj (ea.symm.trans ea')
      (refine oEA ra ?_; try clear ra; rintro items ⟨n, e⟩ hs)
      exact (iEEAAA a items ev ((iEAAAE _ e rfl rfl n rfl)) hs (by rw [← hs.length]; simp))
    · cases h
  | f x => cases h
  | val x => cases h
  | lam p e sc => cases h
/- for i in reversed(range(n)) -/
theorem wi_revrng {e : Expr} {p pos : Pos} {n : Nat} {P : Nat → St → Prop} (hf : PE X st (.Name "reversed" p) (.val (.type "reversed"))) (h : PRng X st e 0 n 1) (hn : n ≤ 2 ^ 20) (q : P st.hp.length ⟨st.loc, st.hp ++ [.rng ((n : Int) - 1) n (-1)]⟩) (hst : starEach [e] X.env = [(false, eval e X.env)] := by rfl) : WI X (.Call (.Name "reversed" p) [e] [] pos) st P := fun ρ s R => by
  refine wpAny_Call_ofName (hf.on R fun v s₁ R₁ G₁ r₁ => ?_)
  cases r₁
  rw [hst]
  refine PyProof.Rows.callWith_type rfl (evalArgs_plain (spliced_cons (wpAny_mono (h ρ s₁ R₁) (fun v s₂ ⟨G, r, t, u, w, ev, hnn, hr⟩ => spliced_nil ?_) fun _ _ x => x)))
  subst ev
  refine call_reversed_rng hr hn ?_
  have G2 := G₁.trans G
  obtain ⟨R', E⟩ := R.alloc (ao := .rng ((n : Int) - 1) n (-1)) (s' := { s₂ with heap := s₂.heap.push { cls := .type "range_iterator", data := .fields #[rawInt ((n : Int) - 1), rawInt n, rawInt (-1)] } }) (G2.trans (.keeps fun b o e => Heap.get?_push_of_some _ e)) (a := s₂.heap.objs.size) ((R.ext G2).none (Heap.get?_none_of_le (Nat.le_refl _))) (Heap.get?_push_size _ rfl)
  exact pyIter_rngiter (Heap.get?_push_size _ rfl) (iEEEEAAAA _ _ _ _ R' E (last_at R.len _) rfl q)
/- o[i] as a target -/
theorem at_item {o i : Expr} {pos : Pos} {k : Nat} {j : Int} {x : FV} {l : List FV} (ho : PE X st o (.obj k)) (hi : PE X st i (.f (.int j))) (hl : st.hp[k]? = some (.list l)) (h0 : 0 ≤ j) (h1 : j < l.length) (hz : l.length ≤ 2 ^ 20) : AT X (.Subscript o i pos) x st ⟨st.loc, st.hp.set k (.list (l.set j.toNat x))⟩ := fun ρ s v R rx => by
  rw [assign_Subscript]
  refine wpAny_bind (wpAny_holding (ho.on R fun ov s₁ R₁ G₁ r₁ => wpAny_bind (wpAny_holding (hi.on R₁ fun iv s₂ R₂ G₂ r₂ => wpAny_bind (wpAny_standAt (wpAny_bind (wpAny_holding ?_)))))))
  obtain ⟨t, rfl⟩ := r₂
  (refine oEEEAAAA (R₂.objList hl (R₁.val_grow G₂ r₁)) ?_; rintro a items n ea rfl eo hr hsz)
  have rx' : RepF s₂.heap x v := R.flat_grow (G₁.trans G₂) rx
  refine ki_setAt eo h0 (by lia) (by lia) ?_
  obtain ⟨R', E⟩ := R₂.remap (tk := s₂.toks) (l' := l.set j.toNat x) (f := fun xs => xs.setIfInBounds j.toNat v) ea eo (by rw [Array.toList_setIfInBounds]; exact hr.set rx')
  exact wpAny_release ⟨R', (R.ext (G₁.trans G₂)).trans E⟩
/- a, b = e -/
theorem ws1_unpack {ts : List Expr} {c : Nat} {tp pos : Pos} {e : Expr} {x : FV} {st' : St} {Q : AF → St → Prop} (he : PE X st e (.f x)) (ha : AT X (.Tuple ts c tp) x st st') (q : Q .next st') (hs : swapsWithSole [.Tuple ts c tp] e pos.line X.env = pure false := by rfl) (hw : swappedStores [.Tuple ts c tp] e X.env = pure none := by rfl) : WS1 X (.Assign [.Tuple ts c tp] e pos) st Q := fun ρ s R =>
  Assign_Tuple (he.on R fun v s₁ R₁ G₁ r₁ => wpAny_mono (ha ρ s₁ v R₁ r₁) (fun _ s₂ h => (iEEEAAA ρ (.next) st' h.1 ((R.ext G₁).trans h.2) rfl q)) fun _ _ x => x) hs hw
/- x += e -/
theorem ws1_iadd {x : Str} {p pos : Pos} {e : Expr} {i j : Int} {Q : AF → St → Prop} (hk : Keeps X x) (hx : st.loc.lookup x = some (.f (.int i))) (he : PE X st e (.f (.int j))) (q : Q .next (st.set x (.f (.int (i + j))))) (hd : (x == ("__debug__" : Str)) = false := by decide) : WS1 X (.AugAssign (.Name x p) .Add e pos) st Q := fun ρ s R => by
  refine wpAny_AugAssign_Name ?_
  (refine oEA (R.var x _ hx) ?_; rintro v hv r)
  have go : ∀ v, RepV s.heap (im X ρ) ρ (.f (.int i)) v → wpAny X.M X.A (eval e X.env) (fun v₁ s₂ => wpAny X.M X.A (inplaceOp .Add v v₁) (fun r s₃ => wpAny X.M X.A (storeName X.env x r) (fun _ => Ends X ρ s Q .next) NoE s₃) NoE s₂) NoE s := fun v r => by
    obtain ⟨t, rfl⟩ := r
    refine he.on R fun u s₂ R₂ G₂ r₂ => ?_
    obtain ⟨t', rfl⟩ := r₂
    refine AutoIntOps.iadd_0 ?_
    have G3 : X.G s₂ { s₂ with toks := s₂.toks + 1 } := .toks _
    exact (R₂.grow G3).store (av := .f (.int (i + j))) hk ⟨_, rfl⟩ fun s₄ R₄ E₄ => (iEEEAAA ρ (.next) _ R₄ ((R.ext (G₂.trans G3)).trans E₄) rfl q)
  rcases hv with ⟨k, m, n, q'⟩ | ⟨k, c, q', n⟩
  · exact wpAny_loadName_local X.hk k n q' (go v r)
  · rcases k with k | k
    · exact wpAny_loadName_cell X.hk k q' n (go v r)
    · rcases hk with hk | ⟨hk, _⟩ <;> (rw [k] at hk; cases hk)
theorem ws1_isub {x : Str} {p pos : Pos} {e : Expr} {i j : Int} {Q : AF → St → Prop} (hk : Keeps X x) (hx : st.loc.lookup x = some (.f (.int i))) (he : PE X st e (.f (.int j))) (q : Q .next (st.set x (.f (.int (i - j))))) (hd : (x == ("__debug__" : Str)) = false := by decide) : WS1 X (.AugAssign (.Name x p) .Sub e pos) st Q := fun ρ s R => by
  refine wpAny_AugAssign_Name ?_
  (refine oEA (R.var x _ hx) ?_; rintro v hv r)
  have go : ∀ v, RepV s.heap (im X ρ) ρ (.f (.int i)) v → wpAny X.M X.A (eval e X.env) (fun v₁ s₂ => wpAny X.M X.A (inplaceOp .Sub v v₁) (fun r s₃ => wpAny X.M X.A (storeName X.env x r) (fun _ => Ends X ρ s Q .next) NoE s₃) NoE s₂) NoE s := fun v r => by
    obtain ⟨t, rfl⟩ := r
    refine he.on R fun u s₂ R₂ G₂ r₂ => ?_
    obtain ⟨t', rfl⟩ := r₂
    refine AutoIntOps.isub_0 ?_
    have G3 : X.G s₂ { s₂ with toks := s₂.toks + 1 } := .toks _
    exact (R₂.grow G3).store (av := .f (.int (i - j))) hk ⟨_, rfl⟩ fun s₄ R₄ E₄ => (iEEEAAA ρ (.next) _ R₄ ((R.ext (G₂.trans G3)).trans E₄) rfl q)
  rcases hv with ⟨k, m, n, q'⟩ | ⟨k, c, q', n⟩
  · exact wpAny_loadName_local X.hk k n q' (go v r)
  · rcases k with k | k
    · exact wpAny_loadName_cell X.hk k q' n (go v r)
    · rcases hk with hk | ⟨hk, _⟩ <;> (rw [k] at hk; cases hk)
/- is None -/
noncomputable def AV.isNone : AV → Option Bool
  | .f .none => some true
  | .f _ => some false
  | .lam _ _ _ => some false
  | .lst _ => some false
  | .obj _ => some false
  | .val _ => none
theorem co_isNone {a : AV} {b : Bool} (h : a.isNone = some b) : CO X st .Is a (.f .none) b := by
  rintro ρ s v u R r ru
  have ru : u = .none := ru
  subst ru
  have key : ∀ v, (v = .none ∧ b = true) ∨ ((∃ a, v = .ref a) ∨ (∃ i t, v = .int i t) ∨ (∃ c, v = .bool c)) ∧ b = false → wpAny X.M X.A (compareOp .Is v .none) (fun r s' => r = .bool b ∧ X.G s s') NoE s := by
    rintro v (⟨rfl, rfl⟩ | ⟨⟨a, rfl⟩ | ⟨i, t, rfl⟩ | ⟨c, rfl⟩, rfl⟩)
    · exact wpAny_is_self rfl ⟨rfl, .refl⟩
    · exact wpAny_is_other rfl (by simp) ⟨rfl, .refl⟩
    · exact wpAny_is_other rfl (by simp) ⟨rfl, .refl⟩
    · exact wpAny_is_other rfl (by simp) ⟨rfl, .refl⟩
  refine key v ?_
  cases a with
  | f x =>
    cases x with
    | none => cases h; exact .inl ⟨r, rfl⟩
    | bool c => cases h; exact .inr ⟨.inr (.inr ⟨_, r⟩), rfl⟩
    | int i => cases h; obtain ⟨t, r⟩ := r; exact .inr ⟨.inr (.inl (iEE _ _ r)), rfl⟩
    | tup l => cases h; simp only [RepV, RepF] at r; (refine oEEA r ?_; try clear r; rintro a _ r _); exact .inr ⟨.inl ⟨_, r⟩, rfl⟩
  | lst l => cases h; (refine oEEA r ?_; try clear r; rintro a _ r _); exact .inr ⟨.inl ⟨_, r⟩, rfl⟩
  | obj k => cases h; (refine oEA r ?_; try clear r; rintro a _ r); exact .inr ⟨.inl ⟨_, r⟩, rfl⟩
  | lam p e sc => cases h; (refine oEA r ?_; try clear r; rintro a r _); exact .inr ⟨.inl ⟨_, r⟩, rfl⟩
  | val x => cases h

/- l.index(i) of ints -/
theorem pe_index {o e : Expr} {apos pos : Pos} {a : AV} {ls : List Int} {i : Int} {j : Nat} (ho : PE X st o a) (hl : asL st.hp a = some (ls.map .int)) (he : PE X st e (.f (.int i))) (hj : ls[j]? = some i) (hno : ∀ m, m < j → ls[m]? ≠ some i) (hz : ls.length ≤ 2 ^ 20)
    (hbase : attributeBase o "index" X.env (eval o X.env) = eval o X.env := by rfl) (hst : starEach [e] X.env = [(false, eval e X.env)] := by rfl) (hline : (apos.endLine == pos.line) = true := by rfl) :
    PE X st (.Call (.Attribute o "index" apos) [e] [] pos) (.f (.int j)) := fun ρ s R => by
  refine wpAny_Call_method hbase (by rw [hst]; rfl) hline F.plainAttrs_list F.slot_list_index F.type_list_index (ho.on R fun v s₁ R₁ G₁ r₁ => ?_)
  (refine oEEAAA (R₁.asPL hl r₁) ?_; rintro la items rfl hli hs hsz)
  refine ⟨hli.list.typeIs, fun b e => by cases e; (refine oEAAA hli ?_; try clear hli; rintro o e _ d _); exact (iEA o e d), ?_⟩
  rw [hst]
  refine callWith_builtin rfl (evalArgs_plain (spliced_cons (he.on R₁ fun iv s₂ R₂ G₂ r₂ => spliced_nil ?_)))
  obtain ⟨t, rfl⟩ := r₂
  (refine oEEAAA (R₂.asL hl (R₁.val_grow G₂ r₁)) ?_; rintro la' items' ela hli₂ hs₂ hsz₂)
  cases ela
  (refine oEAAE (id hli₂) ?_; rintro ⟨cls, dd, data, sl⟩ ho' hc n hd)
  simp only at hc hd
  subst hc hd
  have hjl : j < ls.length := (List.getElem?_eq_some_iff.mp hj).1
  have hsz3 : items'.size = ls.length := by simpa using hsz₂
  have hget : ∀ (m : Nat) (hm : m < items'.size), ∃ t', items'[m] = .int (ls[m]'(by (exact Nat.lt_of_lt_of_eq ‹_› ‹_›))) t' := fun m hm => by
    (refine oEA (hs₂.get (i := m) (x := .int (ls[m]'(by lia))) (by simp)) ?_; rintro v ev rv)
    obtain ⟨t', rfl⟩ := rv
    refine ⟨t', ?_⟩
    rw [Array.getElem?_toList, Array.getElem?_eq_getElem hm] at ev
    exact Option.some.inj ev
  refine call_meets F.slot_list_index (iEA _ ho' rfl) F.entry_list_index (F.args_list_index_2 _ _) (SeqAt.list_indexAt la items' n dd sl (.int i t) (fun y => match y with | .int k _ => k == i | _ => false) j (by (exact Nat.lt_of_lt_of_eq ‹_› (Eq.symm ‹_›))) (by lia) ?_ ?_) ⟨ho', ?_, ?_⟩
  · obtain ⟨t', e'⟩ := hget j (by lia)
    rw [e']
    have : ls[j] = i := by rw [List.getElem?_eq_getElem hjl] at hj; exact Option.some.inj hj
    simp [this]
  · intro m hm hmj
    obtain ⟨t', e'⟩ := hget m hm
    rw [e']
    have : ls[m]'(by (exact Nat.le_trans ‹_› (Nat.le_of_lt ‹_›))) ≠ i := fun q => hno m hmj (by rw [List.getElem?_eq_getElem (by lia), q])
    simp [this]
  · intro y hy
    obtain ⟨m, hm, rfl⟩ := Array.mem_iff_getElem.mp hy
    obtain ⟨t', e'⟩ := hget m hm
    rw [e']
    exact SeqAt.EqAt.int_int _ _ _ _
  · exact (iAE ((G₁.trans G₂).trans (.toks _)) _ rfl)
end
end Mine
end
section
open PySem PySem.W PySem.Calls PyProof.Rows
set_option Elab.async false
set_option maxRecDepth 100000
set_option linter.unusedVariables false
set_option linter.unusedSimpArgs false
namespace Mine
open Classical

/- keys that are sorted as the machine does it: what it asks, and of what make they are -/
structure Keyed' (prog : Program) (w : World) (A : Around) (s : Shared) (ks : List Value) (kf : List FV) (κ : SortKind) : Prop where
  kind : 2 ≤ ks.length → ∀ (Q : SortKind → Shared → Prop) (E : Value → Shared → Prop), Q κ s → wpAny (model prog w) A (keyKind' ks.toArray) Q E s
  lt : ∀ (i j : Nat) (v u : Value) (x y : FV), ks[i]? = some v → ks[j]? = some u → kf[i]? = some x → kf[j]? = some y → ∀ (Q : Bool → Shared → Prop) (E : Value → Shared → Prop), Q (x.lt y) s → wpAny (model prog w) A (keyLt' κ v u) Q E s
noncomputable def cmpF (kf : List FV) (i j : Nat) : Bool := if i < kf.length then (if j < kf.length then (kf.getD i .none).lt (kf.getD j .none) else true) else false

section
variable {prog : Program} {w : World} {A : Around} {E : Value → Shared → Prop} {s : Shared}
theorem sort_core {ks vs : List Value} {kf : List FV} {κ : SortKind} {b : Bool} {P : PySem.Fin → Shared → Prop} {k : SortSt → Sem PySem.Fin} (hl : ks.length = vs.length) (hkl : kf.length = vs.length) (h64 : vs.length < 64)
    (K : Keyed' prog w A s ks kf κ) (o : Ord (cmpF (katRev b kf)))
    (h : ∀ (st : SortSt) (p : List Nat), p.Perm (List.range vs.length) → p.Pairwise (Lex (cmpF (katRev b kf))) → (arrOf st).map (·.2) = (p.map fun i => (katRev b vs).getD i Value.none).toArray → (arrOf st).map (·.1) = (p.map fun i => (katRev b ks).getD i Value.none).toArray → failedOf st = none → wpAny (model prog w) A (k st) P E s) :
    wpAny (model prog w) A (do
      let kind ← if vs.toArray.size < 2 then pure general' else keyKind' ks.toArray
      let ((), st) ← (if vs.toArray.size < 2 then pure () else sortRuns').run (SortSt.mk' kind (if b then (ks.toArray.zip vs.toArray).reverse else ks.toArray.zip vs.toArray) #[] 7 none)
      k st) P E s := by
  have hrl : (katRev b ks).length = (katRev b vs).length := by rw [kat_len, kat_len, hl]
  have hvl : (katRev b vs).length = vs.length := kat_len b vs
  rw [kat_pairs b hl]
  have hn : ¬ vs.toArray.size < 2 ↔ 2 ≤ vs.length := by rw [List.size_toArray]; simp
  by_cases h2 : vs.toArray.size < 2
  · rw [if_pos h2, if_pos h2]
    refine wpAny_bind (wpAny_pure ?_)
    dsimp only
    rw [StateT.run_pure]
    refine wpAny_bind (wpAny_pure ?_)
    have e1 := kas_range ((List.toArray (katRev b ks)).zip (List.toArray (katRev b vs)))
    have hz : ((List.toArray (katRev b ks)).zip (List.toArray (katRev b vs))).size = vs.length := by simp [hrl, hvl]
    have hpl : (List.range vs.length).Pairwise (Lex (cmpF (katRev b kf))) := by
      have : vs.length < 2 := by rw [List.size_toArray] at h2; exact h2
      rw [List.pairwise_iff_getElem]
      intro i j hi hj hij
      simp at hi hj
      lia
    refine h _ (List.range vs.length) (.refl _) hpl ?_ ?_ rfl
    · show Array.map (·.2) ((List.toArray (katRev b ks)).zip (List.toArray (katRev b vs))) = _
      rw [← e1, hz, Array.map_map]
      apply Array.toList_inj.mp
      rw [Array.toList_map]
      exact List.map_congr_left fun i _ => by show (kas_item ((katRev b ks).toArray.zip (katRev b vs).toArray) i).2 = _; rw [kat_item hrl]
    · show Array.map (·.1) ((List.toArray (katRev b ks)).zip (List.toArray (katRev b vs))) = _
      rw [← e1, hz, Array.map_map]
      apply Array.toList_inj.mp
      rw [Array.toList_map]
      exact List.map_congr_left fun i _ => by show (kas_item ((katRev b ks).toArray.zip (katRev b vs).toArray) i).1 = _; rw [kat_item hrl]
  · have h2' := hn.mp h2
    rw [if_neg h2, if_neg h2]
    refine wpAny_bind (K.kind (by (exact Nat.lt_of_lt_of_eq ‹_› (Eq.symm ‹_›))) _ _ ?_)
    have ask : ∀ i j C, i < vs.length → j < vs.length → C (cmpF (katRev b kf) i j) s → kas_ask prog w A κ (katRev b ks) i j C s := by
      intro i j C hi hj hC
      have key : ∀ i, i < vs.length → ∃ i' v x, i' < vs.length ∧ ks[i']? = some v ∧ kf[i']? = some x ∧ (katRev b ks).getD i Value.none = v ∧ (katRev b kf).getD i .none = x := by
        intro i hi
        cases b with
        | false => exact (iEEEAAAA i (ks[i]'(by (exact Nat.lt_of_lt_of_eq ‹_› (Eq.symm ‹_›)))) (kf[i]'(by (exact Nat.lt_of_lt_of_eq ‹_› (Eq.symm ‹_›)))) hi (by simp) (by simp) (by simp [katRev, show i < ks.length by lia]) (by simp [katRev, show i < kf.length by lia]))
        | true =>
          refine (iEEEAAAA (vs.length - 1 - i) (ks[vs.length - 1 - i]'(by omega)) (kf[vs.length - 1 - i]'(by omega)) (by omega) (by simp) (by simp) ?_ ?_)
          · simp only [katRev, if_true]
            rw [List.getD_eq_getElem?_getD, List.getElem?_reverse (by lia), List.getElem?_eq_getElem (by omega)]
            simp [hl]
          · simp only [katRev, if_true]
            rw [List.getD_eq_getElem?_getD, List.getElem?_reverse (by lia), List.getElem?_eq_getElem (by omega)]
            simp [hkl]
      (refine oEEEAAAA (key i hi) ?_; rintro i' v x hi' e1 e2 e3 e4)
      (refine oEEEAAAA (key j hj) ?_; rintro j' u y hj' f1 f2 f3 f4)
      unfold kas_ask
      rw [e3, f3]
      refine K.lt i' j' v u x y e1 f1 e2 f2 _ _ ?_
      have : cmpF (katRev b kf) i j = x.lt y := by unfold cmpF; rw [if_pos (by rw [kat_len]; lia), if_pos (by rw [kat_len]; lia), e4, f4]
      rw [← this]; exact hC
    have hG := runs_wp (c := cmpF (katRev b kf)) (n := vs.length) (cmp := kas_ask prog w A κ (katRev b ks)) ask (G := fun p s' => s' = s ∧ p.size = vs.length ∧ p.toList.Perm (List.range vs.length) ∧ p.toList.Pairwise (Lex (cmpF (katRev b kf)))) (kas_sort vs.length)
      (runs_sort o (by (exact Nat.lt_of_succ_lt ‹_›)) _ fun p hs hp ha => ⟨rfl, hs, Array.perm_iff_toList_perm.mp hp, by
        rw [List.pairwise_iff_getElem]
        intro i j hi hj hij
        have := ha i j hij (by simpa [hs] using hj)
        have e : ∀ k (hk : k < p.toList.length), g p k = p.toList[k] := fun k hk => by
          have hk' : k < p.size := by simpa using hk
          show p.getD k 0 = _
          simp [Array.getD, hk']
        rwa [e i hi, e j hj] at this⟩)
    rw [← hvl] at hG
    refine wpAny_bind (wpAny_mono (kat_run (Q := fun st' s' => s' = s ∧ ∃ p : Array Nat, p.size = vs.length ∧ p.toList.Perm (List.range vs.length) ∧ p.toList.Pairwise (Lex (cmpF (katRev b kf))) ∧ arrOf st' = p.map (kas_item ((List.toArray (katRev b ks)).zip (List.toArray (katRev b vs)))) ∧ failedOf st' = none)
      hrl (by (exact Nat.lt_of_lt_of_eq ‹_› (Eq.symm ‹_›))) (by lia) (fun p st' s' a1 a2 a3 a4 => (iAEAAAA a4.1 p (by rw [← hvl]; exact a1) (by rw [← hvl]; exact a4.2.2.1) a4.2.2.2 a2 a3)) hG) ?_ fun _ _ e => e)
    (rintro ⟨⟨⟩, st'⟩ s' zq1; refine oAEAAAA zq1 ?_; clear zq1; rintro rfl p hp hpp hpl har hf)
    refine h st' p.toList hpp hpl (kat_snds hrl har) ?_ hf
    apply Array.toList_inj.mp
    rw [har, Array.map_map, Array.toList_map]
    exact List.map_congr_left fun i _ => by show (kas_item ((katRev b ks).toArray.zip (katRev b vs).toArray) i).1 = _; rw [kat_item hrl]

/- keys that are ints -/
theorem keyed_ints {ks : List Value} {ns : List Int} (r : RepFs s.heap (ns.map .int) ks) : Keyed' prog w A s ks (ns.map .int) oneType' := by
  have hget : ∀ (i : Nat) (v : Value), ks[i]? = some v → ∀ x, (ns.map FV.int)[i]? = some x → ∃ k t, x = FV.int k ∧ v = Value.int k t := by
    intro i v e x ex
    (refine oEA (r.get ex) ?_; rintro v' e' rv)
    rw [e] at e'; cases e'
    rw [List.getElem?_map, Option.map_eq_some_iff] at ex
    (refine oEA ex ?_; try clear ex; rintro k _ rfl)
    obtain ⟨t, rfl⟩ := rv
    exact (iEEA k t rfl rfl)
  refine ⟨fun h2 Q E q => kas_kind h2 (T := .type "int") (fun v hv => ?_) rfl rfl q, fun i j v u x y e1 e2 e3 e4 Q E q => ?_⟩
  · obtain ⟨i, hi, rfl⟩ := List.mem_iff_getElem.mp hv
    have hl := r.length
    (refine oEEA (hget i _ (List.getElem?_eq_getElem hi) ((ns.map FV.int)[i]'(by (exact Nat.lt_of_lt_of_eq ‹_› ‹_›))) (by simp)) ?_; rintro k t _ e)
    rw [e]
    exact Looks.of_pure rfl
  · (refine oEEA (hget i v e1 x e3) ?_; rintro k t rfl rfl)
    (refine oEEA (hget j u e2 y e4) ?_; rintro k' t' rfl rfl)
    exact kat_lt_int (by simpa [FV.lt] using q)

theorem katLex_flat {bb : Bool} {fin : Bool} {Q : Bool → Shared → Prop} : ∀ (l m : List FV) (xs ys : List Value) (i : Nat), RepFs s.heap l xs → RepFs s.heap m ys → CmpF.CmpFs (CmpF 10) l m → A.units + 80 < cLine → (bb = true → i = 0 → ∀ x y l' m', l = x :: l' → m = y :: m' → ∃ a b, x = FV.int a ∧ y = FV.int b) → fin = decide (l.length < m.length) →
    Q (ltL l m) s → KatLex prog w A bb fin Q (xs.zip ys) i s
  | [], m, xs, ys, i, r1, r2, hc, hu, hb, hf, q => by
    simp only [RepFs] at r1; subst r1
    simp only [List.zip_nil_left]
    refine kat_nil ?_
    rw [hf]
    cases m <;> simpa [ltL] using q
  | x :: l, [], xs, ys, i, r1, r2, hc, hu, hb, hf, q => by
    simp only [RepFs] at r2; subst r2
    rw [List.zip_nil_right]
    refine kat_nil ?_
    rw [hf]
    simpa [ltL] using q
  | x :: l, y :: m, xs, ys, i, r1, r2, hc, hu, hb, hf, q => by
    simp only [RepFs] at r1 r2
    (refine oEEAA r1 ?_; try clear r1; rintro v vs rfl rx rxs)
    (refine oEEAA r2 ?_; try clear r2; rintro u us rfl ry rys)
    simp only [CmpF.CmpFs] at hc
    (refine oAAA hc ?_; try clear hc; rintro o1 o2 c1 c2)
    simp only [List.zip_cons_cons]
    refine kat_cons (eqBool_flat rx ry o1 o2 (by (exact Nat.le_add_left _ _)) (by lia) ?_)
    by_cases hk : x = y
    · rw [decide_eq_true hk]
      refine kat_yes (katLex_flat l m vs us (i + 1) rxs rys (c1 hk) hu (fun _ h => by lia) (by rw [hf]; simp) ?_)
      simpa only [ltL, if_pos hk] using q
    · rw [decide_eq_false hk]
      refine kat_no ?_
      have hq : Q (x.lt y) s := by simpa only [ltL, if_neg hk] using q
      cases hbi : (bb && i == 0) with
      | true =>
        simp only [Bool.and_eq_true, beq_iff_eq] at hbi
        (refine oEEA (hb hbi.1 hbi.2 x y l m rfl rfl) ?_; rintro a b rfl rfl)
        obtain ⟨t, rfl⟩ := rx
        obtain ⟨t', rfl⟩ := ry
        exact oneLt_int (by simpa [FV.lt] using hq)
      | false => exact kat_one _ _ (lt_flat 10 A x y v u (c2 hk) rx ry (by lia) _ hq)
/- keys that are tuples -/
theorem keyed_tups {ks : List Value} {ls : List (List FV)} {bb : Bool} (r : RepFs s.heap (ls.map .tup) ks) (hu : A.units + 80 < cLine)
    (hc : ∀ l ∈ ls, ∀ m ∈ ls, CmpF.CmpFs (CmpF 10) l m) (hfirst : ∀ l ∈ ls, ∃ x l', l = x :: l' ∧ if bb = true then ∃ a, x = FV.int a else ∃ z, x = FV.tup z) : Keyed' prog w A s ks (ls.map .tup) (tuples' bb) := by
  have hl := r.length
  have hget : ∀ (i : Nat) (v : Value), ks[i]? = some v → ∀ x, (ls.map FV.tup)[i]? = some x → ∃ l a items, l ∈ ls ∧ x = FV.tup l ∧ v = Value.ref a ∧ s.heap.IsTuple a items ∧ RepFs s.heap l items.toList := by
    intro i v e x ex
    (refine oEA (r.get ex) ?_; rintro v' e' rv)
    rw [e] at e'; cases e'
    rw [List.getElem?_map, Option.map_eq_some_iff] at ex
    (refine oEA ex ?_; try clear ex; rintro l el rfl)
    simp only [RepF] at rv
    (refine oEEAA rv ?_; try clear rv; rintro a items rfl hT hs)
    exact (iEEEAAAA l a items (List.mem_of_getElem? el) rfl rfl hT hs)
  refine ⟨fun h2 Q E q => ?_, fun i j v u x y e1 e2 e3 e4 Q E q => ?_⟩
  · have hfs : ∃ fs : List Value, KatTups s.heap ks fs ∧ fs.length = ks.length ∧ ∀ v ∈ fs, Looks (model prog w) s.heap (typeOf v) (if bb = true then .type "int" else .type "tuple") := by
      clear hc hget q h2
      induction ls generalizing ks with
      | nil => simp only [List.map_nil, RepFs] at r; subst r; exact (iEAA ([]) trivial rfl (fun v h => nomatch h))
      | cons l ls ih =>
        simp only [List.map_cons, RepFs] at r
        (refine oEEAA r ?_; try clear r; rintro v vs rfl rv rs)
        have ih' : ∃ fs : List Value, KatTups s.heap vs fs ∧ fs.length = vs.length ∧ ∀ v ∈ fs, Looks (model prog w) s.heap (typeOf v) (if bb = true then .type "int" else .type "tuple") := by
          exact ih rs (fun l' h => hfirst l' (.tail _ h)) rs.length
        (refine oEAA ih' ?_; try clear ih'; rintro fs hfs hlen hT)
        simp only [RepF] at rv
        (refine oEEAA rv ?_; try clear rv; rintro a items rfl ⟨o, ho, hcl, n, hd⟩ hs)
        (refine oEEA (hfirst l (.head _)) ?_; rintro x l' rfl hx)
        simp only [RepFs] at hs
        (refine oEEAA hs ?_; try clear hs; rintro u us eu ru _)
        refine (iEAA (u :: fs) (⟨(iEEEEAAAA a o items n rfl ho hcl hd ?_), hfs⟩) (by simp [hlen]) (fun z hz => ?_))
        · rw [← Array.getElem?_toList, eu]; rfl
        · rcases List.mem_cons.mp hz with rfl | hz
          · cases bb with
            | true =>
              simp only [if_true] at hx ⊢
              obtain ⟨k, rfl⟩ := hx
              obtain ⟨t, rfl⟩ := ru
              exact Looks.of_pure rfl
            | false =>
              simp only [Bool.false_eq_true, if_false] at hx ⊢
              obtain ⟨k, rfl⟩ := hx
              simp only [RepF] at ru
              (refine oEEAA ru ?_; try clear ru; rintro a' items' rfl ⟨o', ho', hcl', _⟩ _)
              rw [← hcl']
              exact (Looks.ld ho').andThen .now
          · exact hT z hz
    (refine oEAA hfs ?_; try clear hfs; rintro fs hfs hlen hT)
    refine kat_kind hfs (by lia) hT ?_ ?_
    · cases bb <;> rfl
    · cases bb
      · exact q
      · exact q
  · (refine oEEEAAAA (hget i v e1 x e3) ?_; rintro l a items hm rfl rfl ⟨ox, hox, _, n, hdx⟩ hs)
    (refine oEEEAAAA (hget j u e2 y e4) ?_; rintro l' a' items' hm' rfl rfl ⟨oy, hoy, _, n', hdy⟩ hs')
    refine kat_lt hox hdx hoy hdy (katLex_flat l l' _ _ 0 hs hs' (hc l hm l' hm') hu (fun hb _ x y t t' e e' => ?_) ?_ (by simpa [FV.lt] using q))
    · subst e e'
      (refine oEEA (hfirst _ hm) ?_; rintro _ _ e h)
      (refine oEEA (hfirst _ hm') ?_; rintro _ _ e' h')
      cases e; cases e'
      rw [if_pos hb] at h h'
      obtain ⟨p1, rfl⟩ := h
      obtain ⟨p2, rfl⟩ := h'
      exact (iEEA p1 p2 rfl rfl)
    · have h1 := hs.length
      have h2 := hs'.length
      simp only [Array.length_toList] at h1 h2
      rw [h1, h2]
end
end Mine
end
section
open PySem PySem.W PySem.Calls PyProof.Rows
set_option Elab.async false
set_option maxRecDepth 100000
set_option linter.unusedVariables false
set_option linter.unusedSimpArgs false
namespace Mine
open Classical

noncomputable def sk_plain (a : Addr) (b : Bool) : Sem PySem.Fin := do
  let items ← Builtin.List.listItems (.ref a)
  Builtin.List.listUpdate (.ref a) fun _ => #[]
  let before ← seqEpoch a
  let held ← newTuple items.toList
  let keyStore ← newList []
  holding [held, keyStore] do
    if b then rule "list.sort.reverse"
    let kind ← if items.size < 2 then pure general' else keyKind' items
    let ((), s) ← (if items.size < 2 then pure () else sortRuns').run (SortSt.mk' kind (if b then (items.zip items).reverse else items.zip items) #[] 7 none)
    let sorted := (arrOf s).map (·.2)
    let touched := (← seqEpoch a) != before
    Builtin.List.listUpdate (.ref a) fun _ => if b then sorted.reverse else sorted
    if let some e := failedOf s then rule "list.sort.comparison-raised"; throw e
    if touched then rule "list.sort.modified"; raiseError "ValueError" "list modified during sort"
    ret .none
theorem sk1 (a : Addr) : Builtin.«list.sort» ⟨[.ref a], []⟩ = sk_plain a false := rfl
theorem sk2 (a : Addr) : Builtin.«list.sort» ⟨[.ref a], [(Str.ofString "key", .none)]⟩ = sk_plain a false := rfl
theorem sk3 (a : Addr) : Builtin.«list.sort» ⟨[.ref a], [(Str.ofString "reverse", .bool true)]⟩ = sk_plain a true := rfl
theorem sk4 (a : Addr) : Builtin.«list.sort» ⟨[.ref a], [(Str.ofString "key", .none), (Str.ofString "reverse", .bool true)]⟩ = sk_plain a true := rfl

/- what the sort leaves -/
noncomputable def sortOut (b : Bool) (l : List FV) (p : List Nat) : List FV := katRev b (p.map fun i => (katRev b l).getD i .none)
/- the stable sort by a key -/
noncomputable def SOut (key : FV → FV) (b : Bool) (l out : List FV) : Prop := ∃ p : List Nat, p.Perm (List.range l.length) ∧ p.Pairwise (Lex (cmpF (katRev b (l.map key)))) ∧ out = sortOut b l p

theorem RepFs.pick {h : Heap} {l : List FV} {vs : List Value} (r : RepFs h l vs) : ∀ (p : List Nat), (∀ i ∈ p, i < l.length) → RepFs h (p.map fun i => l.getD i .none) (p.map fun i => vs.getD i Value.none)
  | [], _ => by simp [RepFs]
  | i :: p, hp => by
    have hi := hp i (.head _)
    (refine oEA (r.get (i := i) (x := l[i]) (by simp [hi])) ?_; rintro v ev rv)
    simp only [List.map_cons, RepFs]
    refine (iEEAA _ _ rfl ?_ (r.pick p fun j hj => hp j (.tail _ hj)))
    rw [List.getD_eq_getElem?_getD, List.getD_eq_getElem?_getD, ev, List.getElem?_eq_getElem hi]
    exact rv
theorem RepFs.katRev {h : Heap} {l : List FV} {vs : List Value} (b : Bool) (r : RepFs h l vs) : RepFs h (PySem.W.katRev b l) (PySem.W.katRev b vs) := by
  cases b with
  | false => exact r
  | true => exact r.reverse
theorem sortOut_rep {h : Heap} {b : Bool} {l : List FV} {vs : List Value} (r : RepFs h l vs) {p : List Nat} (hp : p.Perm (List.range l.length)) : RepFs h (sortOut b l p) (PySem.W.katRev b (p.map fun i => (PySem.W.katRev b vs).getD i Value.none)) :=
  RepFs.katRev b ((RepFs.katRev b r).pick p fun i hi => by rw [kat_len]; exact List.mem_range.mp (hp.mem_iff.mp hi))

section
variable {prog : Program} {w : World} {A : Around} {E : Value → Shared → Prop} {s : Shared} {F : List Addr}
theorem list_notTuple {h : Heap} {a : Addr} {items : Array Value} {n : Nat} (ho : h.get? a = some (listOf items n)) : ∀ b its, h.IsTuple b its → ¬ b = a := by
  (rintro b its zq1 rfl; refine oEAA zq1 ?_; clear zq1; rintro o e c _)
  rw [ho] at e; cases e; simp at c
theorem Chg.push {D : Addr → Prop} {s : Shared} {o : Obj} : Chg D F s { s with heap := s.heap.push o } := .of_keeps (tk := s.toks) fun _ _ e => Heap.get?_push_of_some _ e
theorem upd_chg {a : Addr} {items : Array Value} {n : Nat} (f : Array Value → Array Value) (ho : s.heap.get? a = some (listOf items n)) : Chg (fun b => b = a) F s { s with heap := s.heap.update a (Obj.mapSeq f) } ∧ ∃ n', (s.heap.update a (Obj.mapSeq f)).get? a = some (listOf (f items) n') := by
  obtain ⟨n', e⟩ := mapSeq_list items n f
  have hg : (s.heap.update a (Obj.mapSeq f)).get? a = some (listOf (f items) n') := by rw [Heap.get?_update_self _ ho (by rw [e]; rfl), e]
  exact (iAE (.of_but (tk := s.toks) (Heap.SameBut.update ..) rfl ⟨_, hg⟩) n' hg)

theorem sort_plain {a : Addr} {items : Array Value} {n : Nat} {b : Bool} {l : List FV} {κ : SortKind} {P : PySem.Fin → Shared → Prop} (hF : a ∉ F) (ho : s.heap.get? a = some (listOf items n)) (hr : RepFs s.heap l items.toList) (h64 : l.length < 64) (o : Ord (cmpF (katRev b l)))
    (K : ∀ s', RepFs s'.heap l items.toList → Keyed' prog w A s' items.toList l κ)
    (h : ∀ s' out outF, Chg (fun b => b = a) F s s' → s'.heap.PlainList a out → SOut id b l outF → RepFs s'.heap outF out.toList → P (.done (.ret .none)) s') :
    wpAny (model prog w) A (sk_plain a b) P E s := by
  have hlen := hr.length
  have hsz : items.size = l.length := by rw [← hlen]; simp
  unfold sk_plain
  refine wpAny_bind (listItems_at ho rfl ?_)
  refine wpAny_bind (listUpdate_at ho rfl ?_ (by rw [sizeLine_eq]; lia) (Nat.zero_le _))
  (refine oAE (upd_chg (F := F) (fun _ => #[]) ho) ?_; rintro C₁ e1 ho1)
  refine wpAny_bind (seqEpoch_at ho1 rfl ?_)
  refine wpAny_bind (wpAny_newTuple ?_ (by show items.toList.length ≤ _; rw [sizeLine_eq]; lia))
  refine wpAny_bind (wpAny_newList ?_ (Nat.zero_le _))
  refine wpAny_holding ?_
  generalize hs3 : ({ s with heap := ((s.heap.update a (Obj.mapSeq fun _ => #[])).push { cls := .type "tuple", data := .seq items.toList.toArray }).push { cls := .type "list", data := .seq ([] : List Value).toArray } } : Shared) = s₃
  have C₃ : Chg (fun b => b = a) F s s₃ := by subst hs3; exact (C₁.trans Chg.push).trans Chg.push
  have ho3 : s₃.heap.get? a = some (listOf #[] e1) := by subst hs3; exact Heap.get?_push_of_some _ (Heap.get?_push_of_some _ ho1)
  show wpAny (model prog w) A _ P E s₃
  have hr3 : RepFs s₃.heap l items.toList := RepFs.same C₃.same (list_notTuple ho) l hr
  have step : ∀ t : Sem PySem.Fin, wpAny (model prog w) A t P E s₃ → wpAny (model prog w) A (if b = true then (do let _ ← rule "list.sort.reverse"; t) else t) P E s₃ := by
    intro t ht
    split
    · exact wpAny_bind (wpAny_rule ht)
    · exact ht
  refine step _ ?_
  have core := sort_core (E := E) (P := P) (ks := items.toList) (vs := items.toList) (b := b) (k := fun st => do
    let sorted := (arrOf st).map (·.2)
    let touched := (← seqEpoch a) != e1
    Builtin.List.listUpdate (.ref a) fun _ => if b then sorted.reverse else sorted
    if let some e := failedOf st then rule "list.sort.comparison-raised"; throw e
    if touched then rule "list.sort.modified"; raiseError "ValueError" "list modified during sort"
    ret .none) rfl (by rw [hlen]) (by rw [hlen]; exact h64) (K s₃ hr3) o ?_
  · simpa only [Array.toArray_toList] using core
  · intro st p hp hpl h2 h1 hf
    rw [hlen] at hp
    dsimp only
    refine wpAny_bind (seqEpoch_at ho3 rfl ?_)
    rw [h2, kat_outs]
    have hpz : p.length = l.length := by rw [hp.length_eq]; simp
    (refine oAE (upd_chg (F := F) (fun _ => List.toArray (katRev b (p.map fun i => (katRev b items.toList).getD i Value.none))) ho3) ?_; rintro C₄ e4 ho4)
    refine wpAny_bind (listUpdate_at ho3 rfl ?_ (Nat.zero_le _) (by rw [List.size_toArray, kat_len, List.length_map, hpz, sizeLine_eq]; lia))
    rw [hf]
    simp only [bne_self_eq_false, Bool.false_eq_true, if_false]
    refine wpAny_pure (h _ _ (sortOut b l p) (C₃.trans C₄) ⟨e4, ho4⟩ (iEAA p hp (by simpa using hpl) rfl) ?_)
    have hr4 := RepFs.same C₄.same (list_notTuple ho3) l hr3
    simpa using sortOut_rep (b := b) hr4 hp

theorem TabOk.notTuple {W : Wx} {h : Heap} (T : TabOk W h) : ∀ a its, h.IsTuple a its → ¬ a = W.tabA := by
  (rintro a its zq1 rfl; refine oEAA zq1 ?_; clear zq1; rintro o e c _)
  (refine oEA T ?_; try clear T; rintro ps e' _)
  rw [e'] at e; cases e; cases c
theorem TabOk.notCode {W : Wx} {h : Heap} (T : TabOk W h) : ∀ c q, h.CodeRec (.ref c) q → ¬ c = W.tabA := by
  (rintro c q zq1 rfl; refine oEEEEAAA zq1 ?_; clear zq1; rintro c' o vs t e0 e d h1)
  cases e0
  (refine oEAA T ?_; try clear T; rintro ps e' ht _)
  rw [e'] at e; cases e; cases d
  exact tab_noStr ht h1
theorem LamAt.grow {W : Wx} {s s' : Shared} (T : TabOk W s.heap) (G : Grow W F s s') {q : Addr} {ps : Arguments} {e : Expr} {sc : Scope} (x : LamAt s.heap q ps e sc) : LamAt s'.heap q ps e sc := by
  refine x.same G.same ?_ T.notCode
  rintro rfl
  (refine oEEEEEAAA x ?_; try clear x; rintro o _ _ _ _ e1 c1 d1 _)
  (refine oEA T ?_; try clear T; rintro ps' e' _)
  rw [e'] at e1; cases e1; cases c1
theorem Rep0.grow {W : Wx} {s s' : Shared} (R : Rep0 W F [] [] s) (G : Grow W F s s') : Rep0 W F [] [] s' := by
  refine ⟨fun b o e => G.same.exact (fun q => ?_) (fun hf => ?_) (R.keep b o e), R.new, fun b hb => ⟨(R.fr b hb).1, ?_⟩, fun k ao e => by simp at e, rfl, .nil, G.tab R.tab⟩
  · have q : b = W.tabA := q
    rw [q, R.new _ (.inr rfl)] at e; cases e
  · rw [(R.fr b hf).1] at e; cases e
  · (refine oAEEEA (R.fr b hb) ?_; rintro _ o es n e d)
    obtain ⟨o', e', _, d'⟩ := G.same.at (fun q => by
      have q : b = W.tabA := q
      (refine oEA R.tab ?_; rintro ps e' _)
      rw [q, e'] at e; cases e; cases d) e
    exact (iEEEA o' es n e' (d'.trans d))
theorem Rep0.offL {W : Wx} {s s' : Shared} (R : Rep0 W F [] [] s) {a : Addr} {items : Array Value} {n : Nat} (ho : s.heap.get? a = some (listOf items n)) (h0 : W.h₀.get? a = none) (C : Chg (fun b => b = a) F s s') : Rep0 W F [] [] s' := by
  refine ⟨fun b o e => C.same.exact (fun q => ?_) (fun hf => ?_) (R.keep b o e), R.new, fun b hb => ⟨(R.fr b hb).1, ?_⟩, fun k ao e => by simp at e, rfl, .nil, ?_⟩
  · have q : b = a := q
    rw [q, h0] at e; cases e
  · rw [(R.fr b hf).1] at e; cases e
  · (refine oAEEEA (R.fr b hb) ?_; rintro _ o es n' e d)
    (refine oEAA (C.same.at (fun q => by
      have q : b = a := q
      rw [q, ho] at e; cases e; cases d) e) ?_; rintro o' e' _ d')
    exact (iEEEA o' es n' e' (d'.trans d))
  · (refine oEAA R.tab ?_; rintro ps e hk hc)
    refine (iEAA ps (C.same.exact (fun q => ?_) (fun q => ?_) e) hk (fun pos cv h => codeRec_same C.same (fun c hc' q => ?_) (hc pos cv h)))
    · have q : W.tabA = a := q
      rw [q, ho] at e; cases e
    · (refine oAEEEA (R.fr _ q) ?_; rintro _ o es n' e' d)
      rw [e] at e'; cases e'; cases d
    · have q : c = a := q
      (refine oEEEEAAA (hc pos cv h) ?_; rintro c' o vs t e0 e1 d1 _)
      rw [hc'] at e0; cases e0
      rw [q, ho] at e1; cases e1; cases d1
theorem LamAt.offL {s s' : Shared} {a : Addr} {items : Array Value} {n : Nat} (ho : s.heap.get? a = some (listOf items n)) (C : Chg (fun b => b = a) F s s') {q : Addr} {ps : Arguments} {e : Expr} {sc : Scope} (x : LamAt s.heap q ps e sc) : LamAt s'.heap q ps e sc := by
  refine x.same C.same ?_ ?_
  · rintro rfl
    (refine oEEEEEAAA x ?_; try clear x; rintro o _ _ _ _ e1 c1 d1 _)
    rw [ho] at e1; cases e1; cases d1
  · (rintro c q' zq1 rfl; refine oEEEEAAA zq1 ?_; clear zq1; rintro c' o vs t e0 e d h1)
    cases e0
    rw [ho] at e; cases e; cases d
theorem Grow.chg {W : Wx} {s s' : Shared} (R : Rep0 W F [] [] s) (G : Grow W F s s') : Chg (fun b => b = W.tabA) F s s' := ⟨G.same, fun a o e => by
  by_cases q : a = W.tabA
  · (refine oEA (G.tab R.tab) ?_; rintro ps e' _); exact ⟨_, q ▸ e'⟩
  · (refine oEA (G.same a o q e) ?_; rintro o' e' _); exact ⟨o', e'⟩, G.gens, G.os⟩

theorem sort_key {W : Wx} {a q : Addr} {items : Array Value} {n m : Nat} {b : Bool} {l : List FV} {key : FV → FV} {ps : Arguments} {e : Expr} {sc : Scope} {κ : SortKind} {P : PySem.Fin → Shared → Prop} (hA : AOk A F m) (R : Rep0 W F [] [] s) (h0 : W.h₀.get? a = none) (hF : a ∉ F) (ho : s.heap.get? a = some (listOf items n)) (hr : RepFs s.heap l items.toList) (h64 : l.length < 64) (o : Ord (cmpF (katRev b (l.map key))))
    (hq : LamAt s.heap q ps e sc) (hkey : ∀ x ∈ l, LamGives W ps e sc m x (key x)) (K : ∀ s' ks, RepFs s'.heap (l.map key) ks → Keyed' W.prog W.w A s' ks (l.map key) κ)
    (h : ∀ s' out outF, Chg (fun b => b = a ∨ b = W.tabA) F s s' → TabOk W s'.heap → s'.heap.PlainList a out → SOut key b l outF → RepFs s'.heap outF out.toList → P (.done (.ret .none)) s') :
    wpAny (model W.prog W.w) A (ksk_tree a (.ref q) b) P E s := by
  have hlen := hr.length
  have hsz : items.size = l.length := by rw [← hlen]; simp
  unfold ksk_tree
  refine wpAny_bind (listItems_at ho rfl ?_)
  refine wpAny_bind (listUpdate_at ho rfl ?_ (by rw [sizeLine_eq]; lia) (Nat.zero_le _))
  (refine oAE (upd_chg (F := F) (fun _ => #[]) ho) ?_; rintro C₁ e1 ho1)
  refine wpAny_bind (seqEpoch_at ho1 rfl ?_)
  refine wpAny_bind (wpAny_newTuple ?_ (by show items.toList.length ≤ _; rw [sizeLine_eq]; lia))
  refine wpAny_bind (wpAny_newList ?_ (Nat.zero_le _))
  refine wpAny_holding ?_
  have haS : a < s.heap.objs.size := Heap.lt_size ho
  generalize hs3 : ({ s with heap := ((s.heap.update a (Obj.mapSeq fun _ => #[])).push { cls := .type "tuple", data := .seq items.toList.toArray }).push { cls := .type "list", data := .seq ([] : List Value).toArray } } : Shared) = s₃
  generalize hKd : ((s.heap.update a (Obj.mapSeq fun _ => #[])).push { cls := .type "tuple", data := .seq items.toList.toArray }).objs.size = kS
  have hKn : s.heap.get? kS = none := Heap.get?_none_of_le (by rw [← hKd, Heap.size_push, Heap.size_update]; exact Nat.le_succ _)
  have hKa : kS ≠ a := fun z => by rw [z, ho] at hKn; cases hKn
  have C₃ : Chg (fun b => b = a) F s s₃ := by subst hs3; exact (C₁.trans Chg.push).trans Chg.push
  have ho3 : s₃.heap.get? a = some (listOf #[] e1) := by subst hs3; exact Heap.get?_push_of_some _ (Heap.get?_push_of_some _ ho1)
  have hK3 : s₃.heap.get? kS = some (listOf #[] 0) := by subst hs3 hKd; exact Heap.get?_push_size _ rfl
  have hK0 : W.h₀.get? kS = none := by
    cases ez : W.h₀.get? kS with
    | none => rfl
    | some oz => rw [R.keep _ _ ez] at hKn; cases hKn
  show wpAny (model W.prog W.w) A (ksk_rest a (.ref q) b items e1 (.ref kS)) P E s₃
  have hr3 : RepFs s₃.heap l items.toList := RepFs.same C₃.same (list_notTuple ho) l hr
  have R3 := R.offL ho h0 C₃
  have hq3 := hq.offL ho C₃
  unfold ksk_rest
  refine wpAny_bind (wpAny_rule ?_)
  rw [← Array.forIn_toList]
  refine wpAny_bind (ksk_fold (fun i s' => Chg (fun b => b = kS ∨ b = W.tabA) F s₃ s' ∧ Rep0 W F [] [] s' ∧ LamAt s'.heap q ps e sc ∧ RepFs s'.heap l items.toList ∧ s'.heap.get? a = some (listOf #[] e1) ∧ ∃ kA ek, s'.heap.get? kS = some (listOf kA ek) ∧ RepFs s'.heap ((l.map key).take i) kA.toList) items.toList 0 s₃
    ⟨.refl, R3, hq3, hr3, ho3, #[], 0, hK3, by simp [RepFs]⟩ ?step ?done)
  case step =>
    (rintro j v s' hv zq1; refine oAAAAAEEA zq1 ?_; clear zq1; rintro C R' hq' hr' ho' kA ek hk' hkr)
    simp only [Nat.zero_add] at hkr ⊢
    have hj : j < l.length := by rw [← hlen]; exact (List.getElem?_eq_some_iff.mp hv).1
    (refine oEA (hr'.get (i := j) (x := l[j]) (by simp [hj])) ?_; rintro v' ev rv)
    rw [hv] at ev; cases ev
    have hkl : kA.size = j := by have := hkr.length; simp [Nat.min_eq_left (Nat.le_of_lt hj)] at this; exact this
    refine wpAny_bind (wpAny_attempt (wpAny_mono (hkey l[j] (List.getElem_mem hj) A F [] [] s' q v hA R' hq' rv) (fun u s₂ hu => ?_) fun _ _ x => x.elim))
    obtain ⟨G, ru⟩ := hu
    have T' := R'.tab
    have R₂ := R'.grow G
    have kN : ∀ c its nn, s'.heap.get? c = some (listOf its nn) → c ∉ F → s₂.heap.get? c = some (listOf its nn) := fun c its nn ec hcF => G.same.exact (fun z => by
      have z : c = W.tabA := z
      (refine oEA T' ?_; try clear T'; rintro ps' e' _)
      rw [z, e'] at ec; cases ec) hcF ec
    have hKF : kS ∉ F := fun hf => by (refine oAEEEA (R'.fr kS hf) ?_; rintro _ oz es nn ez dz); rw [hk'] at ez; cases ez; cases dz
    have hk2 := kN kS kA ek hk' hKF
    have ho2 := kN a _ _ ho' hF
    have hr2 := RepFs.same G.same T'.notTuple l hr'
    have hkr2 := RepFs.same G.same T'.notTuple _ hkr
    dsimp only
    (refine oAE (upd_chg (F := F) (fun xs => xs.push u) hk2) ?_; rintro C₄ e4 ho4)
    refine wpAny_bind (listUpdate_at hk2 rfl (wpAny_pure ⟨rfl, ?_⟩) (by rw [hkl, sizeLine_eq]; lia) (by rw [Array.size_push, hkl, sizeLine_eq]; lia))
    have nt := list_notTuple hk2
    refine ⟨(C.trans ((Grow.chg R' G).mono fun _ h => .inr h)).trans (C₄.mono fun _ h => .inl h), R₂.offL hk2 hK0 C₄, (hq'.grow T' G).offL hk2 C₄, RepFs.same C₄.same nt l hr2, C₄.same.exact (fun z => hKa z.symm) hF ho2, _, e4, ho4, ?_⟩
    rw [Array.toList_push]
    have e5 : (l.map key).take (j + 1) = (l.map key).take j ++ [key l[j]] := by rw [List.take_add_one]; simp [hj]
    rw [e5]
    refine (RepFs.same C₄.same nt _ hkr2).append ?_
    simp only [RepFs]
    exact (iEEAA u ([]) rfl (RepF.same C₄.same nt _ ru) rfl)
  case done =>
    (rintro s' zq1; refine oAAAAAEEA zq1 ?_; clear zq1; rintro C R' hq' hr' ho' kA ek hk' hkr)
    simp only [Nat.zero_add] at hkr
    have htake : (l.map key).take items.toList.length = l.map key := by apply List.take_of_length_le; simp [hlen]
    rw [htake] at hkr
    have hkl := hkr.length
    refine wpAny_bind (listItems_at hk' rfl ?_)
    unfold ksk_end
    dsimp only
    have step : ∀ t : Sem PySem.Fin, wpAny (model W.prog W.w) A t P E s' → wpAny (model W.prog W.w) A (if b = true then (do let _ ← rule "list.sort.reverse"; t) else t) P E s' := by
      intro t ht
      split
      · exact wpAny_bind (wpAny_rule ht)
      · exact ht
    refine step _ ?_
    have core := sort_core (prog := W.prog) (w := W.w) (A := A) (s := s') (E := E) (P := P) (ks := kA.toList) (vs := items.toList) (kf := l.map key) (κ := κ) (b := b) (k := ksk_tail a b e1 (.ref kS)) (by rw [hkl, hlen]; simp) (by rw [hlen]; simp) (by rw [hlen]; exact h64) (K s' _ hkr) o ?_
    · simpa only [Array.toArray_toList] using core
    · intro st p hp hpl h2 h1 hf
      rw [hlen] at hp
      have hpz : p.length = l.length := by rw [hp.length_eq]; simp
      unfold ksk_tail
      dsimp only
      have hKF : kS ∉ F := fun hf => by (refine oAEEEA (R'.fr kS hf) ?_; rintro _ oz es nn ez dz); rw [hk'] at ez; cases ez; cases dz
      (refine oAE (upd_chg (F := F) (fun _ => #[]) hk') ?_; rintro C₄ e4 ho4)
      refine wpAny_bind (listUpdate_at hk' rfl ?_ (by rw [sizeLine_eq]; simp at hkl; lia) (Nat.zero_le _))
      refine wpAny_bind (wpAny_letGo ?_)
      have ho5 : (s'.heap.update kS (Obj.mapSeq fun _ => #[])).get? a = some (listOf #[] e1) := C₄.same.exact (fun z => hKa z.symm) hF ho'
      refine wpAny_bind (seqEpoch_at ho5 rfl ?_)
      rw [h2, kat_outs]
      (refine oAE (upd_chg (s := { s' with heap := s'.heap.update kS (Obj.mapSeq fun _ => #[]) }) (F := F) (fun _ => List.toArray (katRev b (p.map fun i => (katRev b items.toList).getD i Value.none))) ho5) ?_; rintro C₅ e6 ho6)
      refine wpAny_bind (listUpdate_at ho5 rfl ?_ (Nat.zero_le _) (by rw [List.size_toArray, kat_len, List.length_map, hpz, sizeLine_eq]; lia))
      rw [hf]
      simp only [bne_self_eq_false, Bool.false_eq_true, if_false]
      have R₅ := (R'.offL hk' hK0 C₄).offL ho5 h0 C₅
      have CC : ∀ u, Chg (fun b => b = a ∨ b = kS ∨ b = W.tabA) F s u → Chg (fun b => b = a ∨ b = W.tabA) F s u := fun u c' =>
        ⟨fun b o hb eb => c'.same b o (fun z => by
          rcases z with z | z | z
          · exact hb (.inl z)
          · rw [z, hKn] at eb; cases eb
          · exact hb (.inr z)) eb, c'.ex, c'.gens, c'.os⟩
      have c := ((C.mono (D' := fun b => b = a ∨ b = kS ∨ b = W.tabA) fun _ h => .inr h).trans ((C₄.mono (D' := fun b => b = a ∨ b = kS ∨ b = W.tabA) fun _ h => .inr (.inl h)))).trans (C₅.mono (D' := fun b => b = a ∨ b = kS ∨ b = W.tabA) fun _ h => .inl h)
      have c' := (C₃.mono (D' := fun b => b = a ∨ b = kS ∨ b = W.tabA) fun _ h => .inl h).trans c
      refine wpAny_pure (h _ _ (sortOut b l p) (CC _ c') R₅.tab ⟨e6, ho6⟩ (iEAA p hp hpl rfl) ?_)
      have hr4 := RepFs.same C₄.same (list_notTuple hk') l hr'
      have hr5 := RepFs.same C₅.same (list_notTuple ho5) l hr4
      simpa using sortOut_rep (b := b) hr5 hp
end
end Mine
end
section
open PySem PySem.W PySem.Calls PyProof.Rows
set_option Elab.async false
set_option maxRecDepth 100000
set_option linter.unusedVariables false
set_option linter.unusedSimpArgs false
namespace Mine
open Classical

theorem SOut.unique {key : FV → FV} {b : Bool} {l o1 o2 : List FV} (o : Ord (cmpF (katRev b (l.map key)))) (h1 : SOut key b l o1) (h2 : SOut key b l o2) : o1 = o2 := by
  (refine oEAA h1 ?_; try clear h1; rintro p1 a1 b1 rfl)
  (refine oEAA h2 ?_; try clear h2; rintro p2 a2 b2 rfl)
  have : p1 = p2 := List.Perm.eq_of_pairwise (le := Lex (cmpF (katRev b (l.map key)))) (fun x y _ _ h h' => by
    have h3 := h.trans o h'
    rcases h3 with h3 | ⟨_, h3⟩
    · rw [o.irr] at h3; cases h3
    · (exact absurd ‹_› (Nat.lt_irrefl _))) b1 b2 (a1.trans a2.symm)
  rw [this]
theorem SOut.length {key : FV → FV} {b : Bool} {l o1 : List FV} (h : SOut key b l o1) : o1.length = l.length := by
  (refine oEAA h ?_; try clear h; rintro p a _ rfl)
  unfold sortOut
  rw [kat_len, List.length_map, a.length_eq, List.length_range]

section
variable {prog : Program} {w : World} {A : Around} {E : Value → Shared → Prop} {s : Shared} {F : List Addr}
theorem sorted_call {l : Addr} {items : Array Value} {kw : List (Str × Value)} {Q : Value → Shared → Prop} (ha1 : argsOk "sorted" ⟨[.ref l], kw⟩) (ha2 : ∀ x, argsOk "list.sort" ⟨[.ref x], kw⟩) (hl : s.heap.IsList l items) (hsz0 : items.size < 64)
    (h : ∀ s' D, (∃ h', s' = { s with heap := h' } ∧ ∀ b o, s.heap.get? b = some o → h'.get? b = some o) → s.heap.get? D = none → s'.heap.get? D = some (listOf items 0) → wpAny (model prog w) A.in1.in1 (Builtin.«list.sort» ⟨[.ref D], kw⟩) (fun fin s'' => fin = .done (.ret .none) ∧ Q (.ref D) s'') E s') :
    wpAny (model prog w) A (call (.builtin "sorted") [.ref l] kw) Q E s := by
  refine call_function_entry_kw kind_sorted plain_sorted entry_sorted ha1 ?_
  unfold Builtin.«sorted»
  refine wpAny_bind (m := checkCount "sorted" 1 1 _) (wpAny_pure ?_)
  have hl' : s.heap.IsList l items.toList.toArray := by rw [Array.toArray_toList]; exact hl
  have hz1 : items.toList.length ≤ sizeLine := by rw [sizeLine_eq]; simp; lia
  refine wpAny_bind (collect_list hl' ?_ hz1)
  refine wpAny_bind (wpAny_newList ?_ hz1)
  have hsz : ((s.heap.push (seqObj "list" #[] 0)).update s.heap.objs.size (Obj.mapSeq (· ++ items.toList.toArray))).objs.size = s.heap.objs.size + 1 := by
    rw [Heap.size_update, size_push']
  have hoL : (((s.heap.push (seqObj "list" #[] 0)).update s.heap.objs.size (Obj.mapSeq (· ++ items.toList.toArray))).push (seqObj "list" items.toList.toArray 0)).get? (s.heap.objs.size + 1) = some (seqObj "list" items.toList.toArray 0) := by
    rw [← hsz]; exact Heap.get?_push_size _ rfl
  have keep : ∀ b o, s.heap.get? b = some o → (((s.heap.push (seqObj "list" #[] 0)).update s.heap.objs.size (Obj.mapSeq (· ++ items.toList.toArray))).push (seqObj "list" items.toList.toArray 0)).get? b = some o := fun b o q => by
    have hlt : b < s.heap.objs.size := Heap.lt_size q
    rw [Heap.get?_push_ne _ _ _ (by rw [hsz]; exact Nat.ne_of_lt (Nat.lt_succ_of_lt hlt)), Heap.get?_update_ne _ _ _ _ (Nat.ne_of_lt hlt), Heap.get?_push_ne _ _ _ (Nat.ne_of_lt hlt)]
    exact q
  show wpAny _ _ _ _ _ { s with heap := ((s.heap.push (seqObj "list" #[] 0)).update s.heap.objs.size (Obj.mapSeq (· ++ items.toList.toArray))).push (seqObj "list" items.toList.toArray 0) }
  rw [hsz]
  refine wpAny_bind (wpAny_holding (wpAny_call_entry_kw slot_list_sort (iEA _ hoL rfl) entry_list_sort ?body (ha2 _)))
  case body =>
    refine wpAny_mono (h _ (s.heap.objs.size + 1) (iEA _ rfl keep) (Heap.get?_none_of_le (Nat.le_succ _)) (by simpa using hoL)) (fun fin s'' q => ?_) fun _ _ x => x
    obtain ⟨rfl, q⟩ := q
    exact (iEA _ rfl (wpAny_pure (iEA _ rfl q)))
end

section
variable {X : Fx} {st : St} {ρ ρ' : List Addr} {s s' s'' : Shared}
theorem AOk.in1 {A : Around} {F : List Addr} {n : Nat} (h : AOk A F (n + 1)) : AOk A.in1 F n := ⟨h.hh, by have := h.hd; show A.depth + n < _; (exact Nat.lt_of_succ_lt ‹_›), by have := h.hu; rw [Around.in1_units]; lia, h.hF⟩
/- a builtin by its name, keywords too -/
theorem builtin_kw {fn : Str} {p pos : Pos} {es : List Expr} {kws : List Keyword} {id : String} {as : List AV} {kas : List (Str × AV)} (R : Rep X ρ st s) (hf : PE X st (.Name fn p) (.val (.builtin id))) (h1 : PEs X st es as) (h2 : PKs X st kws kas) {P : Value → Shared → Prop}
    (k : ∀ vs kvs s', Rep X ρ st s' → X.G s s' → RepVs s'.heap (im X ρ) ρ as vs → RepKs s'.heap (im X ρ) ρ kas kvs → wpAny X.M X.A (call (.builtin id) vs kvs) P NoE s') : wpAny X.M X.A (eval (.Call (.Name fn p) es kws pos) X.env) P NoE s := by
  refine wpAny_Call_ofName (hf.on R fun v s₁ R₁ G₁ r₁ => ?_)
  cases r₁
  refine callWith_builtin_kwB h1.plain (by have := h2.all (pos := pos); simp only [List.all_eq_true, List.any_eq_false] at this ⊢; intro x hx; have := this x hx; cases q : x.1 <;> simp_all) (evalArgs_on R₁ h1 h2 fun vs kvs s₂ R₂ G₂ rv rk => ?_)
  exact k vs kvs s₂ R₂ (G₁.trans G₂) rv rk
theorem Rep.h0none (R : Rep X ρ st s) {a : Addr} (h : s.heap.get? a = none) : X.h₀.get? a = none := by
  cases e : X.h₀.get? a with
  | none => rfl
  | some o => rw [R.keep a o e] at h; cases h
theorem Rep.Fnone (R : Rep X ρ st s) {a : Addr} (h : s.heap.get? a = none) : a ∉ X.F := fun hf => by (refine oAEEEA (R.fr a hf) ?_; rintro _ o es n e d); rw [h] at e; cases e

theorem mk_new (R : Rep X ρ st s) (G : X.G s s') {D : Addr} {h' : Heap} (hk : ∀ b o, s'.heap.get? b = some o → h'.get? b = some o) (hD : s'.heap.get? D = none) {C : Addr → Prop} (hC : ∀ b, C b → b = D ∨ b = X.tabA) {s'' : Shared} (Cg : Chg C X.F { s' with heap := h' } s'') (ht : TabOk X.toWx s''.heap) : X.G s s'' := by
  refine ⟨fun b o hb e => ?_, fun _ => ht, Cg.gens.trans G.gens, Cg.os.trans G.os⟩
  (refine oEA (G.same b o hb e) ?_; rintro o' e' k)
  obtain ⟨o'', e'', k'⟩ := Cg.same b o' (fun q => by
    rcases hC b q with q | q
    · rw [q, hD] at e'; cases e'
    · exact hb q) (hk b o' e')
  exact (iEA o'' e'' (k.trans k'))

/- sorted(e), of keys as they are -/
theorem pn_sorted {p pos : Pos} {e : Expr} {kws : List Keyword} {kas : List (Str × AV)} {a : AV} {l out : List FV} {κ : SortKind} {b : Bool} (hf : PE X st (.Name "sorted" p) (.val (.builtin "sorted"))) (he : PE X st e a) (hl : asL st.hp a = some l) (hk : PKs X st kws kas)
    (hkw : (kas = [] ∧ b = false) ∨ (kas = [(Str.ofString "key", .f .none)] ∧ b = false) ∨ (kas = [(Str.ofString "key", .f .none), (Str.ofString "reverse", .f (.bool true))] ∧ b = true))
    (h64 : l.length < 64) (o : Ord (cmpF (katRev b l))) (K : ∀ A s' ks, A.units + 80 < cLine → RepFs s'.heap l ks → Keyed' X.prog X.w A s' ks l κ) (hout : SOut id b l out) (hst : starEach [e] X.env = [(false, eval e X.env)] := by rfl) : PN X st (.Call (.Name "sorted" p) [e] kws pos) out := fun ρ s R => by
  refine builtin_kw R hf (.cons he .nil hst) hk fun vs kvs s₁ R₁ G₁ rv rk => ?_
  refine rv.c1 (fun _ r => ?_)
  ·
    (refine oEEAAA (R₁.asL hl r) ?_; rintro la items rfl hli hs hsz)
    have go : ∀ kvs, (argsOk "sorted" ⟨[.ref la], kvs⟩) → (∀ x, argsOk "list.sort" ⟨[.ref x], kvs⟩) → (∀ x, Builtin.«list.sort» ⟨[.ref x], kvs⟩ = sk_plain x b) → wpAny X.M X.A (call (.builtin "sorted") [.ref la] kvs) (fun v s' => X.G s s' ∧ ∃ a items, v = .ref a ∧ s.heap.get? a = none ∧ s'.heap.PlainList a items ∧ RepFs s'.heap out items.toList) NoE s₁ := by
      intro kvs ha1 ha2 ht
      refine sorted_call ha1 ha2 hli (by lia) ?_
      (rintro s₂ D zq1 nD hD; refine oEA zq1 ?_; clear zq1; rintro h' rfl hk')
      rw [ht]
      have hs2 := RepFs.same (D := Nowhere) (F := X.F) (.of_keeps hk') (fun _ _ _ h => h) l hs
      refine sort_plain (F := X.F) (R₁.Fnone nD) hD hs2 h64 o (fun s' r => K _ s' _ (by have := X.hu; simp only [Around.in1_units]; lia) r) fun s' out' outF C hp hSO hr => (iAAEEAAA rfl ?_ D out' rfl ((R.ext G₁).none nD) hp ?_)
      · refine mk_new R G₁ hk' nD (C := fun b => b = D) (fun b q => .inl q) C ?_
        (refine oEAA R₁.tab ?_; rintro ps eT h1 h2)
        have T2 : TabOk X.toWx h' := R₁.tab.keeps hk'
        (refine oEAA T2 ?_; try clear T2; rintro ps' eT' hk2 hc2)
        refine (iEAA ps' (C.same.exact (fun q => ?_) (fun q => R₁.F_notT q rfl) eT') hk2 (fun pos cv h => codeRec_same C.same (fun c hc' q => ?_) (hc2 pos cv h)))
        · have q : X.tabA = D := q
          rw [q, nD] at eT; cases eT
        · have q : c = D := q
          (refine oEEEEAAA (hc2 pos cv h) ?_; rintro c' o' vs t e0 e1' d1 _)
          rw [hc'] at e0; cases e0
          rw [q] at e1'
          have hD : h'.get? D = _ := hD
          rw [hD] at e1'; cases e1'; cases d1
      · rw [SOut.unique (by simpa using o) hout hSO]; exact hr
    rcases hkw with ⟨rfl, rfl⟩ | ⟨rfl, rfl⟩ | ⟨rfl, rfl⟩
    · cases rk; exact go [] (args_sorted1 _) (fun x => args_list_sort _) sk1
    · cases rk with
      | cons r1 rk => cases rk; have r1 : _ = Value.none := r1; subst r1; exact go _ (ksk_s1 _ _) (fun x => ksk_l1 _ _) sk2
    · refine rk.c2 (fun _ _ r1 r2 => ?_)
      ·
          have r1 : _ = Value.none := r1
          have r2 : _ = Value.bool true := r2
          subst r1 r2
          exact go _ (ksk_s2 _ _ _) (fun x => ksk_l2 _ _ _) sk4
/- sorted(e, key=lambda) -/
theorem pn_sortedK {p pos : Pos} {e : Expr} {kws : List Keyword} {kas : List (Str × AV)} {a : AV} {l out : List FV} {key : FV → FV} {κ : SortKind} {b : Bool} {ps : Arguments} {le : Expr} {sc : Scope} {m : Nat} (hf : PE X st (.Name "sorted" p) (.val (.builtin "sorted"))) (he : PE X st e a) (hl : asL st.hp a = some l) (hk : PKs X st kws kas)
    (hkw : (kas = [(Str.ofString "key", .lam ps le sc)] ∧ b = false) ∨ (kas = [(Str.ofString "key", .lam ps le sc), (Str.ofString "reverse", .f (.bool true))] ∧ b = true))
    (hm : m + 2 ≤ X.n) (hkey : ∀ x ∈ l, LamGives X.toWx ps le sc m x (key x))
    (h64 : l.length < 64) (o : Ord (cmpF (katRev b (l.map key)))) (K : ∀ A s' ks, A.units + 80 < cLine → RepFs s'.heap (l.map key) ks → Keyed' X.prog X.w A s' ks (l.map key) κ) (hout : SOut key b l out) (hst : starEach [e] X.env = [(false, eval e X.env)] := by rfl) : PN X st (.Call (.Name "sorted" p) [e] kws pos) out := fun ρ s R => by
  refine builtin_kw R hf (.cons he .nil hst) hk fun vs kvs s₁ R₁ G₁ rv rk => ?_
  refine rv.c1 (fun _ r => ?_)
  ·
    (refine oEEAAA (R₁.asL hl r) ?_; rintro la items rfl hli hs hsz)
    have go : ∀ kvs q, LamAt s₁.heap q ps le sc → (argsOk "sorted" ⟨[.ref la], kvs⟩) → (∀ x, argsOk "list.sort" ⟨[.ref x], kvs⟩) → (∀ x, Builtin.«list.sort» ⟨[.ref x], kvs⟩ = ksk_tree x (.ref q) b) → wpAny X.M X.A (call (.builtin "sorted") [.ref la] kvs) (fun v s' => X.G s s' ∧ ∃ a items, v = .ref a ∧ s.heap.get? a = none ∧ s'.heap.PlainList a items ∧ RepFs s'.heap out items.toList) NoE s₁ := by
      intro kvs q hq ha1 ha2 ht
      refine sorted_call ha1 ha2 hli (by lia) ?_
      (rintro s₂ D zq1 nD hD; refine oEA zq1 ?_; clear zq1; rintro h' rfl hk')
      rw [ht]
      have hs2 := RepFs.same (D := Nowhere) (F := X.F) (.of_keeps hk') (fun _ _ _ h => h) l hs
      have G2 : X.G s₁ { s₁ with heap := h' } := ⟨.of_keeps hk', .keeps hk', rfl, rfl⟩
      refine sort_key (W := X.toWx) (F := X.F) (m := m) ((X.ok.le hm).in1.in1) (R₁.grow G2).rep0 (R₁.h0none nD) (R₁.Fnone nD) hD hs2 h64 o (hq.grow R₁.tab G2) hkey (fun s' ks r => K _ s' _ (by have := X.hu; simp only [Around.in1_units]; lia) r) fun s' out' outF C ht' hp hSO hr => (iAAEEAAA rfl ?_ D out' rfl ((R.ext G₁).none nD) hp ?_)
      · exact mk_new R G₁ hk' nD (C := fun b => b = D ∨ b = X.tabA) (fun b q => q) C ht'
      · rw [SOut.unique o hout hSO]; exact hr
    rcases hkw with ⟨rfl, rfl⟩ | ⟨rfl, rfl⟩
    · cases rk with
      | cons r1 rk => cases rk; (refine oEA r1 ?_; try clear r1; rintro q rfl hq); exact go _ q hq (ksk_s1 _ _) (fun x => ksk_l1 _ _) (fun x => ksk_t1 q x)
    · refine rk.c2 (fun _ _ r1 r2 => ?_)
      ·
          (refine oEA r1 ?_; try clear r1; rintro q rfl hq)
          have r2 : _ = Value.bool true := r2
          subst r2
          exact go _ q hq (ksk_s2 _ _ _) (fun x => ksk_l2 _ _ _) (fun x => ksk_t2 q x true)
end
end Mine
end
section
open PySem PySem.W PySem.Calls PyProof.Rows
set_option Elab.async false
set_option maxRecDepth 100000
set_option linter.unusedVariables false
set_option linter.unusedSimpArgs false
namespace Mine
open Classical

noncomputable def Fx.in1 (X : Fx) (h : 1 ≤ X.n) : Fx := { X with A := X.A.in1, n := X.n - 1, hh := X.hh, hd := (by have := X.hd; show X.A.depth + (X.n - 1) < _; lia), hu := (by have := X.hu; rw [Around.in1_units]; lia), hF := X.hF }
section
variable {X : Fx} {st : St} {ρ ρ' : List Addr} {s s' s'' : Shared}
theorem Rep.in1 (h : 1 ≤ X.n) (R : Rep X ρ st s) : Rep (X.in1 h) ρ st s := ⟨R.keep, R.new, R.fr, R.ns, R.cl, R.cnd, R.var, R.obj, R.len, R.nd, R.tab⟩
theorem Rep.out1 {h : 1 ≤ X.n} (R : Rep (X.in1 h) ρ st s) : Rep X ρ st s := ⟨R.keep, R.new, R.fr, R.ns, R.cl, R.cnd, R.var, R.obj, R.len, R.nd, R.tab⟩
theorem Ext.out1 {h : 1 ≤ X.n} (E : Ext (X.in1 h) ρ s ρ' s') : Ext X ρ s ρ' s' := ⟨E.same, E.pre, E.mu, E.ex, E.gens, E.os⟩

/- the last own object is forgotten -/
theorem Rep.pop {a : Addr} {ao : AO} {loc : List (Str × AV)} {hp : List AO} (R : Rep X (ρ ++ [a]) ⟨loc, hp ++ [ao]⟩ s) (hl : hp.length = ρ.length) (hn : ∀ x k, loc.lookup x = some (.obj k) → k < hp.length) : Rep X ρ ⟨loc, hp⟩ s := by
  have him : ∀ b, im X (ρ ++ [a]) b → im X ρ b := fun b h q => h (by
    rcases q with q | q | q | q
    · exact .inl q
    · exact .inr (.inl q)
    · exact .inr (.inr (.inl (List.mem_append_left _ q)))
    · exact .inr (.inr (.inr q)))
  refine ⟨R.keep, fun b h => R.new b (Classical.byContradiction fun q => him b q h), R.fr, R.ns, R.cl, R.cnd, fun x av e => ?_, fun k ao' e => ?_, hl, (List.nodup_append.mp R.nd).1, R.tab⟩
  · (refine oEA (R.var x av e) ?_; rintro v hv r)
    refine (iEA v hv ?_)
    cases av with
    | f y => exact r
    | lst l => (refine oEEAAA r ?_; try clear r; rintro b items e' hi hl hs); exact (iEEAAA b items e' (him b hi) hl hs)
    | obj k =>
      (refine oEA r ?_; try clear r; rintro b eb ev)
      have hk := hn x k e
      rw [List.getElem?_append_left (by (exact Nat.lt_of_lt_of_eq ‹_› ‹_›))] at eb
      exact (iEA b eb ev)
    | val u => exact r
    | lam p e sc => exact r
  · have hk : k < hp.length := (List.getElem?_eq_some_iff.mp e).1
    (refine oEA (R.obj k ao' (by rw [List.getElem?_append_left hk]; exact e)) ?_; rintro b eb r)
    rw [List.getElem?_append_left (by lia)] at eb
    refine (iEA b eb ?_)
    cases ao' with
    | list l => exact r
    | iter l => (refine oEEEAAA r ?_; try clear r; rintro la i items hi hm hl hs); exact (iEEEAAA la i items hi (him la hm) hl hs)
    | rng x n c => exact r
    | plain => exact r
    | fin => exact r
    | junk => exact r
theorem Ext.pop {a : Addr} (E : Ext X ρ s (ρ ++ [a]) s') : Ext X ρ s ρ s' := ⟨E.same, fun _ _ h => h, fun b h => .inl h, E.ex, E.gens, E.os⟩

theorem set_self {α : Type} {l : List α} {k : Nat} {x : α} (h : l[k]? = some x) : l.set k x = l := by
  obtain ⟨hk, e⟩ := List.getElem?_eq_some_iff.mp h
  subst e; simp
/- the best of what comes -/
noncomputable def bestGo (better : FV → FV → Bool) (key : FV → FV) : FV → List FV → FV
  | b, [] => b
  | b, x :: l => if better (key x) (key b) = true then bestGo better key x l else bestGo better key b l
noncomputable def bestF (better : FV → FV → Bool) (key : FV → FV) : List FV → Option FV
  | [] => none
  | x :: l => some (bestGo better key x l)

noncomputable def bestL (key : FV → FV) : Option FV → List FV
  | none => []
  | some b => [b, key b]
/- the key of min and max -/
noncomputable def KeyV (X : Fx) (kv : Value) (s : Shared) (key : FV → FV) (l : List FV) : Prop :=
  (kv = .none ∧ ∀ x ∈ l, key x = x) ∨ ∃ q ps e sc m, kv = .ref q ∧ LamAt s.heap q ps e sc ∧ m ≤ X.n ∧ ∀ x ∈ l, LamGives X.toWx ps e sc m x (key x)
theorem KeyV.ext {X : Fx} {ρ ρ' : List Addr} {st : St} {kv : Value} {s s' : Shared} {key l} (h : KeyV X kv s key l) (R : Rep X ρ st s) (E : Ext X ρ s ρ' s') : KeyV X kv s' key l := by
  rcases h with h | ⟨q, ps, e, sc, m, h1, h2, h3⟩
  · exact .inl h
  · refine .inr ⟨q, ps, e, sc, m, h1, ?_, h3⟩
    (refine oEA (R.val_ext (av := .lam ps e sc) (v := .ref q) E (iEA q rfl h2)) ?_; rintro a ea x)
    cases ea; exact x
theorem KeyV.tail {X : Fx} {kv : Value} {s : Shared} {key} {y : FV} {l : List FV} (h : KeyV X kv s key (y :: l)) : KeyV X kv s key l := by
  rcases h with ⟨h, h'⟩ | ⟨q, ps, e, sc, m, h1, h2, h3, h4⟩
  · exact .inl ⟨h, fun x hx => h' x (.tail _ hx)⟩
  · exact .inr (iEEEEEAAA q ps e sc m h1 h2 h3 (fun x hx => h4 x (.tail _ hx)))

theorem bestL_len (key : FV → FV) (b : Option FV) : (bestL key b).length ≤ 2 := by cases b <;> simp [bestL]
theorem min_loop {I S : Addr} {k : Nat} {kv d : Value} {key : FV → FV} {better : FV → FV → Bool} {Cq : FV → FV → Prop} {loc : List (Str × AV)} {hp : List AO} (hn : 1 ≤ X.n) (hkl : k < hp.length) (hIa : ρ[k]? = some I) (hlen : hp.length = ρ.length)
    (hcmp : ∀ x y (v u : Value) (s : Shared), Cq x y → RepF s.heap x v → RepF s.heap y u → ∀ (Q : Value → Shared → Prop) (E : Value → Shared → Prop), Q (.bool (better x y)) s → wpAny X.M X.A.in1 (richCompare .Lt v u) Q E s)
    {Post : Value → Shared → Prop} : ∀ (l : List FV) (best : Option FV) (s : Shared), (∀ x ∈ l, ∀ y ∈ l, Cq (key x) (key y)) → (∀ b, best = some b → ∀ x ∈ l, Cq (key x) (key b)) → KeyV (X.in1 hn) kv s key l →
      Rep X (ρ ++ [S]) ⟨loc, hp.set k (.iter l) ++ [.list (bestL key best)]⟩ s →
      (∀ s', Rep X (ρ ++ [S]) ⟨loc, hp.set k .junk ++ [.list []]⟩ s' → Ext X (ρ ++ [S]) s (ρ ++ [S]) s' → best = none → l = [] → Post d s') →
      (∀ s' v x, Rep X (ρ ++ [S]) ⟨loc, hp.set k .junk ++ [.list []]⟩ s' → Ext X (ρ ++ [S]) s (ρ ++ [S]) s' → (match best with | none => bestF better key l = some x | some b => bestGo better key b l = x) → RepF s'.heap x v → Post v s') →
      codeAny X.M X.A (.builtin "min.loop" ⟨[.ref I, kv, .ref S], [(Str.ofString "default", d)]⟩) (fun r s' => match r with | .ok (.ret v) => Post v s' | .ok _ => False | .error e => NoE e s') s := by
  have hname : (toString "min" ++ toString ".loop" : String) = "min.loop" := by decide
  have hS : ∀ (x y : AO), ((hp.set k x ++ [y] : List AO))[hp.length]? = some y := fun x y => by rw [List.getElem?_append_right (by simp)]; simp
  have hSa : (ρ ++ [S])[hp.length]? = some S := by rw [hlen, List.getElem?_append_right (Nat.le_refl _)]; simp
  have hI : ∀ (x y : AO), ((hp.set k x ++ [y] : List AO))[k]? = some x := fun x y => by rw [List.getElem?_append_left (by simpa using hkl)]; simp [hkl]
  have hIa' : (ρ ++ [S])[k]? = some I := by rw [List.getElem?_append_left (by (exact Nat.lt_of_lt_of_eq ‹_› ‹_›))]; exact hIa
  have hset : ∀ (x x' y : AO), (hp.set k x ++ [y]).set k x' = hp.set k x' ++ [y] := fun x x' y => by rw [List.set_append_left _ _ (by simpa using hkl)]; simp
  have hsetS : ∀ (x y y' : AO), (hp.set k x ++ [y]).set hp.length y' = hp.set k x ++ [y'] := fun x y y' => by rw [List.set_append_right _ _ (by simp)]; simp
  intro l
  induction l with
  | nil =>
    intro best s hc hb hkv R q1 q2
    (refine oEAEA (R.obj hp.length _ (hS _ _)) ?_; rintro S' eS items ⟨n, hoS⟩ hr)
    obtain rfl : S = S' := Option.some.inj (hSa.symm.trans eS)
    refine codeAny_builtin PySem.F.entry_min_loop ?_
    rw [Around.under_plainId PySem.F.plain_min_loop _]
    show wpAny _ X.A.in1 (seqItems? (.ref S) >>= _) _ _ _
    refine wpAny_bind (wpAny_seqItems hoS rfl ?_)
    show wpAny _ X.A.in1 (tryCatch (pyNext (.ref I)) _ >>= _) _ _ _
    refine wpAny_bind (wpAny_tryCatch (wpAny_mono (next_end (X := X.in1 hn) (R.in1 hn) (hI _ _) hIa' rfl rfl (Q := fun r s' => r = none ∧ Rep X (ρ ++ [S]) ⟨loc, hp.set k .junk ++ [.list (bestL key best)]⟩ s' ∧ Ext X (ρ ++ [S]) s (ρ ++ [S]) s') fun s' R' E => ⟨rfl, by have := R'.out1; simpa only [hset] using this, E.out1⟩) (fun r s' h => ?_) fun _ _ x => x.elim))
    (refine oAA h ?_; try clear h; rintro rfl R' E')
    (refine oEAEA (R'.obj hp.length _ (hS _ _)) ?_; rintro S' eS' items' ⟨n', hoS'⟩ hr')
    obtain rfl : S = S' := Option.some.inj (hSa.symm.trans eS')
    rcases best with _ | b
    ·
      simp only [bestL, RepFs] at hr
      have e0 : items = #[] := Array.toList_eq_nil_iff.mp hr
      subst e0
      show wpAny _ X.A.in1 (rule _ >>= _) _ _ _
      exact wpAny_bind (wpAny_rule (wpAny_pure (q1 s' R' E' rfl rfl)))
    ·
      simp only [bestL, RepFs] at hr
      (refine oEEAAEEAA hr ?_; try clear hr; rintro v0 vs0 e0 rb v1 vs1 rfl rk rfl)
      have e0 : items = #[v0, v1] := by apply Array.toList_inj.mp; rw [e0]
      subst e0
      show wpAny _ X.A.in1 (updateSeq S (fun _ => #[]) >>= _) _ _ _
      obtain ⟨R₂, E₂⟩ := R'.remap (k := hp.length) (tk := s'.toks) (l' := []) (f := fun _ => #[]) hSa hoS' (by simp [RepFs])
      refine wpAny_bind (wpAny_updateSeq hoS' rfl (wpAny_bind (wpAny_letGo (wpAny_pure ?_))) (by rw [sizeLine_eq]; have := hr'.length; simp [bestL] at this; lia) (Nat.zero_le _))
      have rb' := R.val_ext (av := .f b) E' rb
      exact q2 _ v0 b (by simpa only [hsetS] using R₂) (E'.trans E₂) rfl (R'.val_ext (av := .f b) E₂ rb')
  | cons x l ih =>
    intro best s hc hb hkv R q1 q2
    (refine oEAEA (R.obj hp.length _ (hS _ _)) ?_; rintro S' eS items ⟨n, hoS⟩ hr)
    obtain rfl : S = S' := Option.some.inj (hSa.symm.trans eS)
    refine codeAny_builtin PySem.F.entry_min_loop ?_
    rw [Around.under_plainId PySem.F.plain_min_loop _]
    show wpAny _ X.A.in1 (seqItems? (.ref S) >>= _) _ _ _
    refine wpAny_bind (wpAny_seqItems hoS rfl ?_)
    show wpAny _ X.A.in1 (tryCatch (pyNext (.ref I)) _ >>= _) _ _ _
    refine wpAny_bind (wpAny_tryCatch (wpAny_mono (next_item (X := X.in1 hn) (R.in1 hn) (hI _ _) hIa' (x := x) (ao' := .iter l) rfl (Q := fun r s' => ∃ v, r = some v ∧ Rep X (ρ ++ [S]) ⟨loc, hp.set k (.iter l) ++ [.list (bestL key best)]⟩ s' ∧ Ext X (ρ ++ [S]) s (ρ ++ [S]) s' ∧ RepF s'.heap x v) fun v s' R' E rv => ⟨v, rfl, by have := R'.out1; simpa only [hset] using this, E.out1, rv⟩) (fun r s' h => ?_) fun _ _ x => x.elim))
    (refine oEAAA h ?_; try clear h; rintro v rfl R' E' rv)
    have hkv' := hkv.ext (X := X.in1 hn) (R.in1 hn) (E := ⟨E'.same, E'.pre, E'.mu, E'.ex, E'.gens, E'.os⟩)
    -- the key
    have keyStep : ∀ (Q : Value → Shared → Prop) (E : Value → Shared → Prop), (∀ u s₂, Rep X (ρ ++ [S]) ⟨loc, hp.set k (.iter l) ++ [.list (bestL key best)]⟩ s₂ → Ext X (ρ ++ [S]) s' (ρ ++ [S]) s₂ → RepF s₂.heap (key x) u → Q u s₂) →
        ((kv = .none → wpAny X.M X.A.in1 (pure v : Sem Value) Q E s') ∧ (∀ q, kv = .ref q → wpAny X.M X.A.in1 (call (.ref q) [v]) Q E s')) := by
      intro Q E hQ
      clear ih hkv
      rcases hkv' with ⟨rfl, hid⟩ | ⟨q, ps, e, sc, m, rfl, hl, hm, hg⟩
      · refine ⟨fun _ => wpAny_pure (hQ v s' R' .refl (by rw [hid x (.head _)]; exact rv)), fun q h => by cases h⟩
      · refine ⟨fun h => (by cases h), fun q' h => ?_⟩
        cases h
        refine wpAny_mono ((hg x (.head _)).on hm (R'.in1 hn) hl rv) (fun u s₂ h => ?_) fun _ _ x => x.elim
        exact hQ u s₂ (R'.grow ⟨h.1.same, h.1.tab, h.1.gens, h.1.os⟩) (R'.ext ⟨h.1.same, h.1.tab, h.1.gens, h.1.os⟩) h.2
    -- what follows the key
    have rest : ∀ u s₂, Rep X (ρ ++ [S]) ⟨loc, hp.set k (.iter l) ++ [.list (bestL key best)]⟩ s₂ → Ext X (ρ ++ [S]) s' (ρ ++ [S]) s₂ → RepF s₂.heap (key x) u →
        (∀ (new : Option FV) (s₃ : Shared), Rep X (ρ ++ [S]) ⟨loc, hp.set k (.iter l) ++ [.list (bestL key new)]⟩ s₃ → Ext X (ρ ++ [S]) s₂ (ρ ++ [S]) s₃ → (new = some x ∨ new = best ∧ best.isSome = true) → (match best with | none => new = some x | some b => new = if better (key x) (key b) = true then some x else some b) →
          codeAny X.M X.A (.builtin "min.loop" ⟨[.ref I, kv, .ref S], [(Str.ofString "default", d)]⟩) (fun r s' => match r with | .ok (.ret v) => Post v s' | .ok _ => False | .error e => NoE e s') s₃) := by
      intro u s₂ R₂ E₂ ru new s₃ R₃ E₃ hnew hnew2
      have EE : Ext X (ρ ++ [S]) s (ρ ++ [S]) s₃ := (E'.trans E₂).trans E₃
      refine ih new s₃ (fun y hy z hz => hc y (.tail _ hy) z (.tail _ hz)) (fun b eb y hy => ?_) ((hkv.ext (X := X.in1 hn) (R.in1 hn) (E := ⟨EE.same, EE.pre, EE.mu, EE.ex, EE.gens, EE.os⟩)).tail) R₃ (fun s' R E hn0 => ?_) (fun s' v' x' R E hbest rv' => q2 s' v' x' R (EE.trans E) ?_ rv')
      · rcases hnew with rfl | ⟨rfl, _⟩
        · cases eb; exact hc y (.tail _ hy) x (.head _)
        · exact hb b eb y (.tail _ hy)
      · rcases hnew with rfl | ⟨rfl, h⟩
        · cases hn0
        · rw [hn0] at h; cases h
      · clear hb q1 q2 keyStep hnew R₂ R' hr R
        rcases best with _ | b
        · simp only at hnew2; subst hnew2; simpa [bestF] using hbest
        ·
          simp only at hnew2
          subst hnew2
          simp only [bestGo]
          split
          · rename_i hbt; rw [if_pos hbt] at hbest; exact hbest
          · rename_i hbt; rw [if_neg hbt] at hbest; exact hbest
    have tail : ∀ u s₂, Rep X (ρ ++ [S]) ⟨loc, hp.set k (.iter l) ++ [.list (bestL key best)]⟩ s₂ → Ext X (ρ ++ [S]) s' (ρ ++ [S]) s₂ → RepF s₂.heap (key x) u →
        ∀ (t : Sem PySem.Fin), (t = (match items.toList with
          | [oldItem, oldVal] => do
            let better ← (holding [v, u] (do
              let answer ← richCompare .Lt u oldVal
              let yes ← holding [answer] (truthy answer)
              letGo [answer]
              pure yes)).tryCatch fun e => do
                updateSeq S fun _ => #[]
                letGo ([u, v] ++ items.toList.reverse) [e]
                throw e
            if better then do
              updateSeq S fun _ => #[v, u]
              letGo [oldVal, oldItem]
            else letGo [v, u]
            again (.builtin "min.loop" ⟨[.ref I, kv, .ref S], [(Str.ofString "default", d)]⟩)
          | _ => do
            updateSeq S fun _ => #[v, u]
            again (.builtin "min.loop" ⟨[.ref I, kv, .ref S], [(Str.ofString "default", d)]⟩))) →
        wpAny X.M X.A.in1 t (fun fin s' => match fin with
          | .done f => (match (Except.ok f : Result) with | .ok (.ret v) => Post v s' | .ok _ => False | .error e => NoE e s')
          | .again c' => c'.quiet = true ∧ codeAny X.M X.A c' (fun r s' => match r with | .ok (.ret v) => Post v s' | .ok _ => False | .error e => NoE e s') s') NoE s₂ := by
      intro u s₂ R₂ E₂ ru t ht
      subst ht
      have rv₂ : RepF s₂.heap x v := R'.val_ext (av := .f x) E₂ rv
      (refine oEAEA (R₂.obj hp.length _ (hS _ _)) ?_; rintro S' eS' items' ⟨n', hoS'⟩ hr')
      obtain rfl : S = S' := Option.some.inj (hSa.symm.trans eS')
      have hz' : items'.size ≤ sizeLine := by
        have h2 : (bestL key best).length ≤ 2 := bestL_len key best
        rw [sizeLine_eq]; have := hr'.length; simp only [Array.length_toList] at this; (exact Nat.le_trans (Nat.le_of_eq ‹_›) (Nat.le_trans ‹_› (by decide)))
      have upd : wpAny X.M X.A.in1 (updateSeq S fun _ => #[v, u]) (fun _ s₃ => Rep X (ρ ++ [S]) ⟨loc, hp.set k (.iter l) ++ [.list [x, key x]]⟩ s₃ ∧ Ext X (ρ ++ [S]) s₂ (ρ ++ [S]) s₃) NoE s₂ := by
        obtain ⟨R₃, E₃⟩ := R₂.remap (k := hp.length) (tk := s₂.toks) (l' := [x, key x]) (f := fun _ => #[v, u]) hSa hoS' (by simp only [RepFs]; exact ⟨v, _, rfl, rv₂, u, _, rfl, ru, rfl⟩)
        exact wpAny_updateSeq hoS' rfl ⟨by simpa only [hsetS] using R₃, E₃⟩ hz' (by rw [sizeLine_eq]; simp)
      clear q1 q2 keyStep
      rcases best with _ | b
      ·
        simp only [bestL, RepFs] at hr
        rw [hr]
        refine wpAny_bind (wpAny_mono upd (fun _ s₃ h => wpAny_pure ⟨plainId_quiet PySem.F.plain_min_loop _, rest u s₂ R₂ E₂ ru (some x) s₃ h.1 h.2 (.inl rfl) rfl⟩) fun _ _ x => x)
      ·
        simp only [bestL, RepFs] at hr
        (refine oEEAAEEAA hr ?_; try clear hr; rintro v0 vs0 e0 rb v1 vs1 rfl rk rfl)
        rw [e0]
        have rk₂ : RepF s₂.heap (key b) v1 := R'.val_ext (av := .f (key b)) E₂ (R.val_ext (av := .f (key b)) E' rk)
        refine wpAny_bind (wpAny_tryCatch (wpAny_holding (wpAny_bind (hcmp (key x) (key b) u v1 s₂ (hb b rfl x (.head _)) ru rk₂ _ _ ?_))))
        refine wpAny_bind (wpAny_holding (wpAny_truthy_bool ?_))
        refine wpAny_bind (wpAny_letGo (wpAny_pure ?_))
        cases hbt : better (key x) (key b) with
        | true =>
          simp only [if_true]
          refine wpAny_bind (wpAny_mono upd (fun _ s₃ h => wpAny_bind (wpAny_letGo (wpAny_pure ⟨plainId_quiet PySem.F.plain_min_loop _, rest u s₂ R₂ E₂ ru (some x) s₃ h.1 h.2 (.inl rfl) (by simp [hbt])⟩))) fun _ _ x => x)
        | false =>
          simp only [Bool.false_eq_true, if_false]
          exact wpAny_bind (wpAny_letGo (wpAny_pure ⟨plainId_quiet PySem.F.plain_min_loop _, rest u s₂ R₂ E₂ ru (some b) s₂ R₂ .refl (.inr ⟨rfl, rfl⟩) (by simp [hbt])⟩))
    have hkvk : kv = .none ∨ ∃ q, kv = .ref q := hkv.elim (fun h => .inl h.1) fun ⟨q, _, _, _, _, h, _⟩ => .inr ⟨q, h⟩
    rcases hkvk with h | ⟨q, h⟩
    · have hk1 := (keyStep (fun u s₂ => _) NoE fun u s₂ R₂ E₂ ru => tail u s₂ R₂ E₂ ru _ rfl).1 h
      clear tail rest keyStep hkv' ih hkv
      subst h
      exact wpAny_bind hk1
    · have hk1 := (keyStep (fun u s₂ => _) (fun _ _ => False) fun u s₂ R₂ E₂ ru => tail u s₂ R₂ E₂ ru _ rfl).2 q h
      clear tail rest keyStep hkv' ih hkv
      subst h
      exact wpAny_bind (wpAny_tryCatch (wpAny_holding (wpAny_mono hk1 (fun _ _ x => x) fun _ _ x => x.elim)))

theorem args_min_dk (a d v : Value) : argsOk "min" ⟨[a], [(Str.ofString "default", d), (Str.ofString "key", v)]⟩ := by unfold argsOk; kernel_rfl
theorem we_min {p pos kp1 kp2 : Pos} {e1 e2 e3 : Expr} {k ks : Nat} {l : List FV} {kav : AV} {key : FV → FV} {better : FV → FV → Bool} {Cq : FV → FV → Prop} {P : AV → St → Prop} (hn : 1 ≤ X.n) (hf : PE X st (.Name "min" p) (.val (.builtin "min"))) (h1 : PE X st e1 (.obj k)) (hk : st.hp[k]? = some (.iter l)) (h2 : PE X st e2 (.obj ks)) (h3 : PE X st e3 kav)
    (hkav : (kav = .f .none ∧ ∀ x ∈ l, key x = x) ∨ ∃ ps e sc m, kav = .lam ps e sc ∧ m + 1 ≤ X.n ∧ ∀ x ∈ l, LamGives X.toWx ps e sc m x (key x))
    (hcm : ∀ x ∈ l, ∀ y ∈ l, Cq (key x) (key y))
    (hcmp : ∀ x y (v u : Value) (s : Shared), Cq x y → RepF s.heap x v → RepF s.heap y u → ∀ (Q : Value → Shared → Prop) (E : Value → Shared → Prop), Q (.bool (better x y)) s → wpAny X.M X.A.in1 (richCompare .Lt v u) Q E s)
    (q1 : l = [] → P (.obj ks) ⟨st.loc, st.hp.set k .junk⟩) (q2 : ∀ x, bestF better key l = some x → P (.f x) ⟨st.loc, st.hp.set k .junk⟩) (hst : starEach [e1] X.env = [(false, eval e1 X.env)] := by rfl) :
    WE X (.Call (.Name "min" p) [e1] [⟨some (Str.ofString "default"), e2, kp1⟩, ⟨some (Str.ofString "key"), e3, kp2⟩] pos) st P := fun ρ s R => by
  refine builtin_kw R hf (.cons h1 .nil hst) (.cons h2 (.cons h3 .nil)) fun vs kvs s₁ R₁ G₁ rv rk => ?_
  refine rv.c1 (fun _ r => ?_)
  ·
    refine rk.c2 (fun _ _ rd rkey => ?_)
    ·
        (refine oEA r ?_; try clear r; rintro I eI rfl)
        rename_i d kv
        have hkl : k < st.hp.length := (List.getElem?_eq_some_iff.mp hk).1
        refine kmk_tree PySem.F.kind_min PySem.F.plain_min PySem.F.entry_min (args_min_dk _ _ _) ?_
        show wpAny _ X.A.in1 (Builtin.Builtins.bindParams "min" ["key", "default"] 0 ⟨[], [(Str.ofString "default", d), (Str.ofString "key", kv)]⟩ >>= _) _ _ s₁
        refine wpAny_bind (wpAny_of_eq (show Builtin.Builtins.bindParams "min" ["key", "default"] 0 ⟨[], [(Str.ofString "default", d), (Str.ofString "key", kv)]⟩ = pure [some kv, some d] from rfl) ?_)
        (refine oEEEA (R₁.objIter hk eI) ?_; rintro la i items hit _)
        show wpAny _ X.A.in1 (pyIter (.ref I) >>= _) _ _ s₁
        refine wpAny_bind (wpAny_pyIter_listiter hit ?_)
        show wpAny _ X.A.in1 (newList [] >>= _) _ _ s₁
        refine wpAny_bind (wpAny_newList ?_ (Nat.zero_le _))
        have hkp : ∀ b o, s₁.heap.get? b = some o → (s₁.heap.push { cls := .type "list", data := .seq ([] : List Value).toArray }).get? b = some o := fun b o e => Heap.get?_push_of_some _ e
        have G2 : X.G s₁ { s₁ with heap := s₁.heap.push { cls := .type "list", data := .seq ([] : List Value).toArray } } := ⟨.of_keeps hkp, .keeps hkp, rfl, rfl⟩
        obtain ⟨R₂, E₂⟩ := R₁.alloc (ao := .list []) G2 (a := s₁.heap.objs.size) (Heap.get?_none_of_le (Nat.le_refl _)) (iEA (#[]) (⟨0, Heap.get?_push_size _ rfl⟩) (by simp [RepFs]))
        have hself : st.hp.set k (.iter l) = st.hp := set_self hk
        have R₂' : Rep X (ρ ++ [s₁.heap.objs.size]) ⟨st.loc, st.hp.set k (.iter l) ++ [.list (bestL key none)]⟩ { s₁ with heap := s₁.heap.push { cls := .type "list", data := .seq ([] : List Value).toArray } } := by rw [hself]; exact R₂
        have hobj : ∀ x k', st.loc.lookup x = some (.obj k') → k' < (st.hp.set k AO.junk).length := fun x k' e => by
          (refine oEAEA (R₁.var x _ e) ?_; rintro v _ a ea _)
          have := (List.getElem?_eq_some_iff.mp ea).1
          rw [List.length_set, R₁.len]; exact this
        have hname : (toString "min" ++ toString ".loop" : String) = "min.loop" := by decide
        have hkey : KeyV (X.in1 hn) kv { s₁ with heap := s₁.heap.push { cls := .type "list", data := .seq ([] : List Value).toArray } } key l := by
          rcases hkav with ⟨rfl, hid⟩ | ⟨ps, e, sc, m, rfl, hm, hg⟩
          · exact .inl ⟨rkey, hid⟩
          · (refine oEA rkey ?_; try clear rkey; rintro qa rfl hl)
            exact .inr (iEEEEEAAA qa ps e sc m rfl (hl.grow R₁.tab G2) ((by show m ≤ X.n - 1; lia)) hg)
        have fin : ∀ (av : AV) (v : Value) (s' : Shared), Rep X (ρ ++ [s₁.heap.objs.size]) ⟨st.loc, st.hp.set k .junk ++ [.list []]⟩ s' → Ext X (ρ ++ [s₁.heap.objs.size]) { s₁ with heap := s₁.heap.push { cls := .type "list", data := .seq ([] : List Value).toArray } } (ρ ++ [s₁.heap.objs.size]) s' → P av ⟨st.loc, st.hp.set k .junk⟩ → RepV s'.heap (im X ρ) ρ av v →
            ∃ ρ' av st', Rep X ρ' st' s' ∧ Ext X ρ s ρ' s' ∧ RepV s'.heap (im X ρ') ρ' av v ∧ P av st' := fun av v s' R' E' q r =>
          (iEEEAAA ρ av _ (R'.pop (by rw [List.length_set, R₁.len]) hobj) (((R.ext G₁).trans (E₂.trans E')).pop) r q)
        rw [hname]
        refine wpAny_pure ⟨plainId_quiet PySem.F.plain_min_loop _, min_loop (ρ := ρ) (S := s₁.heap.objs.size) (key := key) (better := better) (loc := st.loc) (hp := st.hp) hn hkl eI R₁.len hcmp l none _ hcm (fun b e => by cases e) hkey R₂' (fun s' R' E' _ hl => ?_) fun s' v x R' E' hb rx => ?_⟩
        · refine fin (.obj ks) d s' R' E' (q1 hl) ?_
          (refine oEA rd ?_; try clear rd; rintro a ea ed)
          exact (iEA a ea ed)
        · exact fin (.f x) v s' R' E' (q2 x hb) rx

theorem max_loop {I S : Addr} {k : Nat} {kv d : Value} {key : FV → FV} {better : FV → FV → Bool} {Cq : FV → FV → Prop} {loc : List (Str × AV)} {hp : List AO} (hn : 1 ≤ X.n) (hkl : k < hp.length) (hIa : ρ[k]? = some I) (hlen : hp.length = ρ.length)
    (hcmp : ∀ x y (v u : Value) (s : Shared), Cq x y → RepF s.heap x v → RepF s.heap y u → ∀ (Q : Value → Shared → Prop) (E : Value → Shared → Prop), Q (.bool (better x y)) s → wpAny X.M X.A.in1 (richCompare .Gt v u) Q E s)
    {Post : Value → Shared → Prop} : ∀ (l : List FV) (best : Option FV) (s : Shared), (∀ x ∈ l, ∀ y ∈ l, Cq (key x) (key y)) → (∀ b, best = some b → ∀ x ∈ l, Cq (key x) (key b)) → KeyV (X.in1 hn) kv s key l →
      Rep X (ρ ++ [S]) ⟨loc, hp.set k (.iter l) ++ [.list (bestL key best)]⟩ s →
      (∀ s', Rep X (ρ ++ [S]) ⟨loc, hp.set k .junk ++ [.list []]⟩ s' → Ext X (ρ ++ [S]) s (ρ ++ [S]) s' → best = none → l = [] → Post d s') →
      (∀ s' v x, Rep X (ρ ++ [S]) ⟨loc, hp.set k .junk ++ [.list []]⟩ s' → Ext X (ρ ++ [S]) s (ρ ++ [S]) s' → (match best with | none => bestF better key l = some x | some b => bestGo better key b l = x) → RepF s'.heap x v → Post v s') →
      codeAny X.M X.A (.builtin "max.loop" ⟨[.ref I, kv, .ref S], [(Str.ofString "default", d)]⟩) (fun r s' => match r with | .ok (.ret v) => Post v s' | .ok _ => False | .error e => NoE e s') s := by
  have hname : (toString "max" ++ toString ".loop" : String) = "max.loop" := by decide
  have hS : ∀ (x y : AO), ((hp.set k x ++ [y] : List AO))[hp.length]? = some y := fun x y => by rw [List.getElem?_append_right (by simp)]; simp
  have hSa : (ρ ++ [S])[hp.length]? = some S := by rw [hlen, List.getElem?_append_right (Nat.le_refl _)]; simp
  have hI : ∀ (x y : AO), ((hp.set k x ++ [y] : List AO))[k]? = some x := fun x y => by rw [List.getElem?_append_left (by simpa using hkl)]; simp [hkl]
  have hIa' : (ρ ++ [S])[k]? = some I := by rw [List.getElem?_append_left (by lia)]; exact hIa
  have hset : ∀ (x x' y : AO), (hp.set k x ++ [y]).set k x' = hp.set k x' ++ [y] := fun x x' y => by rw [List.set_append_left _ _ (by simpa using hkl)]; simp
  have hsetS : ∀ (x y y' : AO), (hp.set k x ++ [y]).set hp.length y' = hp.set k x ++ [y'] := fun x y y' => by rw [List.set_append_right _ _ (by simp)]; simp
  intro l
  induction l with
  | nil =>
    intro best s hc hb hkv R q1 q2
    (refine oEAEA (R.obj hp.length _ (hS _ _)) ?_; rintro S' eS items ⟨n, hoS⟩ hr)
    obtain rfl : S = S' := Option.some.inj (hSa.symm.trans eS)
    refine codeAny_builtin PySem.F.entry_max_loop ?_
    rw [Around.under_plainId PySem.F.plain_max_loop _]
    show wpAny _ X.A.in1 (seqItems? (.ref S) >>= _) _ _ _
    refine wpAny_bind (wpAny_seqItems hoS rfl ?_)
    show wpAny _ X.A.in1 (tryCatch (pyNext (.ref I)) _ >>= _) _ _ _
    refine wpAny_bind (wpAny_tryCatch (wpAny_mono (next_end (X := X.in1 hn) (R.in1 hn) (hI _ _) hIa' rfl rfl (Q := fun r s' => r = none ∧ Rep X (ρ ++ [S]) ⟨loc, hp.set k .junk ++ [.list (bestL key best)]⟩ s' ∧ Ext X (ρ ++ [S]) s (ρ ++ [S]) s') fun s' R' E => ⟨rfl, by have := R'.out1; simpa only [hset] using this, E.out1⟩) (fun r s' h => ?_) fun _ _ x => x.elim))
    (refine oAA h ?_; try clear h; rintro rfl R' E')
    (refine oEAEA (R'.obj hp.length _ (hS _ _)) ?_; rintro S' eS' items' ⟨n', hoS'⟩ hr')
    obtain rfl : S = S' := Option.some.inj (hSa.symm.trans eS')
    rcases best with _ | b
    ·
      simp only [bestL, RepFs] at hr
      have e0 : items = #[] := Array.toList_eq_nil_iff.mp hr
      subst e0
      show wpAny _ X.A.in1 (rule _ >>= _) _ _ _
      exact wpAny_bind (wpAny_rule (wpAny_pure (q1 s' R' E' rfl rfl)))
    ·
      simp only [bestL, RepFs] at hr
      (refine oEEAAEEAA hr ?_; try clear hr; rintro v0 vs0 e0 rb v1 vs1 rfl rk rfl)
      have e0 : items = #[v0, v1] := by apply Array.toList_inj.mp; rw [e0]
      subst e0
      show wpAny _ X.A.in1 (updateSeq S (fun _ => #[]) >>= _) _ _ _
      obtain ⟨R₂, E₂⟩ := R'.remap (k := hp.length) (tk := s'.toks) (l' := []) (f := fun _ => #[]) hSa hoS' (by simp [RepFs])
      refine wpAny_bind (wpAny_updateSeq hoS' rfl (wpAny_bind (wpAny_letGo (wpAny_pure ?_))) (by rw [sizeLine_eq]; have := hr'.length; simp [bestL] at this; lia) (Nat.zero_le _))
      have rb' := R.val_ext (av := .f b) E' rb
      exact q2 _ v0 b (by simpa only [hsetS] using R₂) (E'.trans E₂) rfl (R'.val_ext (av := .f b) E₂ rb')
  | cons x l ih =>
    intro best s hc hb hkv R q1 q2
    (refine oEAEA (R.obj hp.length _ (hS _ _)) ?_; rintro S' eS items ⟨n, hoS⟩ hr)
    obtain rfl : S = S' := Option.some.inj (hSa.symm.trans eS)
    refine codeAny_builtin PySem.F.entry_max_loop ?_
    rw [Around.under_plainId PySem.F.plain_max_loop _]
    show wpAny _ X.A.in1 (seqItems? (.ref S) >>= _) _ _ _
    refine wpAny_bind (wpAny_seqItems hoS rfl ?_)
    show wpAny _ X.A.in1 (tryCatch (pyNext (.ref I)) _ >>= _) _ _ _
    refine wpAny_bind (wpAny_tryCatch (wpAny_mono (next_item (X := X.in1 hn) (R.in1 hn) (hI _ _) hIa' (x := x) (ao' := .iter l) rfl (Q := fun r s' => ∃ v, r = some v ∧ Rep X (ρ ++ [S]) ⟨loc, hp.set k (.iter l) ++ [.list (bestL key best)]⟩ s' ∧ Ext X (ρ ++ [S]) s (ρ ++ [S]) s' ∧ RepF s'.heap x v) fun v s' R' E rv => ⟨v, rfl, by have := R'.out1; simpa only [hset] using this, E.out1, rv⟩) (fun r s' h => ?_) fun _ _ x => x.elim))
    (refine oEAAA h ?_; try clear h; rintro v rfl R' E' rv)
    have hkv' := hkv.ext (X := X.in1 hn) (R.in1 hn) (E := ⟨E'.same, E'.pre, E'.mu, E'.ex, E'.gens, E'.os⟩)
    -- the key
    have keyStep : ∀ (Q : Value → Shared → Prop) (E : Value → Shared → Prop), (∀ u s₂, Rep X (ρ ++ [S]) ⟨loc, hp.set k (.iter l) ++ [.list (bestL key best)]⟩ s₂ → Ext X (ρ ++ [S]) s' (ρ ++ [S]) s₂ → RepF s₂.heap (key x) u → Q u s₂) →
        ((kv = .none → wpAny X.M X.A.in1 (pure v : Sem Value) Q E s') ∧ (∀ q, kv = .ref q → wpAny X.M X.A.in1 (call (.ref q) [v]) Q E s')) := by
      intro Q E hQ
      clear ih hkv
      rcases hkv' with ⟨rfl, hid⟩ | ⟨q, ps, e, sc, m, rfl, hl, hm, hg⟩
      · refine ⟨fun _ => wpAny_pure (hQ v s' R' .refl (by rw [hid x (.head _)]; exact rv)), fun q h => by cases h⟩
      · refine ⟨fun h => (by cases h), fun q' h => ?_⟩
        cases h
        refine wpAny_mono ((hg x (.head _)).on hm (R'.in1 hn) hl rv) (fun u s₂ h => ?_) fun _ _ x => x.elim
        exact hQ u s₂ (R'.grow ⟨h.1.same, h.1.tab, h.1.gens, h.1.os⟩) (R'.ext ⟨h.1.same, h.1.tab, h.1.gens, h.1.os⟩) h.2
    -- what follows the key
    have rest : ∀ u s₂, Rep X (ρ ++ [S]) ⟨loc, hp.set k (.iter l) ++ [.list (bestL key best)]⟩ s₂ → Ext X (ρ ++ [S]) s' (ρ ++ [S]) s₂ → RepF s₂.heap (key x) u →
        (∀ (new : Option FV) (s₃ : Shared), Rep X (ρ ++ [S]) ⟨loc, hp.set k (.iter l) ++ [.list (bestL key new)]⟩ s₃ → Ext X (ρ ++ [S]) s₂ (ρ ++ [S]) s₃ → (new = some x ∨ new = best ∧ best.isSome = true) → (match best with | none => new = some x | some b => new = if better (key x) (key b) = true then some x else some b) →
          codeAny X.M X.A (.builtin "max.loop" ⟨[.ref I, kv, .ref S], [(Str.ofString "default", d)]⟩) (fun r s' => match r with | .ok (.ret v) => Post v s' | .ok _ => False | .error e => NoE e s') s₃) := by
      intro u s₂ R₂ E₂ ru new s₃ R₃ E₃ hnew hnew2
      have EE : Ext X (ρ ++ [S]) s (ρ ++ [S]) s₃ := (E'.trans E₂).trans E₃
      refine ih new s₃ (fun y hy z hz => hc y (.tail _ hy) z (.tail _ hz)) (fun b eb y hy => ?_) ((hkv.ext (X := X.in1 hn) (R.in1 hn) (E := ⟨EE.same, EE.pre, EE.mu, EE.ex, EE.gens, EE.os⟩)).tail) R₃ (fun s' R E hn0 => ?_) (fun s' v' x' R E hbest rv' => q2 s' v' x' R (EE.trans E) ?_ rv')
      · rcases hnew with rfl | ⟨rfl, _⟩
        · cases eb; exact hc y (.tail _ hy) x (.head _)
        · exact hb b eb y (.tail _ hy)
      · rcases hnew with rfl | ⟨rfl, h⟩
        · cases hn0
        · rw [hn0] at h; cases h
      · clear hb q1 q2 keyStep hnew R₂ R' hr R
        rcases best with _ | b
        · simp only at hnew2; subst hnew2; simpa [bestF] using hbest
        ·
          simp only at hnew2
          subst hnew2
          simp only [bestGo]
          split
          · rename_i hbt; rw [if_pos hbt] at hbest; exact hbest
          · rename_i hbt; rw [if_neg hbt] at hbest; exact hbest
    have tail : ∀ u s₂, Rep X (ρ ++ [S]) ⟨loc, hp.set k (.iter l) ++ [.list (bestL key best)]⟩ s₂ → Ext X (ρ ++ [S]) s' (ρ ++ [S]) s₂ → RepF s₂.heap (key x) u →
        ∀ (t : Sem PySem.Fin), (t = (match items.toList with
          | [oldItem, oldVal] => do
            let better ← (holding [v, u] (do
              let answer ← richCompare .Gt u oldVal
              let yes ← holding [answer] (truthy answer)
              letGo [answer]
              pure yes)).tryCatch fun e => do
                updateSeq S fun _ => #[]
                letGo ([u, v] ++ items.toList.reverse) [e]
                throw e
            if better then do
              updateSeq S fun _ => #[v, u]
              letGo [oldVal, oldItem]
            else letGo [v, u]
            again (.builtin "max.loop" ⟨[.ref I, kv, .ref S], [(Str.ofString "default", d)]⟩)
          | _ => do
            updateSeq S fun _ => #[v, u]
            again (.builtin "max.loop" ⟨[.ref I, kv, .ref S], [(Str.ofString "default", d)]⟩))) →
        wpAny X.M X.A.in1 t (fun fin s' => match fin with
          | .done f => (match (Except.ok f : Result) with | .ok (.ret v) => Post v s' | .ok _ => False | .error e => NoE e s')
          | .again c' => c'.quiet = true ∧ codeAny X.M X.A c' (fun r s' => match r with | .ok (.ret v) => Post v s' | .ok _ => False | .error e => NoE e s') s') NoE s₂ := by
      intro u s₂ R₂ E₂ ru t ht
      subst ht
      have rv₂ : RepF s₂.heap x v := R'.val_ext (av := .f x) E₂ rv
      (refine oEAEA (R₂.obj hp.length _ (hS _ _)) ?_; rintro S' eS' items' ⟨n', hoS'⟩ hr')
      obtain rfl : S = S' := Option.some.inj (hSa.symm.trans eS')
      have hz' : items'.size ≤ sizeLine := by
        have h2 : (bestL key best).length ≤ 2 := bestL_len key best
        rw [sizeLine_eq]; have := hr'.length; simp only [Array.length_toList] at this; lia
      have upd : wpAny X.M X.A.in1 (updateSeq S fun _ => #[v, u]) (fun _ s₃ => Rep X (ρ ++ [S]) ⟨loc, hp.set k (.iter l) ++ [.list [x, key x]]⟩ s₃ ∧ Ext X (ρ ++ [S]) s₂ (ρ ++ [S]) s₃) NoE s₂ := by
        obtain ⟨R₃, E₃⟩ := R₂.remap (k := hp.length) (tk := s₂.toks) (l' := [x, key x]) (f := fun _ => #[v, u]) hSa hoS' (by simp only [RepFs]; exact ⟨v, _, rfl, rv₂, u, _, rfl, ru, rfl⟩)
        exact wpAny_updateSeq hoS' rfl ⟨by simpa only [hsetS] using R₃, E₃⟩ hz' (by rw [sizeLine_eq]; simp)
      clear q1 q2 keyStep
      rcases best with _ | b
      ·
        simp only [bestL, RepFs] at hr
        rw [hr]
        refine wpAny_bind (wpAny_mono upd (fun _ s₃ h => wpAny_pure ⟨plainId_quiet PySem.F.plain_max_loop _, rest u s₂ R₂ E₂ ru (some x) s₃ h.1 h.2 (.inl rfl) rfl⟩) fun _ _ x => x)
      ·
        simp only [bestL, RepFs] at hr
        (refine oEEAAEEAA hr ?_; try clear hr; rintro v0 vs0 e0 rb v1 vs1 rfl rk rfl)
        rw [e0]
        have rk₂ : RepF s₂.heap (key b) v1 := R'.val_ext (av := .f (key b)) E₂ (R.val_ext (av := .f (key b)) E' rk)
        refine wpAny_bind (wpAny_tryCatch (wpAny_holding (wpAny_bind (hcmp (key x) (key b) u v1 s₂ (hb b rfl x (.head _)) ru rk₂ _ _ ?_))))
        refine wpAny_bind (wpAny_holding (wpAny_truthy_bool ?_))
        refine wpAny_bind (wpAny_letGo (wpAny_pure ?_))
        cases hbt : better (key x) (key b) with
        | true =>
          simp only [if_true]
          refine wpAny_bind (wpAny_mono upd (fun _ s₃ h => wpAny_bind (wpAny_letGo (wpAny_pure ⟨plainId_quiet PySem.F.plain_max_loop _, rest u s₂ R₂ E₂ ru (some x) s₃ h.1 h.2 (.inl rfl) (by simp [hbt])⟩))) fun _ _ x => x)
        | false =>
          simp only [Bool.false_eq_true, if_false]
          exact wpAny_bind (wpAny_letGo (wpAny_pure ⟨plainId_quiet PySem.F.plain_max_loop _, rest u s₂ R₂ E₂ ru (some b) s₂ R₂ .refl (.inr ⟨rfl, rfl⟩) (by simp [hbt])⟩))
    have hkvk : kv = .none ∨ ∃ q, kv = .ref q := hkv.elim (fun h => .inl h.1) fun ⟨q, _, _, _, _, h, _⟩ => .inr ⟨q, h⟩
    rcases hkvk with h | ⟨q, h⟩
    · have hk1 := (keyStep (fun u s₂ => _) NoE fun u s₂ R₂ E₂ ru => tail u s₂ R₂ E₂ ru _ rfl).1 h
      clear tail rest keyStep hkv' ih hkv
      subst h
      exact wpAny_bind hk1
    · have hk1 := (keyStep (fun u s₂ => _) (fun _ _ => False) fun u s₂ R₂ E₂ ru => tail u s₂ R₂ E₂ ru _ rfl).2 q h
      clear tail rest keyStep hkv' ih hkv
      subst h
      exact wpAny_bind (wpAny_tryCatch (wpAny_holding (wpAny_mono hk1 (fun _ _ x => x) fun _ _ x => x.elim)))

theorem args_max_dk (a d v : Value) : argsOk "max" ⟨[a], [(Str.ofString "default", d), (Str.ofString "key", v)]⟩ := by unfold argsOk; kernel_rfl
theorem we_max {p pos kp1 kp2 : Pos} {e1 e2 e3 : Expr} {k ks : Nat} {l : List FV} {kav : AV} {key : FV → FV} {better : FV → FV → Bool} {Cq : FV → FV → Prop} {P : AV → St → Prop} (hn : 1 ≤ X.n) (hf : PE X st (.Name "max" p) (.val (.builtin "max"))) (h1 : PE X st e1 (.obj k)) (hk : st.hp[k]? = some (.iter l)) (h2 : PE X st e2 (.obj ks)) (h3 : PE X st e3 kav)
    (hkav : (kav = .f .none ∧ ∀ x ∈ l, key x = x) ∨ ∃ ps e sc m, kav = .lam ps e sc ∧ m + 1 ≤ X.n ∧ ∀ x ∈ l, LamGives X.toWx ps e sc m x (key x))
    (hcm : ∀ x ∈ l, ∀ y ∈ l, Cq (key x) (key y))
    (hcmp : ∀ x y (v u : Value) (s : Shared), Cq x y → RepF s.heap x v → RepF s.heap y u → ∀ (Q : Value → Shared → Prop) (E : Value → Shared → Prop), Q (.bool (better x y)) s → wpAny X.M X.A.in1 (richCompare .Gt v u) Q E s)
    (q1 : l = [] → P (.obj ks) ⟨st.loc, st.hp.set k .junk⟩) (q2 : ∀ x, bestF better key l = some x → P (.f x) ⟨st.loc, st.hp.set k .junk⟩) (hst : starEach [e1] X.env = [(false, eval e1 X.env)] := by rfl) :
    WE X (.Call (.Name "max" p) [e1] [⟨some (Str.ofString "default"), e2, kp1⟩, ⟨some (Str.ofString "key"), e3, kp2⟩] pos) st P := fun ρ s R => by
  refine builtin_kw R hf (.cons h1 .nil hst) (.cons h2 (.cons h3 .nil)) fun vs kvs s₁ R₁ G₁ rv rk => ?_
  refine rv.c1 (fun _ r => ?_)
  ·
    refine rk.c2 (fun _ _ rd rkey => ?_)
    ·
        (refine oEA r ?_; try clear r; rintro I eI rfl)
        rename_i d kv
        have hkl : k < st.hp.length := (List.getElem?_eq_some_iff.mp hk).1
        refine kmk_tree PySem.F.kind_max PySem.F.plain_max PySem.F.entry_max (args_max_dk _ _ _) ?_
        show wpAny _ X.A.in1 (Builtin.Builtins.bindParams "max" ["key", "default"] 0 ⟨[], [(Str.ofString "default", d), (Str.ofString "key", kv)]⟩ >>= _) _ _ s₁
        refine wpAny_bind (wpAny_of_eq (show Builtin.Builtins.bindParams "max" ["key", "default"] 0 ⟨[], [(Str.ofString "default", d), (Str.ofString "key", kv)]⟩ = pure [some kv, some d] from rfl) ?_)
        (refine oEEEA (R₁.objIter hk eI) ?_; rintro la i items hit _)
        show wpAny _ X.A.in1 (pyIter (.ref I) >>= _) _ _ s₁
        refine wpAny_bind (wpAny_pyIter_listiter hit ?_)
        show wpAny _ X.A.in1 (newList [] >>= _) _ _ s₁
        refine wpAny_bind (wpAny_newList ?_ (Nat.zero_le _))
        have hkp : ∀ b o, s₁.heap.get? b = some o → (s₁.heap.push { cls := .type "list", data := .seq ([] : List Value).toArray }).get? b = some o := fun b o e => Heap.get?_push_of_some _ e
        have G2 : X.G s₁ { s₁ with heap := s₁.heap.push { cls := .type "list", data := .seq ([] : List Value).toArray } } := ⟨.of_keeps hkp, .keeps hkp, rfl, rfl⟩
        obtain ⟨R₂, E₂⟩ := R₁.alloc (ao := .list []) G2 (a := s₁.heap.objs.size) (Heap.get?_none_of_le (Nat.le_refl _)) (iEA (#[]) (⟨0, Heap.get?_push_size _ rfl⟩) (by simp [RepFs]))
        have hself : st.hp.set k (.iter l) = st.hp := set_self hk
        have R₂' : Rep X (ρ ++ [s₁.heap.objs.size]) ⟨st.loc, st.hp.set k (.iter l) ++ [.list (bestL key none)]⟩ { s₁ with heap := s₁.heap.push { cls := .type "list", data := .seq ([] : List Value).toArray } } := by rw [hself]; exact R₂
        have hobj : ∀ x k', st.loc.lookup x = some (.obj k') → k' < (st.hp.set k AO.junk).length := fun x k' e => by
          (refine oEAEA (R₁.var x _ e) ?_; rintro v _ a ea _)
          have := (List.getElem?_eq_some_iff.mp ea).1
          rw [List.length_set, R₁.len]; exact this
        have hname : (toString "max" ++ toString ".loop" : String) = "max.loop" := by decide
        have hkey : KeyV (X.in1 hn) kv { s₁ with heap := s₁.heap.push { cls := .type "list", data := .seq ([] : List Value).toArray } } key l := by
          rcases hkav with ⟨rfl, hid⟩ | ⟨ps, e, sc, m, rfl, hm, hg⟩
          · exact .inl ⟨rkey, hid⟩
          · (refine oEA rkey ?_; try clear rkey; rintro qa rfl hl)
            exact .inr (iEEEEEAAA qa ps e sc m rfl (hl.grow R₁.tab G2) ((by show m ≤ X.n - 1; lia)) hg)
        have fin : ∀ (av : AV) (v : Value) (s' : Shared), Rep X (ρ ++ [s₁.heap.objs.size]) ⟨st.loc, st.hp.set k .junk ++ [.list []]⟩ s' → Ext X (ρ ++ [s₁.heap.objs.size]) { s₁ with heap := s₁.heap.push { cls := .type "list", data := .seq ([] : List Value).toArray } } (ρ ++ [s₁.heap.objs.size]) s' → P av ⟨st.loc, st.hp.set k .junk⟩ → RepV s'.heap (im X ρ) ρ av v →
            ∃ ρ' av st', Rep X ρ' st' s' ∧ Ext X ρ s ρ' s' ∧ RepV s'.heap (im X ρ') ρ' av v ∧ P av st' := fun av v s' R' E' q r =>
          (iEEEAAA ρ av _ (R'.pop (by rw [List.length_set, R₁.len]) hobj) (((R.ext G₁).trans (E₂.trans E')).pop) r q)
        rw [hname]
        refine wpAny_pure ⟨plainId_quiet PySem.F.plain_max_loop _, max_loop (ρ := ρ) (S := s₁.heap.objs.size) (key := key) (better := better) (loc := st.loc) (hp := st.hp) hn hkl eI R₁.len hcmp l none _ hcm (fun b e => by cases e) hkey R₂' (fun s' R' E' _ hl => ?_) fun s' v x R' E' hb rx => ?_⟩
        · refine fin (.obj ks) d s' R' E' (q1 hl) ?_
          (refine oEA rd ?_; try clear rd; rintro a ea ed)
          exact (iEA a ea ed)
        · exact fin (.f x) v s' R' E' (q2 x hb) rx
end
end Mine
end
section
open PySem PySem.W PySem.Calls PyProof.Rows
open PyProof.Rows.TI (gone gone_get gone_none gone_some)
set_option Elab.async false
set_option maxRecDepth 100000
set_option linter.unusedVariables false
set_option linter.unusedSimpArgs false
namespace Mine
open Classical
theorem no_len_iter : typeLookup (.type "list_iterator") "__len__" = pure none := by rw [typeLookup_type, builtinLookup_eq_fast]; kernel_rfl
section
variable {prog : Program} {w : World} {A : Around} {E : Value → Shared → Prop} {s : Shared}
theorem len_raises {I la : Addr} {i : Nat} {Q : Value → Shared → Prop} (hh : A.handled = none) (hit : s.heap.IsListIter I la i) (h : ∀ h' tk e, Heap.NewExc s.heap h' e "TypeError" → E (.ref e) { s with heap := h', toks := tk }) :
    wpAny (model prog w) A (call (.builtin "len") [.ref I]) Q E s := by
  refine Calls.call_function_entry kind_len plain_len entry_len (args_len1 _) ?_
  unfold Builtin.«len»
  refine wpAny_bind (m := oneArg "len" _) (wpAny_pure ?_)
  refine wpAny_bind (wpAny_callSpecial?_none hit.typeIs no_len_iter ?_)
  refine wpAny_bind (wpAny_rule ?_)
  refine wpAny_bind (wpAny_typeNameOf' hit.typeIs (by decide) ?_)
  exact_raiseError plainExc_TypeError hh h
end
section
variable {X : Fx} {st : St} {ρ ρ' : List Addr} {s s' s'' : Shared}
theorem ws1_try_ok {body orelse : List Stmt} {h₀ : ExceptHandler} {hs : List ExceptHandler} {pos : Pos} {Q : AF → St → Prop} (h : WS X body st (Then X orelse Q)) : WS1 X (.Try body (h₀ :: hs) orelse [] pos) st Q := fun ρ s R => by
  refine wpAny_Try_except (wpAny_mono (h ρ s R) (fun fl s₁ e => ?_) fun _ _ x => x.elim)
  (refine oEEEAAA e ?_; try clear e; rintro ρ' af st' R' E r q)
  cases af with
  | next =>
    simp only [RepFl] at r; subst r
    exact wpAny_mono (q ρ' s₁ R') (fun _ _ h => h.before E) fun _ _ x => x
  | brk => simp only [RepFl] at r; subst r; exact (iEEEAAA ρ' (.brk) st' R' E rfl q)
  | cont => simp only [RepFl] at r; subst r; exact (iEEEAAA ρ' (.cont) st' R' E rfl q)
  | ret a => (refine oEA r ?_; try clear r; rintro v rfl rv); exact (iEEEAAA ρ' (.ret a) st' R' E ((iEA v rfl rv)) q)

theorem funFrames_of {h base : Heap} : ∀ {l : List Env}, (∀ e ∈ l, e.scope.kind ≠ .module ∧ e.frame.isSome = true) → (∀ a ∈ l.filterMap (·.frame), base.get? a = none ∧ ∃ o, h.get? a = some o ∧ ∀ vs, o.data ≠ .fields vs) → h.FunFrames base l
  | [], _, _ => trivial
  | env :: l, h1, h2 => by
    obtain ⟨k, f⟩ := h1 env (.head _)
    obtain ⟨L, hL⟩ := Option.isSome_iff_exists.mp f
    have e : (env :: l).filterMap (·.frame) = L :: l.filterMap (·.frame) := by simp [List.filterMap_cons, hL]
    rw [e] at h2
    (refine oAEA (h2 L (.head _)) ?_; rintro b1 o b2 b3)
    exact ⟨k, (iEEAAA L o hL b1 b2 b3), funFrames_of (fun e he => h1 e (.tail _ he)) fun a ha => h2 a (.tail _ ha)⟩

/- the try around len(iterator) -/
theorem ws1_try_len {x : Str} {px p1 p2 p3 tp hpos apos cpos pos np1 : Pos} {c : Nat} {e : Expr} {orelse : List Stmt} {k : Nat} {l : List FV} {Q : AF → St → Prop} (hfr : ∃ outer, X.A.frames = some (X.env :: outer))
    (hlen : PE X st (.Name "len" p1) (.val (.builtin "len"))) (he : PE X st e (.obj k)) (hk : st.hp[k]? = some (.iter l)) (hT : X.env.kindOf "TypeError" = some .globalImplicit) (hT' : X.gl.lookup (Str.ofString "TypeError") = some (.type "TypeError")) (hAt : X.env.kindOf "AttributeError" = some .globalImplicit) (hAt' : X.gl.lookup (Str.ofString "AttributeError") = some (.type "AttributeError"))
    (q : Q .next st) (hst : starEach [e] X.env = [(false, eval e X.env)] := by rfl) :
    WS1 X (.Try [.Assign [.Name x px] (.Call (.Name "len" p1) [e] [] cpos) apos] [.ExceptHandler (some (.Tuple [.Name "TypeError" p2, .Name "AttributeError" p3] c tp)) none [.Pass np1] hpos] orelse [] pos) st Q := fun ρ s R => by
  obtain ⟨outer, hfr⟩ := hfr
  (refine oEAA X.hF ?_; rintro outer' hf1 hf2 hf3)
  rw [hfr] at hf1
  cases hf1
  obtain ⟨L, hL⟩ := Option.isSome_iff_exists.mp (hf3 X.env (.head _)).2
  refine wpAny_Try_except (wpAny_execs_cons (wpAny_Assign_Name (wpAny_Call_ofName (wpAny_mono (hlen.on R (Q := fun v s₁ => Rep X ρ st s₁ ∧ X.G s s₁ ∧ v = .builtin "len") fun v s₁ R₁ G₁ r₁ => ⟨R₁, G₁, r₁⟩) (fun v s₁ hv => ?_) fun _ _ x => x.elim)) rfl))
  (refine oAA hv ?_; try clear hv; rintro R₁ G₁ rfl)
  rw [hst]
  refine callWith_builtin rfl (evalArgs_plain (spliced_cons (wpAny_mono (he.on R₁ (Q := fun v s₂ => Rep X ρ st s₂ ∧ X.G s₁ s₂ ∧ RepV s₂.heap (im X ρ) ρ (.obj k) v) fun v s₂ R₂ G₂ r₂ => ⟨R₂, G₂, r₂⟩) (fun v s₂ hv => spliced_nil ?_) fun _ _ x => x.elim)))
  (refine oAA hv ?_; try clear hv; rintro R₂ G₂ r₂)
  (refine oEA r₂ ?_; try clear r₂; rintro I eI rfl)
  (refine oEEEA (R₂.objIter hk eI) ?_; rintro la i items hit _)
  refine len_raises X.hh hit fun h' tk ex hne => ?_
  (refine oEEAA hne.there ?_; rintro ob t0 hex hcl hda)
  -- the base: all but the frames
  have hbase : (gone s₂.heap X.F).StaysIn h' := fun b o eb => hne.keeps b o (gone_some eb).2
  have hfun : h'.FunFrames (gone s₂.heap X.F) (X.env :: outer) := funFrames_of hf3 fun a ha => by
    rw [hf2] at ha
    (refine oAEEEA (R₂.fr a ha) ?_; rintro _ o es n eo d)
    exact (iAEA (gone_none ha) o (hne.keeps a o eo) (fun vs z => by rw [d] at z; cases z))
  have hexn : (gone s₂.heap X.F).get? ex = none := by
    cases z : (gone s₂.heap X.F).get? ex with
    | none => rfl
    | some o => have := (gone_some z).2; rw [hne.new] at this; cases this
  have grow : ∀ h'' : Heap, (gone s₂.heap X.F).StaysIn h'' → (∀ b o, h'.get? b = some o → (∀ vs, o.data ≠ .fields vs) → ∃ sl, h''.get? b = some { o with slots := sl }) → Same Nowhere X.F s₂.heap h'' := by
    intro h'' hs hu b o _ eb
    by_cases hb : b ∈ X.F
    · (refine oAEEEA (R₂.fr b hb) ?_; rintro _ o2 es n eo d)
      rw [eb] at eo; cases eo
      obtain ⟨sl, e'⟩ := hu b o (hne.keeps b o eb) fun vs z => by rw [d] at z; cases z
      exact (iEA _ e' (.inr ⟨hb, rfl, rfl, rfl⟩))
    · exact (iEA o (hs b o ((gone_get hb).trans eb)) (.inl rfl))
  unfold noteFrame
  simp only [hL]
  refine wpAny_bind (wpAny_field hex hda (x := .none) rfl ?_)
  rw [if_neg (by decide)]
  refine wpAny_entryW hfr hfun hL hex hbase hexn hda (by simp) rfl fun h₃ hN => ?_
  (refine oAAA hN ?_; try clear hN; rintro n1 n2 n3 n4)
  refine wpAny_setFlight_noneW n1 n2 n3 fun h₄ k1 k2 k3 k4 => ?_
  refine wpAny_handleBy_tup2 (X := "TypeError") (T1 := "TypeError") (T2 := "AttributeError") (b1 := true) (b2 := false) ?_ ?_ ?_ ?_ ?_ ?_ ?_
  all_goals first
    | (rw [isSubtype_type]; kernel_rfl)
    | skip
  have S₄ : Same Nowhere X.F s₂.heap h₄ := grow h₄ k1 fun b o eb hn => by
    obtain ⟨sl, e3⟩ := n4 b o eb hn
    exact ⟨sl, k4 b _ e3 hn⟩
  have T₄ : TabOk X.toWx h₄ := R₂.tab_same S₄ (fun _ h => h.elim) (fun h => h) (fun z => R₂.F_notT z rfl)
  have G₄ : X.G s₂ { s₂ with heap := h₄, toks := tk } := ⟨S₄.mono fun _ h => h.elim, fun _ => T₄, rfl, rfl⟩
  have R₄ := R₂.grow G₄
  (refine oEEAA X.glo ?_; rintro mg mb hG hB hgl)
  have name : ∀ {nm : Str} {pp : Pos} {v : Value} {A' : Around} {Q' : Value → Shared → Prop} {E' : Value → Shared → Prop} {u : Shared}, X.env.kindOf nm = some .globalImplicit → X.gl.lookup nm = some v → (nm == ("__debug__" : Str)) = false → Rep X ρ st u → Q' v u → wpAny X.M A' (eval (.Name nm pp) X.env) Q' E' u := by
    intro nm pp v A' Q' E' u hk1 hl1 hd1 Ru hq
    refine Name_function_global X.hk hk1 ?_ hd1
    rcases hgl nm v hl1 with e | ⟨e, e'⟩
    · exact loadGlobal_global (mg := mg) (X.hg ▸ hG.keeps Ru.keep) e hq
    · exact loadGlobal_builtin (mg := mg) (mb := mb) (X.hg ▸ hG.keeps Ru.keep) e (X.hb ▸ hB.keeps Ru.keep) e' hq
  refine wpAny_Tuple_spliced (spliced_cons (name hT hT' (by decide) R₄ (spliced_cons (name hAt hAt' (by decide) R₄ (spliced_nil ?_)))))
  have hkp : ∀ b o, h₄.get? b = some o → (h₄.push { cls := .type "tuple", data := .seq ([Value.type "TypeError", Value.type "AttributeError"] : List Value).toArray }).get? b = some o := fun b o e => Heap.get?_push_of_some _ e
  refine (iAEAAA (by decide) _ rfl ((iEAAE _ (Heap.get?_push_size _ rfl) rfl _ rfl)) ?_ ?_)
  · (refine oEEEEEAA k3 ?_; try clear k3; rintro oe vs T oT ts he4 ⟨hcls, _⟩ _)
    exact (iEA oe (hkp _ _ he4) (hcls.trans hcl))
  · simp only [Bool.or_false, if_true]
    have k1' : (gone s₂.heap X.F).StaysIn (h₄.push { cls := .type "tuple", data := .seq ([Value.type "TypeError", Value.type "AttributeError"] : List Value).toArray }) := fun b o eb => hkp b o (k1 b o eb)
    have k2' := k2.of_keeps (h' := h₄.push { cls := .type "tuple", data := .seq ([Value.type "TypeError", Value.type "AttributeError"] : List Value).toArray }) fun b o eb _ => (iEA o (hkp b o eb) rfl)
    have k3' : (h₄.push { cls := .type "tuple", data := .seq ([Value.type "TypeError", Value.type "AttributeError"] : List Value).toArray }).TracedAtW (gone s₂.heap X.F) ex ob.cls t0 .none := by
      (refine oEEEEEAAAAAAAA k3 ?_; try clear k3; rintro oe vs T oT ts a1 a2 a3 a4 a5 a6 a7 a8 a9)
      exact ⟨oe, vs, T, oT, ts, hkp _ _ a1, a2, a3, a4, a5, a6, hkp _ _ a7, a8, a9⟩
    refine wpAny_setFlight_noneW k1' k2' k3' fun h₆ j1 j2 j3 j4 => ?_
    have S₆ : Same Nowhere X.F s₂.heap h₆ := grow h₆ j1 fun b o eb hn => by
      obtain ⟨sl, e3⟩ := n4 b o eb hn
      exact ⟨sl, j4 b _ (hkp _ _ (k4 b _ e3 hn)) hn⟩
    have T₆ : TabOk X.toWx h₆ := R₂.tab_same S₆ (fun _ h => h.elim) (fun h => h) (fun z => R₂.F_notT z rfl)
    have G₆ : X.G s₂ { s₂ with heap := h₆, toks := tk } := ⟨S₆.mono fun _ h => h.elim, fun _ => T₆, rfl, rfl⟩
    refine wpAny_execs_cons (wpAny_Pass (wpAny_execs_nil (iEEEAAA ρ (.next) st (R₂.grow G₆) (R.ext ((G₁.trans G₂).trans G₆)) rfl q)))
end
end Mine
end
section
open PySem PySem.W PySem.Calls PyProof.Rows
set_option Elab.async false
set_option maxRecDepth 100000
set_option linter.unusedVariables false
set_option linter.unusedSimpArgs false
namespace Mine
open Classical
theorem mro_object : mroOf (.type "object") = pure [.type "object"] := by rw [mroOf_type]; kernel_rfl
theorem lookup_object_new : typeLookup (.type "object") "__new__" = pure (some (.builtin "object.__new__")) := by rw [typeLookup_type, builtinLookup_eq_fast]; kernel_rfl
theorem made_object : Bind.madeBy (.type "object") = pure (some "object.__new__") := madeBy_type mro_object lookup_object_new (by decide +kernel)
theorem slot_object_init : Slot "object" "__init__" "object.__init__" := F.slot_object_init
theorem called_object : TypeCalled "object" "object.__new__" "object.__init__" :=
  ⟨by decide +kernel, by decide +kernel, (iEE _ _ mro_object), made_object, by decide +kernel, by rw [isSubtype_type]; kernel_rfl, slot_object_init⟩
theorem entry_object_new : entryFor table "object.__new__" = some Builtin.«object.__new__» := entryFor_of_tree (by kernel_rfl)
theorem typeCall_object : checkTypeCall "object" ⟨[], []⟩ = pure () := by kernel_rfl
theorem newCall_object : checkBuiltinCall "object.__new__" ⟨[.type "object"], []⟩ = pure () := by kernel_rfl
theorem made_here_object : Bind.madeHere "object.__new__" (.type "object") = pure () := by
  have hs : Bind.staticBase (.type "object") = pure (.type "object") := by
    unfold Bind.staticBase
    simp [mro_object, made_object]
  unfold Bind.madeHere
  rw [hs, pure_bind, made_object, pure_bind]
  rfl
theorem object_new_meets : Meets (Builtin.«object.__new__» ⟨[.type "object"], []⟩) (fun _ R s => R (.ok (.ret (.ref s.heap.objs.size))) { s with heap := s.heap.push { cls := .type "object", data := .plain } }) := by
  refine Meets.of_wp fun prog w A R s hs => ?_
  unfold Builtin.«object.__new__»
  dsimp only
  refine wpAny_bind (wpAny_of_eq (a := true) rfl ?_)
  simp only [Bool.not_true, Bool.false_eq_true, if_false]
  rw [if_neg (by decide +kernel)]
  refine wpAny_bind (wpAny_of_eq made_here_object ?_)
  simp only [List.isEmpty_nil, Bool.not_true, Bool.or_self, Bool.false_eq_true, if_false]
  rw [if_neg (by decide +kernel)]
  refine wpAny_bind (wpAny_pure ?_)
  refine wpAny_bind (wpAny_newObj_type ?_ (by size_fits))
  rw [if_neg (by decide +kernel)]
  exact wpAny_pure (iEA _ rfl hs)
section
variable {prog : Program} {w : World} {A : Around} {E : Value → Shared → Prop} {s : Shared}
theorem call_object {Q : Value → Shared → Prop} (h : Q (.ref s.heap.objs.size) { s with heap := s.heap.push { cls := .type "object", data := .plain } }) : wpAny (model prog w) A (call (.type "object") []) Q E s :=
  callType_meets (Q₁ := fun obj s₁ => s₁.TypeIs obj "object" ∧ Q obj s₁) called_object typeCall_object newCall_object entry_object_new F.entry_object_init object_new_meets ⟨⟨_, Heap.get?_push_size _ rfl, rfl⟩, h⟩ fun obj s₁ hq =>
    ⟨hq.1, F.args_object_init_1 _, fun _ R s => R (.ok (.ret .none)) s, Meets.of_wp fun prog w A R s hs => wpAny_pure (iEA _ rfl hs), rfl, hq.2⟩
end
section
variable {X : Fx} {st : St} {ρ ρ' : List Addr} {s s' s'' : Shared}
theorem we_object {p pos : Pos} {P : AV → St → Prop} (hf : PE X st (.Name "object" p) (.val (.type "object"))) (q : P (.obj st.hp.length) ⟨st.loc, st.hp ++ [.plain]⟩) : WE X (.Call (.Name "object" p) [] [] pos) st P := fun ρ s R =>
  type_on R hf .nil fun vs s₁ R₁ G₁ rv => by
    cases rv
    refine call_object ?_
    have hk : ∀ b o, s₁.heap.get? b = some o → (s₁.heap.push { cls := .type "object", data := .plain }).get? b = some o := fun b o e => Heap.get?_push_of_some _ e
    obtain ⟨R', E⟩ := R₁.alloc (ao := .plain) (s' := { s₁ with heap := s₁.heap.push { cls := .type "object", data := .plain } }) ⟨.of_keeps hk, .keeps hk, rfl, rfl⟩ (a := s₁.heap.objs.size) (Heap.get?_none_of_le (Nat.le_refl _)) (iEAA _ (Heap.get?_push_size _ rfl) rfl rfl)
    exact (iEEEAAA _ (.obj _) _ R' ((R.ext G₁).trans E) (⟨_, last_at R.len _, rfl⟩) q)
/- x is sentinel -/
theorem co_is_self {k : Nat} (hk : st.hp[k]? = some .plain) : CO X st .Is (.obj k) (.obj k) true := by
  (rintro ρ s v u R zq1 zq2; refine oEA zq1 ?_; clear zq1; rintro a ea rfl; refine oEA zq2 ?_; clear zq2; rintro b eb rfl)
  obtain rfl : a = b := Option.some.inj (ea.symm.trans eb)
  show wpAny _ _ (do return Value.bool (← isSame (.ref a) (.ref a))) _ _ _
  exact wpAny_bind (wpAny_isSame_ref_self (wpAny_pure ⟨rfl, .refl⟩))
theorem co_is_flat {k : Nat} {x : FV} (hk : st.hp[k]? = some .plain) : CO X st .Is (.f x) (.obj k) false := by
  (rintro ρ s v u R r zq1; refine oEA zq1 ?_; clear zq1; rintro b eb rfl)
  cases x with
  | none => have r : v = .none := r; subst r; exact wpAny_is_other rfl (by simp) ⟨rfl, .refl⟩
  | bool c => have r : v = .bool c := r; subst r; exact wpAny_is_other rfl (by simp) ⟨rfl, .refl⟩
  | int i => obtain ⟨t, rfl⟩ := r; exact wpAny_is_other rfl (by simp) ⟨rfl, .refl⟩
  | tup l =>
    simp only [RepV, RepF] at r
    (refine oEEAA r ?_; try clear r; rintro a items rfl ⟨o, e, c, _⟩ _)
    (refine oEAEAA (R.obj k _ hk) ?_; rintro b' eb' o' e' c' _)
    obtain rfl : b = b' := Option.some.inj (eb.symm.trans eb')
    have hab : a ≠ b := by
      rintro rfl
      rw [e] at e'; cases e'; rw [c] at c'; simp at c'
    show wpAny _ _ (do return Value.bool (← isSame (.ref a) (.ref b))) _ _ _
    exact wpAny_bind (SeqAt.wpAny_isSame_ref_other' hab e e' (by rw [c']; simp) (wpAny_pure ⟨rfl, .refl⟩))
/- own.sort() -/
theorem we_sort {o : Expr} {apos pos : Pos} {k : Nat} {l out : List FV} {κ : SortKind} {P : AV → St → Prop} (ho : PE X st o (.obj k)) (hl : st.hp[k]? = some (.list l)) (h64 : l.length < 64) (od : Ord (cmpF l)) (K : ∀ A s' ks, A.units + 80 < cLine → RepFs s'.heap l ks → Keyed' X.prog X.w A s' ks l κ) (hout : SOut id false l out)
    (q : P (.f .none) ⟨st.loc, st.hp.set k (.list out)⟩)
    (hbase : attributeBase o "sort" X.env (eval o X.env) = eval o X.env := by rfl) (hst : starEach [] X.env = [] := by rfl) (hline : (apos.endLine == pos.line) = true := by rfl) :
    WE X (.Call (.Attribute o "sort" apos) [] [] pos) st P := fun ρ s R => by
  refine method_on R ho hl F.slot_list_sort F.type_list_sort hbase (by rw [hst]; rfl) hline fun a s₁ R₁ G₁ r₁ => ?_
  rw [hst]
  refine callWith_builtin rfl (evalArgs_nil3 ?_)
  (refine oEEEAAAA (R₁.objList hl r₁) ?_; rintro a' items n ea e2 eo hr hsz)
  cases e2
  refine wpAny_call_entry PyProof.Rows.slot_list_sort (iEA _ eo rfl) PyProof.Rows.entry_list_sort ?_ (args_list_sort _)
  show wpAny _ _ (Builtin.«list.sort» ⟨[.ref a], []⟩) _ _ _
  rw [sk1]
  have hm := List.mem_of_getElem? ea
  refine sort_plain (F := []) (by simp) eo hr h64 (by simpa [katRev] using od) (fun s' r => K _ s' _ (by have := X.hu; simp only [Around.in1_units]; lia) r) fun s' out' outF C hp hSO hr' => (iEA _ rfl ?_)
  have hu := SOut.unique (by simpa [katRev] using od) hout hSO
  subst hu
  obtain ⟨R', E⟩ := R₁.mutateE (s' := s') (ao' := .list out) ea (fun b o' hb eb => C.same.exact hb (by simp) eb) (iEA out' hp hr') C.gens C.os
  exact (iEEEAAA ρ (.f .none) _ R' ((R.ext G₁).trans E) rfl q)
end
end Mine
end
section
open PySem PySem.W PySem.Calls PyProof.Rows
set_option Elab.async false
set_option maxRecDepth 100000
set_option linter.unusedVariables false
set_option linter.unusedSimpArgs false
namespace Mine
open Classical
section
variable {prog : Program} {w : World} {A : Around} {E : Value → Shared → Prop} {s : Shared} {env : Env}
theorem call_method_kw {o : Expr} {name : Str} {apos pos : Pos} {args : List Expr} {kws : List Keyword} {T id : String} {Q : Value → Shared → Prop}
    (hbase : attributeBase o name env (eval o env) = eval o env)
    (hform : methodCallForm (args.length + kws.length) (backTo pos (starEach args env)) (backToKw pos (keywordEach kws env)) = true)
    (hline : (apos.endLine == pos.line) = true)
    (pa : PlainAttrs T) (slot : Slot T name id) (hty : typeOf (.builtin id) = pure (.type "method_descriptor"))
    (h : wpAny (model prog w) A (eval o env) (fun ov s₁ => s₁.TypeIs ov T ∧ (∀ a, ov = .ref a → ∃ ob, s₁.heap.get? a = some ob ∧ ob.dict = none) ∧
      wpAny (model prog w) A (callWith pos (.builtin id) [ov] (backTo pos (starEach args env)) (backToKw pos (keywordEach kws env))) Q E s₁) E s) :
    wpAny (model prog w) A (eval (.Call (.Attribute o name apos) args kws pos) env) Q E s := by
  rw [arm_eval_Call, hbase]
  refine wpAny_bind (wpAny_mono h (fun ov s₁ h₁ => ?_) fun _ _ e => e)
  (refine oAA h₁ ?_; try clear h₁; rintro hT hd hc)
  refine wpAny_bind (wpAny_standAt ?_)
  have hpos : methodCallPos true o env apos pos = pure pos := by unfold methodCallPos; simp [hline]
  unfold methodCall
  rw [hform]
  refine wpAny_bind (wpAny_holding (getMethod_builtin hT pa slot hty hd ?_))
  exact wpAny_bind (wpAny_of_eq hpos hc)
end
section
variable {X : Fx} {st : St} {ρ ρ' : List Addr} {s s' s'' : Shared}
/- own.sort(reverse=True) -/
theorem we_sortR {o : Expr} {apos pos kp cp : Pos} {kk : Nat} {k : Nat} {l out : List FV} {κ : SortKind} {P : AV → St → Prop} (ho : PE X st o (.obj k)) (hl : st.hp[k]? = some (.list l)) (h64 : l.length < 64) (od : Ord (cmpF l.reverse)) (K : ∀ A s' ks, A.units + 80 < cLine → RepFs s'.heap l ks → Keyed' X.prog X.w A s' ks l κ) (hout : SOut id true l out)
    (q : P (.f .none) ⟨st.loc, st.hp.set k (.list out)⟩)
    (hbase : attributeBase o "sort" X.env (eval o X.env) = eval o X.env := by rfl) (hline : (apos.endLine == pos.line) = true := by rfl) :
    WE X (.Call (.Attribute o "sort" apos) [] [⟨some (Str.ofString "reverse"), .Constant (.bool true) kk cp, kp⟩] pos) st P := fun ρ s R => by
  refine call_method_kw hbase rfl hline F.plainAttrs_list F.slot_list_sort F.type_list_sort (ho.on R fun v s₁ R₁ G₁ r₁ => ?_)
  (refine oEEEAAAA (R₁.objList hl r₁) ?_; rintro a items n ea rfl eo hr hsz)
  refine ⟨⟨_, eo, rfl⟩, fun b e => by cases e; exact (iEA _ eo rfl), ?_⟩
  refine callWith_builtin_kwB rfl rfl (evalArgs_on R₁ .nil (.cons (pe_bool (b := true)) .nil) fun vs kvs s₂ R₂ G₂ rv rk => ?_)
  cases rv
  refine rk.c1 (fun _ r1 => ?_)
  ·
    have r1 : _ = Value.bool true := r1
    subst r1
    (refine oEEEAAAA (R₂.objList hl (R₁.val_grow G₂ r₁)) ?_; rintro a' items n ea' e2 eo hr hsz)
    cases e2
    refine wpAny_call_entry_kw PyProof.Rows.slot_list_sort (iEA _ eo rfl) PyProof.Rows.entry_list_sort ?_ (args_list_sort_rev _ _)
    show wpAny _ _ (Builtin.«list.sort» ⟨[.ref a], [(Str.ofString "reverse", .bool true)]⟩) _ _ _
    rw [sk3]
    refine sort_plain (F := []) (by simp) eo hr h64 (by simpa [katRev] using od) (fun s' r => K _ s' _ (by have := X.hu; simp only [Around.in1_units]; lia) r) fun s' out' outF C hp hSO hr' => (iEA _ rfl ?_)
    have hu := SOut.unique (by simpa [katRev] using od) hout hSO
    subst hu
    obtain ⟨R', E⟩ := R₂.mutateE (s' := s') (ao' := .list out) ea (fun b o' hb eb => C.same.exact hb (by simp) eb) (iEA out' hp hr') C.gens C.os
    exact (iEEEAAA ρ (.f .none) _ R' ((R.ext (G₁.trans G₂)).trans E) rfl q)

/- sum of a list of ints -/
theorem pe_sum {p pos : Pos} {e : Expr} {a : AV} {ns : List Int} (hf : PE X st (.Name "sum" p) (.val (.builtin "sum"))) (he : PE X st e a) (hl : asL st.hp a = some (ns.map .int)) (hst : starEach [e] X.env = [(false, eval e X.env)] := by rfl) : PE X st (.Call (.Name "sum" p) [e] [] pos) (.f (.int ns.sum)) := fun ρ s R =>
  builtin_on R hf (.cons he .nil hst) fun vs s₁ R₁ G₁ rv => by
    refine rv.c1 (fun _ r => ?_)
    ·
      (refine oEEAAA (R₁.asL hl r) ?_; rintro la items rfl hli hs hsz)
      have hsz' : items.size = ns.length := by simpa using hsz
      refine call_sum_walkAnyS (wpAny_pyIter_list hli ?_)
      have hla : la < s₁.heap.objs.size := by (refine oEA hli ?_; try clear hli; rintro o e _); exact Heap.lt_size e
      have W := Walks.list (prog := X.prog) (w := X.w) (A := X.A.in1.in1) X.hh s₁.heap.objs.size la (Nat.ne_of_lt hla) items
      refine ⟨s₁.heap.objs.size, [s₁.heap.objs.size, la], [s₁.heap.objs.size], _, items.size, _, _, fun i => ns.getD i 0, rfl, W.of_in1.toS, ⟨(iEAA _ (Heap.get?_push_size _ rfl) rfl rfl), hli.push _⟩, ?_, ?_, ?_⟩
      · intro b hb
        rw [Heap.size_push]
        rcases List.mem_cons.mp hb with rfl | hb
        · exact Nat.lt_succ_self _
        · rw [List.mem_singleton.mp hb]; exact Nat.lt_succ_of_lt hla
      · intro i v hv
        have hi : i < ns.length := by rw [← hsz']; exact (Array.getElem?_eq_some_iff.mp hv).1
        (refine oEA (hs.get (i := i) (x := .int ns[i]) (by simp [hi])) ?_; rintro v' ev rv)
        rw [Array.getElem?_toList, hv] at ev
        cases ev
        obtain ⟨t, rfl⟩ := rv
        exact ⟨t, by simp [hi]⟩
      · intro s' t' hm
        have hk : ∀ b o, s₁.heap.get? b = some o → s'.heap.get? b = some o := fun b o e => hm.heap b o (by
          intro q; rw [List.mem_singleton.mp q] at e; exact absurd (Heap.lt_size e) (Nat.lt_irrefl _)) (Heap.get?_push_of_some _ e)
        have hsum : preSum (fun i => ns.getD i 0) items.size = ns.sum := by rw [hsz', preSum_getD, List.take_length]
        rw [hsum]
        exact (iAE (G₁.trans ⟨.of_keeps hk, .keeps hk, hm.gens, hm.os⟩) _ rfl)
end
end Mine
end
section
open PySem PySem.W PySem.Calls PyProof.Rows
set_option Elab.async false
set_option maxRecDepth 100000
set_option linter.unusedVariables false
set_option linter.unusedSimpArgs false
namespace Mine
section
variable {prog : Program} {w : World} {A : Around} {E : Value → Shared → Prop} {s : Shared}
theorem nextOf_rng_item {it : Addr} {x left step : Int} {Q : Value → Shared → Prop} (hit : IsRangeIter s.heap it x left step) (hleft : 0 < left)
    (hQ : ∀ h', IsRangeIter h' it (x + step) (left - 1) step → Heap.SameBut it s.heap h' → Q (.int x s.toks) { s with heap := h', toks := s.toks + 1 }) :
    wpAny (model prog w) A (Builtin.SmallTypes.nextOf (.ref it)) Q E s := by
  have hT : s.TypeIs (.ref it) "range_iterator" := (iEA _ hit rfl)
  unfold Builtin.SmallTypes.nextOf
  refine wpAny_bind (wpAny_callSpecial?_slot (name := Str.ofString "__next__") hT F.slot_range_iterator_next
    (call_meets F.slot_range_iterator_next hT F.entry_range_iterator_next (F.args_range_iterator_next_1 _) (AutoRange.range_iterator___next___range_iterator_1 it x left step (by lia)) ⟨hit, ?_⟩))
  exact wpAny_pure (hQ _ (Heap.get?_update_self _ (Heap.get?_update_self _ hit rfl) rfl) ((Heap.SameBut.update ..).trans (Heap.SameBut.update ..)))
theorem nextOf_rng_end {it : Addr} {x left step : Int} {Q : Value → Shared → Prop} (hh : A.handled = none) (hit : IsRangeIter s.heap it x left step) (hleft : left ≤ 0)
    (hE : ∀ h' e, (∀ b o, s.heap.get? b = some o → h'.get? b = some o) → (∃ o, h'.get? e = some o ∧ o.cls = .type "StopIteration") → E (.ref e) { s with heap := h' }) :
    wpAny (model prog w) A (Builtin.SmallTypes.nextOf (.ref it)) Q E s := by
  have hT : s.TypeIs (.ref it) "range_iterator" := (iEA _ hit rfl)
  unfold Builtin.SmallTypes.nextOf
  refine wpAny_bind (wpAny_callSpecial?_slot (name := Str.ofString "__next__") hT F.slot_range_iterator_next
    (wpAny_call_entry F.slot_range_iterator_next hT F.entry_range_iterator_next ?_ (F.args_range_iterator_next_1 _)))
  show wpAny _ _ (field (.ref it) 0 >>= _) _ _ s
  refine wpAny_bind (wpAny_field hit rfl (x := rawInt x) rfl ?_)
  show wpAny _ _ (field (.ref it) 1 >>= _) _ _ s
  refine wpAny_bind (wpAny_field hit rfl (x := rawInt left) rfl ?_)
  show wpAny _ _ (field (.ref it) 2 >>= _) _ _ s
  refine wpAny_bind (wpAny_field hit rfl (x := rawInt step) rfl ?_)
  show wpAny _ _ (if left ≤ 0 then _ else _) _ _ s
  rw [if_pos hleft]
  refine wpAny_bind (wpAny_rule ?_)
  refine wpAny_bind ?_
  show wpAny _ _ (newExc (.type "StopIteration") [] >>= _) _ _ _
  refine wpAny_bind ?_
  simp only [newExc, newTuple]
  refine wpAny_bind (wpAny_newObj_type ?_ (by size_fits))
  refine wpAny_bind (m := firstArgMember _ _) (wpAny_of_eq (a := Value.none) (by first | rfl | (simp only [firstArgMember]; rfl)) ?_)
  refine wpAny_newObj_type ?_ (by size_fits)
  simp only [raiseNew]
  refine wpAny_bind (wpAny_handled ?_)
  first | rw [show A.in1.handled = none from hh] | rw [hh]
  refine wpAny_bind (wpAny_pure (wpAny_throw ?_))
  exact hE _ _ (fun b o e => Heap.get?_push_of_some _ (Heap.get?_push_of_some _ e)) (iEA _ (Heap.get?_push_size _ rfl) rfl)

/- apart -/
structure ZAp (z TI TO ri li la : Addr) : Prop where
  TIz : TI ≠ z
  TOz : TO ≠ z
  riz : ri ≠ z
  liz : li ≠ z
  TITO : TI ≠ TO
  TIri : TI ≠ ri
  TIli : TI ≠ li
  TOri : TO ≠ ri
  TOli : TO ≠ li
  rili : ri ≠ li
  laz : la ≠ z
  laTO : la ≠ TO
  lari : la ≠ ri
  lali : la ≠ li

theorem zipR_item {z TI TO ri li la : Addr} {x left step : Int} {k : Nat} {ys : Array Value} {y a b : Value} {Q : Option Value → Shared → Prop} (D : ZAp z TI TO ri li la)
    (hz : IsZip s.heap z TI TO .none) (hTI : IsPair s.heap TI (.ref ri) (.ref li)) (hTO : IsPair s.heap TO a b)
    (h1 : IsRangeIter s.heap ri x left step) (h2 : s.heap.IsListIter li la k) (hl2 : s.heap.IsList la ys) (hx : 0 < left) (hy : ys[k]? = some y)
    (hQ : ∀ h' t, IsZip h' z TI TO (rawInt s.heap.objs.size) → IsPair h' TO (.int x t) y → IsRangeIter h' ri (x + step) (left - 1) step → h'.IsListIter li la (k + 1) → IsPair h' s.heap.objs.size (.int x t) y → h'.objs.size = s.heap.objs.size + 1 →
      (∀ c o, c ≠ z → c ≠ TO → c ≠ ri → c ≠ li → s.heap.get? c = some o → h'.get? c = some o) → Q (some (.ref s.heap.objs.size)) { s with heap := h', toks := s.toks + 1 }) :
    wpAny (model prog w) A (pyNext (.ref z)) Q E s := by
  have hT : s.TypeIs (.ref z) "zip" := (iEA _ hz rfl)
  unfold pyNext
  refine wpAny_bind (wpAny_attempt (wpAny_callSpecial?_slot (name := Str.ofString "__next__") hT F.slot_zip_next
    (wpAny_call_entry F.slot_zip_next hT F.entry_zip_next ?_ (F.args_zip_next_1 _))))
  show wpAny _ _ (field (.ref z) 2 >>= _) _ _ _
  refine wpAny_bind (wpAny_field hz rfl (x := .bool false) rfl ?_)
  show wpAny _ _ (field (.ref z) 3 >>= _) _ _ _
  refine wpAny_bind (wpAny_field hz rfl (x := .ref TI) rfl ?_)
  refine wpAny_bind (wpAny_seqItems hTI rfl ?_)
  show wpAny _ _ (Builtin.SmallTypes.ownedTupleIsFree (.ref z) >>= _) _ _ _
  refine wpAny_bind ?_
  unfold Builtin.SmallTypes.ownedTupleIsFree
  refine wpAny_bind (wpAny_field hz rfl (x := .none) rfl (wpAny_pure ?_))
  simp only [if_true]
  refine wpAny_bind (wpAny_rule ?_)
  refine wpAny_bind (wpAny_field hz rfl (x := .ref TO) rfl ?_)
  refine wpAny_bind (wpAny_setField_rec hz (by simp) fun h₁ hz₁ hs₁ => ?_)
  replace hz₁ : IsZip h₁ z TI TO .ellipsis := hz₁
  refine wpAny_bind ?_
  simp only [List.zipIdx_cons, List.zipIdx_nil, List.forIn_cons, List.forIn_nil]
  refine wpAny_bind (wpAny_bind (wpAny_onRaise ?_))
  show wpAny _ _ (Builtin.SmallTypes.nextOf (.ref ri) >>= _) _ _ _
  refine wpAny_bind (nextOf_rng_item (hs₁.extBut _ _ D.riz h1) hx fun h₂ h1₂ hs₂ => wpAny_pure ?_)
  have hTO₂ : IsPair h₂ TO a b := hs₂.extBut _ _ D.TOri (hs₁.extBut _ _ D.TOz hTO)
  refine wpAny_bind (wpAny_seqItems hTO₂ rfl ?_)
  refine wpAny_bind (wpAny_updateSeq_pair hTO₂ fun h₃ hTO₃ hs₃ => ?_)
  replace hTO₃ : IsPair h₃ TO (.int x s.toks) b := hTO₃
  refine wpAny_bind (wpAny_letGo (wpAny_pure ?_))
  refine wpAny_bind (wpAny_bind (wpAny_onRaise ?_))
  show wpAny _ _ (Builtin.SmallTypes.nextOf (.ref li) >>= _) _ _ _
  refine wpAny_bind (wpAny_nextOf_list_item (((h2.extBut hs₁.extBut D.liz).extBut hs₂.extBut D.rili.symm).extBut hs₃.extBut D.TOli.symm)
    (((hl2.extBut hs₁.extBut D.laz).extBut hs₂.extBut D.lari).extBut hs₃.extBut D.laTO) hy fun h₄ h2₄ hs₄ => wpAny_pure ?_)
  have hTO₄ : IsPair h₄ TO (.int x s.toks) b := hs₄.extBut _ _ D.TOli hTO₃
  refine wpAny_bind (wpAny_seqItems hTO₄ rfl ?_)
  refine wpAny_bind (wpAny_updateSeq_pair hTO₄ fun h₅ hTO₅ hs₅ => ?_)
  replace hTO₅ : IsPair h₅ TO (.int x s.toks) y := hTO₅
  refine wpAny_bind (wpAny_letGo (wpAny_pure (wpAny_pure ?_)))
  refine wpAny_bind (wpAny_seqItems hTO₅ rfl ?_)
  refine wpAny_bind (wpAny_newTuple ?_)
  have hsz : h₅.objs.size = s.heap.objs.size := by rw [hs₅.1, hs₄.1, hs₃.1, hs₂.1, hs₁.1]
  have hz₅ : IsZip h₅ z TI TO .ellipsis := hs₅.extBut _ _ D.TOz.symm (hs₄.extBut _ _ D.liz.symm (hs₃.extBut _ _ D.TOz.symm (hs₂.extBut _ _ D.riz.symm hz₁)))
  have hk₅ : ∀ c o, c ≠ z → c ≠ TO → c ≠ ri → c ≠ li → s.heap.get? c = some o → h₅.get? c = some o := fun c o c1 c2 c3 c4 e =>
    hs₅.extBut _ _ c2 (hs₄.extBut _ _ c4 (hs₃.extBut _ _ c2 (hs₂.extBut _ _ c3 (hs₁.extBut _ _ c1 e))))
  have h1₅ : IsRangeIter h₅ ri (x + step) (left - 1) step := hs₅.extBut _ _ D.TOri.symm (hs₄.extBut _ _ D.rili (hs₃.extBut _ _ D.TOri.symm h1₂))
  have h2₅ : h₅.IsListIter li la (k + 1) := h2₄.extBut hs₅.extBut D.TOli.symm
  have hzlt : z < h₅.objs.size := Heap.lt_size hz₅
  show wpAny _ _ (Builtin.SmallTypes.ownedTupleHandOut (.ref z) (.ref h₅.objs.size) >>= _) _ _ _
  refine wpAny_bind ?_
  unfold Builtin.SmallTypes.ownedTupleHandOut
  have hz₆ : IsZip (h₅.push { cls := .type "tuple", data := .seq #[.int x s.toks, y] }) z TI TO .ellipsis := Heap.get?_push_of_some _ hz₅
  refine wpAny_bind (wpAny_setField_rec hz₆ (by simp) fun h₇ hz₇ hs₇ => ?_)
  replace hz₇ : IsZip h₇ z TI TO (rawInt h₅.objs.size) := hz₇
  refine wpAny_setField_rec hz₇ (by simp) fun h₈ hz₈ hs₈ => ?_
  replace hz₈ : IsZip h₈ z TI TO (rawInt h₅.objs.size) := hz₈
  have up : ∀ c o, c ≠ z → h₅.get? c = some o → h₈.get? c = some o := fun c o c1 e => hs₈.extBut _ _ c1 (hs₇.extBut _ _ c1 (Heap.get?_push_of_some _ e))
  have hT₈ : IsPair h₈ h₅.objs.size (.int x s.toks) y := hs₈.extBut _ _ (Nat.ne_of_gt hzlt) (hs₇.extBut _ _ (Nat.ne_of_gt hzlt) (Heap.get?_push_size _ rfl))
  have hz8 : h₈.objs.size = h₅.objs.size + 1 := by rw [hs₈.1, hs₇.1, Heap.size_push]
  rw [hsz] at hz₈ hT₈ hz8
  refine wpAny_pure (iEA _ rfl (wpAny_pure ?_))
  show Q (some (.ref h₅.objs.size)) _
  rw [hsz]
  exact hQ h₈ s.toks hz₈ (up _ _ D.TOz hTO₅) (up _ _ D.riz h1₅) (h2₅.at fun o e => up _ o D.liz e) hT₈ hz8 fun c o c1 c2 c3 c4 e => up c o c1 (hk₅ c o c1 c2 c3 c4 e)

theorem nextOf_list_junk {it l : Addr} {i : Nat} {items} {I : Addr → Prop} {Q : Value → Shared → Prop} (hh : A.handled = none)
    (hit : s.heap.IsListIter it l i) (hl : s.heap.IsList l items) (hx : items[i]? = none)
    (hE : ∀ h' e, Heap.ExtBut it s.heap h' → RepO h' I .fin it → (∃ o, h'.get? e = some o ∧ o.cls = .type "StopIteration") → s.heap.get? e = none → E (.ref e) { s with heap := h' }) : wpAny (model prog w) A (Builtin.SmallTypes.nextOf (.ref it)) Q E s := by
  (refine oEAA (id hit) ?_; rintro o ho hc hd)
  (refine oEAAE hl ?_; try clear hl; rintro ol hol _ nl hdl)
  unfold Builtin.SmallTypes.nextOf
  refine wpAny_bind (wpAny_callSpecial?_slot (name := Str.ofString "__next__") hit.typeIs slot_listiter_next
    (wpAny_call_entry slot_listiter_next hit.typeIs entry_listiter_next ?_ (args_listiter_next _)))
  show wpAny _ _ (field (.ref it) 0 >>= _) _ _ s
  refine wpAny_bind (wpAny_field ho hd (x := .ref l) rfl ?_)
  show wpAny _ _ (if (Value.ref l == Value.none) = true then _ else _) _ _ s
  rw [if_neg (show ¬ ((Value.ref l == Value.none) = true) from Bool.false_ne_true)]
  show wpAny _ _ (field (.ref it) 1 >>= _) _ _ s
  refine wpAny_bind (wpAny_field ho hd (x := .int i 0) rfl ?_)
  show wpAny _ _ (seqItems? (.ref l) >>= _) _ _ s
  refine wpAny_bind (wpAny_seqItems hol hdl ?_)
  simp only [Int.toNat_natCast, hx]
  refine wpAny_bind (wpAny_rule (wpAny_bind (wpAny_setField ho hd (by simp) ?_)))
  show wpAny _ _ (newExc (.type "StopIteration") [] >>= _) _ _ _
  refine wpAny_bind ?_
  simp only [newExc, newTuple]
  refine wpAny_bind (wpAny_newObj_type ?_ (by size_fits))
  refine wpAny_bind (m := firstArgMember _ _) (wpAny_of_eq (a := Value.none) (by first | rfl | (simp only [firstArgMember]; rfl)) ?_)
  refine wpAny_newObj_type ?_ (by size_fits)
  simp only [raiseNew]
  refine wpAny_bind (wpAny_handled ?_)
  rw [show A.in1.handled = none from hh]
  refine wpAny_bind (wpAny_pure (wpAny_throw ?_))
  have hg := Heap.get?_update_self (h := s.heap) (fun o : Obj => o.mapFields (·.setIfInBounds 0 .none)) ho (Obj.isFreed_of_fields (Obj.data_mapFields hd _))
  refine hE _ _ (((Heap.SameBut.update ..).extBut.push _).push _) (iEAAE _ (Heap.get?_push_of_some _ (Heap.get?_push_of_some _ hg)) ((Obj.cls_mapFields ..).trans hc) i (Obj.data_mapFields hd _)) (iEA _ (Heap.get?_push_size _ rfl) rfl) (Heap.get?_none_of_le (by rw [Heap.size_push, Heap.size_update]; exact Nat.le_succ _))

theorem zipR_end {z TI TO ri li la : Addr} {x left step : Int} {k : Nat} {ys : Array Value} {a b : Value} {I : Addr → Prop} {Q : Option Value → Shared → Prop} (hh : A.handled = none) (D : ZAp z TI TO ri li la)
    (hz : IsZip s.heap z TI TO .none) (hTI : IsPair s.heap TI (.ref ri) (.ref li)) (hTO : IsPair s.heap TO a b)
    (h1 : IsRangeIter s.heap ri x left step) (h2 : s.heap.IsListIter li la k) (hl2 : s.heap.IsList la ys) (hend : left ≤ 0 ∨ ys[k]? = none)
    (hQ1 : ∀ h', left ≤ 0 → (∀ c o, c ≠ z → s.heap.get? c = some o → h'.get? c = some o) → IsZip h' z TI TO .none → Q none { s with heap := h' })
    (hQ2 : ∀ h' t, 0 < left → (∀ c o, c ≠ z → c ≠ TO → c ≠ ri → c ≠ li → s.heap.get? c = some o → h'.get? c = some o) → IsZip h' z TI TO .none → IsPair h' TO (.int x t) b → IsRangeIter h' ri (x + step) (left - 1) step → RepO h' I .fin li → Q none { s with heap := h', toks := s.toks + 1 }) :
    wpAny (model prog w) A (pyNext (.ref z)) Q E s := by
  have hT : s.TypeIs (.ref z) "zip" := (iEA _ hz rfl)
  unfold pyNext
  refine wpAny_bind (wpAny_attempt (wpAny_callSpecial?_slot (name := Str.ofString "__next__") hT F.slot_zip_next
    (wpAny_call_entry F.slot_zip_next hT F.entry_zip_next ?_ (F.args_zip_next_1 _))))
  show wpAny _ _ (field (.ref z) 2 >>= _) _ _ _
  refine wpAny_bind (wpAny_field hz rfl (x := .bool false) rfl ?_)
  show wpAny _ _ (field (.ref z) 3 >>= _) _ _ _
  refine wpAny_bind (wpAny_field hz rfl (x := .ref TI) rfl ?_)
  refine wpAny_bind (wpAny_seqItems hTI rfl ?_)
  show wpAny _ _ (Builtin.SmallTypes.ownedTupleIsFree (.ref z) >>= _) _ _ _
  refine wpAny_bind ?_
  unfold Builtin.SmallTypes.ownedTupleIsFree
  refine wpAny_bind (wpAny_field hz rfl (x := .none) rfl (wpAny_pure ?_))
  simp only [if_true]
  refine wpAny_bind (wpAny_rule ?_)
  refine wpAny_bind (wpAny_field hz rfl (x := .ref TO) rfl ?_)
  refine wpAny_bind (wpAny_setField_rec hz (by simp) fun h₁ hz₁ hs₁ => ?_)
  replace hz₁ : IsZip h₁ z TI TO .ellipsis := hz₁
  refine wpAny_bind ?_
  simp only [List.zipIdx_cons, List.zipIdx_nil, List.forIn_cons, List.forIn_nil]
  refine wpAny_bind (wpAny_bind (wpAny_onRaise ?_))
  show wpAny _ _ (Builtin.SmallTypes.nextOf (.ref ri) >>= _) _ _ _
  have hh1 : (A.in1).handled = none := hh
  by_cases hx : left ≤ 0
  · refine wpAny_bind (nextOf_rng_end hh1 (hs₁.extBut _ _ D.riz h1) hx fun h₂ e hk₂ he => ?_)
    (refine oEA he ?_; try clear he; rintro oe hoe hce)
    have hz₂ : IsZip h₂ z TI TO .ellipsis := hk₂ _ _ hz₁
    have hez : e ≠ z := fun q => by subst q; rw [hz₂] at hoe; cases hoe; simp at hce
    refine wpAny_setField_rec hz₂ (by simp) fun h₃ hz₃ hs₃ => ?_
    refine wpAny_bind (wpAny_isInstance (T := "StopIteration") (b := true) (iEA oe (hs₃.extBut _ _ hez hoe) hce) isSubtype_stop ?_)
    exact wpAny_pure (hQ1 h₃ hx (fun c o c1 ec => hs₃.extBut _ _ c1 (hk₂ _ _ (hs₁.extBut _ _ c1 ec))) hz₃)
  · have hy : ys[k]? = none := hend.resolve_left hx
    refine wpAny_bind (nextOf_rng_item (hs₁.extBut _ _ D.riz h1) (by lia) fun h₂ h1₂ hs₂ => wpAny_pure ?_)
    have hTO₂ : IsPair h₂ TO a b := hs₂.extBut _ _ D.TOri (hs₁.extBut _ _ D.TOz hTO)
    refine wpAny_bind (wpAny_seqItems hTO₂ rfl ?_)
    refine wpAny_bind (wpAny_updateSeq_pair hTO₂ fun h₃ hTO₃ hs₃ => ?_)
    replace hTO₃ : IsPair h₃ TO (.int x s.toks) b := hTO₃
    refine wpAny_bind (wpAny_letGo (wpAny_pure ?_))
    refine wpAny_bind (wpAny_bind (wpAny_onRaise ?_))
    show wpAny _ _ (Builtin.SmallTypes.nextOf (.ref li) >>= _) _ _ _
    refine wpAny_bind (nextOf_list_junk (I := I) hh1 (((h2.extBut hs₁.extBut D.liz).extBut hs₂.extBut D.rili.symm).extBut hs₃.extBut D.TOli.symm)
      (((hl2.extBut hs₁.extBut D.laz).extBut hs₂.extBut D.lari).extBut hs₃.extBut D.laTO) hy fun h₄ e hs₄ hj he hen => ?_)
    (refine oEA he ?_; try clear he; rintro oe hoe hce)
    have hz₄ : IsZip h₄ z TI TO .ellipsis := hs₄ _ _ D.liz.symm (hs₃.extBut _ _ D.TOz.symm (hs₂.extBut _ _ D.riz.symm hz₁))
    have hez : e ≠ z := fun q => by subst q; rw [hz₄] at hoe; cases hoe; simp at hce
    refine wpAny_setField_rec hz₄ (by simp) fun h₅ hz₅ hs₅ => ?_
    refine wpAny_bind (wpAny_isInstance (T := "StopIteration") (b := true) (iEA oe (hs₅.extBut _ _ hez hoe) hce) isSubtype_stop ?_)
    refine wpAny_pure (hQ2 h₅ s.toks (by lia) (fun c o c1 c2 c3 c4 ec => hs₅.extBut _ _ c1 (hs₄ _ _ c4 (hs₃.extBut _ _ c2 (hs₂.extBut _ _ c3 (hs₁.extBut _ _ c1 ec))))) hz₅ (hs₅.extBut _ _ D.TOz (hs₄ _ _ D.TOli hTO₃)) (hs₅.extBut _ _ D.riz (hs₄ _ _ D.rili (hs₃.extBut _ _ D.TOri.symm h1₂))) ?_)
    (refine oEA hj ?_; try clear hj; rintro oj ej rj)
    exact (iEA oj (hs₅.extBut _ _ D.liz ej) rj)
end
end Mine
end
section
open PySem PySem.W PySem.Calls PyProof.Rows
set_option Elab.async false
set_option maxRecDepth 100000
set_option linter.unusedVariables false
set_option linter.unusedSimpArgs false
namespace Mine
noncomputable abbrev zH1 (h : Heap) (a b c : Int) : Heap := h.push { cls := .type "range_iterator", data := .fields #[rawInt a, rawInt (Builtin.Range.rangeSize a b c), rawInt c] }
noncomputable abbrev zH2 (h : Heap) (li : Addr) (a b c : Int) : Heap := (zH1 h a b c).push { cls := .type "tuple", data := .seq #[.ref h.objs.size, .ref li] }
noncomputable abbrev zH3 (h : Heap) (li : Addr) (a b c : Int) : Heap := (zH2 h li a b c).push { cls := .type "tuple", data := .seq #[.none, .none] }
noncomputable abbrev zH4 (h : Heap) (li : Addr) (a b c : Int) : Heap := (zH3 h li a b c).push { cls := .type "zip", data := .fields #[.none, .bool false, .bool false, .ref (zH1 h a b c).objs.size, .ref (zH2 h li a b c).objs.size] }
theorem meets_zipR (r li : Addr) (a b c : Int) (t u v : Tok) (la : Addr) (i : Nat) (hsm : Builtin.Range.small a b c = true) :
    Meets (Builtin.«zip.__new__» ⟨[.type "zip", .ref r, .ref li], []⟩) (fun _ R s => IsRange s.heap r a b c t u v ∧ s.heap.IsListIter li la i ∧
      R (.ok (.ret (.ref (zH3 s.heap li a b c).objs.size))) { s with heap := zH4 s.heap li a b c }) :=
  .of_wp fun prog w A R s h => by
    obtain ⟨hp, g, d, tk, os⟩ := s; (refine oAA h ?_; try clear h; rintro hl1 hl2 h)
    have hsub := sub_zip
    have hL1 : IsRange (Shared.heap ⟨hp, g, d, tk, os⟩) r a b c t u v := hl1
    have hL2 : Heap.IsListIter (Shared.heap ⟨zH1 hp a b c, g, d, tk, os⟩) li la i := hl2.at fun o e => Heap.get?_push_of_some _ e
    wp_walk using wpAny_pyIter_range hL1 hsm, wpAny_pyIter_listiter hL2
    exact (iEA _ rfl h)
end Mine
end
section
open PySem PySem.W PySem.Calls PyProof.Rows
set_option Elab.async false
set_option maxRecDepth 100000
set_option linter.unusedVariables false
set_option linter.unusedSimpArgs false
namespace Mine
section
variable {prog : Program} {w : World} {A : Around} {E : Value → Shared → Prop} {s : Shared}
theorem call_zipR {r li la : Addr} {a b c : Int} {t u v : Tok} {i : Nat} {Q : Value → Shared → Prop} (hr : IsRange s.heap r a b c t u v) (hl : s.heap.IsListIter li la i) (hsm : Builtin.Range.small a b c = true)
    (h : ∀ h', IsZip h' (s.heap.objs.size + 3) (s.heap.objs.size + 1) (s.heap.objs.size + 2) .none → IsPair h' (s.heap.objs.size + 1) (.ref s.heap.objs.size) (.ref li) →
      IsPair h' (s.heap.objs.size + 2) .none .none → IsRangeIter h' s.heap.objs.size a (Builtin.Range.rangeSize a b c) c →
      (∀ c o, s.heap.get? c = some o → h'.get? c = some o) → Q (.ref (s.heap.objs.size + 3)) { s with heap := h' }) :
    wpAny (model prog w) A (call (.type "zip") [.ref r, .ref li]) Q E s := by
  refine callType_new F.called_zip (by decide) (F.typeCall_zip_2 _ _) (F.newCall_zip_2 _ _) (fun obj => F.args_object_init_3 obj _ _) F.entry_zip_new
    (meets_zipR r li a b c t u v la i hsm) ⟨hr, hl, ?_⟩
  have z1 : (zH1 s.heap a b c).objs.size = s.heap.objs.size + 1 := Heap.size_push ..
  have z2 : (zH2 s.heap li a b c).objs.size = s.heap.objs.size + 2 := by rw [Heap.size_push, z1]
  have z3 : (zH3 s.heap li a b c).objs.size = s.heap.objs.size + 3 := by rw [Heap.size_push, z2]
  have g4 : (zH4 s.heap li a b c).get? (zH3 s.heap li a b c).objs.size = some _ := Heap.get?_push_size _ rfl
  have g3 : (zH4 s.heap li a b c).get? (zH2 s.heap li a b c).objs.size = some _ := Heap.get?_push_of_some _ (Heap.get?_push_size _ rfl)
  have g2 : (zH4 s.heap li a b c).get? (zH1 s.heap a b c).objs.size = some _ := Heap.get?_push_of_some _ (Heap.get?_push_of_some _ (Heap.get?_push_size _ rfl))
  have g1 : (zH4 s.heap li a b c).get? s.heap.objs.size = some _ := Heap.get?_push_of_some _ (Heap.get?_push_of_some _ (Heap.get?_push_of_some _ (Heap.get?_push_size _ rfl)))
  have hk : ∀ x o, s.heap.get? x = some o → (zH4 s.heap li a b c).get? x = some o := fun x o e => Heap.get?_push_of_some _ (Heap.get?_push_of_some _ (Heap.get?_push_of_some _ (Heap.get?_push_of_some _ e)))
  show _ ∧ _
  rw [z1, z2, z3] at g4
  rw [z2] at g3
  rw [z1] at g2
  rw [z3]
  exact ⟨(iEA _ g4 rfl), h _ g4 g2 g3 g1 hk⟩
end

/- what a zip gives -/
noncomputable def zipL (x c : Int) : Nat → List FV → List FV
  | n + 1, e :: es => .tup [.int x, e] :: zipL (x + c) c n es
  | _, _ => []
/- where it leaves the list's iterator -/
noncomputable def zipEnd : Nat → List FV → AO
  | 0, es => .iter es
  | _ + 1, [] => .fin
  | n + 1, _ :: es => zipEnd n es
noncomputable def PairF (y : FV) : Prop := ∃ a b, y = .tup [.int a, .int b]
noncomputable def ZGood (y : FV) : Prop := (∃ a, y = .int a) ∨ PairF y ∨ (∃ a b c, y = .tup [.tup [.int a, .int b], .int c]) ∨ ∃ a b c d, y = .tup [.int a, .int b, .tup [.int c, .int d]]

structure ZSt (z TI TO ri li la : Addr) (aoF : AO) (l : List FV) (s : Shared) : Prop where
  zip : IsZip s.heap z TI TO .none
  ti : IsPair s.heap TI (.ref ri) (.ref li)
  to : ∃ a b, IsPair s.heap TO a b ∧ (a = .none ∨ ∃ i t, a = .int i t) ∧ (b = .none ∨ ∃ c, b = .ref c)
  rest : ∃ x left step k ys es, IsRangeIter s.heap ri x left step ∧ s.heap.IsListIter li la k ∧ s.heap.IsList la ys ∧ RepFs s.heap es (ys.toList.drop k) ∧ l = zipL x step left.toNat es ∧ zipEnd left.toNat es = aoF ∧ ∀ e ∈ es, PairF e
theorem ZSt.e {z TI TO ri li la : Addr} {aoF : AO} {l : List FV} {s : Shared} {G : Prop} (h : ZSt z TI TO ri li la aoF l s) (k : IsZip s.heap z TI TO .none → IsPair s.heap TI (.ref ri) (.ref li) → ∀ a b, IsPair s.heap TO a b → (a = .none ∨ ∃ i t, a = .int i t) → (b = .none ∨ ∃ c, b = .ref c) → ∀ x left step k ys es, IsRangeIter s.heap ri x left step → s.heap.IsListIter li la k → s.heap.IsList la ys → RepFs s.heap es (ys.toList.drop k) → l = zipL x step left.toNat es → zipEnd left.toNat es = aoF → (∀ e ∈ es, PairF e) → G) : G := by
  obtain ⟨h1, h2, ⟨a, b, h3⟩, x, left, step, kk, ys, es, h4⟩ := h
  exact k h1 h2 a b h3.1 h3.2.1 h3.2.2 x left step kk ys es h4.1 h4.2.1 h4.2.2.1 h4.2.2.2.1 h4.2.2.2.2.1 h4.2.2.2.2.2.1 h4.2.2.2.2.2.2

/- the zip's own tuple is none of the program's -/
theorem pair_keep {h h' : Heap} {TO : Addr} {a b : Value} {F : List Addr} {D : Addr → Prop} (S : Same D F h h') (hD : ∀ c items, h.IsTuple c items → D c → c = TO) (hp : IsPair h TO a b) (ha : a = .none ∨ ∃ i t, a = .int i t) (hb : b = .none ∨ ∃ c, b = .ref c) {y : FV} {u : Value} (hy : PairF y) (r : RepF h y u) : RepF h' y u := by
  (refine oEE hy ?_; try clear hy; rintro i j rfl)
  simp only [RepF, RepFs] at r ⊢
  (refine oEEAAEEAAEEAA r ?_; try clear r; rintro c items rfl ht v vs e ⟨t1, rfl⟩ v2 vs2 rfl ⟨t2, rfl⟩ rfl)
  refine (iEEAAEEAAEEAA c items rfl (tuple_same S (fun q => ?_) ht) _ _ e (⟨t1, rfl⟩) _ _ rfl (⟨t2, rfl⟩) rfl)
  have := hD c items ht q
  subst this
  (refine oEAAE ht ?_; try clear ht; rintro o e' _ n d)
  rw [hp] at e'; cases e'
  cases d
  simp only [List.cons.injEq, and_true] at e
  obtain ⟨rfl, rfl⟩ := e
  rcases hb with hb | ⟨c, hb⟩ <;> cases hb
theorem zgood_keep {h h' : Heap} {TO : Addr} {a b : Value} {F : List Addr} {D : Addr → Prop} (S : Same D F h h') (hD : ∀ c items, h.IsTuple c items → D c → c = TO) (hp : IsPair h TO a b) (ha : a = .none ∨ ∃ i t, a = .int i t) (hb : b = .none ∨ ∃ c, b = .ref c) {y : FV} {u : Value} (hy : ZGood y) (r : RepF h y u) : RepF h' y u := by
  rcases hy with ⟨i, rfl⟩ | hy | ⟨i, j, k, rfl⟩ | ⟨i, j, k, l, rfl⟩
  · exact r
  · exact pair_keep S hD hp ha hb hy r
  · simp only [RepF, RepFs] at r
    (refine oEEAAEEAAEEAA r ?_; try clear r; rintro c items rfl ht v vs e r1 v2 vs2 rfl r2 rfl)
    have r1' : RepF h' (.tup [.int i, .int j]) v := pair_keep S hD hp ha hb (iEE i j rfl) (by simp only [RepF, RepFs]; exact r1)
    simp only [RepF, RepFs] at r1' ⊢
    refine (iEEAAEEAAEEAA c items rfl (tuple_same S (fun q => ?_) ht) _ _ e r1' _ _ rfl r2 rfl)
    have := hD c items ht q
    subst this
    (refine oEAAE ht ?_; try clear ht; rintro o e' _ n d)
    rw [hp] at e'; cases e'
    cases d
    simp only [List.cons.injEq, and_true] at e
    obtain ⟨rfl, rfl⟩ := e
    (refine oEEA r1 ?_; try clear r1; rintro c' _ e1 _)
    rcases ha with ha | ⟨_, _, ha⟩ <;> (rw [ha] at e1; cases e1)
  · simp only [RepF, RepFs] at r
    (refine oEEAAEEAAEEAAEEAA r ?_; try clear r; rintro c items rfl ht v vs e r0 v2 vs2 rfl r1 v3 vs3 rfl r2 rfl)
    have r2' : RepF h' (.tup [.int k, .int l]) v3 := pair_keep S hD hp ha hb (iEE k l rfl) (by simp only [RepF, RepFs]; exact r2)
    simp only [RepF, RepFs] at r2' ⊢
    refine ⟨c, items, rfl, tuple_same S (fun q => ?_) ht, _, _, e, r0, _, _, rfl, r1, _, _, rfl, r2', rfl⟩
    have := hD c items ht q
    subst this
    (refine oEAAE ht ?_; try clear ht; rintro o e' _ n d)
    rw [hp] at e'; cases e'
    cases d
    simp at e
end Mine
end
section
open PySem PySem.W PySem.Calls PyProof.Rows
set_option Elab.async false
set_option maxRecDepth 100000
set_option linter.unusedVariables false
set_option linter.unusedSimpArgs false
namespace Mine
section
variable {X : Fx} {st : St} {ρ ρ' : List Addr} {s s' s'' : Shared}
theorem zipL_cons {x c : Int} {n : Nat} {es : List FV} {y : FV} {l : List FV} (h : y :: l = zipL x c n es) : ∃ m e es', n = m + 1 ∧ es = e :: es' ∧ y = .tup [.int x, e] ∧ l = zipL (x + c) c m es' := by
  cases n with
  | zero => simp [zipL] at h
  | succ m =>
    cases es with
    | nil => simp [zipL] at h
    | cons e es' => simp only [zipL, List.cons.injEq] at h; exact (iEEEAAA m e es' rfl rfl h.1 h.2)
theorem zipL_nil {x c : Int} {n : Nat} {es : List FV} (h : [] = zipL x c n es) : n = 0 ∨ es = [] := by
  cases n with
  | zero => exact .inl rfl
  | succ m =>
    cases es with
    | nil => exact .inr rfl
    | cons e es' => simp [zipL] at h

theorem offObj_zip {f0 : Value} {TI TO : Addr} : OffObj { cls := .type "zip", dict := none, data := .fields #[f0, .bool false, .bool false, .ref TI, .ref TO], slots := #[] } := ⟨.inr (.inr (.inl rfl)), by simp, by simp, by intro vs hv q t; cases hv; simp⟩
theorem offObj_pair {a b : Value} : OffObj { cls := .type "tuple", data := .seq #[a, b] } := ⟨.inr (.inr (.inr rfl)), by simp, by simp, by simp⟩

theorem src_zip {D z TI TO ri li la : Addr} {ts : List Expr} {tc : Nat} {tp : Pos} {cap : List (Str × AV)} {aoF : AO} (Z : ZAp z TI TO ri li la)
    (h0 : ∀ a, (a = z ∨ a = TO ∨ a = ri ∨ a = li) → X.h₀.get? a = none) (hne : ∀ a, (a = z ∨ a = TI ∨ a = TO ∨ a = ri ∨ a = li ∨ a = la) → a ≠ D ∧ a ≠ X.env.locals ∧ a ≠ X.tabA)
    (hF : ∀ a, (a = z ∨ a = TI ∨ a = TO ∨ a = ri) → a ∉ X.F) (hcap : ∀ x av, cap.lookup x = some av → avGood ZGood av) :
    Src X D (.Tuple ts tc tp) (.ref z) cap ZGood (fun a => a = z ∨ a = TO ∨ a = ri ∨ a = li) (ZSt z TI TO ri li la aoF) (fun s => RepO s.heap (fun a => a = la) aoF li) where
  item := by
    (rintro y l s built hg zq R; refine zq.e ?_; clear zq; rintro hz hTI a b hTO ha hb x left step k ys es h1 h2 hl2 hs hl hend hpf)
    (refine oEEEAAA (zipL_cons hl) ?_; rintro m e es' hm rfl rfl rfl)
    obtain ⟨v, vs, ev, rv, rs⟩ : ∃ v vs, ys.toList.drop k = v :: vs ∧ RepF s.heap e v ∧ RepFs s.heap es' vs := by simpa only [RepFs] using hs
    have hv : ys[k]? = some v := by
      rw [← Array.getElem?_toList]
      have := congrArg (fun z => z[0]?) ev
      simpa using this
    have hpe := hpf e (.head _)
    obtain ⟨cv, hcv⟩ : ∃ c, v = .ref c := by
      (refine oEE hpe ?_; try clear hpe; rintro i j rfl)
      simp only [RepF] at rv
      (refine oEEA rv ?_; try clear rv; rintro c _ e _); exact ⟨c, e⟩
    refine zipR_item Z hz hTI hTO h1 h2 hl2 (by lia) hv fun h' t hz' hTO' h1' h2' hT' hsz hk => (iEA _ rfl ?_)
    refine wpAny_letOwnedTupleGo_zip hz' fun h'' hz'' hs'' => ?_
    have up : ∀ c o, c ≠ z → h'.get? c = some o → h''.get? c = some o := fun c o q e => hs''.extBut c o q e
    have hk2 : ∀ c o, ¬ (c = z ∨ c = TO ∨ c = ri ∨ c = li) → s.heap.get? c = some o → h''.get? c = some o := fun c o q e => up c o (fun z => q (.inl z)) (hk c o (fun z => q (.inl z)) (fun z => q (.inr (.inl z))) (fun z => q (.inr (.inr (.inl z)))) (fun z => q (.inr (.inr (.inr z)))) e)
    have C : Chg (fun a => a = z ∨ a = TO ∨ a = ri ∨ a = li) X.F s { s with heap := h'', toks := s.toks + 1 } := by
      refine ⟨fun c o q e => ⟨o, hk2 c o q e, .inl rfl⟩, fun c o e => ?_, rfl, rfl⟩
      by_cases q : c = z ∨ c = TO ∨ c = ri ∨ c = li
      · rcases q with q | q | q | q <;> subst c
        · exact ⟨_, hz''⟩
        · exact ⟨_, up _ _ Z.TOz hTO'⟩
        · exact ⟨_, up _ _ Z.riz h1'⟩
        · (refine oEA h2' ?_; try clear h2'; rintro o' e' _); exact ⟨_, up _ _ Z.liz e'⟩
      · exact ⟨o, hk2 c o q e⟩
    have hDT : ∀ c items, s.heap.IsTuple c items → (c = z ∨ c = TO ∨ c = ri ∨ c = li) → c = TO := by
      rintro c items ⟨o, e, cc, _⟩ (q | q | q | q) <;> subst c
      · rw [hz] at e; cases e; simp at cc
      · rfl
      · rw [show s.heap.get? _ = _ from h1] at e; cases e; simp at cc
      · (refine oEAA h2 ?_; try clear h2; rintro o' e' c' _); rw [e'] at e; cases e; rw [c'] at cc; simp at cc
    have keepF : ∀ y u, ZGood y → RepF s.heap y u → RepF h'' y u := fun y u hy r => zgood_keep C.same hDT hTO ha hb hy r
    have hla : ¬ (la = z ∨ la = TO ∨ la = ri ∨ la = li) := by
      rintro (q | q | q | q)
      · exact Z.laz q
      · exact Z.laTO q
      · exact Z.lari q
      · exact Z.lali q
    have hTIn : ¬ (TI = z ∨ TI = TO ∨ TI = ri ∨ TI = li) := by
      rintro (q | q | q | q)
      · exact Z.TIz q
      · exact Z.TITO q
      · exact Z.TIri q
      · exact Z.TIli q
    refine ⟨C, R.off C ZGood hcap (fun j ao e => ?_) keepF (fun c q => ⟨h0 c q, ?_, ?_⟩), ⟨hz'', hk2 _ _ hTIn hTI, (iEEAA _ _ (up _ _ Z.TOz hTO') (.inr (iEE _ _ rfl)) (.inr ⟨_, hcv⟩)), x + step, left - 1, step, k + 1, ys, es', up _ _ Z.riz h1', h2'.at fun o e => up _ o Z.liz e, hl2.at fun o e => hk2 _ o hla e, ?_, by rw [show (left - 1).toNat = m by lia], ?_, fun e he => hpf e (.tail _ he)⟩, ?_⟩
    · cases j with
      | zero => cases e; exact hg
      | succ j => simp at e
    · have := hne c (by rcases q with q | q | q | q <;> simp [q])
      simpa using this.1
    · rcases q with q | q | q | q <;> subst c
      · exact (iEA _ hz offObj_zip)
      · exact (iEA _ hTO offObj_pair)
      · exact (iEA _ h1 offObj_rng)
      · (refine oEAA h2 ?_; try clear h2; rintro o e c d); exact (iEA o e (offObj_iter c d))
    · have e2 : ys.toList.drop (k + 1) = vs := by rw [← List.drop_drop, ev]; rfl
      rw [e2]
      exact rs.turn (P := PairF) (fun y u hy r => keepF y u (.inr (.inl hy)) r) fun e he => hpf e (.tail _ he)
    · rw [show (left - 1).toNat = m by lia, ← hend, hm]; rfl
    · simp only [RepF, RepFs]
      refine (iEEAAEEAAEEAA _ (#[.int x t, v]) rfl ((iEAAE _ (up _ _ ?_ hT') rfl _ rfl)) _ _ rfl (⟨t, rfl⟩) v ([]) rfl (keepF e v (.inr (.inl hpe)) rv) rfl)
      exact Nat.ne_of_gt (Heap.lt_size hz)
  done := by
    (rintro s built hg zq R; refine zq.e ?_; clear zq; rintro hz hTI a b hTO ha hb x left step k ys es h1 h2 hl2 hs hl hend hpf)
    have hDT : ∀ c items, s.heap.IsTuple c items → (c = z ∨ c = TO ∨ c = ri ∨ c = li) → c = TO := by
      rintro c items ⟨o, e, cc, _⟩ (q | q | q | q) <;> subst c
      · rw [hz] at e; cases e; simp at cc
      · rfl
      · rw [show s.heap.get? _ = _ from h1] at e; cases e; simp at cc
      · (refine oEAA h2 ?_; try clear h2; rintro o' e' c' _); rw [e'] at e; cases e; rw [c'] at cc; simp at cc
    have hoff : ∀ c, (c = z ∨ c = TO ∨ c = ri ∨ c = li) → c ∉ [D] ∧ ∃ o, s.heap.get? c = some o ∧ OffObj o := by
      intro c q
      refine ⟨?_, ?_⟩
      · have := hne c (by rcases q with q | q | q | q <;> simp [q])
        simpa using this.1
      · rcases q with q | q | q | q <;> subst c
        · exact (iEA _ hz offObj_zip)
        · exact (iEA _ hTO offObj_pair)
        · exact (iEA _ h1 offObj_rng)
        · (refine oEAA h2 ?_; try clear h2; rintro o e c d); exact (iEA o e (offObj_iter c d))
    have hbuilt : ∀ (k : Nat) ao, [AO.list built][k]? = some ao → aoGood ZGood ao := by
      intro j ao e
      cases j with
      | zero => cases e; exact hg
      | succ j => simp at e
    have hend' : left ≤ 0 ∨ ys[k]? = none := by
      rcases zipL_nil hl with q | q
      · exact .inl (by lia)
      · right
        subst q
        simp only [RepFs] at hs
        rw [← Array.getElem?_toList]
        have := congrArg (fun z => z[0]?) hs
        simpa using this
    refine zipR_end (I := fun a => a = la) X.hh Z hz hTI hTO h1 h2 hl2 hend' (fun h' hle hk hz' => ?_) fun h' t hlt hk hz' hTO' h1' hj => ?_
    · have C : Chg (fun a => a = z ∨ a = TO ∨ a = ri ∨ a = li) X.F s { s with heap := h' } := by
        refine ⟨fun c o q e => ⟨o, hk c o (fun z => q (.inl z)) e, .inl rfl⟩, fun c o e => ?_, rfl, rfl⟩
        by_cases q : c = z
        · exact ⟨_, q ▸ hz'⟩
        · exact ⟨o, hk c o q e⟩
      refine ⟨rfl, C, R.off C ZGood hcap hbuilt (fun y u hy r => zgood_keep C.same hDT hTO ha hb hy r) (fun c q => ⟨h0 c q, hoff c q⟩), ?_⟩
      rw [← hend, show left.toNat = 0 by lia]
      refine (iEEEAAA la k ys (h2.at fun o e => hk _ o Z.liz e) rfl (hl2.at fun o e => hk _ o Z.laz e) (hs.turn (P := PairF) (fun y u hy r => zgood_keep C.same hDT hTO ha hb (.inr (.inl hy)) r) hpf))
    · have hes : es = [] := by
        rcases zipL_nil hl with q | q
        · lia
        · exact q
      have hk2 : ∀ c o, ¬ (c = z ∨ c = TO ∨ c = ri ∨ c = li) → s.heap.get? c = some o → h'.get? c = some o := fun c o q e => hk c o (fun z => q (.inl z)) (fun z => q (.inr (.inl z))) (fun z => q (.inr (.inr (.inl z)))) (fun z => q (.inr (.inr (.inr z)))) e
      have C : Chg (fun a => a = z ∨ a = TO ∨ a = ri ∨ a = li) X.F s { s with heap := h', toks := s.toks + 1 } := by
        refine ⟨fun c o q e => ⟨o, hk2 c o q e, .inl rfl⟩, fun c o e => ?_, rfl, rfl⟩
        by_cases q : c = z ∨ c = TO ∨ c = ri ∨ c = li
        · rcases q with q | q | q | q <;> subst c
          · exact ⟨_, hz'⟩
          · exact ⟨_, hTO'⟩
          · exact ⟨_, h1'⟩
          · (refine oEA hj ?_; try clear hj; rintro o' e' _); exact ⟨_, e'⟩
        · exact ⟨o, hk2 c o q e⟩
      refine ⟨rfl, C, R.off C ZGood hcap hbuilt (fun y u hy r => zgood_keep C.same hDT hTO ha hb hy r) (fun c q => ⟨h0 c q, hoff c q⟩), ?_⟩
      have : aoF = .fin := by
        rw [← hend, hes]
        obtain ⟨m, hm⟩ : ∃ m, left.toNat = m + 1 := ⟨left.toNat - 1, by lia⟩
        rw [hm]; rfl
      rw [this]; exact hj
  stay := by
    (rintro l s s' st R zq C; refine zq.e ?_; clear zq; rintro hz hTI a b hTO ha hb x left step k ys es h1 h2 hl2 hs hl hend hpf)
    have nt : ∀ a its, s.heap.IsTuple a its → ¬ (a = D ∨ a = X.env.locals ∨ a = X.tabA) := fun a its x q => R.tuple_im x (by
      rcases q with q | q | q <;> subst a
      · exact .inr (.inr (.inl (.head _)))
      · exact .inl rfl
      · exact .inr (.inr (.inr rfl)))
    have no : ∀ a, (a = z ∨ a = TI ∨ a = TO ∨ a = ri ∨ a = li ∨ a = la) → ¬ (a = D ∨ a = X.env.locals ∨ a = X.tabA) := fun a h q => by
      (refine oAA (hne a h) ?_; rintro n1 n2 n3)
      exact q.elim n1 fun q => q.elim n2 n3
    exact ⟨C.same.exact (no z (by simp)) (hF z (by simp)) hz, C.same.exact (no TI (by simp)) (hF TI (by simp)) hTI, (iEEAA a b (C.same.exact (no TO (by simp)) (hF TO (by simp)) hTO) ha hb), x, left, step, k, ys, es,
      C.same.exact (no ri (by simp)) (hF ri (by simp)) h1, liter_same C.same (no li (by simp)) h2, list_same C.same (no la (by simp)) hl2, RepFs.same C.same nt es hs, hl, hend, hpf⟩
  keep := by
    (rintro l s s' zq C; refine zq.e ?_; clear zq; rintro hz hTI a b hTO ha hb x left step k ys es h1 h2 hl2 hs hl hend hpf)
    exact ⟨C.same.exact (fun q => q) (hF z (by simp)) hz, C.same.exact (fun q => q) (hF TI (by simp)) hTI, (iEEAA a b (C.same.exact (fun q => q) (hF TO (by simp)) hTO) ha hb), x, left, step, k, ys, es,
      C.same.exact (fun q => q) (hF ri (by simp)) h1, liter_same C.same (fun q => q) h2, list_same C.same (fun q => q) hl2, RepFs.same C.same (fun _ _ _ q => q) es hs, hl, hend, hpf⟩
  self := by
    rintro l s ⟨hz, _⟩
    exact wpAny_pyIter_zip hz ⟨rfl, rfl⟩

/- one own object is changed, one is new -/
theorem Rep.mutAlloc (R : Rep X ρ st s) {k : Nat} {a D : Addr} {ao' aoD : AO} (ha : ρ[k]? = some a) (hS : Same (fun b => b = a ∨ b = X.tabA) X.F s.heap s'.heap) (ex : ∀ b o, s.heap.get? b = some o → ∃ o', s'.heap.get? b = some o') (g : s'.gens = s.gens) (os : s'.os = s.os) (tab : TabOk X.toWx s'.heap)
    (hD : s.heap.get? D = none) (ho : RepO s'.heap (im X (ρ ++ [D])) ao' a) (hoD : RepO s'.heap (im X (ρ ++ [D])) aoD D) :
    Rep X (ρ ++ [D]) ⟨st.loc, st.hp.set k ao' ++ [aoD]⟩ s' ∧ Ext X ρ s (ρ ++ [D]) s' := by
  have hm := List.mem_of_getElem? ha
  have hk : k < ρ.length := (List.getElem?_eq_some_iff.mp ha).1
  have hDm : ∀ b, (b = a ∨ b = X.tabA) → mu X ρ b := fun b q => q.elim (fun q => q ▸ .inr (.inr (.inl hm))) fun q => .inr (.inr (.inr q))
  have h0 : X.h₀.get? D = none := R.h0none hD
  have hmu : ∀ b, mu X (ρ ++ [D]) b → mu X ρ b ∨ b = D := by
    rintro b (h | h | h)
    · exact .inl (.inl h)
    · exact .inl (.inr (.inl h))
    · rcases h with h | h
      · rcases List.mem_append.mp h with h | h
        · exact .inl (.inr (.inr (.inl h)))
        · exact .inr (List.mem_singleton.mp h)
      · exact .inl (.inr (.inr (.inr h)))
  have hnm : D ∉ ρ := fun h => R.fresh_im hD (.inr (.inr (.inl h)))
  have E : Ext X ρ s (ρ ++ [D]) s' := by
    refine ⟨hS.mono hDm, fun k b h => ?_, fun b h => ?_, ex, g, os⟩
    · rw [List.getElem?_append_left]; exact h; exact (List.getElem?_eq_some_iff.mp h).1
    · rcases hmu b h with h | rfl
      · exact .inl h
      · exact .inr hD
  (refine oEEAA (R.own hm) ?_; rintro _ ao _ _ rr)
  (refine oEAAAAAA rr.kind ?_; rintro o eo _ _ _ d1 d2 _)
  have nL : ∀ b m, s.heap.Ns b m → ¬ (b = a ∨ b = X.tabA) := by
    rintro b m n (rfl | q)
    · (refine oEEEAA n ?_; try clear n; rintro o' es ep e' d' _)
      rw [eo] at e'; cases e'; exact d1 _ _ d'
    · exact R.ns_notT n q
  have nC : ∀ b v, s.heap.IsCell b v → ¬ (b = a ∨ b = X.tabA) := by
    rintro b m n (rfl | q)
    · (refine oEA n ?_; try clear n; rintro o' e' d')
      rw [eo] at e'; cases e'; exact d2 _ d'
    · exact R.cell_notT n q
  refine ⟨⟨fun b o e => hS.exact (fun q => ?_) (fun hf => ?_) (R.keep b o e), fun b h => ?_, fun b hb => ⟨(R.fr b hb).1, ?_⟩, ?_, fun x c hc => ?_, R.cnd, fun x av e => ?_, fun i ao e => ?_, by simp [R.len], ?_, tab⟩, E⟩
  · rw [R.new b (hDm b q)] at e; cases e
  · rw [(R.fr b hf).1] at e; cases e
  · rcases hmu b h with h | rfl
    · exact R.new b h
    · exact h0
  · (refine oAEEEA (R.fr b hb) ?_; rintro _ o es n e d)
    (refine oEAA (hS.at (fun q => q.elim (fun q => R.own_notF hm (q ▸ hb)) (R.F_notT hb)) e) ?_; rintro o' e' _ d')
    exact (iEEEA o' es n e' (d'.trans d))
  · obtain ⟨m, n⟩ := R.ns; exact ⟨m, ns_same hS (nL _ _ n) n⟩
  · obtain ⟨v, n⟩ := R.cl x c hc; exact ⟨v, cell_same hS (nC _ _ n) n⟩
  · (refine oEA (R.var x av e) ?_; rintro v hv r)
    refine (iEA v ?_ (R.val_ext E r))
    rcases hv with ⟨k, m, n, q⟩ | ⟨k, c, q, n⟩
    · exact .inl (iAEA k m (ns_same hS (nL _ _ n) n) q)
    · exact .inr (iAEA k c q (cell_same hS (nC _ _ n) n))
  · have hlen : (st.hp.set k ao').length = ρ.length := by simp [R.len]
    rcases Nat.lt_or_ge i (st.hp.set k ao').length with hi | hi
    · simp only [List.getElem?_append_left hi, List.getElem?_set] at e
      split at e
      · rename_i q
        subst q
        rw [if_pos (by rw [R.len]; exact hk)] at e
        cases e
        exact (iEA a (E.pre _ _ ha) ho)
      · rename_i q
        (refine oEA (R.obj i ao e) ?_; rintro b eb rb)
        refine (iEA b (E.pre _ _ eb) (R.obj_same hS hDm (fun c h e => E.im_of h e) (List.mem_of_getElem? eb) (fun z => ?_) rb))
        rcases z with z | z
        · subst z; exact q ((List.getElem?_inj hk R.nd).mp (ha.trans eb.symm))
        · exact R.own_notT (List.mem_of_getElem? eb) z
    · simp only [List.getElem?_append_right hi] at e
      have hi0 : i = (st.hp.set k ao').length := by
        rcases Nat.lt_or_ge (i - (st.hp.set k ao').length) 1 with h | h
        · lia
        · rw [List.getElem?_eq_none (by simpa using h)] at e; cases e
      subst hi0
      simp only [Nat.sub_self, List.getElem?_cons_zero, Option.some.injEq] at e
      subst e
      exact (iEA D (by rw [hlen, List.getElem?_append_right (Nat.le_refl _)]; simp) hoD)
  · exact List.nodup_append.mpr ⟨R.nd, by simp, fun b hb c hc => by rw [List.mem_singleton.mp hc]; exact fun q => hnm (q ▸ hb)⟩
end
end Mine
end
section
open PySem PySem.W PySem.Calls PyProof.Rows
set_option Elab.async false
set_option maxRecDepth 100000
set_option linter.unusedVariables false
set_option linter.unusedSimpArgs false
namespace Mine
section
variable {X : Fx} {st : St} {ρ ρ' : List Addr} {s s' s'' : Shared}
/- the setting of a comprehension over zip(range, own iterator) -/
structure ZipOk (X : Fx) (st : St) (ts : List Expr) (tc : Nat) (tp : Pos) (iter elt : Expr) (sc : Scope) (l : List FV) (f : FV → FV) : Prop where
  kind : sc.kind = .function
  cells : ∀ x ∈ sc.names, x.2 ≠ .cell
  names : ∀ x ∈ sc.names, x.2 = .local → sc.names.lookup x.1 = some .local
  rest : ∃ cl cap, closureFor sc X.env = pure cl ∧ (∀ x ∈ cl, x ∈ X.env.cells) ∧ (cl.map (·.2)).Nodup ∧ Caps X st sc cl cap ∧ (∀ x av, cap.lookup x = some av → avGood ZGood av) ∧
    ∀ C x built, x ∈ l → ∃ st₂, ATL (X.comp sc cl C kind) (.Tuple ts tc tp) x ⟨cap, [.list built]⟩ st₂ ∧ PE (X.comp sc cl C kind) st₂ elt (.f (f x)) ∧ ZGood (f x) ∧ st₂.hp = [.list built] ∧ ∀ y av, cap.lookup y = some av → st₂.loc.lookup y = some av
  size : l.length ≤ 2 ^ 20

theorem ws1_compZ {ts : List Expr} {tc : Nat} {tp : Pos} {elt rE iE : Expr} {sc : Scope} {pos spos zp cp : Pos} {y : Str} {py : Pos} {k : Nat} {l : List FV} {a b c : Int} {f : FV → FV} {Q : AF → St → Prop}
    (hf : PE X st (.Name "zip" zp) (.val (.type "zip"))) (hr : PRng X st rE a b c) (hsm : Builtin.Range.small a b c = true) (hi : PE X st iE (.obj k)) (hk : st.hp[k]? = some (.iter l)) (hp : ∀ e ∈ l, PairF e)
    (h : ZipOk X st ts tc tp (.Call (.Name "zip" zp) [rE, iE] [] cp) elt sc (zipL a c (Builtin.Range.rangeSize a b c).toNat l) f) (hy : X.env.kindOf y = some .local)
    (q : Q .next (St.set ⟨st.loc, st.hp.set k (zipEnd (Builtin.Range.rangeSize a b c).toNat l) ++ [.list ((zipL a c (Builtin.Range.rangeSize a b c).toNat l).map f)]⟩ y (.obj st.hp.length)))
    (hsw : swapsWith (.ListComp elt [⟨.Tuple ts tc tp, .Call (.Name "zip" zp) [rE, iE] [] cp, [], 0⟩] sc pos) (some (.Name y py)) spos.line X.env = pure true)
    (hst : starEach [rE, iE] X.env = [(false, eval rE X.env), (false, eval iE X.env)] := by rfl) (hs : ∀ x, foldedSetIterable (.Call (.Name "zip" zp) [rE, iE] [] cp) X.env x = pure x := by intro _; rfl) :
    WS1 X (.Assign [.Name y py] (.ListComp elt [⟨.Tuple ts tc tp, .Call (.Name "zip" zp) [rE, iE] [] cp, [], 0⟩] sc pos) spos) st Q := fun ρ s R => by
  (refine oEEAAAAA h.rest ?_; rintro cl cap hclos hcl hcnd hcap hgood turn)
  rw [exec_Assign_Name_used _ _ _ _ hsw]
  refine wpAny_bind (wpAny_standAt (wpAny_bind ?_))
  show wpAny _ X.A (do let _ ← comprehension (.ListComp elt [⟨.Tuple ts tc tp, .Call (.Name "zip" zp) [rE, iE] [] cp, [], 0⟩] sc pos) sc X.env _ (newList []) false (eval (.Call (.Name "zip" zp) [rE, iE] [] cp) X.env) (some (assign (.Name y py) X.env))) _ _ s
  refine wpAny_bind (wpAny_mono (wpAny_comprehension_free (use := some (assign (.Name y py) X.env)) (Q := fun _ s' => Ends X ρ s Q .next s') rfl hs hclos h.kind h.names ?_) (fun _ s' hq => wpAny_pure (wpAny_pure hq)) fun _ _ e => e)
  refine wpAny_Call_ofName (hf.on R fun v s₁ R₁ G₁ r₁ => ?_)
  cases r₁
  rw [hst]
  refine PyProof.Rows.callWith_type rfl (evalArgs_plain (spliced_cons (wpAny_mono (hr ρ s₁ R₁) (fun v s₂ ⟨G₂, r, t, u, w, ev, hnn, hrr⟩ => spliced_cons (hi.on (R₁.grow G₂) fun iv s₃ R₃ G₃ r₃ => spliced_nil ?_)) fun _ _ x => x)))
  subst ev
  (refine oEA r₃ ?_; try clear r₃; rintro li eli rfl)
  have G03 := (G₁.trans G₂).trans G₃
  have R03 := R.grow G03
  (refine oEEEAAA (R03.objIter hk eli) ?_; rintro la i ys hit hila hla hes)
  have hrr₃ : IsRange s₃.heap r a b c t u w := G₃.same.exact (fun q => by
    (refine oEA ((R₁.grow G₂).tab) ?_; rintro ps e _)
    rw [q] at hrr
    have hrr : s₂.heap.get? _ = _ := hrr
    rw [e] at hrr; cases hrr) ((R.ext G₁ |>.none hnn) |> R.Fnone) hrr
  refine call_zipR hrr₃ hit hsm fun h' hz hTI hTO hri hkp => ?_
  refine wpAny_pyIter_zip hz ?_
  have G34 : X.G s₃ { s₃ with heap := h' } := ⟨.of_keeps hkp, .keeps hkp, rfl, rfl⟩
  have G := G03.trans G34
  have R₄ := R.grow G
  have nz : ∀ j, s₃.heap.get? (s₃.heap.objs.size + j) = none := fun j => Heap.get?_none_of_le (Nat.le_add_right ..)
  have nz0 : ∀ j, s.heap.get? (s₃.heap.objs.size + j) = none := fun j => (R.ext G03).none (nz j)
  have hlim := List.mem_of_getElem? eli
  have eli3 : ∃ o, s₃.heap.get? li = some o := let ⟨o, e, _⟩ := hit; ⟨o, e⟩
  have ela3 : ∃ o, s₃.heap.get? la = some o := let ⟨o, e, _⟩ := hla; ⟨o, e⟩
  have nli : ∀ j, li ≠ s₃.heap.objs.size + j := fun j q => by obtain ⟨o, e⟩ := eli3; rw [q, nz j] at e; cases e
  have nla : ∀ j, la ≠ s₃.heap.objs.size + j := fun j q => by obtain ⟨o, e⟩ := ela3; rw [q, nz j] at e; cases e
  have hlali : la ≠ li := fun q => hila (q ▸ .inr (.inr (.inl hlim)))
  have Z : ZAp (s₃.heap.objs.size + 3) (s₃.heap.objs.size + 1) (s₃.heap.objs.size + 2) s₃.heap.objs.size li la :=
    ⟨by simp, by simp, by simp, nli 3, by simp, by simp, fun q => nli 1 q.symm, by simp, fun q => nli 2 q.symm, fun q => nli 0 q.symm, nla 3, nla 2, nla 0, hlali⟩
  have hZ : ZSt (s₃.heap.objs.size + 3) (s₃.heap.objs.size + 1) (s₃.heap.objs.size + 2) s₃.heap.objs.size li la (zipEnd (Builtin.Range.rangeSize a b c).toNat l) (zipL a c (Builtin.Range.rangeSize a b c).toNat l) { s₃ with heap := h' } :=
    ⟨hz, hTI, (iEEAA _ _ hTO (.inl rfl) (.inl rfl)), a, _, c, i, ys, l, hri, hit.at fun o e => hkp _ o e, hla.at fun o e => hkp _ o e, R03.flats_grow G34 hes, rfl, rfl, hp⟩
  have tabT : ∀ x, (∃ o, h'.get? x = some o ∧ o.cls ≠ .none) → x ≠ X.tabA := by
    (rintro x zq1 rfl; refine oEA zq1 ?_; clear zq1; rintro o e c)
    (refine oEA R₄.tab ?_; rintro ps e' _)
    have e' : h'.get? X.tabA = _ := e'
    rw [e] at e'; cases e'; exact c rfl
  have ex4 : ∀ x, (x = s₃.heap.objs.size + 3 ∨ x = s₃.heap.objs.size + 1 ∨ x = s₃.heap.objs.size + 2 ∨ x = s₃.heap.objs.size ∨ x = li ∨ x = la) → (∃ o, h'.get? x = some o ∧ o.cls ≠ .none) := by
    rintro x (rfl | rfl | rfl | rfl | rfl | rfl)
    · exact (iEA _ hz (by simp))
    · exact (iEA _ hTI (by simp))
    · exact (iEA _ hTO (by simp))
    · exact (iEA _ hri (by simp))
    · (refine oEAA hit ?_; try clear hit; rintro o e c _); exact (iEA o (hkp _ _ e) (by simp [c]))
    · (refine oEAA hla ?_; try clear hla; rintro o e c _); exact (iEA o (hkp _ _ e) (by simp [c]))
  have hnF : ∀ x, (x = s₃.heap.objs.size + 3 ∨ x = s₃.heap.objs.size + 1 ∨ x = s₃.heap.objs.size + 2 ∨ x = s₃.heap.objs.size) → x ∉ X.F := by
    rintro x (rfl | rfl | rfl | rfl)
    · exact R.Fnone (nz0 3)
    · exact R.Fnone (nz0 1)
    · exact R.Fnone (nz0 2)
    · exact R.Fnone (nz0 0)
  have hn0 : ∀ x, (x = s₃.heap.objs.size + 3 ∨ x = s₃.heap.objs.size + 2 ∨ x = s₃.heap.objs.size ∨ x = li) → X.h₀.get? x = none := by
    rintro x (rfl | rfl | rfl | rfl)
    · exact R.h0none (nz0 3)
    · exact R.h0none (nz0 2)
    · exact R.h0none (nz0 0)
    · exact R.new _ (.inr (.inr (.inl hlim)))
  refine comp_block (Good := ZGood) (DI := fun x => x = s₃.heap.objs.size + 3 ∨ x = s₃.heap.objs.size + 2 ∨ x = s₃.heap.objs.size ∨ x = li) (S := ZSt (s₃.heap.objs.size + 3) (s₃.heap.objs.size + 1) (s₃.heap.objs.size + 2) s₃.heap.objs.size li la (zipEnd (Builtin.Range.rangeSize a b c).toNat l)) (Fin := fun s => RepO s.heap (fun a => a = la) (zipEnd (Builtin.Range.rangeSize a b c).toNat l) li)
    R₄ h.kind h.cells hcl hcnd hcap (fun C D nD nC hDC => src_zip Z hn0 (fun x hx => ⟨fun q => ?_, fun q => ?_, tabT x (ex4 x hx)⟩) hnF hgood) (fun _ => true) f (· ∈ zipL a c (Builtin.Range.rangeSize a b c).toNat l)
    (fun C x built hx => let ⟨st₂, a, b, c, d, e⟩ := turn C x built hx; ⟨st₂, a, .nil, fun _ => ⟨b, c⟩, d, e⟩) (fun x hx => hx) h.size hZ ?_ fun D C s' items nD nC hDC Cg hn hpl hb ht hfin => ?_
  · (refine oEA (ex4 x hx) ?_; rintro o e _)
    have nD : h'.get? D = none := nD
    rw [q, nD] at e; cases e
  · (refine oEA (ex4 x hx) ?_; rintro o e _)
    have q : x = C := q
    have nC : h'.get? C = none := nC
    rw [q, nC] at e; cases e
  · intro x hx
    obtain ⟨o, e, _⟩ := ex4 x (by rcases hx with q | q | q | q <;> simp [q])
    exact ⟨o, e⟩
  obtain ⟨m, hn⟩ := hn
  have nC0 := (R.ext G).none nC
  have nD0 := (R.ext G).none nD
  have hS : Same (fun x => x = li ∨ x = X.tabA) X.F s.heap s'.heap := fun x o hx e => by
    (refine oEA (G.same x o (fun q => hx (.inr q)) e) ?_; rintro o' e' k1)
    obtain ⟨o'', e'', k2⟩ := Cg.same x o' (fun q => by
      rcases q with (q | q | q | q) | q
      · rw [q, nz0 3] at e; cases e
      · rw [q, nz0 2] at e; cases e
      · rw [q, show s.heap.get? s₃.heap.objs.size = none from nz0 0] at e; cases e
      · exact hx (.inl q)
      · exact hx (.inr q)) e'
    exact (iEA o'' e'' (k1.trans k2))
  have hlaD : la ≠ D := fun q => by
    obtain ⟨o, e⟩ := ela3
    have e := hkp _ _ e
    have nD : h'.get? D = none := nD
    rw [q, nD] at e; cases e
  have hfin' : RepO s'.heap (im X (ρ ++ [D])) (zipEnd (Builtin.Range.rangeSize a b c).toNat l) li := by
    generalize zipEnd (Builtin.Range.rangeSize a b c).toNat l = ao at hfin
    cases ao with
    | iter l' => (refine oEEEAA hfin ?_; try clear hfin; rintro la' i items h1 h2 h3); cases h2; exact (iEEEAA la i items h1 (im_more hila hlaD) h3)
    | list l => exact hfin
    | rng x n c => exact hfin
    | plain => exact hfin
    | fin => exact hfin
    | junk => exact hfin
  have hbl : RepFs s'.heap ((zipL a c (Builtin.Range.rangeSize a b c).toNat l).map f) items.toList := by
    have e : (zipL a c (Builtin.Range.rangeSize a b c).toNat l).filter (fun _ => true) = zipL a c (Builtin.Range.rangeSize a b c).toNat l := by simp
    rw [e] at hb; exact hb
  obtain ⟨R', E'⟩ := R.mutAlloc (aoD := .list ((zipL a c (Builtin.Range.rangeSize a b c).toNat l).map f)) eli hS (fun x o e => by obtain ⟨o', e'⟩ := (R.ext G).ex x o e; exact Cg.ex x o' e') (Cg.gens.trans G.gens) (Cg.os.trans G.os) ht nD0 hfin' (iEA items hpl hbl)
  have rD : RepV s'.heap (im X (ρ ++ [D])) (ρ ++ [D]) (.obj st.hp.length) (.ref D) := (iEA D (last_at R.len D) rfl)
  show wpAny _ _ (assign (.Name y py) X.env (.ref D)) _ _ _
  refine wpAny_assign_Name (storeL R' hy rD fun s₅ R₅ C₅ => ?_)
  have hCL : C ≠ X.env.locals := fun q => by (refine oEEEEA R.ns ?_; rintro m o _ _ e _); rw [q, e] at nC0; cases nC0
  have hCT : C ≠ X.tabA := R'.ns_notT hn
  have hn₅ : s₅.heap.Ns C m := ns_same C₅.same (fun q => q.elim hCL hCT) hn
  have E₅ : Ext X ρ s (ρ ++ [D]) s₅ := E'.trans ⟨C₅.same.mono fun a h => h.elim .inl fun q => .inr (.inr (.inr q)), fun _ _ h => h, fun _ h => .inl h, C₅.ex, C₅.gens, C₅.os⟩
  exact (iEA m hn₅ (fun h' hs' => (iEEEAAA _ (.next) _ (R₅.offC (tk := s₅.toks) hn₅ hs' hCL (R.Fnone nC0) (R.h0none nC0)) (E₅.offC nC0 hs') rfl q)))
end
end Mine
end
section
open PySem PySem.W PySem.Calls PyProof.Rows
set_option Elab.async false
set_option maxRecDepth 100000
set_option linter.unusedVariables false
set_option linter.unusedSimpArgs false
namespace Mine
section
variable {X : Fx} {st : St} {ρ ρ' : List Addr} {s s' s'' : Shared}
noncomputable def allIn (l : List (Str × AV)) : List (Str × AV) → Prop
  | [] => True
  | (x, a) :: r => l.lookup x = some a ∧ allIn l r
noncomputable def refsOk (n : Nat) : List (Str × AV) → Bool
  | [] => true
  | (_, .obj k) :: r => decide (k < n) && refsOk n r
  | _ :: r => refsOk n r
/- names and last own objects forgotten -/
noncomputable def Weak (st st' : St) : Prop := (∃ t, st.hp = st'.hp ++ t) ∧ allIn st.loc st'.loc ∧ refsOk st'.hp.length st'.loc = true
theorem allIn_lookup {l : List (Str × AV)} : ∀ {m : List (Str × AV)} {x av}, allIn l m → m.lookup x = some av → l.lookup x = some av
  | [], _, _, _, e => by simp at e
  | (y, b) :: r, x, av, h, e => by
    simp only [List.lookup_cons] at e
    by_cases q : x = y
    · subst q
      simp only [BEq.rfl, Option.some.injEq] at e
      subst e; exact h.1
    · simp only [beq_eq_false_iff_ne.mpr q] at e
      exact allIn_lookup h.2 e
theorem refsOk_lookup {n : Nat} : ∀ {m : List (Str × AV)} {x k}, refsOk n m = true → m.lookup x = some (.obj k) → k < n
  | [], _, _, _, e => by simp at e
  | (y, b) :: r, x, k, h, e => by
    have hr : refsOk n r = true := by
      cases b <;> simp only [refsOk, Bool.and_eq_true] at h <;> first | exact h | exact h.2
    simp only [List.lookup_cons] at e
    by_cases q : x = y
    · subst q
      simp only [BEq.rfl, Option.some.injEq] at e
      subst e
      simp only [refsOk, Bool.and_eq_true, decide_eq_true_eq] at h; exact h.1
    · simp only [beq_eq_false_iff_ne.mpr q] at e
      exact refsOk_lookup hr e
theorem Rep.popN {loc : List (Str × AV)} {hp : List AO} (hn : ∀ x k, loc.lookup x = some (.obj k) → k < hp.length) : ∀ (n : Nat) (t : List AO) (ρ : List Addr), t.length = n → Rep X ρ ⟨loc, hp ++ t⟩ s → Rep X (ρ.take hp.length) ⟨loc, hp⟩ s := by
  intro n
  induction n with
  | zero =>
    intro t ρ ht R
    have : t = [] := List.eq_nil_of_length_eq_zero ht
    subst this
    have e := R.len
    simp only [List.append_nil] at R e
    rw [List.take_of_length_le (Nat.le_of_eq (by simpa using e.symm))]; exact R
  | succ n ih =>
    intro t ρ ht R
    obtain ⟨t', ao, rfl⟩ : ∃ t' ao, t = t' ++ [ao] := ⟨t.dropLast, t.getLast (by intro q; simp [q] at ht), (List.dropLast_concat_getLast _).symm⟩
    have hl := R.len
    simp only [List.length_append, List.length_cons, List.length_nil] at ht hl
    obtain ⟨ρ', a, rfl⟩ : ∃ ρ' a, ρ = ρ' ++ [a] := ⟨ρ.dropLast, ρ.getLast (by intro q; simp [q] at hl), (List.dropLast_concat_getLast _).symm⟩
    simp only [List.length_append, List.length_cons, List.length_nil] at hl
    rw [← List.append_assoc] at R
    have R' := R.pop (by simp; lia) (fun x k e => by have := hn x k e; simp; lia)
    have := ih t' ρ' (by lia) R'
    rwa [List.take_append_of_le_length (by lia)]
theorem Rep.weak {st' : St} (R : Rep X ρ st s) (h : Weak st st') : Rep X (ρ.take st'.hp.length) st' s := by
  (refine oAA h ?_; try clear h; rintro ⟨t, ht⟩ h1 h2)
  have R1 : Rep X ρ ⟨st'.loc, st'.hp ++ t⟩ s := R.forget ht.symm fun x av e => allIn_lookup h1 e
  exact Rep.popN (fun x k e => refsOk_lookup h2 e) t.length t ρ rfl R1
theorem Ext.weak {ρ₀ : List Addr} {s₀ : Shared} {n : Nat} (E : Ext X ρ₀ s₀ ρ s) (h : ρ₀.length ≤ n) : Ext X ρ₀ s₀ (ρ.take n) s := by
  refine ⟨E.same, fun k a e => ?_, fun a h => E.mu a ?_, E.ex, E.gens, E.os⟩
  · rw [List.getElem?_take_of_lt (by have := (List.getElem?_eq_some_iff.mp e).1; (exact Nat.lt_of_lt_of_le ‹_› ‹_›))]; exact E.pre k a e
  · rcases h with h | h | h | h
    · exact .inl h
    · exact .inr (.inl h)
    · exact .inr (.inr (.inl (List.mem_of_mem_take h)))
    · exact .inr (.inr (.inr h))
/- behind a weakening -/
noncomputable def WkP (n : Nat) (Q : AF → St → Prop) : AF → St → Prop
  | .ret a, st' => Q (.ret a) st'
  | af, st' => ∃ st'', Weak st' st'' ∧ n ≤ st''.hp.length ∧ Q af st''
theorem Ends.weaken {Q : AF → St → Prop} {fl : Flow} (R₀ : Rep X ρ st s) (h : Ends X ρ s (WkP st.hp.length Q) fl s') : Ends X ρ s Q fl s' := by
  (refine oEEEAAA h ?_; try clear h; rintro ρ' af st' R' E r q)
  have go : ∀ st'', Weak st' st'' → st.hp.length ≤ st''.hp.length → (∀ a, af ≠ .ret a) → Q af st'' → Ends X ρ s Q fl s' := fun st'' hw hl ha hq => by
    refine (iEEEAAA _ af st'' (R'.weak hw) (E.weak (by rw [← R₀.len]; exact hl)) ?_ hq)
    cases af with
    | ret a => exact absurd rfl (ha a)
    | next => exact r
    | brk => exact r
    | cont => exact r
  cases af with
  | ret a => exact (iEEEAAA ρ' _ st' R' E r q)
  | next => (refine oEAA q ?_; try clear q; rintro st'' h1 h2 h3); exact go st'' h1 h2 (by simp) h3
  | brk => (refine oEAA q ?_; try clear q; rintro st'' h1 h2 h3); exact go st'' h1 h2 (by simp) h3
  | cont => (refine oEAA q ?_; try clear q; rintro st'' h1 h2 h3); exact go st'' h1 h2 (by simp) h3
theorem ws_weak {c : List Stmt} {Q : AF → St → Prop} (h : WS X c st (WkP st.hp.length Q)) : WS X c st Q := fun ρ s R =>
  wpAny_mono (h ρ s R) (fun _ _ e => e.weaken R) fun _ _ x => x
theorem ws1_weak {c : Stmt} {Q : AF → St → Prop} (h : WS1 X c st (WkP st.hp.length Q)) : WS1 X c st Q := fun ρ s R =>
  wpAny_mono (h ρ s R) (fun _ _ e => e.weaken R) fun _ _ x => x
/- the state that is given may be weakened first -/
theorem ws_from {c : List Stmt} {st' : St} {Q : AF → St → Prop} (hw : Weak st st') (hl : st'.hp.length = st.hp.length) (h : WS X c st' Q) : WS X c st Q := fun ρ s R => by
  have R' := R.weak hw
  rw [List.take_of_length_le (by rw [hl, R.len]; exact Nat.le_refl _)] at R'
  exact h ρ s R'
end
open PySem.Challenge
/- the program's defs, by their places -/
noncomputable def dStmt (k : Nat) : Stmt := (pw_lg0035_01.main.body[k]?).getD (.Pass default)
noncomputable def dBody (k : Nat) : List Stmt := match dStmt k with | .FunctionDef _ _ b _ _ _ _ _ _ _ => b | _ => []
noncomputable def dPar (k : Nat) : Arguments := match dStmt k with | .FunctionDef _ a _ _ _ _ _ _ _ _ => a | _ => default
noncomputable def dSco (k : Nat) : Scope := match dStmt k with | .FunctionDef _ _ _ _ _ _ s _ _ _ => s | _ => default
end Mine
end
section
open PySem PySem.W PySem.Calls PyProof.Rows
set_option Elab.async false
set_option maxRecDepth 100000
set_option linter.unusedVariables false
set_option linter.unusedSimpArgs false
namespace Mine
/- a def of the program, as the world holds it -/
structure FnOk (W : Wx) (k : Nat) (nm : Str) (dV kV : Value) (f : Addr) : Prop where
  gl : W.gl.lookup nm = some (.ref f)
  at_ : ∃ o doc pm an cd ct, W.h₀.get? f = some o ∧ o.data = .func (fnX nm nm (dPar k) (dBody k) (dSco k) [] dV kV doc pm an cd ct) ∧ W.h₀.CodeRec cd nm
theorem FnOk.fo {W : Wx} {k : Nat} {nm : Str} {dV kV : Value} {f : Addr} (h : FnOk W k nm dV kV f) : ∃ a o fd, (Value.ref f) = .ref a ∧ W.h₀.get? a = some o ∧ o.data = .func fd := by
  (refine oEEEEEEAA h.at_ ?_; rintro o doc pm an cd ct h1 h2 _)
  exact (iEEEAA f o _ rfl h1 h2)

section
variable (lt : FV → FV → Bool)
noncomputable def sd (start : Nat) (x : FV) (l : List FV) (pos : Nat) : List FV :=
  if h : start < pos then
    if lt x (l.getD ((pos - 1) / 2) .none) then sd start x (l.set pos (l.getD ((pos - 1) / 2) .none)) ((pos - 1) / 2) else l.set pos x
  else l.set pos x
termination_by pos
decreasing_by lia
theorem sd_len (start : Nat) (x : FV) (l : List FV) (pos : Nat) : (sd lt start x l pos).length = l.length := by
  fun_induction sd lt start x l pos <;> simp_all
end
section
variable (lt : FV → FV → Bool)
/- the hole goes down to a leaf -/
noncomputable def suGo (l : List FV) (pos : Nat) : List FV × Nat :=
  if h : 2 * pos + 1 < l.length then
    if decide (2 * pos + 2 < l.length) && !(lt (l.getD (2 * pos + 1) .none) (l.getD (2 * pos + 2) .none)) then suGo (l.set pos (l.getD (2 * pos + 2) .none)) (2 * pos + 2)
    else suGo (l.set pos (l.getD (2 * pos + 1) .none)) (2 * pos + 1)
  else (l, pos)
termination_by l.length - pos
decreasing_by all_goals (simp only [List.length_set]; omega)
noncomputable def su (l : List FV) (pos : Nat) : List FV := sd lt pos (l.getD pos .none) ((suGo lt l pos).1.set (suGo lt l pos).2 (l.getD pos .none)) (suGo lt l pos).2
theorem suGo_len (l : List FV) (pos : Nat) : (suGo lt l pos).1.length = l.length := by
  fun_induction suGo lt l pos <;> simp_all
theorem suGo_lt (l : List FV) (pos : Nat) (h : pos < l.length) : (suGo lt l pos).2 < l.length := by
  fun_induction suGo lt l pos with
  | case1 l pos h1 h2 ih => simp only [Bool.and_eq_true, decide_eq_true_eq] at h2; have := ih (by simpa using h2.1); simpa using this
  | case2 l pos h1 h2 ih => have := ih (by simpa using h1); simpa using this
  | case3 l pos h1 => exact h
theorem su_len (l : List FV) (pos : Nat) : (su lt l pos).length = l.length := by simp [su, sd_len, suGo_len]
end
noncomputable abbrev gtF (x y : FV) : Bool := FV.lt y x
/- the builtins' names -/
structure BiOk (W : Wx) : Prop where
  len : W.gl.lookup (Str.ofString "len") = some (Value.builtin "len")
  range : W.gl.lookup (Str.ofString "range") = some (Value.type "range")
  reversed : W.gl.lookup (Str.ofString "reversed") = some (Value.type "reversed")
  iter : W.gl.lookup (Str.ofString "iter") = some (Value.builtin "iter")
  object : W.gl.lookup (Str.ofString "object") = some (Value.type "object")
  min : W.gl.lookup (Str.ofString "min") = some (Value.builtin "min")
  max : W.gl.lookup (Str.ofString "max") = some (Value.builtin "max")
  sorted : W.gl.lookup (Str.ofString "sorted") = some (Value.builtin "sorted")
  zip : W.gl.lookup (Str.ofString "zip") = some (Value.type "zip")
  sum : W.gl.lookup (Str.ofString "sum") = some (Value.builtin "sum")
  terr : W.gl.lookup (Str.ofString "TypeError") = some (Value.type "TypeError")
  aerr : W.gl.lookup (Str.ofString "AttributeError") = some (Value.type "AttributeError")
theorem fdiv2 (n : Nat) (h : 0 < n) : ((n : Int) - 1).fdiv 2 = (((n - 1) / 2 : Nat) : Int) := by
  rw [Int.fdiv_eq_ediv_of_nonneg _ (by lia)]; lia
theorem getD_some {l : List FV} {i : Nat} (h : i < l.length) : l[i]? = some (l.getD i .none) := by
  rw [List.getD_eq_getElem?_getD, List.getElem?_eq_getElem h]; rfl

/- elements that may all be compared -/
noncomputable def CmpU (U : FV → Prop) : Prop := ∀ x y, U x → U y → CmpF 10 x y

theorem PE.to {X : Fx} {st : St} {e : Expr} {a b : AV} (h : PE X st e a) (q : a = b) : PE X st e b := q ▸ h
theorem PT.to {X : Fx} {st : St} {e : Expr} {a b : Bool} (h : PT X st e a) (q : a = b) : PT X st e b := q ▸ h

theorem mul2 {X : Fx} {st : St} {i : Int} : BO X st .Mult (.f (.int 2)) (.f (.int i)) (.f (.int (2 * i))) := bo_mul (IntMulOk.of_left (by decide))
theorem pe_lenN {X : Fx} {st : St} {p pos : Pos} {e : Expr} {a : AV} {l : List FV} (hb : BiOk X.toWx) (hk : X.env.kindOf "len" = some .globalImplicit) (he : PE X st e a) (hz : l.length ≤ 1000) (hl : asL st.hp a = some l := by rfl) (hst : starEach [e] X.env = [(false, eval e X.env)] := by rfl) : PE X st (.Call (.Name "len" p) [e] [] pos) (.f (.int l.length)) :=
  pe_len (pe_glo hk hb.len) he hl (by (exact Nat.le_trans ‹_› (by decide))) hst
theorem pe_itemN {X : Fx} {st : St} {e i : Expr} {pos : Pos} {a : AV} {l : List FV} {k : Nat} {x : FV} (he : PE X st e a) (hi : PE X st i (.f (.int k))) (hx : l[k]? = some x) (hz : l.length ≤ 1000) (hl : asL st.hp a = some l := by rfl)
    (hs : ∀ la t, subscripted i false (.ref la) (.int k t) = operate [.ref la, .int k t] (getItem (.ref la) (.int k t)) := by intro _ _; with_unfolding_all rfl) : PE X st (.Subscript e i pos) (.f x) :=
  pe_item he hi hl (Int.natCast_nonneg _) hx (by lia) hs
theorem ws1_setitemN {X : Fx} {st : St} {o i e : Expr} {p pos : Pos} {k : Nat} {j : Nat} {x : FV} {l : List FV} {Q : AF → St → Prop} (he : PE X st e (.f x)) (ho : PE X st o (.obj k)) (hi : PE X st i (.f (.int j))) (h1 : j < l.length) (hz : l.length ≤ 1000)
    (q : Q .next { st with hp := st.hp.set k (.list (l.set j x)) }) (hl : st.hp[k]? = some (.list l) := by rfl) (hs : swapsWith e (some (.Subscript o i p)) pos.line X.env = pure false := by rfl) : WS1 X (.Assign [.Subscript o i p] e pos) st Q :=
  ws1_setitem he ho hi hl (Int.natCast_nonneg _) (by (exact Int.ofNat_lt.mpr ‹_›)) (by lia) q hs

end Mine
end
section
open PySem PySem.W PySem.Calls PyProof.Rows
set_option Elab.async false
set_option maxRecDepth 100000
set_option linter.unusedVariables false
set_option linter.unusedSimpArgs false
namespace Mine
theorem bind3 {fd : FuncData} {W : Wx} {as1 as2 as3 : AV} {hp : List AO} {x1 x2 x3 : Str} (h : ∀ v1 v2 v3, bindArgs fd ⟨[v1, v2, v3], []⟩ = pure [(x1, v1), (x2, v2), (x3, v3)] := by intro _ _ _; rfl) :
    ∀ s F ρ vs kvs, Rep0 W F ρ hp s → RepVs s.heap (im0 W ρ) ρ [as1, as2, as3] vs → RepKs s.heap (im0 W ρ) ρ [] kvs → ∃ binds, BindsTo s fd ⟨vs, kvs⟩ binds ∧ RepKs s.heap (im0 W ρ) ρ [(x1, as1), (x2, as2), (x3, as3)] binds := by
  intro s F ρ vs kvs R hv hk
  refine hk.c0 ?_
  refine hv.c3 (fun _ _ _ r1 r2 r3 => ?_)
  ·
        exact (iEA _ (BindsTo.of_eq (h _ _ _)) (.cons r1 (.cons r2 (.cons r3 .nil))))
theorem bind2 {fd : FuncData} {W : Wx} {as1 as2 : AV} {hp : List AO} {x1 x2 : Str} (h : ∀ v1 v2, bindArgs fd ⟨[v1, v2], []⟩ = pure [(x1, v1), (x2, v2)] := by intro _ _; rfl) :
    ∀ s F ρ vs kvs, Rep0 W F ρ hp s → RepVs s.heap (im0 W ρ) ρ [as1, as2] vs → RepKs s.heap (im0 W ρ) ρ [] kvs → ∃ binds, BindsTo s fd ⟨vs, kvs⟩ binds ∧ RepKs s.heap (im0 W ρ) ρ [(x1, as1), (x2, as2)] binds := by
  intro s F ρ vs kvs R hv hk
  refine hk.c0 ?_
  refine hv.c2 (fun _ _ r1 r2 => ?_)
  ·
      exact (iEA _ (BindsTo.of_eq (h _ _)) (.cons r1 (.cons r2 .nil)))
theorem bind1 {fd : FuncData} {W : Wx} {as1 : AV} {hp : List AO} {x1 : Str} (h : ∀ v1, bindArgs fd ⟨[v1], []⟩ = pure [(x1, v1)] := by intro _; rfl) :
    ∀ s F ρ vs kvs, Rep0 W F ρ hp s → RepVs s.heap (im0 W ρ) ρ [as1] vs → RepKs s.heap (im0 W ρ) ρ [] kvs → ∃ binds, BindsTo s fd ⟨vs, kvs⟩ binds ∧ RepKs s.heap (im0 W ρ) ρ [(x1, as1)] binds := by
  intro s F ρ vs kvs R hv hk
  refine hk.c0 ?_
  refine hv.c1 (fun _ r1 => ?_)
  ·
    exact (iEA _ (BindsTo.of_eq (h _)) (.cons r1 .nil))

theorem sd_body {U : FV → Prop} (hU : CmpU U) {l : List FV} {start pos : Nat} (hp : pos < l.length) (hl : ∀ x ∈ l, U x) (hz : l.length ≤ 1000)
    {X : Fx} {L f : Addr} {cd : Value} (he : X.env = envOf "_siftdown" (dSco 7) L f cd) :
    WS X (dBody 7) ⟨[("heap", .obj 0), ("startpos", .f (.int start)), ("pos", .f (.int pos))], [.list l]⟩
      (fun af st' => af = .next ∧ st'.hp = [.list (sd FV.lt start (l.getD pos .none) l pos)]) := by
  have hk : ∀ x, X.env.kindOf x = (dSco 7).names.lookup x := fun x => by rw [he]; rfl
  have hx : U (l.getD pos .none) := hl _ (List.mem_of_getElem? (getD_some hp))
  have hxs : l[pos]? = some (l.getD pos .none) := getD_some hp
  generalize l.getD pos .none = x at hx hxs
  refine ws_cons (ws1_assign (.inl ((hk _).trans rfl)) (pe_itemN (pe_loc rfl) (pe_loc rfl) hxs hz) ?_)
  refine ws_cons (ws1_while (fun n st => ∃ l' pos', n = pos' ∧ pos' < l'.length ∧ (∀ x ∈ l', U x) ∧ l'.length = l.length ∧ sd FV.lt start x l' pos' = sd FV.lt start x l pos ∧ st = ⟨[("heap", .obj 0), ("startpos", .f (.int start)), ("pos", .f (.int pos')), ("newitem", .f x)], [.list l']⟩) pos ⟨l, pos, rfl, hp, hl, rfl, rfl, rfl⟩ ?_)
  (rintro n st zq1; refine oEEAAAAA zq1 ?_; clear zq1; rintro l' p rfl hp' hl' hlen hsd rfl)
  refine (iEAA (decide (start < n)) (PT.to (pt_cmp (pe_loc rfl) (pe_loc rfl) co_gt_int) (by simp)) (fun hb => ?_) (fun hb => ws_weak ?_))
  · have hb : ¬ start < n := by simpa using hb
    refine ws_one (ws1_setitemN (pe_loc rfl) (pe_loc rfl) (pe_loc rfl) hp' (by omega) ⟨rfl, ?_⟩)
    rw [← hsd]; unfold sd; rw [dif_neg hb]; rfl
  · have hb : start < n := by simpa using hb
    have hpp : (n - 1) / 2 < l'.length := by omega
    have hy := hl' _ (List.mem_of_getElem? (getD_some hpp))
    refine ws_cons (ws1_assign (.inl ((hk _).trans rfl)) (PE.to (pe_bin (pe_bin (pe_loc rfl) pe_int bo_sub) pe_int bo_shr) (congrArg (fun i => AV.f (.int i)) (fdiv2 n (by omega)))) ?_)
    refine ws_cons (ws1_assign (.inl ((hk _).trans rfl)) (pe_itemN (pe_loc rfl) (pe_loc rfl) (getD_some hpp) (by omega)) ?_)
    refine ws_cons (ws1_if (pt_cmp (pe_loc rfl) (pe_loc rfl) (co_lt (hU _ _ hx hy) (by omega))) (fun ht => ?_) fun ht => ?_)
    · refine ws_cons (ws1_setitemN (pe_loc rfl) (pe_loc rfl) (pe_loc rfl) hp' (by omega) ?_)
      refine ws_cons (ws1_assign (.inl ((hk _).trans rfl)) (pe_loc rfl) ?_)
      refine ws_one (ws1_continue (iEAAEAEEAAAAA (⟨[("heap", .obj 0), ("startpos", .f (.int start)), ("pos", .f (.int (((n - 1) / 2 : Nat)))), ("newitem", .f x)], [.list (l'.set n (l'.getD ((n - 1) / 2) .none))]⟩) (⟨⟨[], rfl⟩, ⟨rfl, rfl, rfl, rfl, trivial⟩, rfl⟩) (Nat.le_refl _) _ ?_ _ _ rfl ?_ ?_ ?_ ?_ rfl))
      · omega
      · simp; omega
      · intro y hy'
        rcases List.mem_or_eq_of_mem_set hy' with h | h
        · exact hl' y h
        · rw [h]; exact hy
      · simp [hlen]
      · rw [← hsd]; conv => rhs; unfold sd
        rw [dif_pos hb, if_pos (show FV.lt x (l'.getD ((n - 1) / 2) .none) = true from ht)]
    · refine ws_nil (ws_one (ws1_break (iEAA (⟨[("heap", .obj 0), ("startpos", .f (.int start)), ("pos", .f (.int n)), ("newitem", .f x)], [.list l']⟩) (⟨⟨[], rfl⟩, ⟨rfl, rfl, rfl, rfl, trivial⟩, rfl⟩) (Nat.le_refl _) ?_)))
      refine ws_one (ws1_setitemN (pe_loc rfl) (pe_loc rfl) (pe_loc rfl) hp' (by omega) ⟨rfl, ?_⟩)
      rw [← hsd]; unfold sd; rw [dif_pos hb, if_neg (show ¬ FV.lt x (l'.getD ((n - 1) / 2) .none) = true from Bool.eq_false_iff.mp ht)]; rfl
theorem con_sd {W : Wx} {f : Addr} (hf : FnOk W 7 "_siftdown" .none .none f) {U : FV → Prop} (hU : CmpU U) {l : List FV} {start pos : Nat} (hp : pos < l.length) (hl : ∀ x ∈ l, U x) (hz : l.length ≤ 1000) (n : Nat) :
    Con W (.ref f) (n + 1) [.obj 0, .f (.int start), .f (.int pos)] [] [.list l] (fun av hp => av = .f .none ∧ hp = [.list (sd FV.lt start (l.getD pos .none) l pos)]) := by
  (refine oEEEEEEAA hf.at_ ?_; rintro o doc pm an cd ct ho hd hcd)
  refine con_def ho hd hcd [("heap", .obj 0), ("startpos", .f (.int start)), ("pos", .f (.int pos))] bind3 (by simp only [List.map_cons, List.map_nil]; decide) ?_ (fun k => .nil) rfl rfl rfl ?_
  · intro y hy
    simp only [List.mem_cons, List.not_mem_nil, or_false] at hy
    rcases hy with rfl | rfl | rfl <;> exact .inl rfl
  · rintro X rfl hn ⟨L, he⟩ hfr
    refine (sd_body hU hp hl hz he).mono ?_
    rintro af st' ⟨rfl, h⟩
    exact (iEAA _ rfl rfl (by rw [h]; rfl))

theorem su_body {W : Wx} {fd : Addr} (hB : BiOk W) (hfd : FnOk W 7 "_siftdown" .none .none fd) {U : FV → Prop} (hU : CmpU U) {l : List FV} {pos : Nat} (hp : pos < l.length) (hl : ∀ x ∈ l, U x) (hz : l.length ≤ 1000)
    {X : Fx} (hW : X.toWx = W) (hn : 1 ≤ X.n) {L f : Addr} {cd : Value} (he : X.env = envOf "_siftup" (dSco 8) L f cd) :
    WS X (dBody 8) ⟨[("heap", .obj 0), ("pos", .f (.int pos))], [.list l]⟩
      (fun af st' => af = .next ∧ st'.hp = [.list (su FV.lt l pos)]) := by
  subst hW
  have hk : ∀ x, X.env.kindOf x = (dSco 8).names.lookup x := fun x => by rw [he]; rfl
  have hx : U (l.getD pos .none) := hl _ (List.mem_of_getElem? (getD_some hp))
  have hxs : l[pos]? = some (l.getD pos .none) := getD_some hp
  unfold su
  generalize l.getD pos .none = x at hx hxs
  refine ws_cons (ws1_assign (.inl ((hk _).trans rfl)) (pe_lenN hB ((hk _).trans rfl) (pe_loc rfl) hz) ?_)
  refine ws_cons (ws1_assign (.inl ((hk _).trans rfl)) (pe_loc rfl) ?_)
  refine ws_cons (ws1_assign (.inl ((hk _).trans rfl)) (pe_itemN (pe_loc rfl) (pe_loc rfl) hxs hz) ?_)
  refine ws_cons (ws1_assign (.inl ((hk _).trans rfl)) (pe_bin (pe_bin pe_int (pe_loc rfl) mul2) pe_int bo_add) ?_)
  refine ws_cons (ws1_while (fun n st => ∃ l' p, n = l'.length - p ∧ p < l'.length ∧ (∀ x ∈ l', U x) ∧ l'.length = l.length ∧ suGo FV.lt l' p = suGo FV.lt l pos ∧ st = ⟨[("heap", .obj 0), ("pos", .f (.int p)), ("endpos", .f (.int l.length)), ("startpos", .f (.int pos)), ("newitem", .f x), ("childpos", .f (.int (2 * p + 1)))], [.list l']⟩) (l.length - pos) (iEEAAAAA l pos rfl hp hl rfl rfl rfl) ?_)
  (rintro n st zq1; refine oEEAAAAA zq1 ?_; clear zq1; rintro l' p rfl hp' hl' hlen hsu rfl)
  refine (iEAA (decide (2 * p + 1 < l'.length)) (PT.to (pt_cmp (pe_loc rfl) (pe_loc rfl) co_lt_int) (by rw [hlen]; exact decide_eq_decide.mpr (by omega))) (fun hb => ?_) (fun hb => ws_weak ?_))
  · have hb : ¬ 2 * p + 1 < l'.length := by simpa using hb
    have hgo : suGo FV.lt l pos = (l', p) := by rw [← hsu]; unfold suGo; rw [dif_neg hb]
    rw [hgo]
    refine ws_cons (ws1_setitemN (pe_loc rfl) (pe_loc rfl) (pe_loc rfl) hp' (by omega) ?_)
    have hget : (l'.set p x).getD p .none = x := by simp [hp']
    have hC := con_sd hfd hU (l := l'.set p x) (start := pos) (pos := p) (by simpa using hp') (fun y hy' => by
      rcases List.mem_or_eq_of_mem_set hy' with h | h
      · exact hl' y h
      · rw [h]; exact hx) (by simp; omega) 0
    refine ws_one (ws1_expr (we_call (pe_glo ((hk _).trans rfl) hfd.gl) hfd.fo (.cons (pe_loc rfl) (.cons (pe_loc rfl) (.cons (pe_loc rfl) .nil rfl) rfl) rfl) .nil hC hn (ks := [0]) (by decide) rfl rfl rfl ?_ ?_) X.notInteractive)
    · rintro a hp' ⟨rfl, rfl⟩; rfl
    · rintro a hp' ⟨rfl, rfl⟩
      refine ⟨rfl, ?_⟩
      rw [hget]; rfl
  · have hb : 2 * p + 1 < l'.length := by simpa using hb
    have hc1 := getD_some hb
    have hu1 := hl' _ (List.mem_of_getElem? hc1)
    have stop : ∀ c : Nat, c < l'.length → p < c → suGo FV.lt l' p = suGo FV.lt (l'.set p (l'.getD c .none)) c →
        ∀ loc : List (Str × AV), allIn loc [("heap", .obj 0), ("pos", .f (.int p)), ("endpos", .f (.int l.length)), ("startpos", .f (.int pos)), ("newitem", .f x), ("childpos", .f (.int c))] →
        WS X ((match dBody 8 with | [_, _, _, _, .While _ b _ _, _, _] => b | _ => []).drop 2) ⟨loc, [.list l']⟩ (WkP 1 fun af st' => match af with
          | .next | .cont => ∃ m, m < l'.length - p ∧ ∃ l'' p', m = l''.length - p' ∧ p' < l''.length ∧ (∀ x ∈ l'', U x) ∧ l''.length = l.length ∧ suGo FV.lt l'' p' = suGo FV.lt l pos ∧ st' = ⟨[("heap", .obj 0), ("pos", .f (.int p')), ("endpos", .f (.int l.length)), ("startpos", .f (.int pos)), ("newitem", .f x), ("childpos", .f (.int (2 * p' + 1)))], [.list l'']⟩
          | .brk => False
          | .ret a => False) := by
      intro c hc hpc hgo loc hloc
      refine ws_from (st' := ⟨[("heap", .obj 0), ("pos", .f (.int p)), ("endpos", .f (.int l.length)), ("startpos", .f (.int pos)), ("newitem", .f x), ("childpos", .f (.int c))], [.list l']⟩) ⟨⟨[], rfl⟩, hloc, rfl⟩ rfl ?_
      refine ws_cons (ws1_setitemN (pe_itemN (pe_loc rfl) (pe_loc rfl) (getD_some hc) (by omega)) (pe_loc rfl) (pe_loc rfl) hp' (by omega) ?_)
      refine ws_cons (ws1_assign (.inl ((hk _).trans rfl)) (pe_loc rfl) ?_)
      refine ws_one (ws1_assign (.inl ((hk _).trans rfl)) (pe_bin (pe_bin pe_int (pe_loc rfl) mul2) pe_int bo_add) (iEAAEAEEAAAAA _ (⟨⟨[], (List.append_nil _).symm⟩, ⟨rfl, rfl, rfl, rfl, rfl, rfl, trivial⟩, rfl⟩) (Nat.le_refl _) _ ?_ _ c rfl ?_ ?_ ?_ ?_ rfl))
      · simp only [List.length_set]; omega
      · simpa using hc
      · intro y hy'
        rcases List.mem_or_eq_of_mem_set hy' with h | h
        · exact hl' y h
        · rw [h]; exact hl' _ (List.mem_of_getElem? (getD_some hc))
      · simp [hlen]
      · rw [← hgo]; exact hsu
    refine ws_cons (ws1_assign (.inl ((hk _).trans rfl)) (pe_bin (pe_loc rfl) pe_int bo_add) ?_)
    have hcond : PT X ⟨[("heap", .obj 0), ("pos", .f (.int p)), ("endpos", .f (.int l.length)), ("startpos", .f (.int pos)), ("newitem", .f x), ("childpos", .f (.int (2 * p + 1))), ("rightpos", .f (.int (2 * p + 1 + 1)))], [.list l']⟩
        (match (match dBody 8 with | [_, _, _, _, .While _ b _ _, _, _] => b | _ => []) with | _ :: .If t _ _ _ :: _ => t | _ => default) (decide (2 * p + 2 < l'.length) && !(FV.lt (l'.getD (2 * p + 1) .none) (l'.getD (2 * p + 2) .none))) := by
      refine pt_and (PT.to (pt_cmp (pe_loc rfl) (pe_loc rfl) co_lt_int) (by rw [hlen]; exact decide_eq_decide.mpr (by omega))) fun h => ?_
      have h : 2 * p + 2 < l'.length := by simpa using h
      have hu2 := hl' _ (List.mem_of_getElem? (getD_some h))
      have e1 : ((2 * (p : Int) + 1) : Int) = ((2 * p + 1 : Nat) : Int) := by omega
      have e2 : ((2 * (p : Int) + 1 + 1) : Int) = ((2 * p + 2 : Nat) : Int) := by omega
      exact pt_not (pt_cmp (pe_itemN (k := 2 * p + 1) (pe_loc rfl) (PE.to (pe_loc rfl) (by rw [e1])) (getD_some (by omega)) (by omega)) (pe_itemN (k := 2 * p + 2) (pe_loc rfl) (PE.to (pe_loc rfl) (by rw [e2])) (getD_some (by omega)) (by omega)) (co_lt (hU _ _ hu1 hu2) (by omega)))
    have e1 : ((2 * (p : Int) + 1) : Int) = ((2 * p + 1 : Nat) : Int) := by omega
    have e2 : ((2 * (p : Int) + 1 + 1) : Int) = ((2 * p + 2 : Nat) : Int) := by omega
    refine ws_cons (ws1_if hcond (fun ht => ?_) fun ht => ?_)
    · have h2 : 2 * p + 2 < l'.length := by simp only [Bool.and_eq_true, decide_eq_true_eq] at ht; exact ht.1
      refine ws_one (ws1_assign (.inl ((hk _).trans rfl)) (pe_loc rfl) ?_)
      refine (stop (2 * p + 2) h2 (by omega) ?_ _ ⟨rfl, rfl, rfl, rfl, rfl, by rw [← e2]; rfl, trivial⟩).mono ?_
      · conv => lhs; unfold suGo
        rw [dif_pos hb, if_pos ht]
      · intro af st' h
        cases af with
        | ret a => exact h.elim
        | next => exact h
        | cont => exact h
        | brk => (refine oEAA h ?_; try clear h; rintro _ _ _ h); exact h.elim
    · refine ws_nil ((stop (2 * p + 1) hb (by omega) ?_ _ ⟨rfl, rfl, rfl, rfl, rfl, by rw [← e1]; rfl, trivial⟩).mono ?_)
      · conv => lhs; unfold suGo
        rw [dif_pos hb, if_neg (by rw [ht]; simp)]
      · intro af st' h
        cases af with
        | ret a => exact h.elim
        | next => exact h
        | cont => exact h
        | brk => (refine oEAA h ?_; try clear h; rintro _ _ _ h); exact h.elim

theorem sd_body_max {U : FV → Prop} (hU : CmpU U) {l : List FV} {start pos : Nat} (hp : pos < l.length) (hl : ∀ x ∈ l, U x) (hz : l.length ≤ 1000)
    {X : Fx} {L f : Addr} {cd : Value} (he : X.env = envOf "_siftdown_max" (dSco 9) L f cd) :
    WS X (dBody 9) ⟨[("heap", .obj 0), ("startpos", .f (.int start)), ("pos", .f (.int pos))], [.list l]⟩
      (fun af st' => af = .next ∧ st'.hp = [.list (sd gtF start (l.getD pos .none) l pos)]) := by
  have hk : ∀ x, X.env.kindOf x = (dSco 9).names.lookup x := fun x => by rw [he]; rfl
  have hx : U (l.getD pos .none) := hl _ (List.mem_of_getElem? (getD_some hp))
  have hxs : l[pos]? = some (l.getD pos .none) := getD_some hp
  generalize l.getD pos .none = x at hx hxs
  refine ws_cons (ws1_assign (.inl ((hk _).trans rfl)) (pe_itemN (pe_loc rfl) (pe_loc rfl) hxs hz) ?_)
  refine ws_cons (ws1_while (fun n st => ∃ l' pos', n = pos' ∧ pos' < l'.length ∧ (∀ x ∈ l', U x) ∧ l'.length = l.length ∧ sd gtF start x l' pos' = sd gtF start x l pos ∧ st = ⟨[("heap", .obj 0), ("startpos", .f (.int start)), ("pos", .f (.int pos')), ("newitem", .f x)], [.list l']⟩) pos ⟨l, pos, rfl, hp, hl, rfl, rfl, rfl⟩ ?_)
  (rintro n st zq1; refine oEEAAAAA zq1 ?_; clear zq1; rintro l' p rfl hp' hl' hlen hsd rfl)
  refine (iEAA (decide (start < n)) (PT.to (pt_cmp (pe_loc rfl) (pe_loc rfl) co_gt_int) (by simp)) (fun hb => ?_) (fun hb => ws_weak ?_))
  · have hb : ¬ start < n := by simpa using hb
    refine ws_one (ws1_setitemN (pe_loc rfl) (pe_loc rfl) (pe_loc rfl) hp' (by omega) ⟨rfl, ?_⟩)
    rw [← hsd]; unfold sd; rw [dif_neg hb]; rfl
  · have hb : start < n := by simpa using hb
    have hpp : (n - 1) / 2 < l'.length := by omega
    have hy := hl' _ (List.mem_of_getElem? (getD_some hpp))
    refine ws_cons (ws1_assign (.inl ((hk _).trans rfl)) (PE.to (pe_bin (pe_bin (pe_loc rfl) pe_int bo_sub) pe_int bo_shr) (congrArg (fun i => AV.f (.int i)) (fdiv2 n (by omega)))) ?_)
    refine ws_cons (ws1_assign (.inl ((hk _).trans rfl)) (pe_itemN (pe_loc rfl) (pe_loc rfl) (getD_some hpp) (by omega)) ?_)
    refine ws_cons (ws1_if (pt_cmp (pe_loc rfl) (pe_loc rfl) (co_lt (hU _ _ hy hx) (by omega))) (fun ht => ?_) fun ht => ?_)
    · refine ws_cons (ws1_setitemN (pe_loc rfl) (pe_loc rfl) (pe_loc rfl) hp' (by omega) ?_)
      refine ws_cons (ws1_assign (.inl ((hk _).trans rfl)) (pe_loc rfl) ?_)
      refine ws_one (ws1_continue (iEAAEAEEAAAAA (⟨[("heap", .obj 0), ("startpos", .f (.int start)), ("pos", .f (.int (((n - 1) / 2 : Nat)))), ("newitem", .f x)], [.list (l'.set n (l'.getD ((n - 1) / 2) .none))]⟩) (⟨⟨[], rfl⟩, ⟨rfl, rfl, rfl, rfl, trivial⟩, rfl⟩) (Nat.le_refl _) _ ?_ _ _ rfl ?_ ?_ ?_ ?_ rfl))
      · omega
      · simp; omega
      · intro y hy'
        rcases List.mem_or_eq_of_mem_set hy' with h | h
        · exact hl' y h
        · rw [h]; exact hy
      · simp [hlen]
      · rw [← hsd]; conv => rhs; unfold sd
        rw [dif_pos hb, if_pos (show gtF x (l'.getD ((n - 1) / 2) .none) = true from ht)]
    · refine ws_nil (ws_one (ws1_break (iEAA (⟨[("heap", .obj 0), ("startpos", .f (.int start)), ("pos", .f (.int n)), ("newitem", .f x)], [.list l']⟩) (⟨⟨[], rfl⟩, ⟨rfl, rfl, rfl, rfl, trivial⟩, rfl⟩) (Nat.le_refl _) ?_)))
      refine ws_one (ws1_setitemN (pe_loc rfl) (pe_loc rfl) (pe_loc rfl) hp' (by omega) ⟨rfl, ?_⟩)
      rw [← hsd]; unfold sd; rw [dif_pos hb, if_neg (show ¬ gtF x (l'.getD ((n - 1) / 2) .none) = true from Bool.eq_false_iff.mp ht)]; rfl
theorem con_sd_max {W : Wx} {f : Addr} (hf : FnOk W 9 "_siftdown_max" .none .none f) {U : FV → Prop} (hU : CmpU U) {l : List FV} {start pos : Nat} (hp : pos < l.length) (hl : ∀ x ∈ l, U x) (hz : l.length ≤ 1000) (n : Nat) :
    Con W (.ref f) (n + 1) [.obj 0, .f (.int start), .f (.int pos)] [] [.list l] (fun av hp => av = .f .none ∧ hp = [.list (sd gtF start (l.getD pos .none) l pos)]) := by
  (refine oEEEEEEAA hf.at_ ?_; rintro o doc pm an cd ct ho hd hcd)
  refine con_def ho hd hcd [("heap", .obj 0), ("startpos", .f (.int start)), ("pos", .f (.int pos))] bind3 (by simp only [List.map_cons, List.map_nil]; decide) ?_ (fun k => .nil) rfl rfl rfl ?_
  · intro y hy
    simp only [List.mem_cons, List.not_mem_nil, or_false] at hy
    rcases hy with rfl | rfl | rfl <;> exact .inl rfl
  · rintro X rfl hn ⟨L, he⟩ hfr
    refine (sd_body_max hU hp hl hz he).mono ?_
    rintro af st' ⟨rfl, h⟩
    exact (iEAA _ rfl rfl (by rw [h]; rfl))

theorem su_body_max {W : Wx} {fd : Addr} (hB : BiOk W) (hfd : FnOk W 9 "_siftdown_max" .none .none fd) {U : FV → Prop} (hU : CmpU U) {l : List FV} {pos : Nat} (hp : pos < l.length) (hl : ∀ x ∈ l, U x) (hz : l.length ≤ 1000)
    {X : Fx} (hW : X.toWx = W) (hn : 1 ≤ X.n) {L f : Addr} {cd : Value} (he : X.env = envOf "_siftup_max" (dSco 10) L f cd) :
    WS X (dBody 10) ⟨[("heap", .obj 0), ("pos", .f (.int pos))], [.list l]⟩
      (fun af st' => af = .next ∧ st'.hp = [.list (su gtF l pos)]) := by
  subst hW
  have hk : ∀ x, X.env.kindOf x = (dSco 10).names.lookup x := fun x => by rw [he]; rfl
  have hx : U (l.getD pos .none) := hl _ (List.mem_of_getElem? (getD_some hp))
  have hxs : l[pos]? = some (l.getD pos .none) := getD_some hp
  unfold su
  generalize l.getD pos .none = x at hx hxs
  refine ws_cons (ws1_assign (.inl ((hk _).trans rfl)) (pe_lenN hB ((hk _).trans rfl) (pe_loc rfl) hz) ?_)
  refine ws_cons (ws1_assign (.inl ((hk _).trans rfl)) (pe_loc rfl) ?_)
  refine ws_cons (ws1_assign (.inl ((hk _).trans rfl)) (pe_itemN (pe_loc rfl) (pe_loc rfl) hxs hz) ?_)
  refine ws_cons (ws1_assign (.inl ((hk _).trans rfl)) (pe_bin (pe_bin pe_int (pe_loc rfl) mul2) pe_int bo_add) ?_)
  refine ws_cons (ws1_while (fun n st => ∃ l' p, n = l'.length - p ∧ p < l'.length ∧ (∀ x ∈ l', U x) ∧ l'.length = l.length ∧ suGo gtF l' p = suGo gtF l pos ∧ st = ⟨[("heap", .obj 0), ("pos", .f (.int p)), ("endpos", .f (.int l.length)), ("startpos", .f (.int pos)), ("newitem", .f x), ("childpos", .f (.int (2 * p + 1)))], [.list l']⟩) (l.length - pos) (iEEAAAAA l pos rfl hp hl rfl rfl rfl) ?_)
  (rintro n st zq1; refine oEEAAAAA zq1 ?_; clear zq1; rintro l' p rfl hp' hl' hlen hsu rfl)
  refine (iEAA (decide (2 * p + 1 < l'.length)) (PT.to (pt_cmp (pe_loc rfl) (pe_loc rfl) co_lt_int) (by rw [hlen]; exact decide_eq_decide.mpr (by omega))) (fun hb => ?_) (fun hb => ws_weak ?_))
  · have hb : ¬ 2 * p + 1 < l'.length := by simpa using hb
    have hgo : suGo gtF l pos = (l', p) := by rw [← hsu]; unfold suGo; rw [dif_neg hb]
    rw [hgo]
    refine ws_cons (ws1_setitemN (pe_loc rfl) (pe_loc rfl) (pe_loc rfl) hp' (by omega) ?_)
    have hget : (l'.set p x).getD p .none = x := by simp [hp']
    have hC := con_sd_max hfd hU (l := l'.set p x) (start := pos) (pos := p) (by simpa using hp') (fun y hy' => by
      rcases List.mem_or_eq_of_mem_set hy' with h | h
      · exact hl' y h
      · rw [h]; exact hx) (by simp; omega) 0
    refine ws_one (ws1_expr (we_call (pe_glo ((hk _).trans rfl) hfd.gl) hfd.fo (.cons (pe_loc rfl) (.cons (pe_loc rfl) (.cons (pe_loc rfl) .nil rfl) rfl) rfl) .nil hC hn (ks := [0]) (by decide) rfl rfl rfl ?_ ?_) X.notInteractive)
    · rintro a hp' ⟨rfl, rfl⟩; rfl
    · rintro a hp' ⟨rfl, rfl⟩
      refine ⟨rfl, ?_⟩
      rw [hget]; rfl
  · have hb : 2 * p + 1 < l'.length := by simpa using hb
    have hc1 := getD_some hb
    have hu1 := hl' _ (List.mem_of_getElem? hc1)
    have stop : ∀ c : Nat, c < l'.length → p < c → suGo gtF l' p = suGo gtF (l'.set p (l'.getD c .none)) c →
        ∀ loc : List (Str × AV), allIn loc [("heap", .obj 0), ("pos", .f (.int p)), ("endpos", .f (.int l.length)), ("startpos", .f (.int pos)), ("newitem", .f x), ("childpos", .f (.int c))] →
        WS X ((match dBody 10 with | [_, _, _, _, .While _ b _ _, _, _] => b | _ => []).drop 2) ⟨loc, [.list l']⟩ (WkP 1 fun af st' => match af with
          | .next | .cont => ∃ m, m < l'.length - p ∧ ∃ l'' p', m = l''.length - p' ∧ p' < l''.length ∧ (∀ x ∈ l'', U x) ∧ l''.length = l.length ∧ suGo gtF l'' p' = suGo gtF l pos ∧ st' = ⟨[("heap", .obj 0), ("pos", .f (.int p')), ("endpos", .f (.int l.length)), ("startpos", .f (.int pos)), ("newitem", .f x), ("childpos", .f (.int (2 * p' + 1)))], [.list l'']⟩
          | .brk => False
          | .ret a => False) := by
      intro c hc hpc hgo loc hloc
      refine ws_from (st' := ⟨[("heap", .obj 0), ("pos", .f (.int p)), ("endpos", .f (.int l.length)), ("startpos", .f (.int pos)), ("newitem", .f x), ("childpos", .f (.int c))], [.list l']⟩) ⟨⟨[], rfl⟩, hloc, rfl⟩ rfl ?_
      refine ws_cons (ws1_setitemN (pe_itemN (pe_loc rfl) (pe_loc rfl) (getD_some hc) (by omega)) (pe_loc rfl) (pe_loc rfl) hp' (by omega) ?_)
      refine ws_cons (ws1_assign (.inl ((hk _).trans rfl)) (pe_loc rfl) ?_)
      refine ws_one (ws1_assign (.inl ((hk _).trans rfl)) (pe_bin (pe_bin pe_int (pe_loc rfl) mul2) pe_int bo_add) (iEAAEAEEAAAAA _ (⟨⟨[], (List.append_nil _).symm⟩, ⟨rfl, rfl, rfl, rfl, rfl, rfl, trivial⟩, rfl⟩) (Nat.le_refl _) _ ?_ _ c rfl ?_ ?_ ?_ ?_ rfl))
      · simp only [List.length_set]; omega
      · simpa using hc
      · intro y hy'
        rcases List.mem_or_eq_of_mem_set hy' with h | h
        · exact hl' y h
        · rw [h]; exact hl' _ (List.mem_of_getElem? (getD_some hc))
      · simp [hlen]
      · rw [← hgo]; exact hsu
    refine ws_cons (ws1_assign (.inl ((hk _).trans rfl)) (pe_bin (pe_loc rfl) pe_int bo_add) ?_)
    have hcond : PT X ⟨[("heap", .obj 0), ("pos", .f (.int p)), ("endpos", .f (.int l.length)), ("startpos", .f (.int pos)), ("newitem", .f x), ("childpos", .f (.int (2 * p + 1))), ("rightpos", .f (.int (2 * p + 1 + 1)))], [.list l']⟩
        (match (match dBody 10 with | [_, _, _, _, .While _ b _ _, _, _] => b | _ => []) with | _ :: .If t _ _ _ :: _ => t | _ => default) (decide (2 * p + 2 < l'.length) && !(gtF (l'.getD (2 * p + 1) .none) (l'.getD (2 * p + 2) .none))) := by
      refine pt_and (PT.to (pt_cmp (pe_loc rfl) (pe_loc rfl) co_lt_int) (by rw [hlen]; exact decide_eq_decide.mpr (by omega))) fun h => ?_
      have h : 2 * p + 2 < l'.length := by simpa using h
      have hu2 := hl' _ (List.mem_of_getElem? (getD_some h))
      have e1 : ((2 * (p : Int) + 1) : Int) = ((2 * p + 1 : Nat) : Int) := by omega
      have e2 : ((2 * (p : Int) + 1 + 1) : Int) = ((2 * p + 2 : Nat) : Int) := by omega
      exact pt_not (pt_cmp (pe_itemN (k := 2 * p + 2) (pe_loc rfl) (PE.to (pe_loc rfl) (by rw [e2])) (getD_some (by omega)) (by omega)) (pe_itemN (k := 2 * p + 1) (pe_loc rfl) (PE.to (pe_loc rfl) (by rw [e1])) (getD_some (by omega)) (by omega)) (co_lt (hU _ _ hu2 hu1) (by omega)))
    have e1 : ((2 * (p : Int) + 1) : Int) = ((2 * p + 1 : Nat) : Int) := by omega
    have e2 : ((2 * (p : Int) + 1 + 1) : Int) = ((2 * p + 2 : Nat) : Int) := by omega
    refine ws_cons (ws1_if hcond (fun ht => ?_) fun ht => ?_)
    · have h2 : 2 * p + 2 < l'.length := by simp only [Bool.and_eq_true, decide_eq_true_eq] at ht; exact ht.1
      refine ws_one (ws1_assign (.inl ((hk _).trans rfl)) (pe_loc rfl) ?_)
      refine (stop (2 * p + 2) h2 (by omega) ?_ _ ⟨rfl, rfl, rfl, rfl, rfl, by rw [← e2]; rfl, trivial⟩).mono ?_
      · conv => lhs; unfold suGo
        rw [dif_pos hb, if_pos ht]
      · intro af st' h
        cases af with
        | ret a => exact h.elim
        | next => exact h
        | cont => exact h
        | brk => (refine oEAA h ?_; try clear h; rintro _ _ _ h); exact h.elim
    · refine ws_nil ((stop (2 * p + 1) hb (by omega) ?_ _ ⟨rfl, rfl, rfl, rfl, rfl, by rw [← e1]; rfl, trivial⟩).mono ?_)
      · conv => lhs; unfold suGo
        rw [dif_pos hb, if_neg (by rw [ht]; simp)]
      · intro af st' h
        cases af with
        | ret a => exact h.elim
        | next => exact h
        | cont => exact h
        | brk => (refine oEAA h ?_; try clear h; rintro _ _ _ h); exact h.elim
end Mine
end
section
open PySem PySem.W PySem.Calls PyProof.Rows
set_option Elab.async false
set_option maxRecDepth 100000
set_option linter.unusedVariables false
set_option linter.unusedSimpArgs false
namespace Mine
noncomputable def hyGo (lt : FV → FV → Bool) : Nat → List FV → List FV
  | 0, l => l
  | k + 1, l => hyGo lt k (su lt l k)
theorem fdivN (n : Nat) : ((n : Int)).fdiv 2 = ((n / 2 : Nat) : Int) := by
  rw [Int.fdiv_eq_ediv_of_nonneg _ (by lia)]; rfl

theorem con_su {W : Wx} {fd f : Addr} (hB : BiOk W) (hfd : FnOk W 7 "_siftdown" .none .none fd) (hf : FnOk W 8 "_siftup" .none .none f) {U : FV → Prop} (hU : CmpU U) {l : List FV} {pos : Nat} (hp : pos < l.length) (hl : ∀ x ∈ l, U x) (hz : l.length ≤ 1000) (n : Nat) :
    Con W (.ref f) (n + 2) [.obj 0, .f (.int pos)] [] [.list l] (fun av hp => av = .f .none ∧ hp = [.list (su FV.lt l pos)]) := by
  (refine oEEEEEEAA hf.at_ ?_; rintro o doc pm an cd ct ho hd hcd)
  refine con_def ho hd hcd [("heap", .obj 0), ("pos", .f (.int pos))] bind2 (by simp only [List.map_cons, List.map_nil]; decide) ?_ (fun k => .nil) rfl rfl rfl ?_
  · intro y hy
    simp only [List.mem_cons, List.not_mem_nil, or_false] at hy
    rcases hy with rfl | rfl <;> exact .inl rfl
  · rintro X rfl hn ⟨L, he⟩ hfr
    refine (su_body hB hfd hU hp hl hz rfl (by lia) he).mono ?_
    rintro af st' ⟨rfl, h⟩
    exact (iEAA _ rfl rfl (by rw [h]; rfl))
theorem con_hr {W : Wx} {fd fu f : Addr} (hB : BiOk W) (hfd : FnOk W 7 "_siftdown" .none .none fd) (hfu : FnOk W 8 "_siftup" .none .none fu) (hf : FnOk W 2 "heapreplace" .none .none f) {U : FV → Prop} (hU : CmpU U) {l : List FV} {x : FV} (hp : 0 < l.length) (hl : ∀ x ∈ l, U x) (hx : U x) (hz : l.length ≤ 1000) (n : Nat) :
    Con W (.ref f) (n + 3) [.obj 0, .f x] [] [.list l] (fun av hp => av = .f (l.getD 0 .none) ∧ hp = [.list (su FV.lt (l.set 0 x) 0)]) := by
  (refine oEEEEEEAA hf.at_ ?_; rintro o doc pm an cd ct ho hd hcd)
  refine con_def ho hd hcd [("heap", .obj 0), ("item", .f x)] bind2 (by simp only [List.map_cons, List.map_nil]; decide) ?_ (fun k => .nil) rfl rfl rfl ?_
  · intro y hy
    simp only [List.mem_cons, List.not_mem_nil, or_false] at hy
    rcases hy with rfl | rfl <;> exact .inl rfl
  · rintro X rfl hn ⟨L, he⟩ hfr
    have hk : ∀ x, X.env.kindOf x = (dSco 2).names.lookup x := fun x => by rw [he]; rfl
    refine ws_cons (ws1_assign (.inl ((hk _).trans rfl)) (pe_itemN (k := 0) (pe_loc rfl) pe_int (getD_some hp) hz) ?_)
    refine ws_cons (ws1_setitemN (j := 0) (pe_loc rfl) (pe_loc rfl) pe_int hp hz ?_)
    have hC := con_su hB hfd hfu hU (l := l.set 0 x) (pos := 0) (by simpa using hp) (fun y hy' => by
      rcases List.mem_or_eq_of_mem_set hy' with h | h
      · exact hl y h
      · rw [h]; exact hx) (by simp; assumption) 0
    refine ws_cons (ws1_expr (we_call (pe_glo ((hk _).trans rfl) hfu.gl) hfu.fo (.cons (pe_loc rfl) (.cons pe_int .nil rfl) rfl) .nil hC (by lia) (ks := [0]) (by decide) rfl rfl rfl ?_ ?_) X.notInteractive)
    · rintro a hp' ⟨rfl, rfl⟩; rfl
    · rintro a hp' ⟨rfl, rfl⟩
      refine ws_one (ws1_return (pe_loc rfl) rfl (iEAA _ rfl rfl rfl))
theorem con_hy {W : Wx} {fd fu f : Addr} (hB : BiOk W) (hfd : FnOk W 7 "_siftdown" .none .none fd) (hfu : FnOk W 8 "_siftup" .none .none fu) (hf : FnOk W 4 "heapify" .none .none f) {U : FV → Prop} (hU : CmpU U) (hUn : ∀ (l : List FV) k, (∀ x ∈ l, U x) → k < l.length → ∀ x ∈ su FV.lt l k, U x) {l : List FV} (hl : ∀ x ∈ l, U x) (hz : l.length ≤ 1000) (n : Nat) :
    Con W (.ref f) (n + 3) [.obj 0] [] [.list l] (fun av hp => av = .f .none ∧ hp = [.list (hyGo FV.lt (l.length / 2) l)]) := by
  (refine oEEEEEEAA hf.at_ ?_; rintro o doc pm an cd ct ho hd hcd)
  refine con_def ho hd hcd [("x", .obj 0)] bind1 (by simp only [List.map_cons, List.map_nil]; decide) ?_ (fun k => .nil) rfl rfl rfl ?_
  · intro y hy
    simp only [List.mem_cons, List.not_mem_nil, or_false] at hy
    rcases hy with rfl; exact .inl rfl
  · rintro X rfl hn ⟨L, he⟩ hfr
    have hk : ∀ x, X.env.kindOf x = (dSco 4).names.lookup x := fun x => by rw [he]; rfl
    refine ws_cons (ws1_assign (.inl ((hk _).trans rfl)) (pe_lenN hB ((hk _).trans rfl) (pe_loc rfl) hz) ?_)
    refine ws_one (ws1_for 1 (fun m st => ∃ l' : List FV, (∀ x ∈ l', U x) ∧ l'.length = l.length ∧ m ≤ l.length / 2 ∧ hyGo FV.lt m l' = hyGo FV.lt (l.length / 2) l ∧ st = ⟨[("x", .obj 0), ("n", .f (.int l.length))], [.list l', .rng ((m : Int) - 1) m (-1)]⟩) (l.length / 2)
      (wi_revrng (n := l.length / 2) (pe_glo ((hk _).trans rfl) hB.reversed) (prng1 (pe_glo ((hk _).trans rfl) hB.range) (PE.to (pe_bin (pe_loc rfl) pe_int (bo_fdiv (by decide) (PyProof.noPylong_small (by decide)))) (congrArg (fun i => AV.f (.int i)) (fdivN l.length)))) (by lia) (iAEAAAA rfl l hl rfl (Nat.le_refl _) rfl rfl)) ?_)
    (rintro m st zq1; refine oEAAAA zq1 ?_; clear zq1; rintro l' hl' hlen hm hgo rfl)
    refine (iEAA _ rfl rfl ?_)
    by_cases h0 : m = 0
    · subst h0
      simp only [draw]
      refine (iEAA _ rfl rfl ?_)
      show [AO.list l'] = _
      rw [← hgo]; rfl
    · obtain ⟨j, rfl⟩ : ∃ j, m = j + 1 := ⟨m - 1, by lia⟩
      have hd : draw (.rng (((j + 1 : Nat) : Int) - 1) ((j + 1 : Nat) : Int) (-1)) = some (.int j, .rng ((j : Int) - 1) j (-1)) := by
        simp only [draw]
        rw [if_pos (by simp), show (((j + 1 : Nat) : Int) - 1) = (j : Int) by simp, show ((j : Int) + -1) = (j : Int) - 1 by rfl]
      rw [hd]
      refine (iAEA rfl _ (at_name (.inl ((hk _).trans rfl))) (ws_weak ?_))
      have hC := con_su hB hfd hfu hU (l := l') (pos := j) (by lia) hl' (by (exact Nat.le_trans (Nat.le_of_eq ‹_›) ‹_›)) 0
      refine ws_one (ws1_expr (we_call (pe_glo ((hk _).trans rfl) hfu.gl) hfu.fo (.cons (pe_loc rfl) (.cons (pe_loc rfl) .nil rfl) rfl) .nil hC (by lia) (ks := [0]) (by decide) rfl rfl rfl ?_ ?_) X.notInteractive)
      · rintro a hp' ⟨rfl, rfl⟩; rfl
      · rintro a hp' ⟨rfl, rfl⟩
        exact ⟨⟨[("x", .obj 0), ("n", .f (.int l.length))], [.list (su FV.lt l' j), .rng ((j : Int) - 1) j (-1)]⟩, ⟨⟨[], rfl⟩, ⟨rfl, rfl, trivial⟩, rfl⟩, Nat.le_refl _, j, by (exact Nat.lt_succ_self _), _, hUn l' j hl' (by lia), by rw [su_len, hlen], by (exact Nat.le_of_succ_le ‹_›), hgo, rfl⟩

theorem con_su_max {W : Wx} {fd f : Addr} (hB : BiOk W) (hfd : FnOk W 9 "_siftdown_max" .none .none fd) (hf : FnOk W 10 "_siftup_max" .none .none f) {U : FV → Prop} (hU : CmpU U) {l : List FV} {pos : Nat} (hp : pos < l.length) (hl : ∀ x ∈ l, U x) (hz : l.length ≤ 1000) (n : Nat) :
    Con W (.ref f) (n + 2) [.obj 0, .f (.int pos)] [] [.list l] (fun av hp => av = .f .none ∧ hp = [.list (su gtF l pos)]) := by
  (refine oEEEEEEAA hf.at_ ?_; rintro o doc pm an cd ct ho hd hcd)
  refine con_def ho hd hcd [("heap", .obj 0), ("pos", .f (.int pos))] bind2 (by simp only [List.map_cons, List.map_nil]; decide) ?_ (fun k => .nil) rfl rfl rfl ?_
  · intro y hy
    simp only [List.mem_cons, List.not_mem_nil, or_false] at hy
    rcases hy with rfl | rfl <;> exact .inl rfl
  · rintro X rfl hn ⟨L, he⟩ hfr
    refine (su_body_max hB hfd hU hp hl hz rfl (by lia) he).mono ?_
    rintro af st' ⟨rfl, h⟩
    exact (iEAA _ rfl rfl (by rw [h]; rfl))
theorem con_hr_max {W : Wx} {fd fu f : Addr} (hB : BiOk W) (hfd : FnOk W 9 "_siftdown_max" .none .none fd) (hfu : FnOk W 10 "_siftup_max" .none .none fu) (hf : FnOk W 5 "_heapreplace_max" .none .none f) {U : FV → Prop} (hU : CmpU U) {l : List FV} {x : FV} (hp : 0 < l.length) (hl : ∀ x ∈ l, U x) (hx : U x) (hz : l.length ≤ 1000) (n : Nat) :
    Con W (.ref f) (n + 3) [.obj 0, .f x] [] [.list l] (fun av hp => av = .f (l.getD 0 .none) ∧ hp = [.list (su gtF (l.set 0 x) 0)]) := by
  (refine oEEEEEEAA hf.at_ ?_; rintro o doc pm an cd ct ho hd hcd)
  refine con_def ho hd hcd [("heap", .obj 0), ("item", .f x)] bind2 (by simp only [List.map_cons, List.map_nil]; decide) ?_ (fun k => .nil) rfl rfl rfl ?_
  · intro y hy
    simp only [List.mem_cons, List.not_mem_nil, or_false] at hy
    rcases hy with rfl | rfl <;> exact .inl rfl
  · rintro X rfl hn ⟨L, he⟩ hfr
    have hk : ∀ x, X.env.kindOf x = (dSco 5).names.lookup x := fun x => by rw [he]; rfl
    refine ws_cons (ws1_assign (.inl ((hk _).trans rfl)) (pe_itemN (k := 0) (pe_loc rfl) pe_int (getD_some hp) hz) ?_)
    refine ws_cons (ws1_setitemN (j := 0) (pe_loc rfl) (pe_loc rfl) pe_int hp hz ?_)
    have hC := con_su_max hB hfd hfu hU (l := l.set 0 x) (pos := 0) (by simpa using hp) (fun y hy' => by
      rcases List.mem_or_eq_of_mem_set hy' with h | h
      · exact hl y h
      · rw [h]; exact hx) (by simp; assumption) 0
    refine ws_cons (ws1_expr (we_call (pe_glo ((hk _).trans rfl) hfu.gl) hfu.fo (.cons (pe_loc rfl) (.cons pe_int .nil rfl) rfl) .nil hC (by lia) (ks := [0]) (by decide) rfl rfl rfl ?_ ?_) X.notInteractive)
    · rintro a hp' ⟨rfl, rfl⟩; rfl
    · rintro a hp' ⟨rfl, rfl⟩
      refine ws_one (ws1_return (pe_loc rfl) rfl (iEAA _ rfl rfl rfl))
theorem con_hy_max {W : Wx} {fd fu f : Addr} (hB : BiOk W) (hfd : FnOk W 9 "_siftdown_max" .none .none fd) (hfu : FnOk W 10 "_siftup_max" .none .none fu) (hf : FnOk W 6 "_heapify_max" .none .none f) {U : FV → Prop} (hU : CmpU U) (hUn : ∀ (l : List FV) k, (∀ x ∈ l, U x) → k < l.length → ∀ x ∈ su gtF l k, U x) {l : List FV} (hl : ∀ x ∈ l, U x) (hz : l.length ≤ 1000) (n : Nat) :
    Con W (.ref f) (n + 3) [.obj 0] [] [.list l] (fun av hp => av = .f .none ∧ hp = [.list (hyGo gtF (l.length / 2) l)]) := by
  (refine oEEEEEEAA hf.at_ ?_; rintro o doc pm an cd ct ho hd hcd)
  refine con_def ho hd hcd [("x", .obj 0)] bind1 (by simp only [List.map_cons, List.map_nil]; decide) ?_ (fun k => .nil) rfl rfl rfl ?_
  · intro y hy
    simp only [List.mem_cons, List.not_mem_nil, or_false] at hy
    rcases hy with rfl; exact .inl rfl
  · rintro X rfl hn ⟨L, he⟩ hfr
    have hk : ∀ x, X.env.kindOf x = (dSco 6).names.lookup x := fun x => by rw [he]; rfl
    refine ws_cons (ws1_assign (.inl ((hk _).trans rfl)) (pe_lenN hB ((hk _).trans rfl) (pe_loc rfl) hz) ?_)
    refine ws_one (ws1_for 1 (fun m st => ∃ l' : List FV, (∀ x ∈ l', U x) ∧ l'.length = l.length ∧ m ≤ l.length / 2 ∧ hyGo gtF m l' = hyGo gtF (l.length / 2) l ∧ st = ⟨[("x", .obj 0), ("n", .f (.int l.length))], [.list l', .rng ((m : Int) - 1) m (-1)]⟩) (l.length / 2)
      (wi_revrng (n := l.length / 2) (pe_glo ((hk _).trans rfl) hB.reversed) (prng1 (pe_glo ((hk _).trans rfl) hB.range) (PE.to (pe_bin (pe_loc rfl) pe_int (bo_fdiv (by decide) (PyProof.noPylong_small (by decide)))) (congrArg (fun i => AV.f (.int i)) (fdivN l.length)))) (by lia) (iAEAAAA rfl l hl rfl (Nat.le_refl _) rfl rfl)) ?_)
    (rintro m st zq1; refine oEAAAA zq1 ?_; clear zq1; rintro l' hl' hlen hm hgo rfl)
    refine (iEAA _ rfl rfl ?_)
    by_cases h0 : m = 0
    · subst h0
      simp only [draw]
      refine (iEAA _ rfl rfl ?_)
      show [AO.list l'] = _
      rw [← hgo]; rfl
    · obtain ⟨j, rfl⟩ : ∃ j, m = j + 1 := ⟨m - 1, by lia⟩
      have hd : draw (.rng (((j + 1 : Nat) : Int) - 1) ((j + 1 : Nat) : Int) (-1)) = some (.int j, .rng ((j : Int) - 1) j (-1)) := by
        simp only [draw]
        rw [if_pos (by lia), show (((j + 1 : Nat) : Int) - 1) = (j : Int) by lia, show ((j : Int) + -1) = (j : Int) - 1 by lia]
      rw [hd]
      refine (iAEA rfl _ (at_name (.inl ((hk _).trans rfl))) (ws_weak ?_))
      have hC := con_su_max hB hfd hfu hU (l := l') (pos := j) (by lia) hl' (by lia) 0
      refine ws_one (ws1_expr (we_call (pe_glo ((hk _).trans rfl) hfu.gl) hfu.fo (.cons (pe_loc rfl) (.cons (pe_loc rfl) .nil rfl) rfl) .nil hC (by lia) (ks := [0]) (by decide) rfl rfl rfl ?_ ?_) X.notInteractive)
      · rintro a hp' ⟨rfl, rfl⟩; rfl
      · rintro a hp' ⟨rfl, rfl⟩
        exact ⟨⟨[("x", .obj 0), ("n", .f (.int l.length))], [.list (su gtF l' j), .rng ((j : Int) - 1) j (-1)]⟩, ⟨⟨[], rfl⟩, ⟨rfl, rfl, trivial⟩, rfl⟩, Nat.le_refl _, j, by lia, _, hUn l' j hl' (by lia), by rw [su_len, hlen], by lia, hgo, rfl⟩

theorem con_push {W : Wx} {fd f : Addr} (hB : BiOk W) (hfd : FnOk W 7 "_siftdown" .none .none fd) (hf : FnOk W 1 "heappush" .none .none f) {U : FV → Prop} (hU : CmpU U) {l : List FV} {x : FV} (hl : ∀ x ∈ l, U x) (hx : U x) (hz : l.length < 1000) (n : Nat) :
    Con W (.ref f) (n + 2) [.obj 0, .f x] [] [.list l] (fun av hp => av = .f .none ∧ hp = [.list (sd FV.lt 0 x (l ++ [x]) l.length)]) := by
  (refine oEEEEEEAA hf.at_ ?_; rintro o doc pm an cd ct ho hd hcd)
  refine con_def ho hd hcd [("heap", .obj 0), ("item", .f x)] bind2 (by simp only [List.map_cons, List.map_nil]; decide) ?_ (fun k => .nil) rfl rfl rfl ?_
  · intro y hy
    simp only [List.mem_cons, List.not_mem_nil, or_false] at hy
    rcases hy with rfl | rfl <;> exact .inl rfl
  · rintro X rfl hn ⟨L, he⟩ hfr
    have hk : ∀ x, X.env.kindOf x = (dSco 1).names.lookup x := fun x => by rw [he]; rfl
    refine ws_cons (ws1_expr (we_append (l₀ := l) (pe_loc rfl) rfl ((pe_loc rfl).we ⟨x, l, rfl, rfl, by lia, ?_⟩)) X.notInteractive)
    have hC := con_sd hfd hU (l := l ++ [x]) (start := 0) (pos := l.length) (by simp) (fun y hy' => by
      rcases List.mem_append.mp hy' with h | h
      · exact hl y h
      · rw [List.mem_singleton.mp h]; exact hx) (by simp; (exact Nat.le_of_succ_le_succ ‹_›)) 0
    refine ws_one (ws1_expr (we_call (pe_glo ((hk _).trans rfl) hfd.gl) hfd.fo (.cons (pe_loc rfl) (.cons pe_int (.cons (PE.to (pe_bin (pe_lenN (l := l ++ [x]) hB ((hk _).trans rfl) (pe_loc rfl) (by simp; lia)) pe_int bo_sub) (congrArg (fun i => AV.f (.int i)) (show (((l ++ [x]).length : Int) - 1) = (l.length : Int) by simp))) .nil rfl) rfl) rfl) .nil hC (by lia) (ks := [0]) (by decide) rfl rfl rfl ?_ ?_) X.notInteractive)
    · rintro a hp' ⟨rfl, rfl⟩; rfl
    · rintro a hp' ⟨rfl, rfl⟩
      exact (iEAA _ rfl rfl (by simp [putAll]))
/- heappushpop -/
noncomputable def hppRet (l : List FV) (x : FV) : FV := if !l.isEmpty && (l.getD 0 .none).lt x then l.getD 0 .none else x
noncomputable def hppHeap (l : List FV) (x : FV) : List FV := if !l.isEmpty && (l.getD 0 .none).lt x then su FV.lt (l.set 0 x) 0 else l
theorem con_hpp {W : Wx} {fd fu f : Addr} (hB : BiOk W) (hfd : FnOk W 7 "_siftdown" .none .none fd) (hfu : FnOk W 8 "_siftup" .none .none fu) (hf : FnOk W 3 "heappushpop" .none .none f) {U : FV → Prop} (hU : CmpU U) {l : List FV} {x : FV} (hl : ∀ x ∈ l, U x) (hx : U x) (hz : l.length ≤ 1000) (n : Nat) :
    Con W (.ref f) (n + 3) [.obj 0, .f x] [] [.list l] (fun av hp => av = .f (hppRet l x) ∧ hp = [.list (hppHeap l x)]) := by
  (refine oEEEEEEAA hf.at_ ?_; rintro o doc pm an cd ct ho hd hcd)
  refine con_def ho hd hcd [("heap", .obj 0), ("item", .f x)] bind2 (by simp only [List.map_cons, List.map_nil]; decide) ?_ (fun k => .nil) rfl rfl rfl ?_
  · intro y hy
    simp only [List.mem_cons, List.not_mem_nil, or_false] at hy
    rcases hy with rfl | rfl <;> exact .inl rfl
  · rintro X rfl hn ⟨L, he⟩ hfr
    have hk : ∀ x, X.env.kindOf x = (dSco 3).names.lookup x := fun x => by rw [he]; rfl
    have hpos : (!l.isEmpty) = true → 0 < l.length := fun h => by cases l <;> simp_all
    refine ws_cons (ws1_if (b := !l.isEmpty && (l.getD 0 .none).lt x) (pt_and (pt_val (pe_loc rfl) (to_list rfl (by (exact Nat.le_trans ‹_› (by decide))))) fun h => pt_cmp (pe_itemN (k := 0) (pe_loc rfl) pe_int (getD_some (hpos h)) hz) (pe_loc rfl) (co_lt (hU _ _ (hl _ (List.mem_of_getElem? (getD_some (hpos h)))) hx) (by (exact Nat.le_add_left _ _)))) (fun ht => ?_) fun ht => ?_)
    · have hp : 0 < l.length := hpos (by simp only [Bool.and_eq_true] at ht; exact ht.1)
      refine ws_cons (ws1_unpack (x := .tup [l.getD 0 .none, x]) (pe_tuple (l := [l.getD 0 .none, x]) (.cons (pe_itemN (k := 0) (pe_loc rfl) pe_int (getD_some hp) hz) (.cons (pe_loc rfl) .nil rfl) rfl) (by simp)) (at_tuple (.cons (at_name (.inl ((hk _).trans rfl))) (.cons (at_item (k := 0) (l := l) (j := 0) (pe_loc rfl) pe_int rfl (by lia) (by (exact Int.ofNat_lt.mpr ‹_›)) (by lia)) (.nil _) rfl) rfl)) ?_ (by rw [he]; rfl) (by rw [he]; rfl))
      have hC := con_su hB hfd hfu hU (l := l.set 0 x) (pos := 0) (by simpa using hp) (fun y hy' => by
        rcases List.mem_or_eq_of_mem_set hy' with h | h
        · exact hl y h
        · rw [h]; exact hx) (by simp; assumption) 0
      refine ws_one (ws1_expr (we_call (pe_glo ((hk _).trans rfl) hfu.gl) hfu.fo (.cons (pe_loc rfl) (.cons pe_int .nil rfl) rfl) .nil hC (by lia) (ks := [0]) (by decide) rfl rfl rfl ?_ ?_) X.notInteractive)
      · rintro a hp' ⟨rfl, rfl⟩; rfl
      · rintro a hp' ⟨rfl, rfl⟩
        refine ws_one (ws1_return (pe_loc rfl) rfl (iEAA _ rfl ?_ ?_))
        · unfold hppRet; rw [if_pos ht]
        · unfold hppHeap; rw [if_pos ht]; rfl
    · refine ws_nil (ws_one (ws1_return (pe_loc rfl) rfl (iEAA _ rfl ?_ ?_)))
      · unfold hppRet; rw [if_neg (by rw [ht]; simp)]
      · unfold hppHeap; rw [if_neg (by rw [ht]; simp)]; rfl
end Mine
end
section
open PySem PySem.W PySem.Calls PyProof.Rows
set_option Elab.async false
set_option maxRecDepth 100000
set_option linter.unusedVariables false
set_option linter.unusedSimpArgs false
namespace Mine
noncomputable def TupAt (W : Wx) (dV : Value) (items : Array Value) : Prop := ∃ T o n, dV = .ref T ∧ W.h₀.get? T = some o ∧ o.data = .seq items n
noncomputable def KeyAt (W : Wx) (kV : Value) : Prop := ∃ d m, kV = .ref d ∧ W.h₀.Ns d m ∧ m (Str.ofString "key") = some .none
/- where bisect_right stops -/
noncomputable def brGo (p : FV → Bool) (l : List FV) (lo hi : Nat) : Nat :=
  if h : lo < hi then
    if p (l.getD ((lo + hi) / 2) .none) then brGo p l lo ((lo + hi) / 2) else brGo p l ((lo + hi) / 2 + 1) hi
  else lo
termination_by hi - lo
decreasing_by all_goals omega
theorem brGo_le (p : FV → Bool) (l : List FV) (lo hi : Nat) (h : lo ≤ hi) : brGo p l lo hi ≤ hi := by
  fun_induction brGo p l lo hi with
  | case1 lo hi h1 h2 ih => have := ih (by lia); lia
  | case2 lo hi h1 h2 ih => exact ih (by lia)
  | case3 lo hi h1 => exact h

/- a key, or none, that tells x < key y -/
noncomputable def KeyP (X : Fx) (kav : AV) (x : FV) (l : List FV) (p : FV → Bool) : Prop :=
  (kav = .f .none ∧ ∀ y ∈ l, CmpF 10 x y ∧ p y = x.lt y) ∨ ∃ ps e sc m, kav = .lam ps e sc ∧ m ≤ X.n ∧ ∀ y ∈ l, ∃ ky, LamGives X.toWx ps e sc m y ky ∧ CmpF 10 x ky ∧ p y = x.lt ky

theorem br_body {X : Fx} (hB : BiOk X.toWx) {kav : AV} {x : FV} {l : List FV} {p : FV → Bool} (hK : KeyP X kav x l p) (hz : l.length ≤ 1000) {L f : Addr} {cd : Value} (he : X.env = envOf "bisect_right" (dSco 15) L f cd) :
    WS X (dBody 15) ⟨[("a", .lst l), ("x", .f x), ("lo", .f (.int 0)), ("hi", .f .none), ("key", kav)], []⟩ (fun af st' => af = .ret (.f (.int (brGo p l 0 l.length))) ∧ st'.hp = []) := by
  have hk : ∀ x, X.env.kindOf x = (dSco 15).names.lookup x := fun x => by rw [he]; rfl
  refine ws_cons (ws1_if (b := false) (PT.to (pt_cmp (pe_loc rfl) pe_int co_lt_int) (by simp)) (fun h => nomatch h) fun _ => ws_nil ?_)
  refine ws_cons (ws1_if (pt_cmp (pe_loc rfl) pe_none (co_isNone rfl)) (fun _ => ?_) (fun h => nomatch h))
  refine ws_one (ws1_assign (.inl ((hk _).trans rfl)) (pe_lenN (l := l) hB ((hk _).trans rfl) (pe_loc rfl) hz) ?_)
  have hmid : ∀ lo hi : Nat, ((lo : Int) + (hi : Int)).fdiv 2 = (((lo + hi) / 2 : Nat) : Int) := fun lo hi => by rw [← fdivN]; congr 1
  rcases hK with ⟨rfl, hp⟩ | ⟨ps, e, sc, m, rfl, hm, hp⟩
  · refine ws_cons (ws1_if (pt_cmp (pe_loc rfl) pe_none (co_isNone rfl)) (fun _ => ?_) (fun h => nomatch h))
    refine ws_one (ws1_while (fun n st => ∃ lo hi : Nat, n = hi - lo ∧ lo ≤ hi ∧ hi ≤ l.length ∧ brGo p l lo hi = brGo p l 0 l.length ∧ st = ⟨[("a", .lst l), ("x", .f x), ("lo", .f (.int lo)), ("hi", .f (.int hi)), ("key", .f .none)], []⟩) l.length (iEEAAAA 0 l.length rfl (Nat.zero_le _) (Nat.le_refl _) rfl rfl) ?_)
    (rintro n st zq1; refine oEEAAAA zq1 ?_; clear zq1; rintro lo hi rfl hle hhi hgo rfl)
    refine (iEAA (decide (lo < hi)) (PT.to (pt_cmp (pe_loc rfl) (pe_loc rfl) co_lt_int) (decide_eq_decide.mpr (by simp))) (fun hb => ?_) (fun hb => ws_weak ?_))
    · have hb : ¬ lo < hi := by simpa using hb
      refine ws_one (ws1_return (pe_loc rfl) rfl ⟨?_, rfl⟩)
      rw [← hgo]; unfold brGo; rw [dif_neg hb]
    · have hb : lo < hi := by simpa using hb
      have hml : (lo + hi) / 2 < l.length := by lia
      obtain ⟨hc, hpe⟩ := hp _ (List.mem_of_getElem? (getD_some hml))
      refine ws_cons (ws1_assign (.inl ((hk _).trans rfl)) (PE.to (pe_bin (pe_bin (pe_loc rfl) (pe_loc rfl) bo_add) pe_int (bo_fdiv (by decide) (PyProof.noPylong_small (by decide)))) (congrArg (fun i => AV.f (.int i)) (hmid lo hi))) ?_)
      refine ws_one (ws1_if (pt_cmp (pe_loc rfl) (pe_itemN (pe_loc rfl) (pe_loc rfl) (getD_some hml) hz) (co_lt hc (by (exact Nat.le_add_left _ _)))) (fun ht => ?_) fun ht => ?_)
      · refine ws_one (ws1_assign (.inl ((hk _).trans rfl)) (pe_loc rfl) (iEAAEAEEAAAA (⟨[("a", .lst l), ("x", .f x), ("lo", .f (.int lo)), ("hi", .f (.int ((lo + hi) / 2 : Nat))), ("key", .f .none)], []⟩) (⟨⟨[], rfl⟩, ⟨rfl, rfl, rfl, rfl, rfl, trivial⟩, rfl⟩) (Nat.le_refl _) _ ?_ lo ((lo + hi) / 2) rfl (by lia) (by (exact Nat.le_of_lt ‹_›)) ?_ rfl))
        · lia
        · rw [← hgo]; conv => rhs; unfold brGo
          rw [dif_pos hb, if_pos (by rw [hpe]; exact ht)]
      · refine ws_one (ws1_assign (.inl ((hk _).trans rfl)) (pe_bin (pe_loc rfl) pe_int bo_add) (iEAAEAEEAAAA (⟨[("a", .lst l), ("x", .f x), ("lo", .f (.int (((lo + hi) / 2 + 1 : Nat) : Int))), ("hi", .f (.int hi)), ("key", .f .none)], []⟩) (⟨⟨[], rfl⟩, ⟨rfl, rfl, rfl, rfl, rfl, trivial⟩, rfl⟩) (Nat.le_refl _) _ ?_ ((lo + hi) / 2 + 1) hi rfl (by lia) hhi ?_ rfl))
        · omega
        · rw [← hgo]; conv => rhs; unfold brGo
          rw [dif_pos hb, if_neg (by rw [hpe, ht]; simp)]
  · refine ws_cons (ws1_if (pt_cmp (pe_loc rfl) pe_none (co_isNone rfl)) (fun h => nomatch h) (fun _ => ?_))
    refine ws_one (ws1_while (fun n st => ∃ lo hi : Nat, n = hi - lo ∧ lo ≤ hi ∧ hi ≤ l.length ∧ brGo p l lo hi = brGo p l 0 l.length ∧ st = ⟨[("a", .lst l), ("x", .f x), ("lo", .f (.int lo)), ("hi", .f (.int hi)), ("key", .lam ps e sc)], []⟩) l.length (iEEAAAA 0 l.length rfl (Nat.zero_le _) (Nat.le_refl _) rfl rfl) ?_)
    (rintro n st zq1; refine oEEAAAA zq1 ?_; clear zq1; rintro lo hi rfl hle hhi hgo rfl)
    refine (iEAA (decide (lo < hi)) (PT.to (pt_cmp (pe_loc rfl) (pe_loc rfl) co_lt_int) (decide_eq_decide.mpr (by lia))) (fun hb => ?_) (fun hb => ws_weak ?_))
    · have hb : ¬ lo < hi := by simpa using hb
      refine ws_one (ws1_return (pe_loc rfl) rfl ⟨?_, rfl⟩)
      rw [← hgo]; unfold brGo; rw [dif_neg hb]
    · have hb : lo < hi := by simpa using hb
      have hml : (lo + hi) / 2 < l.length := by lia
      (refine oEAA (hp _ (List.mem_of_getElem? (getD_some hml))) ?_; rintro ky hlam hc hpe)
      refine ws_cons (ws1_assign (.inl ((hk _).trans rfl)) (PE.to (pe_bin (pe_bin (pe_loc rfl) (pe_loc rfl) bo_add) pe_int (bo_fdiv (by decide) (PyProof.noPylong_small (by decide)))) (congrArg (fun i => AV.f (.int i)) (hmid lo hi))) ?_)
      refine ws_one (ws1_if (pt_cmp (pe_loc rfl) (pe_lamcall (pe_loc rfl) (pe_itemN (pe_loc rfl) (pe_loc rfl) (getD_some hml) hz) hlam hm) (co_lt hc (by lia))) (fun ht => ?_) fun ht => ?_)
      · refine ws_one (ws1_assign (.inl ((hk _).trans rfl)) (pe_loc rfl) (iEAAEAEEAAAA (⟨[("a", .lst l), ("x", .f x), ("lo", .f (.int lo)), ("hi", .f (.int ((lo + hi) / 2 : Nat))), ("key", .lam ps e sc)], []⟩) (⟨⟨[], rfl⟩, ⟨rfl, rfl, rfl, rfl, rfl, trivial⟩, rfl⟩) (Nat.le_refl _) _ ?_ lo ((lo + hi) / 2) rfl (by lia) (by lia) ?_ rfl))
        · lia
        · rw [← hgo]; conv => rhs; unfold brGo
          rw [dif_pos hb, if_pos (by rw [hpe]; exact ht)]
      · refine ws_one (ws1_assign (.inl ((hk _).trans rfl)) (pe_bin (pe_loc rfl) pe_int bo_add) (iEAAEAEEAAAA (⟨[("a", .lst l), ("x", .f x), ("lo", .f (.int (((lo + hi) / 2 + 1 : Nat) : Int))), ("hi", .f (.int hi)), ("key", .lam ps e sc)], []⟩) (⟨⟨[], rfl⟩, ⟨rfl, rfl, rfl, rfl, rfl, trivial⟩, rfl⟩) (Nat.le_refl _) _ ?_ ((lo + hi) / 2 + 1) hi rfl (by lia) hhi ?_ rfl))
        · lia
        · rw [← hgo]; conv => rhs; unfold brGo
          rw [dif_pos hb, if_neg (by rw [hpe, ht]; simp)]
end Mine
end
section
open PySem PySem.W PySem.Calls PyProof.Rows
set_option Elab.async false
set_option maxRecDepth 100000
set_option linter.unusedVariables false
set_option linter.unusedSimpArgs false
namespace Mine
theorem bindBr {s : Shared} {T d : Addr} {o : Obj} {n : Nat} {m : Str → Option Value} {t0 : Tok} {doc pm cd ct v1 v2 v3 v4 : Value} {an : Option Addr} (hT : s.heap.get? T = some o) (hTd : o.data = .seq #[.int 0 t0, .none] n) (hn : s.heap.Ns d m) (hm : m (Str.ofString "key") = some .none) : BindsTo s (fnX "bisect_right" "bisect_right" (dPar 15) (dBody 15) (dSco 15) [] (.ref T) (.ref d) doc pm an cd ct) ⟨[v1, v2, v3, v4], []⟩ [("a", v1), ("x", v2), ("lo", v3), ("hi", v4), ("key", .none)] := by
  intro M A E Q hq
  show wpAny M A (seqItems? (.ref T) >>= _) Q E s
  refine wpAny_bind (wpAny_seqItems hT hTd ?_)
  dsimp only
  refine wpAny_bind ?_
  refine wpAny_of_eq (a := [(Str.ofString "a", v1), (Str.ofString "x", v2), (Str.ofString "lo", v3), (Str.ofString "hi", v4)]) rfl ?_
  refine wpAny_bind ?_
  show wpAny M A (forIn [Str.ofString "key"] _ _) _ E s
  simp only [List.forIn_cons, List.forIn_nil]
  refine wpAny_bind ?_
  rw [if_pos (by rfl)]
  refine wpAny_bind (wpAny_nsGet hn ?_)
  rw [hm]
  exact wpAny_pure (wpAny_pure (wpAny_of_eq rfl hq))
/- bisect_right(a, x, lo, hi) -/
theorem con_br {W : Wx} {f : Addr} {dV kV : Value} {t0 : Tok} (hB : BiOk W) (hf : FnOk W 15 "bisect_right" dV kV f) (hdV : TupAt W dV #[.int 0 t0, .none]) (hkV : KeyAt W kV) {x : FV} {l : List FV} (hl : ∀ y ∈ l, CmpF 10 x y) (hz : l.length ≤ 1000) (n : Nat) :
    Con W (.ref f) (n + 1) [.lst l, .f x, .f (.int 0), .f .none] [] [] (fun av _ => av = .f (.int (brGo (fun y => x.lt y) l 0 l.length))) := by
  (refine oEEEEEEAA hf.at_ ?_; rintro o doc pm an cd ct ho hd hcd)
  refine con_def ho hd hcd [("a", .lst l), ("x", .f x), ("lo", .f (.int 0)), ("hi", .f .none), ("key", .f .none)] ?_ (by simp only [List.map_cons, List.map_nil]; decide) ?_ (fun k => .nil) rfl rfl rfl ?_
  · intro s F ρ vs kvs R hv hk
    cases hk
    refine hv.c4 (fun _ _ _ _ r1 r2 r3 r4 => ?_)
    ·
            (refine oEEEAA hdV ?_; try clear hdV; rintro T oT nT rfl hT hTd)
            (refine oEEAA hkV ?_; try clear hkV; rintro dk m rfl hN hm)
            exact (iEA _ (bindBr (R.keep _ _ hT) hTd (hN.keeps R.keep) hm) (.cons r1 (.cons r2 (.cons r3 (.cons r4 (.cons rfl .nil))))))
  · intro y hy
    simp only [List.mem_cons, List.not_mem_nil, or_false] at hy
    rcases hy with rfl | rfl | rfl | rfl | rfl <;> exact .inl rfl
  · rintro X rfl hn ⟨L, he⟩ hfr
    refine (br_body hB (.inl ⟨rfl, fun y hy => ⟨hl y hy, rfl⟩⟩) hz he).mono ?_
    rintro af st' ⟨rfl, h⟩
    exact (iEA _ rfl rfl)
/- bisect_right(a, x, lo, hi, key=key) -/
theorem con_brK {W : Wx} {f : Addr} {dV kV : Value} {t0 : Tok} (hB : BiOk W) (hf : FnOk W 15 "bisect_right" dV kV f) (hdV : TupAt W dV #[.int 0 t0, .none]) {x : FV} {l : List FV} {ps : Arguments} {e : Expr} {sc : Scope} {m : Nat} {key : FV → FV} (hl : ∀ y ∈ l, LamGives W ps e sc m y (key y) ∧ CmpF 10 x (key y)) (hz : l.length ≤ 1000) (n : Nat) (hm : m ≤ n) :
    Con W (.ref f) (n + 1) [.lst l, .f x, .f (.int 0), .f .none] [("key", .lam ps e sc)] [] (fun av _ => av = .f (.int (brGo (fun y => x.lt (key y)) l 0 l.length))) := by
  (refine oEEEEEEAA hf.at_ ?_; rintro o doc pm an cd ct ho hd hcd)
  refine con_def ho hd hcd [("a", .lst l), ("x", .f x), ("lo", .f (.int 0)), ("hi", .f .none), ("key", .lam ps e sc)] ?_ (by simp only [List.map_cons, List.map_nil]; decide) ?_ (fun k => .nil) rfl rfl rfl ?_
  · intro s F ρ vs kvs R hv hk
    refine hk.c1 (fun _ rk => ?_)
    ·
      refine hv.c4 (fun _ _ _ _ r1 r2 r3 r4 => ?_)
      ·
              (refine oEEEAA hdV ?_; try clear hdV; rintro T oT nT rfl hT hTd)
              exact (iEA _ (BindsTo.of_defaults rfl (R.keep _ _ hT) hTd rfl rfl) (.cons r1 (.cons r2 (.cons r3 (.cons r4 (.cons rk .nil))))))
  · intro y hy
    simp only [List.mem_cons, List.not_mem_nil, or_false] at hy
    rcases hy with rfl | rfl | rfl | rfl | rfl <;> exact .inl rfl
  · rintro X rfl hn ⟨L, he⟩ hfr
    refine (br_body hB (.inr ⟨ps, e, sc, m, rfl, by lia, fun y hy => ⟨key y, (hl y hy).1, (hl y hy).2, rfl⟩⟩) hz he).mono ?_
    rintro af st' ⟨rfl, h⟩
    exact (iEA _ rfl rfl)
theorem bindIns {W : Wx} {dV kV : Value} {t0 : Tok} (hdV : TupAt W dV #[.int 0 t0, .none]) {l : List FV} {x : FV} {kav : AV} {doc pm cd ct : Value} {an : Option Addr} :
    ∀ s F ρ vs kvs, Rep0 W F ρ [.list l] s → RepVs s.heap (im0 W ρ) ρ [.obj 0, .f x] vs → RepKs s.heap (im0 W ρ) ρ [("key", kav)] kvs → ∃ binds, BindsTo s (fnX "insort_right" "insort_right" (dPar 14) (dBody 14) (dSco 14) [] dV kV doc pm an cd ct) ⟨vs, kvs⟩ binds ∧ RepKs s.heap (im0 W ρ) ρ [("a", .obj 0), ("x", .f x), ("lo", .f (.int 0)), ("hi", .f .none), ("key", kav)] binds := by
  intro s F ρ vs kvs R hv hk
  refine hk.c1 (fun _ rk => ?_)
  ·
    refine hv.c2 (fun _ _ r1 r2 => ?_)
    ·
        (refine oEEEAA hdV ?_; try clear hdV; rintro T oT nT rfl hT hTd)
        exact (iEA _ (BindsTo.of_defaults rfl (R.keep _ _ hT) hTd rfl rfl) (.cons r1 (.cons r2 (.cons ⟨_, rfl⟩ (.cons rfl (.cons rk .nil))))))
noncomputable def insAt (l : List FV) (x : FV) (j : Nat) : List FV := l.take j ++ [x] ++ l.drop j
theorem con_ins {W : Wx} {f fb : Addr} {dV kV dV' kV' : Value} {t0 t1 : Tok} (hB : BiOk W) (hfb : FnOk W 15 "bisect_right" dV kV fb) (hdV : TupAt W dV #[.int 0 t0, .none]) (hkV : KeyAt W kV) (hf : FnOk W 14 "insort_right" dV' kV' f) (hdV' : TupAt W dV' #[.int 0 t1, .none]) {x : FV} {l : List FV} (hl : ∀ y ∈ l, CmpF 10 x y) (hz : l.length ≤ 1000) (n : Nat) :
    Con W (.ref f) (n + 2) [.obj 0, .f x] [("key", .f .none)] [.list l] (fun av hp => av = .f .none ∧ hp = [.list (insAt l x (brGo (fun y => x.lt y) l 0 l.length))]) := by
  (refine oEEEEEEAA hf.at_ ?_; rintro o doc pm an cd ct ho hd hcd)
  refine con_def ho hd hcd [("a", .obj 0), ("x", .f x), ("lo", .f (.int 0)), ("hi", .f .none), ("key", .f .none)] (bindIns hdV') (by simp only [List.map_cons, List.map_nil]; decide) ?_ (fun k => .nil) rfl rfl rfl ?_
  · intro y hy
    simp only [List.mem_cons, List.not_mem_nil, or_false] at hy
    rcases hy with rfl | rfl | rfl | rfl | rfl <;> exact .inl rfl
  · rintro X rfl hn ⟨L, he⟩ hfr
    have hk : ∀ x, X.env.kindOf x = (dSco 14).names.lookup x := fun x => by rw [he]; rfl
    refine ws_cons (ws1_if (pt_cmp (pe_loc rfl) pe_none (co_isNone rfl)) (fun _ => ?_) (fun h => nomatch h))
    refine ws_one (ws1_assign (.inl ((hk _).trans rfl)) (pe_call (pe_glo ((hk _).trans rfl) hfb.gl) hfb.fo (.cons (pe_loc rfl) (.cons (pe_loc rfl) (.cons (pe_loc rfl) (.cons (pe_loc rfl) .nil rfl) rfl) rfl) rfl) .nil (con_br hB hfb hdV hkV hl hz 0) (by lia) rfl rfl) ?_)
    refine ws_one (ws1_expr (we_insert (l := l) (pe_loc rfl) rfl (pe_loc rfl) (pe_loc rfl) (brGo_le _ _ _ _ (Nat.zero_le _)) (by (exact Nat.le_trans ‹_› (by decide))) (iEAA _ rfl rfl rfl)) X.notInteractive)
theorem con_insK {W : Wx} {f fb : Addr} {dV kV dV' kV' : Value} {t0 t1 : Tok} (hB : BiOk W) (hfb : FnOk W 15 "bisect_right" dV kV fb) (hdV : TupAt W dV #[.int 0 t0, .none]) (hf : FnOk W 14 "insort_right" dV' kV' f) (hdV' : TupAt W dV' #[.int 0 t1, .none]) {x : FV} {l : List FV} {ps : Arguments} {e : Expr} {sc : Scope} {m : Nat} {key : FV → FV} (hx : LamGives W ps e sc m x (key x)) (hl : ∀ y ∈ l, LamGives W ps e sc m y (key y) ∧ CmpF 10 (key x) (key y)) (hz : l.length ≤ 1000) (n : Nat) (hm : m ≤ n) :
    Con W (.ref f) (n + 2) [.obj 0, .f x] [("key", .lam ps e sc)] [.list l] (fun av hp => av = .f .none ∧ hp = [.list (insAt l x (brGo (fun y => (key x).lt (key y)) l 0 l.length))]) := by
  (refine oEEEEEEAA hf.at_ ?_; rintro o doc pm an cd ct ho hd hcd)
  refine con_def ho hd hcd [("a", .obj 0), ("x", .f x), ("lo", .f (.int 0)), ("hi", .f .none), ("key", .lam ps e sc)] (bindIns hdV') (by simp only [List.map_cons, List.map_nil]; decide) ?_ (fun k => .nil) rfl rfl rfl ?_
  · intro y hy
    simp only [List.mem_cons, List.not_mem_nil, or_false] at hy
    rcases hy with rfl | rfl | rfl | rfl | rfl <;> exact .inl rfl
  · rintro X rfl hn ⟨L, he⟩ hfr
    have hk : ∀ x, X.env.kindOf x = (dSco 14).names.lookup x := fun x => by rw [he]; rfl
    refine ws_cons (ws1_if (pt_cmp (pe_loc rfl) pe_none (co_isNone rfl)) (fun h => nomatch h) (fun _ => ?_))
    refine ws_one (ws1_assign (.inl ((hk _).trans rfl)) (pe_call (pe_glo ((hk _).trans rfl) hfb.gl) hfb.fo (.cons (pe_loc rfl) (.cons (pe_lamcall (pe_loc rfl) (pe_loc rfl) hx (by lia)) (.cons (pe_loc rfl) (.cons (pe_loc rfl) .nil rfl) rfl) rfl) rfl) (.cons (pe_loc rfl) .nil) (con_brK hB hfb hdV hl hz n hm) (by (exact Nat.le_of_eq (Eq.symm ‹_›))) rfl rfl) ?_)
    refine ws_one (ws1_expr (we_insert (l := l) (pe_loc rfl) rfl (pe_loc rfl) (pe_loc rfl) (brGo_le _ _ _ _ (Nat.zero_le _)) (by lia) (iEAA _ rfl rfl rfl)) X.notInteractive)
end Mine
end
section
open PySem PySem.W
set_option Elab.async false
set_option linter.unusedVariables false
set_option linter.unusedSimpArgs false
namespace Mine
open Classical
theorem set_swap {l : List FV} {i j : Nat} {x : FV} (hi : i < l.length) (hj : j < l.length) (hne : i ≠ j) : ((l.set i (l.getD j .none)).set j x).Perm (l.set i x) := by
  rw [List.perm_iff_count]
  intro a
  have e : l.getD j .none = l[j] := by rw [List.getD_eq_getElem?_getD, List.getElem?_eq_getElem hj]; rfl
  rw [e, List.count_set (by simpa using hj), List.count_set hi, List.count_set hi]
  rw [List.getElem_set_ne hne]
  have h1 : ∀ k (hk : k < l.length), (if l[k] == a then 1 else 0) ≤ l.count a := fun k hk => by
    by_cases q : l[k] == a
    · rw [if_pos q]
      exact List.count_pos_iff.mpr (beq_iff_eq.mp q ▸ List.getElem_mem hk)
    · rw [if_neg q]; omega
  have := h1 i hi
  have := h1 j hj
  omega
theorem sd_perm (lt : FV → FV → Bool) (start : Nat) (x : FV) (l : List FV) (pos : Nat) (hp : pos < l.length) : (sd lt start x l pos).Perm (l.set pos x) := by
  fun_induction sd lt start x l pos with
  | case1 l pos h1 h2 ih =>
    refine (ih (by simp; omega)).trans ?_
    exact set_swap hp (by omega) (by omega)
  | case2 l pos h1 h2 => exact .refl _
  | case3 l pos h1 => exact .refl _
theorem suGo_perm (lt : FV → FV → Bool) (x : FV) (l : List FV) (pos : Nat) (hp : pos < l.length) : ((suGo lt l pos).1.set (suGo lt l pos).2 x).Perm (l.set pos x) := by
  fun_induction suGo lt l pos with
  | case1 l pos h1 h2 ih =>
    simp only [Bool.and_eq_true, decide_eq_true_eq] at h2
    exact (ih (by simpa using h2.1)).trans (set_swap hp h2.1 (by omega))
  | case2 l pos h1 h2 ih => exact (ih (by simpa using h1)).trans (set_swap hp h1 (by omega))
  | case3 l pos h1 => exact .refl _
theorem set_getD {l : List FV} {i : Nat} (h : i < l.length) : l.set i (l.getD i .none) = l := by
  rw [List.getD_eq_getElem?_getD, List.getElem?_eq_getElem h]; simp
theorem su_perm (lt : FV → FV → Bool) (l : List FV) (pos : Nat) (hp : pos < l.length) : (su lt l pos).Perm l := by
  unfold su
  refine (sd_perm lt _ _ _ _ (by simp only [List.length_set, suGo_len]; exact suGo_lt lt l pos hp)).trans ?_
  rw [List.set_set]
  exact (suGo_perm lt _ l pos hp).trans (.of_eq (set_getD hp))
theorem su_U (lt : FV → FV → Bool) {U : FV → Prop} (l : List FV) (k : Nat) (h : ∀ x ∈ l, U x) (hk : k < l.length) : ∀ x ∈ su lt l k, U x := fun x hx => h x ((su_perm lt l k hk).mem_iff.mp hx)
theorem hyGo_perm (lt : FV → FV → Bool) : ∀ (k : Nat) (l : List FV), k ≤ l.length → (hyGo lt k l).Perm l
  | 0, l, _ => .refl _
  | k + 1, l, h => (hyGo_perm lt k (su lt l k) (by rw [su_len]; omega)).trans (su_perm lt l k (by omega))
theorem hyGo_len (lt : FV → FV → Bool) (k : Nat) (l : List FV) (h : k ≤ l.length) : (hyGo lt k l).length = l.length := (hyGo_perm lt k l h).length_eq
end Mine
end
section
open PySem PySem.W
set_option Elab.async false
set_option linter.unusedVariables false
set_option linter.unusedSimpArgs false
namespace Mine
structure LtOk (lt : FV → FV → Bool) (U : FV → Prop) : Prop where
  asym : ∀ x y, U x → U y → lt x y = true → lt y x = false
  ntr : ∀ x y z, U x → U y → U z → lt x y = false → lt y z = false → lt x z = false
/- in order from i on -/
noncomputable def VH (lt : FV → FV → Bool) (l : List FV) (i : Nat) : Prop := ∀ k, 0 < k → k < l.length → i ≤ (k - 1) / 2 → lt (l.getD k .none) (l.getD ((k - 1) / 2) .none) = false
inductive Under (start : Nat) : Nat → Prop
  | here : Under start start
  | down {p : Nat} : start < p → Under start ((p - 1) / 2) → Under start p
theorem Under.le {start p : Nat} (h : Under start p) : start ≤ p := by cases h <;> (first | exact Nat.le_refl _ | exact Nat.le_of_lt ‹_›)
theorem Under.up {start p : Nat} (h : Under start p) (hp : start < p) : Under start ((p - 1) / 2) := by
  cases h with
  | here => (exact absurd ‹_› (Nat.lt_irrefl _))
  | down _ h => exact h
theorem under0 : ∀ p, Under 0 p := by
  intro p
  induction p using Nat.strongRecOn with
  | _ p ih =>
    rcases Nat.eq_zero_or_pos p with h | h
    · subst h; exact .here
    · exact .down h (ih _ (by lia))
theorem getD_set {l : List FV} {i j : Nat} {x : FV} (hi : i < l.length) : (l.set i x).getD j .none = if j = i then x else l.getD j .none := by
  simp only [List.getD_eq_getElem?_getD, List.getElem?_set]
  by_cases h : i = j
  · subst h; simp [hi]
  · rw [if_neg h, if_neg (fun q => h q.symm)]
theorem getD_mem {l : List FV} {i : Nat} (h : i < l.length) : l.getD i .none ∈ l := List.mem_of_getElem? (getD_some h)
section
variable {lt : FV → FV → Bool} {U : FV → Prop}
theorem sd_V (O : LtOk lt U) (start : Nat) (x : FV) (l : List FV) (pos : Nat) (hp : pos < l.length) (hx : U x) (hl : ∀ y ∈ l, U y) (hu : Under start pos)
    (ha : ∀ k, 0 < k → k < l.length → start ≤ (k - 1) / 2 → k ≠ pos → (k - 1) / 2 ≠ pos → lt (l.getD k .none) (l.getD ((k - 1) / 2) .none) = false)
    (hb : ∀ k, 0 < k → k < l.length → (k - 1) / 2 = pos → lt (l.getD k .none) x = false)
    (hc : start < pos → ∀ k, 0 < k → k < l.length → (k - 1) / 2 = pos → lt (l.getD k .none) (l.getD ((pos - 1) / 2) .none) = false) : VH lt (sd lt start x l pos) start := by
  fun_induction sd lt start x l pos with
  | case1 l pos h1 h2 ih =>
    have hpp : (pos - 1) / 2 < l.length := by lia
    have up := getD_mem hpp
    refine ih (by simpa using hpp) (fun y hy => ?_) (hu.up h1) ?_ ?_ ?_
    · rcases List.mem_or_eq_of_mem_set hy with h | h
      · exact hl y h
      · rw [h]; exact hl _ up
    · intro k k0 kl ks kp kq
      simp only [List.length_set] at kl
      rw [getD_set hp, getD_set hp]
      have hk : k ≠ pos := fun q => kq (by rw [q])
      rw [if_neg hk]
      by_cases q : (k - 1) / 2 = pos
      · rw [if_pos q]; exact hc h1 k k0 kl q
      · rw [if_neg q]; exact ha k k0 kl ks hk q
    · intro k k0 kl kq
      simp only [List.length_set] at kl
      rw [getD_set hp]
      by_cases q : k = pos
      · rw [if_pos q]; exact O.asym _ _ hx (hl _ up) h2
      · rw [if_neg q]
        have := ha k k0 kl (by have := (hu.up h1).le; lia) q (by lia)
        rw [kq] at this
        exact O.ntr _ _ _ (hl _ (getD_mem kl)) (hl _ up) hx this (O.asym _ _ hx (hl _ up) h2)
    · intro h3 k k0 kl kq
      simp only [List.length_set] at kl
      have hg := ha ((pos - 1) / 2) (by (exact Nat.lt_of_le_of_lt (Nat.zero_le _) ‹_›)) hpp (by have := ((hu.up h1).up h3).le; assumption) (by lia) (by lia)
      rw [getD_set hp, getD_set hp, if_neg (show ¬ ((pos - 1) / 2 - 1) / 2 = pos by lia)]
      by_cases q : k = pos
      · rw [if_pos q]; exact hg
      · rw [if_neg q]
        have := ha k k0 kl (by lia) q (by lia)
        rw [kq] at this
        exact O.ntr _ _ _ (hl _ (getD_mem kl)) (hl _ up) (hl _ (getD_mem (by lia))) this hg
  | case2 l pos h1 h2 =>
    intro k k0 kl ks
    simp only [List.length_set] at kl
    rw [getD_set hp, getD_set hp]
    by_cases q : k = pos
    · rw [if_pos q, if_neg (by lia), q]; exact Bool.eq_false_iff.mpr h2
    · rw [if_neg q]
      by_cases q2 : (k - 1) / 2 = pos
      · rw [if_pos q2]; exact hb k k0 kl q2
      · rw [if_neg q2]; exact ha k k0 kl ks q q2
  | case3 l pos h1 =>
    intro k k0 kl ks
    simp only [List.length_set] at kl
    rw [getD_set hp, getD_set hp]
    by_cases q : k = pos
    · omega
    · rw [if_neg q]
      by_cases q2 : (k - 1) / 2 = pos
      · rw [if_pos q2]; exact hb k k0 kl q2
      · rw [if_neg q2]; exact ha k k0 kl ks q q2
theorem suGo_V (O : LtOk lt U) (start : Nat) (l : List FV) (pos : Nat) (hp : pos < l.length) (hl : ∀ y ∈ l, U y) (hu : Under start pos)
    (ha : ∀ k, 0 < k → k < l.length → start ≤ (k - 1) / 2 → k ≠ pos → (k - 1) / 2 ≠ pos → lt (l.getD k .none) (l.getD ((k - 1) / 2) .none) = false)
    (hc : start < pos → ∀ k, 0 < k → k < l.length → (k - 1) / 2 = pos → lt (l.getD k .none) (l.getD ((pos - 1) / 2) .none) = false) :
    (∀ y ∈ (suGo lt l pos).1, U y) ∧ Under start (suGo lt l pos).2 ∧ (suGo lt l pos).1.length ≤ 2 * (suGo lt l pos).2 + 1 ∧
    ∀ k, 0 < k → k < (suGo lt l pos).1.length → start ≤ (k - 1) / 2 → k ≠ (suGo lt l pos).2 → (k - 1) / 2 ≠ (suGo lt l pos).2 → lt ((suGo lt l pos).1.getD k .none) ((suGo lt l pos).1.getD ((k - 1) / 2) .none) = false := by
  have key : ∀ (l : List FV) (pos c d : Nat), pos < l.length → (∀ y ∈ l, U y) → Under start pos →
      (∀ k, 0 < k → k < l.length → start ≤ (k - 1) / 2 → k ≠ pos → (k - 1) / 2 ≠ pos → lt (l.getD k .none) (l.getD ((k - 1) / 2) .none) = false) →
      (start < pos → ∀ k, 0 < k → k < l.length → (k - 1) / 2 = pos → lt (l.getD k .none) (l.getD ((pos - 1) / 2) .none) = false) →
      c < l.length → (c - 1) / 2 = pos → 0 < c → (∀ k, 0 < k → k < l.length → (k - 1) / 2 = pos → k ≠ c → lt (l.getD k .none) (l.getD c .none) = false) →
      (∀ y ∈ l.set pos (l.getD c .none), U y) ∧ Under start c ∧
      (∀ k, 0 < k → k < (l.set pos (l.getD c .none)).length → start ≤ (k - 1) / 2 → k ≠ c → (k - 1) / 2 ≠ c → lt ((l.set pos (l.getD c .none)).getD k .none) ((l.set pos (l.getD c .none)).getD ((k - 1) / 2) .none) = false) ∧
      (start < c → ∀ k, 0 < k → k < (l.set pos (l.getD c .none)).length → (k - 1) / 2 = c → lt ((l.set pos (l.getD c .none)).getD k .none) ((l.set pos (l.getD c .none)).getD ((c - 1) / 2) .none) = false) := by
    intro l pos c d hp hl hu ha hc hcl hcp hc0 hmin
    refine ⟨fun y hy => ?_, .down (by have := hu.le; lia) (hcp ▸ hu), ?_, ?_⟩
    · rcases List.mem_or_eq_of_mem_set hy with h | h
      · exact hl y h
      · rw [h]; exact hl _ (getD_mem hcl)
    · intro k k0 kl ks kc kq
      simp only [List.length_set] at kl
      rw [getD_set hp, getD_set hp]
      by_cases q : k = pos
      · rw [if_pos q, if_neg (by lia)]
        have := hc (by lia) c hc0 hcl hcp
        rw [q]; exact this
      · rw [if_neg q]
        by_cases q2 : (k - 1) / 2 = pos
        · rw [if_pos q2]; exact hmin k k0 kl q2 kc
        · rw [if_neg q2]; exact ha k k0 kl ks q q2
    · intro h3 k k0 kl kq
      simp only [List.length_set] at kl
      rw [getD_set hp, getD_set hp, if_neg (by lia), if_pos hcp]
      have := ha k k0 kl (by have := hu.le; lia) (by lia) (by lia)
      rw [kq] at this; exact this
  fun_induction suGo lt l pos with
  | case1 l pos h1 h2 ih =>
    simp only [Bool.and_eq_true, decide_eq_true_eq, Bool.not_eq_true'] at h2
    (refine oAAA (key l pos (2 * pos + 2) 0 hp hl hu ha hc h2.1 (by lia) (by (exact Nat.zero_lt_succ _)) (fun k k0 kl kq kc => by
      have : k = 2 * pos + 1 := by lia
      subst this; exact h2.2)) ?_; rintro k1 k2 k3 k4)
    exact ih (by simpa using h2.1) k1 k2 k3 k4
  | case2 l pos h1 h2 ih =>
    (refine oAAA (key l pos (2 * pos + 1) 0 hp hl hu ha hc h1 (by simp) (by (exact Nat.zero_lt_succ _)) (fun k k0 kl kq kc => by
      have : k = 2 * pos + 2 := by lia
      subst this
      have h3 : lt (l.getD (2 * pos + 1) .none) (l.getD (2 * pos + 2) .none) = true := by
        cases e : lt (l.getD (2 * pos + 1) .none) (l.getD (2 * pos + 2) .none) with
        | true => rfl
        | false => exact absurd (by rw [e]; simpa using kl) h2
      exact O.asym _ _ (hl _ (getD_mem h1)) (hl _ (getD_mem kl)) h3)) ?_; rintro k1 k2 k3 k4)
    exact ih (by simpa using h1) k1 k2 k3 k4
  | case3 l pos h1 => exact ⟨hl, hu, by show l.length ≤ _; (exact Nat.not_lt.mp ‹_›), ha⟩
theorem su_V (O : LtOk lt U) (l : List FV) (pos : Nat) (hp : pos < l.length) (hl : ∀ y ∈ l, U y) (h : VH lt l (pos + 1)) : VH lt (su lt l pos) pos := by
  (refine oAAA (suGo_V O pos l pos hp hl .here (fun k k0 kl ks kp kq => h k k0 kl (by lia)) (fun h => absurd h (Nat.lt_irrefl _))) ?_; rintro k1 k2 k3 k4)
  have hlt := suGo_lt lt l pos hp
  have hlen := suGo_len lt l pos
  unfold su
  generalize suGo lt l pos = r at *
  obtain ⟨l1, p1⟩ := r
  simp only at *
  have hx := hl _ (getD_mem hp)
  refine sd_V O pos _ _ p1 (by simp; (exact Nat.lt_of_lt_of_eq ‹_› (Eq.symm ‹_›))) hx (fun y hy => ?_) k2 (fun k k0 kl ks kp kq => ?_) (fun k k0 kl kq => ?_) (fun _ k k0 kl kq => ?_)
  · rcases List.mem_or_eq_of_mem_set hy with h | h
    · exact k1 y h
    · rw [h]; exact hx
  · simp only [List.length_set] at kl
    rw [getD_set (by lia), getD_set (by lia), if_neg kp, if_neg kq]; exact k4 k k0 kl ks kp kq
  · simp only [List.length_set] at kl; lia
  · simp only [List.length_set] at kl; lia
theorem hyGo_V (O : LtOk lt U) : ∀ (k : Nat) (l : List FV), k ≤ l.length → (∀ y ∈ l, U y) → VH lt l k → VH lt (hyGo lt k l) 0
  | 0, l, _, _, h => h
  | k + 1, l, hk, hl, h => hyGo_V O k (su lt l k) (by rw [su_len]; (exact Nat.le_of_succ_le ‹_›)) (su_U lt l k hl (by assumption)) (su_V O l k (by assumption) hl h)
theorem VH_half (l : List FV) : VH lt l (l.length / 2) := fun k k0 kl ks => by lia
theorem push_V (O : LtOk lt U) (l : List FV) (x : FV) (hl : ∀ y ∈ l, U y) (hx : U x) (h : VH lt l 0) : VH lt (sd lt 0 x (l ++ [x]) l.length) 0 := by
  refine sd_V O 0 x _ _ (by simp) hx (fun y hy => ?_) (under0 _) (fun k k0 kl ks kp kq => ?_) (fun k k0 kl kq => ?_) (fun _ k k0 kl kq => ?_)
  · rcases List.mem_append.mp hy with h | h
    · exact hl y h
    · rw [List.mem_singleton.mp h]; exact hx
  · simp only [List.length_append, List.length_cons, List.length_nil] at kl
    have g : ∀ j, j < l.length → (l ++ [x]).getD j .none = l.getD j .none := fun j hj => by rw [List.getD_eq_getElem?_getD, List.getD_eq_getElem?_getD, List.getElem?_append_left hj]
    rw [g k (by lia), g _ (by lia)]
    exact h k k0 (by lia) ks
  · simp only [List.length_append, List.length_cons, List.length_nil] at kl; lia
  · simp only [List.length_append, List.length_cons, List.length_nil] at kl; lia
theorem repl_V (O : LtOk lt U) (l : List FV) (x : FV) (h0 : 0 < l.length) (hl : ∀ y ∈ l, U y) (hx : U x) (h : VH lt l 0) : VH lt (su lt (l.set 0 x) 0) 0 := by
  refine su_V O _ 0 (by simpa using h0) (fun y hy => ?_) fun k k0 kl ks => ?_
  · rcases List.mem_or_eq_of_mem_set hy with h | h
    · exact hl y h
    · rw [h]; exact hx
  · simp only [List.length_set] at kl
    rw [getD_set h0, getD_set h0, if_neg (by (exact Nat.ne_of_gt ‹_›)), if_neg (by (exact Nat.ne_of_gt ‹_›))]
    exact h k k0 kl (Nat.zero_le _)
/- the root is least -/
theorem VH_root (O : LtOk lt U) (l : List FV) (hl : ∀ y ∈ l, U y) (h : VH lt l 0) : ∀ k, k < l.length → lt (l.getD k .none) (l.getD 0 .none) = false := by
  intro k
  induction k using Nat.strongRecOn with
  | _ k ih =>
    intro kl
    rcases Nat.eq_zero_or_pos k with h0 | h0
    · subst h0
      cases e : lt (l.getD 0 .none) (l.getD 0 .none) with
      | false => rfl
      | true => exact e ▸ O.asym _ _ (hl _ (getD_mem kl)) (hl _ (getD_mem kl)) e
    · exact O.ntr _ _ _ (hl _ (getD_mem kl)) (hl _ (getD_mem (by lia))) (hl _ (getD_mem (by (exact Nat.lt_of_le_of_lt (Nat.zero_le _) ‹_›)))) (h k h0 kl (Nat.zero_le _)) (ih _ (by lia) (by lia))
end
end Mine
end
section
open PySem PySem.W
set_option Elab.async false
set_option linter.unusedVariables false
set_option linter.unusedSimpArgs false
namespace Mine
noncomputable def U3 (y : FV) : Prop := ∃ a b c d, y = .tup [.int a, .int b, .tup [.int c, .int d]]
noncomputable def U2 (y : FV) : Prop := ∃ a b c, y = .tup [.tup [.int a, .int b], .int c]
noncomputable def IntF (y : FV) : Prop := ∃ a, y = .int a
theorem int_lt (a c : Int) : FV.lt (.int a) (.int c) = decide (a < c) := by simp [FV.lt]
theorem pair_lt (a b c d : Int) : FV.lt (.tup [.int a, .int b]) (.tup [.int c, .int d]) = decide (a < c ∨ (a = c ∧ b < d)) := by
  simp only [FV.lt, ltL, FV.int.injEq]
  by_cases h : a = c
  · by_cases h2 : b = d
    · simp [h, h2]
    · simp [h, h2]
  · simp [h]
theorem lex_asym {a b : Int} {P Q : Prop} (h : a < b ∨ a = b ∧ P) (k : P → ¬ Q) : ¬ (b < a ∨ b = a ∧ Q) := fun q => by
  rcases h with h | ⟨rfl, h⟩
  · exact q.elim (Int.lt_asymm h) fun q => Int.ne_of_lt h q.1.symm
  · exact q.elim (Int.lt_irrefl _) fun q => k h q.2
theorem lex_ref {a b : Int} {P : Prop} (h : a < b ∨ a = b ∧ P) : ¬ b < a := fun z => h.elim (Int.lt_asymm z) fun q => Int.ne_of_lt z q.1.symm
theorem lex_ntr {a b c : Int} {P Q R : Prop} (h1 : ¬ (a < b ∨ a = b ∧ P)) (h2 : ¬ (b < c ∨ b = c ∧ Q)) (k : ¬ P → ¬ Q → ¬ R) : ¬ (a < c ∨ a = c ∧ R) := fun q => by
  have x1 := Int.not_lt.mp fun z => h1 (.inl z)
  have x2 := Int.not_lt.mp fun z => h2 (.inl z)
  rcases q with q | ⟨rfl, q⟩
  · exact Int.not_lt.mpr (Int.le_trans x2 x1) q
  · obtain rfl := Int.le_antisymm x1 x2
    exact k (fun z => h1 (.inr ⟨rfl, z⟩)) (fun z => h2 (.inr ⟨rfl, z⟩)) q
theorem lex_tot {a b : Int} {P Q : Prop} (k : a = b → P ∨ Q) : (a < b ∨ a = b ∧ P) ∨ (b < a ∨ b = a ∧ Q) := by
  rcases Int.lt_trichotomy a b with h | h | h
  · exact .inl (.inl h)
  · exact (k h).imp (fun x => .inr ⟨h, x⟩) fun x => .inr ⟨h.symm, x⟩
  · exact .inr (.inl h)
theorem lex_dec {a b : Int} {P : Prop} [Decidable P] : (if a = b then decide P else decide (a < b)) = decide (a < b ∨ a = b ∧ P) := by by_cases h : a = b <;> simp [h]
theorem u3_lt (a b c d a' b' c' d' : Int) : FV.lt (.tup [.int a, .int b, .tup [.int c, .int d]]) (.tup [.int a', .int b', .tup [.int c', .int d']]) = decide (a < a' ∨ (a = a' ∧ (b < b' ∨ (b = b' ∧ (c < c' ∨ (c = c' ∧ d < d')))))) := by
  have hp := pair_lt c d c' d'
  have he : (FV.tup [.int c, .int d] = .tup [.int c', .int d']) ↔ (c = c' ∧ d = d') := by simp
  generalize hP : FV.tup [.int c, .int d] = P at *
  generalize hQ : FV.tup [.int c', .int d'] = Q at *
  simp only [FV.lt, ltL, FV.int.injEq, hp, he]
  have e : (if c = c' ∧ d = d' then false else decide (c < c' ∨ c = c' ∧ d < d')) = decide (c < c' ∨ c = c' ∧ d < d') := by
    split
    · rename_i q
      exact (decide_eq_false fun z => z.elim (fun z => Int.ne_of_lt z q.1) fun z => Int.ne_of_lt z.2 q.2).symm
    · rfl
  rw [e, lex_dec, lex_dec]
theorem u2_lt (a b c a' b' c' : Int) : FV.lt (.tup [.tup [.int a, .int b], .int c]) (.tup [.tup [.int a', .int b'], .int c']) = decide (a < a' ∨ (a = a' ∧ (b < b' ∨ (b = b' ∧ c < c')))) := by
  have hp := pair_lt a b a' b'
  have he : (FV.tup [.int a, .int b] = .tup [.int a', .int b']) ↔ (a = a' ∧ b = b') := by simp
  generalize hP : FV.tup [.int a, .int b] = P at *
  generalize hQ : FV.tup [.int a', .int b'] = Q at *
  simp only [FV.lt, ltL, FV.int.injEq, hp, he]
  by_cases h : a = a'
  · by_cases h2 : b = b'
    · by_cases h3 : c = c' <;> simp [h, h2, h3]
    · simp [h, h2]
  · simp [h]
theorem ltOk_flip {lt : FV → FV → Bool} {U : FV → Prop} (O : LtOk lt U) : LtOk (fun x y => lt y x) U :=
  ⟨fun x y hx hy h => O.asym y x hy hx h, fun x y z hx hy hz h1 h2 => O.ntr z y x hz hy hx h2 h1⟩
theorem ltOk_int : LtOk FV.lt IntF := by
  constructor
  · rintro _ _ ⟨a, rfl⟩ ⟨c, rfl⟩ h
    rw [int_lt, decide_eq_true_eq] at h; rw [int_lt, decide_eq_false_iff_not]; (exact Int.lt_asymm ‹_›)
  · rintro _ _ _ ⟨a, rfl⟩ ⟨c, rfl⟩ ⟨e, rfl⟩ h1 h2
    rw [int_lt, decide_eq_false_iff_not] at *; lia
theorem ltOk_pair : LtOk FV.lt PairF := by
  constructor
  · (rintro _ _ zq1 zq2 h; refine oEE zq1 ?_; clear zq1; rintro a b rfl; refine oEE zq2 ?_; clear zq2; rintro c d rfl)
    rw [pair_lt, decide_eq_true_eq] at h; rw [pair_lt, decide_eq_false_iff_not]; exact lex_asym h Int.lt_asymm
  · (rintro _ _ _ zq1 zq2 zq3 h1 h2; refine oEE zq1 ?_; clear zq1; rintro a b rfl; refine oEE zq2 ?_; clear zq2; rintro c d rfl; refine oEE zq3 ?_; clear zq3; rintro e f rfl)
    rw [pair_lt, decide_eq_false_iff_not] at *; exact lex_ntr h1 h2 fun h1 h2 => Int.not_lt.mpr (Int.le_trans (Int.not_lt.mp h2) (Int.not_lt.mp h1))
theorem ltOk_u3 : LtOk FV.lt U3 := by
  constructor
  · (rintro _ _ zq1 zq2 h; refine oEEEE zq1 ?_; clear zq1; rintro a b c d rfl; refine oEEEE zq2 ?_; clear zq2; rintro a' b' c' d' rfl)
    rw [u3_lt, decide_eq_true_eq] at h; rw [u3_lt, decide_eq_false_iff_not]; exact lex_asym h fun h => lex_asym h fun h => lex_asym h Int.lt_asymm
  · (rintro _ _ _ zq1 zq2 zq3 h1 h2; refine oEEEE zq1 ?_; clear zq1; rintro a b c d rfl; refine oEEEE zq2 ?_; clear zq2; rintro a' b' c' d' rfl; refine oEEEE zq3 ?_; clear zq3; rintro a2 b2 c2 d2 rfl)
    rw [u3_lt, decide_eq_false_iff_not] at *; exact lex_ntr h1 h2 fun h1 h2 => lex_ntr h1 h2 fun h1 h2 => lex_ntr h1 h2 fun h1 h2 => Int.not_lt.mpr (Int.le_trans (Int.not_lt.mp h2) (Int.not_lt.mp h1))
theorem ltOk_u2 : LtOk FV.lt U2 := by
  constructor
  · (rintro _ _ zq1 zq2 h; refine oEEE zq1 ?_; clear zq1; rintro a b c rfl; refine oEEE zq2 ?_; clear zq2; rintro a' b' c' rfl)
    rw [u2_lt, decide_eq_true_eq] at h; rw [u2_lt, decide_eq_false_iff_not]; exact lex_asym h fun h => lex_asym h Int.lt_asymm
  · (rintro _ _ _ zq1 zq2 zq3 h1 h2; refine oEEE zq1 ?_; clear zq1; rintro a b c rfl; refine oEEE zq2 ?_; clear zq2; rintro a' b' c' rfl; refine oEEE zq3 ?_; clear zq3; rintro a2 b2 c2 rfl)
    rw [u2_lt, decide_eq_false_iff_not] at *; exact lex_ntr h1 h2 fun h1 h2 => lex_ntr h1 h2 fun h1 h2 => Int.not_lt.mpr (Int.le_trans (Int.not_lt.mp h2) (Int.not_lt.mp h1))
theorem cmpU_int : CmpU IntF := by rintro _ _ ⟨a, rfl⟩ ⟨c, rfl⟩; simp [CmpF]
theorem cmpU_pair : CmpU PairF := by
  (rintro _ _ zq1 zq2; refine oEE zq1 ?_; clear zq1; rintro a b rfl; refine oEE zq2 ?_; clear zq2; rintro c d rfl)
  simp [CmpF, CmpF.CmpFs, okF]
theorem cmpU_u3 : CmpU U3 := by
  (rintro _ _ zq1 zq2; refine oEEEE zq1 ?_; clear zq1; rintro a b c d rfl; refine oEEEE zq2 ?_; clear zq2; rintro a' b' c' d' rfl)
  simp [CmpF, CmpF.CmpFs, okF]
theorem cmpU_u2 : CmpU U2 := by
  (rintro _ _ zq1 zq2; refine oEEE zq1 ?_; clear zq1; rintro a b c rfl; refine oEEE zq2 ?_; clear zq2; rintro a' b' c' rfl)
  simp [CmpF, CmpF.CmpFs, okF]
theorem ord_of {U : FV → Prop} (O : LtOk FV.lt U) {l : List FV} (hl : ∀ x ∈ l, U x) : Ord (cmpF l) := by
  constructor
  · intro i j h
    unfold cmpF at h ⊢
    by_cases hi : i < l.length
    · by_cases hj : j < l.length
      · rw [if_pos hi, if_pos hj] at h; rw [if_pos hj, if_pos hi]
        exact O.asym _ _ (hl _ (getD_mem hi)) (hl _ (getD_mem hj)) h
      · rw [if_neg hj]
    · rw [if_neg hi] at h; cases h
  · intro i j k h1 h2
    unfold cmpF at h1 h2 ⊢
    by_cases hi : i < l.length
    · rw [if_pos hi] at h1 ⊢
      by_cases hj : j < l.length
      · rw [if_pos hj] at h1 h2
        by_cases hk : k < l.length
        · rw [if_pos hk] at h2 ⊢
          exact O.ntr _ _ _ (hl _ (getD_mem hi)) (hl _ (getD_mem hj)) (hl _ (getD_mem hk)) h1 h2
        · rw [if_neg hk] at h2; cases h2
      · rw [if_neg hj] at h1; cases h1
    · rw [if_neg hi]
theorem mem_katRev {b : Bool} {l : List FV} {x : FV} : x ∈ katRev b l ↔ x ∈ l := by cases b <;> simp [katRev]
end Mine
end
section
open PySem PySem.W PySem.Calls PyProof.Rows
set_option Elab.async false
set_option maxRecDepth 100000
set_option linter.unusedVariables false
set_option linter.unusedSimpArgs false
namespace Mine
noncomputable def untup : FV → List FV
  | .tup m => m
  | _ => []
theorem untup_map {l : List FV} (h : ∀ x ∈ l, ∃ m, x = .tup m) : (l.map untup).map .tup = l := by
  induction l with
  | nil => rfl
  | cons x l ih =>
    obtain ⟨m, rfl⟩ := h x (.head _)
    simp only [List.map_cons, untup, ih fun y hy => h y (.tail _ hy)]
section
variable {prog : Program} {w : World}
theorem keyed_u3 {l : List FV} (h : ∀ x ∈ l, U3 x) : ∀ A s' ks, A.units + 80 < cLine → RepFs s'.heap l ks → Keyed' prog w A s' ks l (tuples' true) := by
  intro A s' ks hu hr
  have e := untup_map (l := l) fun x hx => let ⟨a, b, c, d, q⟩ := h x hx; ⟨_, q⟩
  have hm : ∀ m ∈ l.map untup, ∃ a b c d, m = [.int a, .int b, .tup [.int c, .int d]] := fun m hm => by
    (refine oEA (List.mem_map.mp hm) ?_; rintro x hx rfl)
    (refine oEEEE (h x hx) ?_; rintro a b c d rfl)
    exact (iEEEE a b c d rfl)
  have := keyed_tups (prog := prog) (w := w) (A := A) (s := s') (ks := ks) (ls := l.map untup) (bb := true) (by rw [e]; exact hr) hu (fun l1 h1 m1 h2 => by
    (refine oEEEE (hm l1 h1) ?_; rintro a b c d rfl)
    (refine oEEEE (hm m1 h2) ?_; rintro a' b' c' d' rfl)
    simp [CmpF, CmpF.CmpFs, okF]) (fun l1 h1 => by
    (refine oEEEE (hm l1 h1) ?_; rintro a b c d rfl)
    exact (iEEA _ _ rfl (by simp)))
  rw [e] at this; exact this
theorem keyed_u2 {l : List FV} (h : ∀ x ∈ l, U2 x) : ∀ A s' ks, A.units + 80 < cLine → RepFs s'.heap l ks → Keyed' prog w A s' ks l (tuples' false) := by
  intro A s' ks hu hr
  have e := untup_map (l := l) fun x hx => let ⟨a, b, c, q⟩ := h x hx; ⟨_, q⟩
  have hm : ∀ m ∈ l.map untup, ∃ a b c, m = [.tup [.int a, .int b], .int c] := fun m hm => by
    (refine oEA (List.mem_map.mp hm) ?_; rintro x hx rfl)
    (refine oEEE (h x hx) ?_; rintro a b c rfl)
    exact (iEEE a b c rfl)
  have := keyed_tups (prog := prog) (w := w) (A := A) (s := s') (ks := ks) (ls := l.map untup) (bb := false) (by rw [e]; exact hr) hu (fun l1 h1 m1 h2 => by
    (refine oEEE (hm l1 h1) ?_; rintro a b c rfl)
    (refine oEEE (hm m1 h2) ?_; rintro a' b' c' rfl)
    simp [CmpF, CmpF.CmpFs, okF]) (fun l1 h1 => by
    (refine oEEE (hm l1 h1) ?_; rintro a b c rfl)
    exact (iEEA _ _ rfl (by simp)))
  rw [e] at this; exact this
theorem keyed_pair {l : List FV} (h : ∀ x ∈ l, PairF x) : ∀ A s' ks, A.units + 80 < cLine → RepFs s'.heap l ks → Keyed' prog w A s' ks l (tuples' true) := by
  intro A s' ks hu hr
  have e := untup_map (l := l) fun x hx => let ⟨a, b, q⟩ := h x hx; ⟨_, q⟩
  have hm : ∀ m ∈ l.map untup, ∃ a b, m = [.int a, .int b] := fun m hm => by
    (refine oEA (List.mem_map.mp hm) ?_; rintro x hx rfl)
    (refine oEE (h x hx) ?_; rintro a b rfl)
    exact (iEE a b rfl)
  have := keyed_tups (prog := prog) (w := w) (A := A) (s := s') (ks := ks) (ls := l.map untup) (bb := true) (by rw [e]; exact hr) hu (fun l1 h1 m1 h2 => by
    (refine oEE (hm l1 h1) ?_; rintro a b rfl)
    (refine oEE (hm m1 h2) ?_; rintro a' b' rfl)
    simp [CmpF, CmpF.CmpFs, okF]) (fun l1 h1 => by
    (refine oEE (hm l1 h1) ?_; rintro a b rfl)
    exact (iEEA _ _ rfl (by simp)))
  rw [e] at this; exact this
theorem keyed_int {l : List FV} (h : ∀ x ∈ l, IntF x) : ∀ A s' ks, A.units + 80 < cLine → RepFs s'.heap l ks → Keyed' prog w A s' ks l oneType' := by
  intro A s' ks hu hr
  obtain ⟨ns, rfl⟩ : ∃ ns : List Int, l = ns.map .int := by
    clear hr
    induction l with
    | nil => exact ⟨[], rfl⟩
    | cons x l ih =>
      obtain ⟨a, rfl⟩ := h x (.head _)
      obtain ⟨ns, rfl⟩ := ih fun y hy => h y (.tail _ hy)
      exact ⟨a :: ns, rfl⟩
  exact keyed_ints hr
end
section
variable {X : Fx} {st : St}
theorem pn_if {t e f : Expr} {pos : Pos} {b : Bool} {l : List FV} (ht : PT X st t b) (h1 : b = true → PN X st e l) (h2 : b = false → PN X st f l) : PN X st (.IfExp t e f pos) l := fun ρ s R => by
  refine wpAny_IfExp (wpAny_mono (ht ρ s R) (fun b' s₁ k => ?_) fun _ _ h => h)
  obtain ⟨rfl, G⟩ := k
  have go : ∀ e, PN X st e l → wpAny X.M X.A (eval e X.env) (fun v s' => X.G s s' ∧ ∃ a items, v = .ref a ∧ s.heap.get? a = none ∧ s'.heap.PlainList a items ∧ RepFs s'.heap l items.toList) NoE s₁ := fun e h =>
    wpAny_mono (h ρ s₁ (R.grow G)) (fun v s' ⟨G', a, items, e, hn, h⟩ => (iAEEAA (G.trans G') a items e ((R.ext G).none hn) h)) fun _ _ x => x
  cases b' with
  | true => exact go e (h1 rfl)
  | false => exact go f (h2 rfl)
theorem ws1_compZ' {ts : List Expr} {tc : Nat} {tp : Pos} {elt rE iE : Expr} {sc : Scope} {pos spos zp cp : Pos} {y : Str} {py : Pos} {k m : Nat} {l : List FV} {a b c : Int} {f : FV → FV} {Q : AF → St → Prop}
    (hm : (Builtin.Range.rangeSize a b c).toNat = m) (hf : PE X st (.Name "zip" zp) (.val (.type "zip"))) (hr : PRng X st rE a b c) (hsm : Builtin.Range.small a b c = true) (hi : PE X st iE (.obj k)) (hk : st.hp[k]? = some (.iter l)) (hp : ∀ e ∈ l, PairF e)
    (h : ZipOk X st ts tc tp (.Call (.Name "zip" zp) [rE, iE] [] cp) elt sc (zipL a c m l) f) (hy : X.env.kindOf y = some .local)
    (q : Q .next (St.set ⟨st.loc, st.hp.set k (zipEnd m l) ++ [.list ((zipL a c m l).map f)]⟩ y (.obj st.hp.length)))
    (hsw : swapsWith (.ListComp elt [⟨.Tuple ts tc tp, .Call (.Name "zip" zp) [rE, iE] [] cp, [], 0⟩] sc pos) (some (.Name y py)) spos.line X.env = pure true)
    (hst : starEach [rE, iE] X.env = [(false, eval rE X.env), (false, eval iE X.env)] := by rfl) (hs : ∀ x, foldedSetIterable (.Call (.Name "zip" zp) [rE, iE] [] cp) X.env x = pure x := by intro _; rfl) :
    WS1 X (.Assign [.Name y py] (.ListComp elt [⟨.Tuple ts tc tp, .Call (.Name "zip" zp) [rE, iE] [] cp, [], 0⟩] sc pos) spos) st Q := by
  subst hm
  exact ws1_compZ hf hr hsm hi hk hp h hy q hsw hst hs
end
/- the first of a tuple -/
noncomputable def fstF : FV → FV
  | .tup (a :: _) => a
  | _ => .none
/- the things with their keys, as they are drawn -/
noncomputable def dec3 (key : FV → FV) : FV → FV
  | .tup [i, e] => .tup [key e, i, e]
  | _ => .none
noncomputable def dec2 : FV → FV
  | .tup [i, e] => .tup [e, i]
  | _ => .none
noncomputable def el3 : FV → FV
  | .tup [_, _, c] => c
  | _ => .none
noncomputable def el2 : FV → FV
  | .tup [a, _] => a
  | _ => .none
/- the loop of nsmallest and nlargest -/
noncomputable def nsLoop (hlt better : FV → FV → Bool) (key : FV → FV) (dec : FV → Int → FV) (step : Int) : List FV → Int → List FV → List FV
  | h, _, [] => h
  | h, o, e :: es => if better (key e) (fstF (h.getD 0 .none)) then nsLoop hlt better key dec step (su hlt (h.set 0 (dec e o)) 0) (o + step) es else nsLoop hlt better key dec step h o es
theorem zipL_mem {x c : Int} {y : FV} : ∀ {n : Nat} {es : List FV} {x : Int}, y ∈ zipL x c n es → ∃ i e, y = .tup [.int i, e] ∧ e ∈ es
  | 0, es, x, h => by simp [zipL] at h
  | n + 1, [], x, h => by simp [zipL] at h
  | n + 1, e :: es, x, h => by
    simp only [zipL, List.mem_cons] at h
    rcases h with rfl | h
    · exact (iEEA x e rfl (.head _))
    · (refine oEEA (zipL_mem (x := x) h) ?_; rintro i e' q hm); exact (iEEA i e' q (.tail _ hm))
theorem zipL_len {x c : Int} : ∀ {n : Nat} {es : List FV} {x : Int}, (zipL x c n es).length = min n es.length
  | 0, es, x => by simp [zipL]
  | n + 1, [], x => by simp [zipL]
  | n + 1, e :: es, x => by simp [zipL, zipL_len (x := x)]
theorem zipEnd_eq : ∀ (n : Nat) (es : List FV), zipEnd n es = .iter (es.drop n) ∨ (zipEnd n es = .fin ∧ es.drop n = [])
  | 0, es => .inl rfl
  | n + 1, [] => .inr ⟨rfl, rfl⟩
  | n + 1, e :: es => by simpa [zipEnd] using zipEnd_eq n es
end Mine
end
section
open PySem PySem.W PySem.Calls PyProof.Rows
set_option Elab.async false
set_option maxRecDepth 100000
set_option linter.unusedVariables false
set_option linter.unusedSimpArgs false
namespace Mine
theorem seq_rngR (n : Nat) (h : n ≤ 2 ^ 20) : Builtin.Range.small 0 (-(n : Int)) (-1) = true ∧ (Builtin.Range.rangeSize 0 (-(n : Int)) (-1)).toNat = n := by
  have e : Builtin.Range.rangeSize 0 (-(n : Int)) (-1) = n := by
    unfold Builtin.Range.rangeSize
    rw [if_neg (by decide)]
    split
    · rw [show (- -1 : Int) = 1 from rfl, Int.ediv_one]; lia
    · lia
  refine ⟨?_, by rw [e]; simp⟩
  unfold Builtin.Range.small
  rw [e, fitsL (i := 0) (by lia) (by lia), fitsL (i := -(n : Int)) (by lia) (by lia), fitsL (i := -1) (by lia) (by lia), fitsL (i := (n : Int)) (by lia) (by lia), if_neg (by lia), fitsL (i := -(n : Int) + (-1 + 1)) (by lia) (by lia)]
  simp
theorem lt_false_ne {l : List FV} (h : (!(!l.isEmpty)) = false) : l ≠ [] := by cases l <;> simp_all
theorem lt_true_nil {l : List FV} (h : (!(!l.isEmpty)) = true) : l = [] := by cases l <;> simp_all

/- the heap that is left -/
noncomputable def nsFin (key : FV → FV) (n : Nat) (l : List FV) : List FV :=
  nsLoop gtF FV.lt key (fun e o => .tup [key e, .int o, e]) (1) (hyGo gtF (((zipL 0 (1) n l).map (dec3 key)).length / 2) ((zipL 0 (1) n l).map (dec3 key))) ((n : Int)) (l.drop n)
noncomputable def nsPost (n : Nat) (l srt : List FV) (af : AF) (st' : St) : Prop :=
  (zipL 0 (1) n l = [] ∧ af = .ret (.obj 1) ∧ ∃ o, st'.hp = [o, .list []]) ∨ (zipL 0 (1) n l ≠ [] ∧ af = .ret (.lst (srt.map el3)) ∧ ∃ o, st'.hp = [.junk, o])
theorem nsK_rest {X : Fx} (hn : 3 ≤ X.n) (hB : BiOk X.toWx) {fsd fsu fhy fhr : Addr} (hsd : FnOk X.toWx 9 "_siftdown_max" .none .none fsd) (hsu : FnOk X.toWx 10 "_siftup_max" .none .none fsu) (hhr : FnOk X.toWx 5 "_heapreplace_max" .none .none fhr) (hhy : FnOk X.toWx 6 "_heapify_max" .none .none fhy)
    {n m : Nat} {l srt : List FV} {ps : Arguments} {le : Expr} {sc : Scope} {key : FV → FV} (hkey : ∀ e ∈ l, PairF e ∧ IntF (key e) ∧ LamGives X.toWx ps le sc m e (key e)) (hm : m ≤ X.n) (hnb : n ≤ 60) (hlen : l.length ≤ 60)
    (hout : zipL 0 (1) n l ≠ [] → SOut id false (nsFin key n l) srt) {L f : Addr} {cd : Value} (he : X.env = envOf "nsmallest" (dSco 11) L f cd) :
    WS X ((dBody 11).drop 4) ⟨[("n", .f (.int n)), ("key", .lam ps le sc), ("it", .obj 0)], [.iter l]⟩ (nsPost n l srt) := by
  have hk : ∀ x, X.env.kindOf x = (dSco 11).names.lookup x := fun x => by rw [he]; rfl
  have hz60 : (zipL 0 (1) n l).length ≤ 60 := by rw [zipL_len (x := 0)]; lia
  refine ws_cons (ws1_compZ' (m := n) (f := dec3 key) (by rw [(seq_rng n (by (exact Nat.le_trans ‹_› (by decide)))).2]; simp) (pe_glo ((hk _).trans rfl) hB.zip) (prng1 (pe_glo ((hk _).trans rfl) hB.range) (pe_loc rfl)) (seq_rng n (by lia)).1 (pe_loc rfl) rfl (fun e h => (hkey e h).1) ⟨rfl, ?_, ?_, (iEEAAAAA ([("key", L + 1)]) ([("key", .lam ps le sc)]) (by rw [he]; rfl) ?_ (by simp) ?_ ?_ ?_), ?_⟩ ((hk _).trans rfl) ?_ (by rw [he]; rfl))
  · intro x hx
    simp only [List.mem_cons, List.not_mem_nil, or_false] at hx
    rcases hx with rfl | rfl | rfl | rfl <;> simp
  · intro x hx _
    simp only [List.mem_cons, List.not_mem_nil, or_false] at hx
    rcases hx with rfl | rfl | rfl | rfl
    · rfl
    · rfl
    · rfl
    · rename_i h; cases h
  · intro x hx
    rw [List.mem_singleton.mp hx, he]
    exact .head _
  · intro y av hy
    simp only [List.lookup_cons, List.lookup_nil] at hy
    by_cases q : y = Str.ofString "key"
    · subst q
      cases hy
      exact (iEEAAAAA (.lam ps le sc) (L + 1) rfl rfl (by rw [he]; rfl) rfl (by rw [he]; rfl) (.inl (by rw [he]; rfl)))
    · simp only [beq_eq_false_iff_ne.mpr q] at hy; cases hy
  · intro y av hy
    simp only [List.lookup_cons, List.lookup_nil] at hy
    by_cases q : y = Str.ofString "key"
    · subst q
      cases hy
      exact trivial
    · simp only [beq_eq_false_iff_ne.mpr q] at hy; cases hy
  · intro C x built hx
    (refine oEEA (zipL_mem (x := 0) hx) ?_; rintro i e rfl hem)
    (refine oAA (hkey e hem) ?_; rintro ⟨ea, eb, he1⟩ ⟨kz, hkz⟩ hlam)
    refine (iEAAAA _ (atl_pair (by show (relabel _ X.env).names.lookup _ = _; rw [he]; rfl) (by show (relabel _ X.env).names.lookup _ = _; rw [he]; rfl)) (pe_tuple (l := [key e, .int i, e]) (.cons (pe_lamcall (pe_loc rfl) (pe_loc rfl) hlam hm) (.cons (pe_loc rfl) (.cons (pe_loc rfl) .nil rfl) rfl) rfl) (by simp)) ?_ rfl ?_)
    · show ZGood (.tup [key e, .int i, e])
      rw [hkz, he1]; exact .inr (.inr (.inr (iEEEE _ _ _ _ rfl)))
    · intro y av hy
      simp only [List.lookup_cons, List.lookup_nil] at hy
      by_cases q : y = Str.ofString "key"
      · subst q
        cases hy
        rfl
      · simp only [beq_eq_false_iff_ne.mpr q] at hy; cases hy
  · (exact Nat.le_trans ‹_› (by decide))
  have hu3 : ∀ x ∈ (zipL 0 (1) n l).map (dec3 key), U3 x := fun x hx => by
    (refine oEA (List.mem_map.mp hx) ?_; rintro y hy rfl)
    (refine oEEA (zipL_mem (x := 0) hy) ?_; rintro i e rfl hem)
    (refine oAA (hkey e hem) ?_; rintro ⟨ea, eb, he1⟩ ⟨kz, hkz⟩ hlam)
    subst he1
    exact (iEEEE kz i ea eb (by simp only [dec3, hkz]))
  have hl60 : ((zipL 0 (1) n l).map (dec3 key)).length ≤ 60 := by simpa using hz60
  refine ws_cons (ws1_if (pt_not (pt_val (pe_loc rfl) (to_list rfl (by (exact Nat.le_trans ‹_› (by decide)))))) (fun ht => ?_) fun ht => ?_)
  · have h0 := lt_true_nil ht
    refine ws_one (ws1_return (pe_loc rfl) rfl (.inl (iAAE (by simpa using h0) rfl (zipEnd n l) ?_)))
    show [zipEnd n l, AO.list ((zipL 0 (1) n l).map (dec3 key))] = _
    rw [h0]
  · have hne := lt_false_ne ht
    have hzne : zipL 0 (1) n l ≠ [] := fun q => hne (by rw [q]; rfl)
    have hout := hout hzne
    unfold nsFin at hout
    have hhl := hyGo_len gtF (((zipL 0 (1) n l).map (dec3 key)).length / 2) ((zipL 0 (1) n l).map (dec3 key)) (by lia)
    have hhu : ∀ x ∈ hyGo gtF (((zipL 0 (1) n l).map (dec3 key)).length / 2) ((zipL 0 (1) n l).map (dec3 key)), U3 x := fun x hx => hu3 x ((hyGo_perm gtF _ _ (by lia)).mem_iff.mp hx)
    have hpos : 0 < ((zipL 0 (1) n l).map (dec3 key)).length := List.length_pos_iff.mpr hne
    refine ws_nil ?_
    refine ws_cons (ws1_expr (we_call (pe_glo ((hk _).trans rfl) hhy.gl) hhy.fo (.cons (pe_loc rfl) .nil rfl) .nil (con_hy_max hB hsd hsu hhy cmpU_u3 (fun l k h hk => su_U gtF l k h hk) hu3 (by (exact Nat.le_trans ‹_› (by decide))) 0) hn (ks := [1]) (by decide) rfl rfl rfl ?_ ?_) X.notInteractive)
    · rintro a hp' ⟨rfl, rfl⟩; rfl
    rintro a hp' ⟨rfl, rfl⟩
    generalize hyGo gtF (((zipL 0 (1) n l).map (dec3 key)).length / 2) ((zipL 0 (1) n l).map (dec3 key)) = h0 at hout hhl hhu
    generalize ((zipL 0 (1) n l).map (dec3 key)) = hz at *
    have hget : ∀ (h : List FV), 0 < h.length → (∀ x ∈ h, U3 x) → ∃ a b c d, h.getD 0 .none = .tup [.int a, .int b, .tup [.int c, .int d]] := fun h h1 h2 => h2 _ (getD_mem h1)
    (refine oEEEE (hget h0 (by (exact Nat.lt_of_lt_of_eq ‹_› (Eq.symm ‹_›))) hhu) ?_; rintro a0 b0 c0 d0 e0)
    refine ws_cons (ws1_assign (av := .f (fstF (h0.getD 0 .none))) (.inl ((hk _).trans rfl)) (PE.to (pe_tupitem (l := [.int a0, .int b0, .tup [.int c0, .int d0]]) (k := 0) (PE.to (pe_itemN (l := h0) (k := 0) (pe_loc rfl) pe_int (getD_some (by lia)) (by (exact Nat.le_trans (Nat.le_of_eq ‹_›) (Nat.le_trans ‹_› (by decide))))) (by rw [e0])) pe_int rfl (by simp)) (by rw [e0]; rfl)) ?_)
    refine ws_cons (ws1_assign (.inl ((hk _).trans rfl)) (pe_loc rfl) ?_)
    refine ws_cons (ws1_assign (.inl ((hk _).trans rfl)) (pe_glo ((hk _).trans rfl) hhr.gl) ?_)
    have hI0 : ∃ (h : List FV) (o : Int) (rest : List FV) (ao : AO), (l.drop n).length = rest.length ∧ (ao = .iter rest ∨ (ao = .fin ∧ rest = [])) ∧ (∀ x ∈ h, U3 x) ∧ h.length = h0.length ∧ nsLoop gtF FV.lt key (fun e o => .tup [key e, .int o, e]) (1) h o rest = nsLoop gtF FV.lt key (fun e o => .tup [key e, .int o, e]) (1) h0 ((n : Int)) (l.drop n) ∧ (∀ e ∈ rest, e ∈ l) ∧
        (⟨[("n", .f (.int n)), ("key", .lam ps le sc), ("it", .obj 0), ("result", .obj 1), ("top", .f (fstF (h0.getD 0 .none))), ("order", .f (.int ((n : Int)))), ("_heapreplace", .val (.ref fhr))], [zipEnd n l, .list h0]⟩ : St) = ⟨[("n", .f (.int n)), ("key", .lam ps le sc), ("it", .obj 0), ("result", .obj 1), ("top", .f (fstF (h.getD 0 .none))), ("order", .f (.int o)), ("_heapreplace", .val (.ref fhr))], [ao, .list h]⟩ :=
      (iEEEEAAAAAA h0 _ (l.drop n) (zipEnd n l) rfl (zipEnd_eq n l) hhu rfl rfl (fun e he => List.mem_of_mem_drop he) rfl)
    refine ws_cons (ws1_for 0 (fun mm st => ∃ (h : List FV) (o : Int) (rest : List FV) (ao : AO), mm = rest.length ∧ (ao = .iter rest ∨ (ao = .fin ∧ rest = [])) ∧ (∀ x ∈ h, U3 x) ∧ h.length = h0.length ∧ nsLoop gtF FV.lt key (fun e o => .tup [key e, .int o, e]) (1) h o rest = nsLoop gtF FV.lt key (fun e o => .tup [key e, .int o, e]) (1) h0 ((n : Int)) (l.drop n) ∧ (∀ e ∈ rest, e ∈ l) ∧
        st = ⟨[("n", .f (.int n)), ("key", .lam ps le sc), ("it", .obj 0), ("result", .obj 1), ("top", .f (fstF (h.getD 0 .none))), ("order", .f (.int o)), ("_heapreplace", .val (.ref fhr))], [ao, .list h]⟩) (l.drop n).length ?_ ?_)
    · rcases zipEnd_eq n l with q | ⟨q, _⟩
      · exact wi_own (l := l.drop n) (pe_loc rfl) (by show some (zipEnd n l) = _; rw [q]) ⟨rfl, hI0⟩
      · exact wi_fin (pe_loc rfl) (by show some (zipEnd n l) = _; rw [q]) ⟨rfl, hI0⟩
    clear hI0
    (rintro mm st zq1; refine oEEEEAAAAAA zq1 ?_; clear zq1; rintro h o rest ao rfl hao hhu' hhl' hgo hrest rfl)
    refine (iEAA ao rfl (by rcases hao with rfl | ⟨rfl, _⟩ <;> rfl) ?_)
    rcases rest with _ | ⟨e, es⟩
    ·
      have hd : draw ao = none := by rcases hao with rfl | ⟨rfl, _⟩ <;> rfl
      rw [hd]
      have hfin : h = nsLoop gtF FV.lt key (fun e o => .tup [key e, .int o, e]) (1) h0 ((n : Int)) (l.drop n) := by rw [← hgo]; rfl
      rw [← hfin] at hout
      have hsu3 : ∀ x ∈ srt, U3 x := fun x hx => by
        (refine oEAA hout ?_; try clear hout; rintro p hp _ rfl)
        have : x ∈ h := by
          simp only [sortOut, mem_katRev, List.mem_map] at hx
          (refine oEA hx ?_; try clear hx; rintro i hi rfl)
          have hi' := List.mem_range.mp (hp.mem_iff.mp hi)
          exact mem_katRev.mp (getD_mem (by rw [kat_len]; exact hi'))
        exact hhu' x this
      refine ws_cons (ws1_expr (we_sort (l := h) (pe_loc rfl) rfl (by lia) (ord_of ltOk_u3 hhu') (keyed_u3 hhu') hout ?_) X.notInteractive)
      refine ws_one (ws1_returnN (pn_comp (l := srt) (p := fun _ => true) (f := el3) ⟨cs_list (pe_loc rfl) rfl, rfl, ?_, ?_, (iEEAAAA ([]) ([]) (by rw [he]; rfl) ((fun _ h => nomatch h)) (by simp) (fun _ _ h => by simp at h) ?_), by have := hout.length; lia⟩) (.inr (iAAE hzne ?_ _ rfl)))
      · intro x hx
        simp only [List.mem_cons, List.not_mem_nil, or_false] at hx
        rcases hx with rfl | rfl | rfl | rfl <;> simp
      · intro x hx _
        simp only [List.mem_cons, List.not_mem_nil, or_false] at hx
        rcases hx with rfl | rfl | rfl | rfl <;> rfl
      · intro C x built hx
        (refine oEEEE (hsu3 x hx) ?_; rintro a b c d rfl)
        exact (iEAAAA _ (atl_three (by show (relabel _ X.env).names.lookup _ = _; rw [he]; rfl) (by show (relabel _ X.env).names.lookup _ = _; rw [he]; rfl) (by show (relabel _ X.env).names.lookup _ = _; rw [he]; rfl)) (.nil) (fun _ => pe_loc rfl) rfl (fun _ _ h => by simp at h))
      · rw [List.filter_eq_self.mpr (fun _ _ => rfl)]
    ·
      have hao' : ao = .iter (e :: es) := by rcases hao with rfl | ⟨_, h⟩; rfl; cases h
      subst hao'
      (refine oAA (hkey e (hrest e (.head _))) ?_; rintro ⟨ea, eb, he1⟩ ⟨kz, hkz⟩ hlam)
      (refine oEEEE (hget h (by lia) hhu') ?_; rintro a1 b1 c1 d1 e1)
      refine (iAEA rfl _ (at_name (.inl ((hk _).trans rfl))) (ws_weak ?_))
      refine ws_cons (ws1_assign (.inl ((hk _).trans rfl)) (pe_lamcall (pe_loc rfl) (pe_loc rfl) hlam hm) ?_)
      have hfst : IntF (fstF (h.getD 0 .none)) := by rw [e1]; exact ⟨a1, rfl⟩
      refine ws_one (ws1_if (pt_cmp (pe_loc rfl) (pe_loc rfl) (co_lt (cmpU_int _ _ ⟨kz, hkz⟩ hfst) (by (exact Nat.le_add_left _ _)))) (fun ht => ?_) fun ht => ?_)
      · have hdu : U3 (.tup [key e, .int o, e]) := (iEEEE kz o ea eb (by rw [hkz, he1]))
        refine ws_cons (ws1_expr (we_call (pe_loc rfl) hhr.fo (.cons (pe_loc rfl) (.cons (pe_tuple (l := [key e, .int o, e]) (.cons (pe_loc rfl) (.cons (pe_loc rfl) (.cons (pe_loc rfl) .nil rfl) rfl) rfl) (by simp)) .nil rfl) rfl) .nil (con_hr_max hB hsd hsu hhr cmpU_u3 (l := h) (by lia) hhu' hdu (by lia) 0) hn (ks := [1]) (by decide) rfl rfl rfl ?_ ?_) X.notInteractive)
        · rintro a hp' ⟨rfl, rfl⟩; rfl
        rintro a hp' ⟨rfl, rfl⟩
        have hl2 : (su gtF (h.set 0 (.tup [key e, .int o, e])) 0).length = h0.length := by rw [su_len]; simp [hhl']
        have hu2 : ∀ x ∈ su gtF (h.set 0 (.tup [key e, .int o, e])) 0, U3 x := su_U gtF _ 0 (fun y hy => by
          rcases List.mem_or_eq_of_mem_set hy with h | h
          · exact hhu' y h
          · rw [h]; exact hdu) (by simp; lia)
        have hgo2 : nsLoop gtF FV.lt key (fun e o => .tup [key e, .int o, e]) (1) (su gtF (h.set 0 (.tup [key e, .int o, e])) 0) (o + 1) es = nsLoop gtF FV.lt key (fun e o => .tup [key e, .int o, e]) (1) h0 ((n : Int)) (l.drop n) := by
          rw [← hgo]
          conv => rhs; unfold nsLoop
          rw [if_pos (show FV.lt (key e) (fstF (h.getD 0 .none)) = true from ht)]
        generalize su gtF (h.set 0 (.tup [key e, .int o, e])) 0 = h2 at hl2 hu2 hgo2
        (refine oEEEE (hget h2 (by lia) hu2) ?_; rintro a2 b2 c2 d2 e2)
        refine ws_cons (ws1_unpack (x := .tup [.int a2, .int b2, .tup [.int c2, .int d2]]) (PE.to (pe_itemN (l := h2) (k := 0) (pe_loc rfl) pe_int (getD_some (by lia)) (by lia)) (by rw [e2])) (at_three (.inl ((hk _).trans rfl)) (.inl ((hk _).trans rfl)) (.inl ((hk _).trans rfl))) ?_)
        refine ws_one (ws1_iadd (i := o) (j := 1) (.inl ((hk _).trans rfl)) rfl pe_int (iEAAEAEEEEAAAAAA (⟨[("n", .f (.int n)), ("key", .lam ps le sc), ("it", .obj 0), ("result", .obj 1), ("top", .f (fstF (h2.getD 0 .none))), ("order", .f (.int (o + 1))), ("_heapreplace", .val (.ref fhr))], [.iter es, .list h2]⟩) (⟨⟨[], rfl⟩, ⟨rfl, rfl, rfl, rfl, ?_, rfl, rfl, trivial⟩, rfl⟩) (Nat.le_refl _) _ ?_ h2 (o + 1) es (.iter es) rfl (.inl rfl) hu2 hl2 hgo2 (fun e he => hrest e (.tail _ he)) rfl))
        · rw [e2]; rfl
        · simp
      · refine ws_nil (iEAAEAEEEEAAAAAA (⟨[("n", .f (.int n)), ("key", .lam ps le sc), ("it", .obj 0), ("result", .obj 1), ("top", .f (fstF (h.getD 0 .none))), ("order", .f (.int o)), ("_heapreplace", .val (.ref fhr))], [.iter es, .list h]⟩) (⟨⟨[], rfl⟩, ⟨rfl, rfl, rfl, rfl, rfl, rfl, rfl, trivial⟩, rfl⟩) (Nat.le_refl _) _ ?_ h o es (.iter es) rfl (.inl rfl) hhu' hhl' ?_ (fun e he => hrest e (.tail _ he)) rfl)
        · simp
        · rw [← hgo]
          conv => rhs; unfold nsLoop
          rw [if_neg (show ¬ FV.lt (key e) (fstF (h.getD 0 .none)) = true from Bool.eq_false_iff.mp ht)]

/- the heap that is left -/
noncomputable def nlFin (key : FV → FV) (n : Nat) (l : List FV) : List FV :=
  nsLoop FV.lt gtF key (fun e o => .tup [key e, .int o, e]) (-1) (hyGo FV.lt (((zipL 0 (-1) n l).map (dec3 key)).length / 2) ((zipL 0 (-1) n l).map (dec3 key))) (-(n : Int)) (l.drop n)
noncomputable def nlPost (n : Nat) (l srt : List FV) (af : AF) (st' : St) : Prop :=
  (zipL 0 (-1) n l = [] ∧ af = .ret (.obj 1) ∧ ∃ o, st'.hp = [o, .list []]) ∨ (zipL 0 (-1) n l ≠ [] ∧ af = .ret (.lst (srt.map el3)) ∧ ∃ o, st'.hp = [.junk, o])
theorem nlK_rest {X : Fx} (hn : 3 ≤ X.n) (hB : BiOk X.toWx) {fsd fsu fhy fhr : Addr} (hsd : FnOk X.toWx 7 "_siftdown" .none .none fsd) (hsu : FnOk X.toWx 8 "_siftup" .none .none fsu) (hhr : FnOk X.toWx 2 "heapreplace" .none .none fhr) (hhy : FnOk X.toWx 4 "heapify" .none .none fhy)
    {n m : Nat} {l srt : List FV} {ps : Arguments} {le : Expr} {sc : Scope} {key : FV → FV} (hkey : ∀ e ∈ l, PairF e ∧ IntF (key e) ∧ LamGives X.toWx ps le sc m e (key e)) (hm : m ≤ X.n) (hnb : n ≤ 60) (hlen : l.length ≤ 60)
    (hout : zipL 0 (-1) n l ≠ [] → SOut id true (nlFin key n l) srt) {L f : Addr} {cd : Value} (he : X.env = envOf "nlargest" (dSco 12) L f cd) :
    WS X ((dBody 12).drop 4) ⟨[("n", .f (.int n)), ("key", .lam ps le sc), ("it", .obj 0)], [.iter l]⟩ (nlPost n l srt) := by
  have hk : ∀ x, X.env.kindOf x = (dSco 12).names.lookup x := fun x => by rw [he]; rfl
  have hz60 : (zipL 0 (-1) n l).length ≤ 60 := by rw [zipL_len (x := 0)]; lia
  refine ws_cons (ws1_compZ' (m := n) (f := dec3 key) (seq_rngR n (by lia)).2 (pe_glo ((hk _).trans rfl) hB.zip) (prng3 (pe_glo ((hk _).trans rfl) hB.range) pe_int (pe_neg (pe_loc rfl)) (pe_neg pe_int) (by decide) (PyProof.noPylong_small (by decide))) (seq_rngR n (by lia)).1 (pe_loc rfl) rfl (fun e h => (hkey e h).1) ⟨rfl, ?_, ?_, (iEEAAAAA ([("key", L + 1)]) ([("key", .lam ps le sc)]) (by rw [he]; rfl) ?_ (by simp) ?_ ?_ ?_), ?_⟩ ((hk _).trans rfl) ?_ (by rw [he]; rfl))
  · intro x hx
    simp only [List.mem_cons, List.not_mem_nil, or_false] at hx
    rcases hx with rfl | rfl | rfl | rfl <;> simp
  · intro x hx _
    simp only [List.mem_cons, List.not_mem_nil, or_false] at hx
    rcases hx with rfl | rfl | rfl | rfl
    · rfl
    · rfl
    · rfl
    · rename_i h; cases h
  · intro x hx
    rw [List.mem_singleton.mp hx, he]
    exact .head _
  · intro y av hy
    simp only [List.lookup_cons, List.lookup_nil] at hy
    by_cases q : y = Str.ofString "key"
    · subst q
      cases hy
      exact (iEEAAAAA (.lam ps le sc) (L + 1) rfl rfl (by rw [he]; rfl) rfl (by rw [he]; rfl) (.inl (by rw [he]; rfl)))
    · simp only [beq_eq_false_iff_ne.mpr q] at hy; cases hy
  · intro y av hy
    simp only [List.lookup_cons, List.lookup_nil] at hy
    by_cases q : y = Str.ofString "key"
    · subst q
      cases hy
      exact trivial
    · simp only [beq_eq_false_iff_ne.mpr q] at hy; cases hy
  · intro C x built hx
    (refine oEEA (zipL_mem (x := 0) hx) ?_; rintro i e rfl hem)
    (refine oAA (hkey e hem) ?_; rintro ⟨ea, eb, he1⟩ ⟨kz, hkz⟩ hlam)
    refine (iEAAAA _ (atl_pair (by show (relabel _ X.env).names.lookup _ = _; rw [he]; rfl) (by show (relabel _ X.env).names.lookup _ = _; rw [he]; rfl)) (pe_tuple (l := [key e, .int i, e]) (.cons (pe_lamcall (pe_loc rfl) (pe_loc rfl) hlam hm) (.cons (pe_loc rfl) (.cons (pe_loc rfl) .nil rfl) rfl) rfl) (by simp)) ?_ rfl ?_)
    · show ZGood (.tup [key e, .int i, e])
      rw [hkz, he1]; exact .inr (.inr (.inr (iEEEE _ _ _ _ rfl)))
    · intro y av hy
      simp only [List.lookup_cons, List.lookup_nil] at hy
      by_cases q : y = Str.ofString "key"
      · subst q
        cases hy
        rfl
      · simp only [beq_eq_false_iff_ne.mpr q] at hy; cases hy
  · (exact Nat.le_trans ‹_› (by decide))
  have hu3 : ∀ x ∈ (zipL 0 (-1) n l).map (dec3 key), U3 x := fun x hx => by
    (refine oEA (List.mem_map.mp hx) ?_; rintro y hy rfl)
    (refine oEEA (zipL_mem (x := 0) hy) ?_; rintro i e rfl hem)
    (refine oAA (hkey e hem) ?_; rintro ⟨ea, eb, he1⟩ ⟨kz, hkz⟩ hlam)
    subst he1
    exact (iEEEE kz i ea eb (by simp only [dec3, hkz]))
  have hl60 : ((zipL 0 (-1) n l).map (dec3 key)).length ≤ 60 := by simpa using hz60
  refine ws_cons (ws1_if (pt_not (pt_val (pe_loc rfl) (to_list rfl (by (exact Nat.le_trans ‹_› (by decide)))))) (fun ht => ?_) fun ht => ?_)
  · have h0 := lt_true_nil ht
    refine ws_one (ws1_return (pe_loc rfl) rfl (.inl (iAAE (by simpa using h0) rfl (zipEnd n l) ?_)))
    show [zipEnd n l, AO.list ((zipL 0 (-1) n l).map (dec3 key))] = _
    rw [h0]
  · have hne := lt_false_ne ht
    have hzne : zipL 0 (-1) n l ≠ [] := fun q => hne (by rw [q]; rfl)
    have hout := hout hzne
    unfold nlFin at hout
    have hhl := hyGo_len FV.lt (((zipL 0 (-1) n l).map (dec3 key)).length / 2) ((zipL 0 (-1) n l).map (dec3 key)) (by lia)
    have hhu : ∀ x ∈ hyGo FV.lt (((zipL 0 (-1) n l).map (dec3 key)).length / 2) ((zipL 0 (-1) n l).map (dec3 key)), U3 x := fun x hx => hu3 x ((hyGo_perm FV.lt _ _ (by lia)).mem_iff.mp hx)
    have hpos : 0 < ((zipL 0 (-1) n l).map (dec3 key)).length := List.length_pos_iff.mpr hne
    refine ws_nil ?_
    refine ws_cons (ws1_expr (we_call (pe_glo ((hk _).trans rfl) hhy.gl) hhy.fo (.cons (pe_loc rfl) .nil rfl) .nil (con_hy hB hsd hsu hhy cmpU_u3 (fun l k h hk => su_U FV.lt l k h hk) hu3 (by (exact Nat.le_trans ‹_› (by decide))) 0) hn (ks := [1]) (by decide) rfl rfl rfl ?_ ?_) X.notInteractive)
    · rintro a hp' ⟨rfl, rfl⟩; rfl
    rintro a hp' ⟨rfl, rfl⟩
    generalize hyGo FV.lt (((zipL 0 (-1) n l).map (dec3 key)).length / 2) ((zipL 0 (-1) n l).map (dec3 key)) = h0 at hout hhl hhu
    generalize ((zipL 0 (-1) n l).map (dec3 key)) = hz at *
    have hget : ∀ (h : List FV), 0 < h.length → (∀ x ∈ h, U3 x) → ∃ a b c d, h.getD 0 .none = .tup [.int a, .int b, .tup [.int c, .int d]] := fun h h1 h2 => h2 _ (getD_mem h1)
    (refine oEEEE (hget h0 (by lia) hhu) ?_; rintro a0 b0 c0 d0 e0)
    refine ws_cons (ws1_assign (av := .f (fstF (h0.getD 0 .none))) (.inl ((hk _).trans rfl)) (PE.to (pe_tupitem (l := [.int a0, .int b0, .tup [.int c0, .int d0]]) (k := 0) (PE.to (pe_itemN (l := h0) (k := 0) (pe_loc rfl) pe_int (getD_some (by lia)) (by lia)) (by rw [e0])) pe_int rfl (by simp)) (by rw [e0]; rfl)) ?_)
    refine ws_cons (ws1_assign (.inl ((hk _).trans rfl)) (pe_neg (pe_loc rfl)) ?_)
    refine ws_cons (ws1_assign (.inl ((hk _).trans rfl)) (pe_glo ((hk _).trans rfl) hhr.gl) ?_)
    have hI0 : ∃ (h : List FV) (o : Int) (rest : List FV) (ao : AO), (l.drop n).length = rest.length ∧ (ao = .iter rest ∨ (ao = .fin ∧ rest = [])) ∧ (∀ x ∈ h, U3 x) ∧ h.length = h0.length ∧ nsLoop FV.lt gtF key (fun e o => .tup [key e, .int o, e]) (-1) h o rest = nsLoop FV.lt gtF key (fun e o => .tup [key e, .int o, e]) (-1) h0 (-(n : Int)) (l.drop n) ∧ (∀ e ∈ rest, e ∈ l) ∧
        (⟨[("n", .f (.int n)), ("key", .lam ps le sc), ("it", .obj 0), ("result", .obj 1), ("top", .f (fstF (h0.getD 0 .none))), ("order", .f (.int (-(n : Int)))), ("_heapreplace", .val (.ref fhr))], [zipEnd n l, .list h0]⟩ : St) = ⟨[("n", .f (.int n)), ("key", .lam ps le sc), ("it", .obj 0), ("result", .obj 1), ("top", .f (fstF (h.getD 0 .none))), ("order", .f (.int o)), ("_heapreplace", .val (.ref fhr))], [ao, .list h]⟩ :=
      (iEEEEAAAAAA h0 _ (l.drop n) (zipEnd n l) rfl (zipEnd_eq n l) hhu rfl rfl (fun e he => List.mem_of_mem_drop he) rfl)
    refine ws_cons (ws1_for 0 (fun mm st => ∃ (h : List FV) (o : Int) (rest : List FV) (ao : AO), mm = rest.length ∧ (ao = .iter rest ∨ (ao = .fin ∧ rest = [])) ∧ (∀ x ∈ h, U3 x) ∧ h.length = h0.length ∧ nsLoop FV.lt gtF key (fun e o => .tup [key e, .int o, e]) (-1) h o rest = nsLoop FV.lt gtF key (fun e o => .tup [key e, .int o, e]) (-1) h0 (-(n : Int)) (l.drop n) ∧ (∀ e ∈ rest, e ∈ l) ∧
        st = ⟨[("n", .f (.int n)), ("key", .lam ps le sc), ("it", .obj 0), ("result", .obj 1), ("top", .f (fstF (h.getD 0 .none))), ("order", .f (.int o)), ("_heapreplace", .val (.ref fhr))], [ao, .list h]⟩) (l.drop n).length ?_ ?_)
    · rcases zipEnd_eq n l with q | ⟨q, _⟩
      · exact wi_own (l := l.drop n) (pe_loc rfl) (by show some (zipEnd n l) = _; rw [q]) ⟨rfl, hI0⟩
      · exact wi_fin (pe_loc rfl) (by show some (zipEnd n l) = _; rw [q]) ⟨rfl, hI0⟩
    clear hI0
    (rintro mm st zq1; refine oEEEEAAAAAA zq1 ?_; clear zq1; rintro h o rest ao rfl hao hhu' hhl' hgo hrest rfl)
    refine (iEAA ao rfl (by rcases hao with rfl | ⟨rfl, _⟩ <;> rfl) ?_)
    rcases rest with _ | ⟨e, es⟩
    ·
      have hd : draw ao = none := by rcases hao with rfl | ⟨rfl, _⟩ <;> rfl
      rw [hd]
      have hfin : h = nsLoop FV.lt gtF key (fun e o => .tup [key e, .int o, e]) (-1) h0 (-(n : Int)) (l.drop n) := by rw [← hgo]; rfl
      rw [← hfin] at hout
      have hsu3 : ∀ x ∈ srt, U3 x := fun x hx => by
        (refine oEAA hout ?_; try clear hout; rintro p hp _ rfl)
        have : x ∈ h := by
          simp only [sortOut, mem_katRev, List.mem_map] at hx
          (refine oEA hx ?_; try clear hx; rintro i hi rfl)
          have hi' := List.mem_range.mp (hp.mem_iff.mp hi)
          exact mem_katRev.mp (getD_mem (by rw [kat_len]; exact hi'))
        exact hhu' x this
      refine ws_cons (ws1_expr (we_sortR (l := h) (pe_loc rfl) rfl (by lia) (ord_of ltOk_u3 (fun x hx => hhu' x (List.mem_reverse.mp hx))) (keyed_u3 hhu') hout ?_) X.notInteractive)
      refine ws_one (ws1_returnN (pn_comp (l := srt) (p := fun _ => true) (f := el3) ⟨cs_list (pe_loc rfl) rfl, rfl, ?_, ?_, (iEEAAAA ([]) ([]) (by rw [he]; rfl) ((fun _ h => nomatch h)) (by simp) (fun _ _ h => by simp at h) ?_), by have := hout.length; lia⟩) (.inr (iAAE hzne ?_ _ rfl)))
      · intro x hx
        simp only [List.mem_cons, List.not_mem_nil, or_false] at hx
        rcases hx with rfl | rfl | rfl | rfl <;> simp
      · intro x hx _
        simp only [List.mem_cons, List.not_mem_nil, or_false] at hx
        rcases hx with rfl | rfl | rfl | rfl <;> rfl
      · intro C x built hx
        (refine oEEEE (hsu3 x hx) ?_; rintro a b c d rfl)
        exact (iEAAAA _ (atl_three (by show (relabel _ X.env).names.lookup _ = _; rw [he]; rfl) (by show (relabel _ X.env).names.lookup _ = _; rw [he]; rfl) (by show (relabel _ X.env).names.lookup _ = _; rw [he]; rfl)) (.nil) (fun _ => pe_loc rfl) rfl (fun _ _ h => by simp at h))
      · rw [List.filter_eq_self.mpr (fun _ _ => rfl)]
    ·
      have hao' : ao = .iter (e :: es) := by rcases hao with rfl | ⟨_, h⟩; rfl; cases h
      subst hao'
      (refine oAA (hkey e (hrest e (.head _))) ?_; rintro ⟨ea, eb, he1⟩ ⟨kz, hkz⟩ hlam)
      (refine oEEEE (hget h (by lia) hhu') ?_; rintro a1 b1 c1 d1 e1)
      refine (iAEA rfl _ (at_name (.inl ((hk _).trans rfl))) (ws_weak ?_))
      refine ws_cons (ws1_assign (.inl ((hk _).trans rfl)) (pe_lamcall (pe_loc rfl) (pe_loc rfl) hlam hm) ?_)
      have hfst : IntF (fstF (h.getD 0 .none)) := by rw [e1]; exact ⟨a1, rfl⟩
      refine ws_one (ws1_if (pt_cmp (pe_loc rfl) (pe_loc rfl) (co_lt (cmpU_int _ _ hfst ⟨kz, hkz⟩) (by lia))) (fun ht => ?_) fun ht => ?_)
      · have hdu : U3 (.tup [key e, .int o, e]) := (iEEEE kz o ea eb (by rw [hkz, he1]))
        refine ws_cons (ws1_expr (we_call (pe_loc rfl) hhr.fo (.cons (pe_loc rfl) (.cons (pe_tuple (l := [key e, .int o, e]) (.cons (pe_loc rfl) (.cons (pe_loc rfl) (.cons (pe_loc rfl) .nil rfl) rfl) rfl) (by simp)) .nil rfl) rfl) .nil (con_hr hB hsd hsu hhr cmpU_u3 (l := h) (by lia) hhu' hdu (by lia) 0) hn (ks := [1]) (by decide) rfl rfl rfl ?_ ?_) X.notInteractive)
        · rintro a hp' ⟨rfl, rfl⟩; rfl
        rintro a hp' ⟨rfl, rfl⟩
        have hl2 : (su FV.lt (h.set 0 (.tup [key e, .int o, e])) 0).length = h0.length := by rw [su_len]; simp [hhl']
        have hu2 : ∀ x ∈ su FV.lt (h.set 0 (.tup [key e, .int o, e])) 0, U3 x := su_U FV.lt _ 0 (fun y hy => by
          rcases List.mem_or_eq_of_mem_set hy with h | h
          · exact hhu' y h
          · rw [h]; exact hdu) (by simp; lia)
        have hgo2 : nsLoop FV.lt gtF key (fun e o => .tup [key e, .int o, e]) (-1) (su FV.lt (h.set 0 (.tup [key e, .int o, e])) 0) (o + -1) es = nsLoop FV.lt gtF key (fun e o => .tup [key e, .int o, e]) (-1) h0 (-(n : Int)) (l.drop n) := by
          rw [← hgo]
          conv => rhs; unfold nsLoop
          rw [if_pos (show gtF (key e) (fstF (h.getD 0 .none)) = true from ht)]
        generalize su FV.lt (h.set 0 (.tup [key e, .int o, e])) 0 = h2 at hl2 hu2 hgo2
        (refine oEEEE (hget h2 (by lia) hu2) ?_; rintro a2 b2 c2 d2 e2)
        refine ws_cons (ws1_unpack (x := .tup [.int a2, .int b2, .tup [.int c2, .int d2]]) (PE.to (pe_itemN (l := h2) (k := 0) (pe_loc rfl) pe_int (getD_some (by lia)) (by lia)) (by rw [e2])) (at_three (.inl ((hk _).trans rfl)) (.inl ((hk _).trans rfl)) (.inl ((hk _).trans rfl))) ?_)
        refine ws_one (ws1_isub (i := o) (j := 1) (.inl ((hk _).trans rfl)) rfl pe_int (iEAAEAEEEEAAAAAA (⟨[("n", .f (.int n)), ("key", .lam ps le sc), ("it", .obj 0), ("result", .obj 1), ("top", .f (fstF (h2.getD 0 .none))), ("order", .f (.int (o + -1))), ("_heapreplace", .val (.ref fhr))], [.iter es, .list h2]⟩) (⟨⟨[], rfl⟩, ⟨rfl, rfl, rfl, rfl, ?_, rfl, rfl, trivial⟩, rfl⟩) (Nat.le_refl _) _ ?_ h2 (o + -1) es (.iter es) rfl (.inl rfl) hu2 hl2 hgo2 (fun e he => hrest e (.tail _ he)) rfl))
        · rw [e2]; rfl
        · simp
      · refine ws_nil (iEAAEAEEEEAAAAAA (⟨[("n", .f (.int n)), ("key", .lam ps le sc), ("it", .obj 0), ("result", .obj 1), ("top", .f (fstF (h.getD 0 .none))), ("order", .f (.int o)), ("_heapreplace", .val (.ref fhr))], [.iter es, .list h]⟩) (⟨⟨[], rfl⟩, ⟨rfl, rfl, rfl, rfl, rfl, rfl, rfl, trivial⟩, rfl⟩) (Nat.le_refl _) _ ?_ h o es (.iter es) rfl (.inl rfl) hhu' hhl' ?_ (fun e he => hrest e (.tail _ he)) rfl)
        · simp
        · rw [← hgo]
          conv => rhs; unfold nsLoop
          rw [if_neg (show ¬ gtF (key e) (fstF (h.getD 0 .none)) = true from Bool.eq_false_iff.mp ht)]
end Mine
end
section
open PySem PySem.W PySem.Calls PyProof.Rows
set_option Elab.async false
set_option maxRecDepth 100000
set_option linter.unusedVariables false
set_option linter.unusedSimpArgs false
namespace Mine

/- the heap that is left -/
noncomputable def nuFin (n : Nat) (l : List FV) : List FV :=
  nsLoop gtF FV.lt id (fun e o => .tup [e, .int o]) (1) (hyGo gtF (((zipL 0 (1) n l).map dec2).length / 2) ((zipL 0 (1) n l).map dec2)) ((n : Int)) (l.drop n)
noncomputable def nuPost (n : Nat) (l srt : List FV) (af : AF) (st' : St) : Prop :=
  (zipL 0 (1) n l = [] ∧ af = .ret (.obj 1) ∧ ∃ o, st'.hp = [o, .list []]) ∨ (zipL 0 (1) n l ≠ [] ∧ af = .ret (.lst (srt.map el2)) ∧ ∃ o, st'.hp = [.junk, o])
theorem nu_rest {X : Fx} (hn : 3 ≤ X.n) (hB : BiOk X.toWx) {fsd fsu fhy fhr : Addr} (hsd : FnOk X.toWx 9 "_siftdown_max" .none .none fsd) (hsu : FnOk X.toWx 10 "_siftup_max" .none .none fsu) (hhr : FnOk X.toWx 5 "_heapreplace_max" .none .none fhr) (hhy : FnOk X.toWx 6 "_heapify_max" .none .none fhy)
    {n : Nat} {l srt : List FV} (hkey : ∀ e ∈ l, PairF e) (hnb : n ≤ 60) (hlen : l.length ≤ 60)
    (hout : zipL 0 (1) n l ≠ [] → SOut id false (nuFin n l) srt) {L f : Addr} {cd : Value} (he : X.env = envOf "nsmallest" (dSco 11) L f cd) :
    WS X ((match dBody 11 with | _ :: _ :: .If _ b _ _ :: _ => b | _ => []).drop 1) ⟨[("n", .f (.int n)), ("it", .obj 0)], [.iter l]⟩ (nuPost n l srt) := by
  have hk : ∀ x, X.env.kindOf x = (dSco 11).names.lookup x := fun x => by rw [he]; rfl
  have hz60 : (zipL 0 (1) n l).length ≤ 60 := by rw [zipL_len (x := 0)]; lia
  refine ws_cons (ws1_compZ' (m := n) (f := dec2) (by rw [(seq_rng n (by (exact Nat.le_trans ‹_› (by decide)))).2]; simp) (pe_glo ((hk _).trans rfl) hB.zip) (prng1 (pe_glo ((hk _).trans rfl) hB.range) (pe_loc rfl)) (seq_rng n (by lia)).1 (pe_loc rfl) rfl hkey ⟨rfl, ?_, ?_, (iEEAAAAA ([]) ([]) (by rw [he]; rfl) ((fun _ h => nomatch h)) (by simp) ((fun _ _ h => by simp at h)) ((fun _ _ h => by simp at h)) ?_), ?_⟩ ((hk _).trans rfl) ?_ (by rw [he]; rfl))
  · intro x hx
    simp only [List.mem_cons, List.not_mem_nil, or_false] at hx
    rcases hx with rfl | rfl | rfl <;> simp
  · intro x hx _
    simp only [List.mem_cons, List.not_mem_nil, or_false] at hx
    rcases hx with rfl | rfl | rfl <;> rfl
  · intro C x built hx
    (refine oEEA (zipL_mem (x := 0) hx) ?_; rintro i e rfl hem)
    (refine oEE (hkey e hem) ?_; rintro ea eb he1)
    refine (iEAAAA _ (atl_pair (by show (relabel _ X.env).names.lookup _ = _; rw [he]; rfl) (by show (relabel _ X.env).names.lookup _ = _; rw [he]; rfl)) (pe_tuple (l := [e, .int i]) (.cons (pe_loc rfl) (.cons (pe_loc rfl) .nil rfl) rfl) (by simp)) ?_ rfl (fun _ _ h => by simp at h))
    show ZGood (.tup [e, .int i])
    rw [he1]; exact .inr (.inr (.inl (iEEE _ _ _ rfl)))
  · (exact Nat.le_trans ‹_› (by decide))
  have hu3 : ∀ x ∈ (zipL 0 (1) n l).map dec2, U2 x := fun x hx => by
    (refine oEA (List.mem_map.mp hx) ?_; rintro y hy rfl)
    (refine oEEA (zipL_mem (x := 0) hy) ?_; rintro i e rfl hem)
    (refine oEE (hkey e hem) ?_; rintro ea eb he1)
    subst he1
    exact (iEEE ea eb i rfl)
  have hl60 : ((zipL 0 (1) n l).map dec2).length ≤ 60 := by simpa using hz60
  refine ws_cons (ws1_if (pt_not (pt_val (pe_loc rfl) (to_list rfl (by (exact Nat.le_trans ‹_› (by decide)))))) (fun ht => ?_) fun ht => ?_)
  · have h0 := lt_true_nil ht
    refine ws_one (ws1_return (pe_loc rfl) rfl (.inl (iAAE (by simpa using h0) rfl (zipEnd n l) ?_)))
    show [zipEnd n l, AO.list ((zipL 0 (1) n l).map dec2)] = _
    rw [h0]
  · have hne := lt_false_ne ht
    have hzne : zipL 0 (1) n l ≠ [] := fun q => hne (by rw [q]; rfl)
    have hout := hout hzne
    unfold nuFin at hout
    have hhl := hyGo_len gtF (((zipL 0 (1) n l).map dec2).length / 2) ((zipL 0 (1) n l).map dec2) (by lia)
    have hhu : ∀ x ∈ hyGo gtF (((zipL 0 (1) n l).map dec2).length / 2) ((zipL 0 (1) n l).map dec2), U2 x := fun x hx => hu3 x ((hyGo_perm gtF _ _ (by lia)).mem_iff.mp hx)
    have hpos : 0 < ((zipL 0 (1) n l).map dec2).length := List.length_pos_iff.mpr hne
    refine ws_nil ?_
    refine ws_cons (ws1_expr (we_call (pe_glo ((hk _).trans rfl) hhy.gl) hhy.fo (.cons (pe_loc rfl) .nil rfl) .nil (con_hy_max hB hsd hsu hhy cmpU_u2 (fun l k h hk => su_U gtF l k h hk) hu3 (by (exact Nat.le_trans ‹_› (by decide))) 0) hn (ks := [1]) (by decide) rfl rfl rfl ?_ ?_) X.notInteractive)
    · rintro a hp' ⟨rfl, rfl⟩; rfl
    rintro a hp' ⟨rfl, rfl⟩
    generalize hyGo gtF (((zipL 0 (1) n l).map dec2).length / 2) ((zipL 0 (1) n l).map dec2) = h0 at hout hhl hhu
    generalize ((zipL 0 (1) n l).map dec2) = hz at *
    have hget : ∀ (h : List FV), 0 < h.length → (∀ x ∈ h, U2 x) → ∃ a b c, h.getD 0 .none = .tup [.tup [.int a, .int b], .int c] := fun h h1 h2 => h2 _ (getD_mem h1)
    (refine oEEE (hget h0 (by (exact Nat.lt_of_lt_of_eq ‹_› (Eq.symm ‹_›))) hhu) ?_; rintro a0 b0 c0 e0)
    refine ws_cons (ws1_assign (av := .f (fstF (h0.getD 0 .none))) (.inl ((hk _).trans rfl)) (PE.to (pe_tupitem (l := [.tup [.int a0, .int b0], .int c0]) (k := 0) (PE.to (pe_itemN (l := h0) (k := 0) (pe_loc rfl) pe_int (getD_some (by lia)) (by (exact Nat.le_trans (Nat.le_of_eq ‹_›) (Nat.le_trans ‹_› (by decide))))) (by rw [e0])) pe_int rfl (by simp)) (by rw [e0]; rfl)) ?_)
    refine ws_cons (ws1_assign (.inl ((hk _).trans rfl)) (pe_loc rfl) ?_)
    refine ws_cons (ws1_assign (.inl ((hk _).trans rfl)) (pe_glo ((hk _).trans rfl) hhr.gl) ?_)
    have hI0 : ∃ (h : List FV) (o : Int) (rest : List FV) (ao : AO), (l.drop n).length = rest.length ∧ (ao = .iter rest ∨ (ao = .fin ∧ rest = [])) ∧ (∀ x ∈ h, U2 x) ∧ h.length = h0.length ∧ nsLoop gtF FV.lt id (fun e o => .tup [e, .int o]) (1) h o rest = nsLoop gtF FV.lt id (fun e o => .tup [e, .int o]) (1) h0 ((n : Int)) (l.drop n) ∧ (∀ e ∈ rest, e ∈ l) ∧
        (⟨[("n", .f (.int n)), ("it", .obj 0), ("result", .obj 1), ("top", .f (fstF (h0.getD 0 .none))), ("order", .f (.int ((n : Int)))), ("_heapreplace", .val (.ref fhr))], [zipEnd n l, .list h0]⟩ : St) = ⟨[("n", .f (.int n)), ("it", .obj 0), ("result", .obj 1), ("top", .f (fstF (h.getD 0 .none))), ("order", .f (.int o)), ("_heapreplace", .val (.ref fhr))], [ao, .list h]⟩ :=
      (iEEEEAAAAAA h0 _ (l.drop n) (zipEnd n l) rfl (zipEnd_eq n l) hhu rfl rfl (fun e he => List.mem_of_mem_drop he) rfl)
    refine ws_cons (ws1_for 0 (fun mm st => ∃ (h : List FV) (o : Int) (rest : List FV) (ao : AO), mm = rest.length ∧ (ao = .iter rest ∨ (ao = .fin ∧ rest = [])) ∧ (∀ x ∈ h, U2 x) ∧ h.length = h0.length ∧ nsLoop gtF FV.lt id (fun e o => .tup [e, .int o]) (1) h o rest = nsLoop gtF FV.lt id (fun e o => .tup [e, .int o]) (1) h0 ((n : Int)) (l.drop n) ∧ (∀ e ∈ rest, e ∈ l) ∧
        st = ⟨[("n", .f (.int n)), ("it", .obj 0), ("result", .obj 1), ("top", .f (fstF (h.getD 0 .none))), ("order", .f (.int o)), ("_heapreplace", .val (.ref fhr))], [ao, .list h]⟩) (l.drop n).length ?_ ?_)
    · rcases zipEnd_eq n l with q | ⟨q, _⟩
      · exact wi_own (l := l.drop n) (pe_loc rfl) (by show some (zipEnd n l) = _; rw [q]) ⟨rfl, hI0⟩
      · exact wi_fin (pe_loc rfl) (by show some (zipEnd n l) = _; rw [q]) ⟨rfl, hI0⟩
    clear hI0
    (rintro mm st zq1; refine oEEEEAAAAAA zq1 ?_; clear zq1; rintro h o rest ao rfl hao hhu' hhl' hgo hrest rfl)
    refine (iEAA ao rfl (by rcases hao with rfl | ⟨rfl, _⟩ <;> rfl) ?_)
    cases rest with
    | nil =>
      have hd : draw ao = none := by rcases hao with rfl | ⟨rfl, _⟩ <;> rfl
      rw [hd]
      have hfin : h = nsLoop gtF FV.lt id (fun e o => .tup [e, .int o]) (1) h0 ((n : Int)) (l.drop n) := by rw [← hgo]; rfl
      rw [← hfin] at hout
      have hsu2 : ∀ x ∈ srt, U2 x := fun x hx => by
        (refine oEAA hout ?_; try clear hout; rintro p hp _ rfl)
        have : x ∈ h := by
          simp only [sortOut, mem_katRev, List.mem_map] at hx
          (refine oEA hx ?_; try clear hx; rintro i hi rfl)
          have hi' := List.mem_range.mp (hp.mem_iff.mp hi)
          exact mem_katRev.mp (getD_mem (by rw [kat_len]; exact hi'))
        exact hhu' x this
      refine ws_cons (ws1_expr (we_sort (l := h) (pe_loc rfl) rfl (by lia) (ord_of ltOk_u2 hhu') (keyed_u2 hhu') hout ?_) X.notInteractive)
      refine ws_one (ws1_returnN (pn_comp (l := srt) (p := fun _ => true) (f := el2) ⟨cs_list (pe_loc rfl) rfl, rfl, ?_, ?_, (iEEAAAA ([]) ([]) (by rw [he]; rfl) ((fun _ h => nomatch h)) (by simp) (fun _ _ h => by simp at h) ?_), by have := hout.length; lia⟩) (.inr (iAAE hzne ?_ _ rfl)))
      · intro x hx
        simp only [List.mem_cons, List.not_mem_nil, or_false] at hx
        rcases hx with rfl | rfl | rfl <;> simp
      · intro x hx _
        simp only [List.mem_cons, List.not_mem_nil, or_false] at hx
        rcases hx with rfl | rfl | rfl <;> rfl
      · intro C x built hx
        (refine oEEE (hsu2 x hx) ?_; rintro a b c rfl)
        exact (iEAAAA _ (atl_pair (by show (relabel _ X.env).names.lookup _ = _; rw [he]; rfl) (by show (relabel _ X.env).names.lookup _ = _; rw [he]; rfl)) (.nil) (fun _ => pe_loc rfl) rfl (fun _ _ h => by simp at h))
      · rw [List.filter_eq_self.mpr (fun _ _ => rfl)]
    | cons e es =>
      have hao' : ao = .iter (e :: es) := by rcases hao with rfl | ⟨_, h⟩; rfl; cases h
      subst hao'
      (refine oEE (hkey e (hrest e (.head _))) ?_; rintro ea eb he1)
      (refine oEEE (hget h (by lia) hhu') ?_; rintro a1 b1 c1 e1)
      refine (iAEA rfl _ (at_name (.inl ((hk _).trans rfl))) (ws_weak ?_))
      have hfst : PairF (fstF (h.getD 0 .none)) := by rw [e1]; exact (iEE a1 b1 rfl)
      refine ws_one (ws1_if (pt_cmp (pe_loc rfl) (pe_loc rfl) (co_lt (cmpU_pair _ _ (iEE ea eb he1) hfst) (by (exact Nat.le_add_left _ _)))) (fun ht => ?_) fun ht => ?_)
      · have hdu : U2 (.tup [e, .int o]) := (iEEE ea eb o (by rw [he1]))
        refine ws_cons (ws1_expr (we_call (pe_loc rfl) hhr.fo (.cons (pe_loc rfl) (.cons (pe_tuple (l := [e, .int o]) (.cons (pe_loc rfl) (.cons (pe_loc rfl) .nil rfl) rfl) (by simp)) .nil rfl) rfl) .nil (con_hr_max hB hsd hsu hhr cmpU_u2 (l := h) (by lia) hhu' hdu (by lia) 0) hn (ks := [1]) (by decide) rfl rfl rfl ?_ ?_) X.notInteractive)
        · rintro a hp' ⟨rfl, rfl⟩; rfl
        rintro a hp' ⟨rfl, rfl⟩
        have hl2 : (su gtF (h.set 0 (.tup [e, .int o])) 0).length = h0.length := by rw [su_len]; simp [hhl']
        have hu2 : ∀ x ∈ su gtF (h.set 0 (.tup [e, .int o])) 0, U2 x := su_U gtF _ 0 (fun y hy => by
          rcases List.mem_or_eq_of_mem_set hy with h | h
          · exact hhu' y h
          · rw [h]; exact hdu) (by simp; lia)
        have hgo2 : nsLoop gtF FV.lt id (fun e o => .tup [e, .int o]) (1) (su gtF (h.set 0 (.tup [e, .int o])) 0) (o + 1) es = nsLoop gtF FV.lt id (fun e o => .tup [e, .int o]) (1) h0 ((n : Int)) (l.drop n) := by
          rw [← hgo]
          conv => rhs; unfold nsLoop
          rw [if_pos (show FV.lt (id e) (fstF (h.getD 0 .none)) = true from ht)]
        generalize su gtF (h.set 0 (.tup [e, .int o])) 0 = h2 at hl2 hu2 hgo2
        (refine oEEE (hget h2 (by lia) hu2) ?_; rintro a2 b2 c2 e2)
        refine ws_cons (ws1_unpack (x := .tup [.tup [.int a2, .int b2], .int c2]) (PE.to (pe_itemN (l := h2) (k := 0) (pe_loc rfl) pe_int (getD_some (by lia)) (by lia)) (by rw [e2])) (at_pair (.inl ((hk _).trans rfl)) (.inl ((hk _).trans rfl))) ?_)
        refine ws_one (ws1_iadd (i := o) (j := 1) (.inl ((hk _).trans rfl)) rfl pe_int (iEAAEAEEEEAAAAAA (⟨[("n", .f (.int n)), ("it", .obj 0), ("result", .obj 1), ("top", .f (fstF (h2.getD 0 .none))), ("order", .f (.int (o + 1))), ("_heapreplace", .val (.ref fhr))], [.iter es, .list h2]⟩) (⟨⟨[], rfl⟩, ⟨rfl, rfl, rfl, ?_, rfl, rfl, trivial⟩, rfl⟩) (Nat.le_refl _) _ ?_ h2 (o + 1) es (.iter es) rfl (.inl rfl) hu2 hl2 hgo2 (fun e he => hrest e (.tail _ he)) rfl))
        · rw [e2]; rfl
        · simp
      · refine ws_nil (iEAAEAEEEEAAAAAA (⟨[("n", .f (.int n)), ("it", .obj 0), ("result", .obj 1), ("top", .f (fstF (h.getD 0 .none))), ("order", .f (.int o)), ("_heapreplace", .val (.ref fhr))], [.iter es, .list h]⟩) (⟨⟨[], rfl⟩, ⟨rfl, rfl, rfl, rfl, rfl, rfl, trivial⟩, rfl⟩) (Nat.le_refl _) _ ?_ h o es (.iter es) rfl (.inl rfl) hhu' hhl' ?_ (fun e he => hrest e (.tail _ he)) rfl)
        · simp
        · rw [← hgo]
          conv => rhs; unfold nsLoop
          rw [if_neg (show ¬ FV.lt (id e) (fstF (h.getD 0 .none)) = true from Bool.eq_false_iff.mp ht)]
end Mine
end
section
open PySem PySem.W PySem.Calls PyProof.Rows
set_option Elab.async false
set_option maxRecDepth 100000
set_option linter.unusedVariables false
set_option linter.unusedSimpArgs false
namespace Mine
section
variable {prog : Program} {w : World} {A : Around} {E : Value → Shared → Prop} {s : Shared} {env : Env}
theorem slice_any {value : Expr} {lower upper : Option Expr} {p pos : Pos} {T id : String} {Q : Value → Shared → Prop}
    (hl : typeLookup (.type T) "__getitem__" = pure (some (.builtin id)))
    (h : wpAny (model prog w) A (eval value env) (fun o s₁ => wpAny (model prog w) A (eval (.Slice lower upper none p) env) (fun i s₂ => s₂.TypeIs o T ∧ wpAny (model prog w) A (getItem o i) Q E s₂) E s₁) E s) :
    wpAny (model prog w) A (eval (.Subscript value (.Slice lower upper none p) pos) env) Q E s := by
  rw [eval_Subscript]
  refine wpAny_bind (wpAny_mono h (fun o s₁ h₁ => wpAny_bind (wpAny_holding (wpAny_mono h₁ (fun i s₂ h₂ => wpAny_bind (wpAny_standAt ?_)) fun _ _ x => x)))
    fun _ _ x => x)
  have fin : wpAny (model prog w) A (operate [i, o] (getItem o i)) (fun r s₃ => wpAny (model prog w) A (letTemporaryGo value o r >>= fun _ => pure r) Q E s₃) E s₂ :=
    wpAny_operating (wpAny_mono h₂.2 (fun r s₃ h₃ => wpAny_bind (wpAny_letTemporaryGo (wpAny_pure h₃))) fun _ _ x => x)
  refine wpAny_bind ?_
  rw [getitemInPython_of_ne h₂.1.not_modules]
  refine wpAny_bind (wpAny_specialOf h₂.1 hl ?_)
  exact wpAny_pure (wpAny_bind fin)
end
section
variable {X : Fx} {st : St}
theorem pn_sliceT {v : Expr} {lo hi : Option Expr} {a b : Option Int} {p pos : Pos} {av : AV} {l : List FV} (hv : PE X st v av) (hl : asL st.hp av = some l) (h1 : PPart X st lo a) (h2 : PPart X st hi b) (hz : l.length ≤ 2 ^ 20) :
    PN X st (.Subscript v (.Slice lo hi none p) pos) (pickL l a b) := fun ρ s R => by
  refine slice_any (T := "list") list_getitem_lookup (hv.on R fun ov s₁ R₁ G₁ r₁ => wpAny_Slice (h1.on R₁ fun v1 s₂ R₂ G₂ p1 => h2.on R₂ fun v2 s₃ R₃ G₃ p2 => ?_))
  (refine oEEAAA (R₃.asL hl (R₁.val_grow (G₂.trans G₃) r₁)) ?_; rintro la items rfl hli hs hsz)
  have hk : ∀ c o, s₃.heap.get? c = some o → ((s₃.heap.push { cls := .type "slice", data := .fields #[v1, v2, .none] }).push { cls := .type "list", data := .seq (slicePick items a b none) }).get? c = some o := fun c o e => Heap.get?_push_of_some _ (Heap.get?_push_of_some _ e)
  have G := (G₁.trans G₂).trans G₃
  rw [evalPart_none]
  refine wpAny_pure ⟨(hli.push _).typeIs, wpAny_getItem_list_slice (hli.push _) (Heap.IsSliceOf.new ..) p1 p2 .none (by simp) ?_ (by have := sl20; (exact Nat.le_trans (Nat.le_of_eq ‹_›) (Nat.le_trans ‹_› (by decide))))⟩
  rw [Heap.size_push]
  refine (iAEEAAA (G.trans (.keeps hk)) _ (slicePick items a b none) rfl ?_ (⟨0, ?_⟩) ?_)
  · exact (R.ext G).none (Heap.get?_none_of_le (Nat.le_succ _))
  · have e1 := Heap.get?_push_size (s₃.heap.push { cls := .type "slice", data := .fields #[v1, v2, .none] }) (o := { cls := .type "list", data := .seq (slicePick items a b none) }) rfl
    rw [Heap.size_push] at e1
    exact e1
  · have r := RepFs.same (D := Nowhere) (F := X.F) (.of_keeps hk) (fun _ _ _ h => h) l hs
    have e : (slicePick items a b none).toList = kms_pick items.toList a b := by rw [kms_pick_eq]
    rw [e]
    show RepFs _ (pickL l a b) (kms_pick items.toList a b)
    have hlen : items.toList.length = l.length := hs.length
    unfold kms_pick pickL
    rw [hlen]
    exact (r.drop _).take _
theorem pickL_take (l : List FV) (n : Nat) : pickL l none (some (n : Int)) = l.take n := by
  unfold pickL kms_lo kms_hi
  dsimp only
  rw [if_neg (by simp)]
  simp only [List.drop_zero, Int.toNat_natCast, Nat.sub_zero]
  rw [← List.take_take, List.take_length]
theorem pickL_drop (l : List FV) (n : Nat) : pickL l (some (n : Int)) none = l.drop n := by
  unfold pickL kms_lo kms_hi
  dsimp only
  rw [if_neg (by lia), Int.toNat_natCast]
  rcases Nat.lt_or_ge n l.length with h | h
  · rw [Nat.min_eq_left (by (exact Nat.le_of_lt ‹_›))]; exact List.take_of_length_le (by simp)
  · rw [Nat.min_eq_right h]; simp [List.drop_of_length_le h]
theorem pickL_mid (l : List FV) (n m : Nat) : pickL l (some (n : Int)) (some (m : Int)) = (l.take m).drop n := by
  unfold pickL kms_lo kms_hi
  dsimp only
  rw [if_neg (by lia), if_neg (by lia), Int.toNat_natCast, Int.toNat_natCast, List.drop_take]
  rcases Nat.lt_or_ge n l.length with h | h
  · rw [Nat.min_eq_left (by lia : n ≤ l.length)]
    rcases Nat.lt_or_ge m l.length with h2 | h2
    · rw [Nat.min_eq_left (by lia)]
    · rw [Nat.min_eq_right h2, List.take_of_length_le (by simp), List.take_of_length_le (by simp; lia)]
  · rw [Nat.min_eq_right h, List.drop_of_length_le (Nat.le_refl _), List.drop_of_length_le h]; simp
end
end Mine
end
section
open PySem PySem.W PySem.Calls PyProof.Rows
set_option Elab.async false
set_option maxRecDepth 100000
set_option linter.unusedVariables false
set_option linter.unusedSimpArgs false
namespace Mine
noncomputable def IntP (x y : FV) : Prop := IntF x ∧ IntF y

theorem ns1_rest {X : Fx} (hn : 2 ≤ X.n) (hB : BiOk X.toWx) {l : List FV} {kav : AV} {key : FV → FV} (hkav : (kav = .f .none ∧ ∀ x ∈ l, key x = x) ∨ ∃ ps e sc m, kav = .lam ps e sc ∧ m + 1 ≤ X.n ∧ ∀ x ∈ l, LamGives X.toWx ps e sc m x (key x)) (hcm : ∀ x ∈ l, ∀ y ∈ l, (CmpF 10) (key x) (key y)) {L f : Addr} {cd : Value} (he : X.env = envOf "nsmallest" (dSco 11) L f cd) :
    WS X ((match dBody 11 with | .If _ b _ _ :: _ => b | _ => []).drop 1) ⟨[("key", kav), ("it", .obj 0)], [.iter l]⟩ (fun af st' => af = .ret (.lst (bestF FV.lt key l).toList) ∧ ∃ o, st'.hp = [.junk, o]) := by
  have hk : ∀ x, X.env.kindOf x = (dSco 11).names.lookup x := fun x => by rw [he]; rfl
  refine ws_cons (ws1_assignE (.inl ((hk _).trans rfl)) (we_object (pe_glo ((hk _).trans rfl) hB.object) ?_))
  refine ws_cons (ws1_assignE (.inl ((hk _).trans rfl)) (we_min (key := key) (better := FV.lt) (Cq := (CmpF 10)) (by (exact Nat.le_of_lt ‹_›)) (pe_glo ((hk _).trans rfl) hB.min) (pe_loc rfl) rfl (pe_loc rfl) (pe_loc rfl) hkav hcm ?_ ?_ ?_))
  · intro x y v u s hc r1 r2 Q E q; exact lt_flat 10 X.A.in1 x y v u hc r1 r2 (by have := X.hu; rw [Around.in1_units]; lia) Q q
  · rintro rfl
    exact ws_one (ws1_returnN (pn_if (b := true) (pt_cmp (pe_loc rfl) (pe_loc rfl) (co_is_self rfl)) (fun _ => pn_list (l := []) .nil (by simp)) (fun h => nomatch h)) (iAE rfl _ rfl))
  · intro x hx
    refine ws_one (ws1_returnN (pn_if (b := false) (pt_cmp (pe_loc rfl) (pe_loc rfl) (co_is_flat rfl)) (fun h => nomatch h) (fun _ => pn_list (l := [x]) (.cons (pe_loc rfl) .nil rfl) (by simp))) (iAE ?_ _ rfl))
    rw [hx]; rfl
theorem bindnsK {W : Wx} {dV : Value} (hdV : TupAt W dV #[.none]) {n : Nat} {a kav : AV} {hp : List AO} {doc pm cd ct : Value} {an : Option Addr} :
    ∀ s F ρ vs kvs, Rep0 W F ρ hp s → RepVs s.heap (im0 W ρ) ρ [.f (.int n), a] vs → RepKs s.heap (im0 W ρ) ρ [("key", kav)] kvs → ∃ binds, BindsTo s (fnX "nsmallest" "nsmallest" (dPar 11) (dBody 11) (dSco 11) [] dV .none doc pm an cd ct) ⟨vs, kvs⟩ binds ∧ RepKs s.heap (im0 W ρ) ρ [("n", .f (.int n)), ("iterable", a), ("key", kav)] binds := by
  intro s F ρ vs kvs R hv hk
  refine hk.c1 (fun _ rk => ?_)
  ·
    refine hv.c2 (fun _ _ r1 r2 => ?_)
    ·
        (refine oEEEAA hdV ?_; try clear hdV; rintro T oT nT rfl hT hTd)
        exact (iEA _ (BindsTo.of_defaults rfl (R.keep _ _ hT) hTd rfl rfl) (.cons r1 (.cons r2 (.cons rk .nil))))
theorem bindns {W : Wx} {dV : Value} (hdV : TupAt W dV #[.none]) {n : Nat} {a : AV} {hp : List AO} {doc pm cd ct : Value} {an : Option Addr} :
    ∀ s F ρ vs kvs, Rep0 W F ρ hp s → RepVs s.heap (im0 W ρ) ρ [.f (.int n), a] vs → RepKs s.heap (im0 W ρ) ρ [] kvs → ∃ binds, BindsTo s (fnX "nsmallest" "nsmallest" (dPar 11) (dBody 11) (dSco 11) [] dV .none doc pm an cd ct) ⟨vs, kvs⟩ binds ∧ RepKs s.heap (im0 W ρ) ρ [("n", .f (.int n)), ("iterable", a), ("key", .f .none)] binds := by
  intro s F ρ vs kvs R hv hk
  refine hk.c0 ?_
  refine hv.c2 (fun _ _ r1 r2 => ?_)
  ·
      (refine oEEEAA hdV ?_; try clear hdV; rintro T oT nT rfl hT hTd)
      exact (iEA _ (BindsTo.of_defaults rfl (R.keep _ _ hT) hTd rfl rfl) (.cons r1 (.cons r2 (.cons rfl .nil))))
theorem locns {a b c : AV} : ∀ y ∈ [(Str.ofString "n", a), (Str.ofString "iterable", b), (Str.ofString "key", c)], (dSco 11).names.lookup y.1 = some .local ∨ ((dSco 11).names.lookup y.1 = some .cell ∧ ∀ k, ((cellsFrom k (dSco 11).names []).lookup y.1).isSome = true) := by
  intro y hy
  simp only [List.mem_cons, List.not_mem_nil, or_false] at hy
  rcases hy with rfl | rfl | rfl
  · exact .inl rfl
  · exact .inl rfl
  · exact .inr ⟨rfl, fun k => rfl⟩
theorem cnns : ∀ k, ((cellsFrom k (dSco 11).names []).map (·.1)).Nodup := fun k => by
  show List.Nodup [_]
  simp
/- of a list, with a key -/
theorem con_nsK {W : Wx} (hB : BiOk W) {fsd fsu fhy fhr f : Addr} {dV : Value} (hsd : FnOk W 9 "_siftdown_max" .none .none fsd) (hsu : FnOk W 10 "_siftup_max" .none .none fsu) (hhr : FnOk W 5 "_heapreplace_max" .none .none fhr) (hhy : FnOk W 6 "_heapify_max" .none .none fhy) (hf : FnOk W 11 "nsmallest" dV .none f) (hdV : TupAt W dV #[.none])
    {n m : Nat} {l out : List FV} {ps : Arguments} {le : Expr} {sc : Scope} {key : FV → FV} (hkey : ∀ e ∈ l, PairF e ∧ IntF (key e) ∧ LamGives W ps le sc m e (key e)) (hnb : n ≤ 60) (hlen : l.length ≤ 60) (k : Nat) (hk3 : 3 ≤ k) (hmk : m + 2 ≤ k)
    (h1 : n = 1 → out = (bestF FV.lt key l).toList) (h2 : n ≠ 1 → l.length ≤ n → ∃ srt, SOut key false l srt ∧ out = srt.take n)
    (h3 : n ≠ 1 → n < l.length → (zipL 0 (1) n l = [] ∧ out = []) ∨ (zipL 0 (1) n l ≠ [] ∧ ∃ srt, SOut id false (nsFin key n l) srt ∧ out = srt.map el3)) :
    Con W (.ref f) (k + 1) [.f (.int n), .lst l] [("key", .lam ps le sc)] [] (fun av _ => av = .lst out) := by
  (refine oEEEEEEAA hf.at_ ?_; rintro o doc pm an cd ct ho hd hcd)
  refine con_def ho hd hcd [("n", .f (.int n)), ("iterable", .lst l), ("key", .lam ps le sc)] (bindnsK hdV) (by simp only [List.map_cons, List.map_nil]; decide) locns cnns rfl rfl rfl ?_
  rintro X rfl hn ⟨L, he⟩ hfr
  have hk : ∀ x, X.env.kindOf x = (dSco 11).names.lookup x := fun x => by rw [he]; rfl
  refine ws_cons (ws1_if (pt_cmp (pe_loc rfl) pe_int co_eq_int) (fun ht => ?_) fun ht => ?_)
  · have hn1 : n = 1 := by have := beq_iff_eq.mp ht; lia
    refine ws_cons (ws1_assignE (.inl ((hk _).trans rfl)) (we_iter (l := l) (pe_glo ((hk _).trans rfl) hB.iter) (pe_loc rfl) rfl ?_))
    refine ws_from (st' := ⟨[("key", .lam ps le sc), ("it", .obj 0)], [.iter l]⟩) ⟨⟨[], rfl⟩, ⟨rfl, rfl, trivial⟩, rfl⟩ rfl ?_
    refine (ns1_rest (by lia) hB (key := key) (.inr ⟨ps, le, sc, m, rfl, by lia, fun x hx => (hkey x hx).2.2⟩) (fun x hx y hy => cmpU_int _ _ (hkey x hx).2.1 (hkey y hy).2.1) he).mono ?_
    rintro af st' ⟨rfl, _⟩
    exact (iEA _ rfl (by rw [h1 hn1]))
  · have hn1 : n ≠ 1 := fun q => by rw [q] at ht; simp at ht
    refine ws_nil (ws_cons (ws1_try_ok (ws_one (ws1_assign (.inl ((hk _).trans rfl)) (pe_lenN (l := l) hB ((hk _).trans rfl) (pe_loc rfl) (by (exact Nat.le_trans ‹_› (by decide)))) ?_))))
    refine ws_one (ws1_if (pt_cmp (pe_loc rfl) (pe_loc rfl) co_ge_int) (fun ht2 => ?_) fun ht2 => ws_nil ?_)
    · have hle : l.length ≤ n := by have := of_decide_eq_true ht2; lia
      (refine oEA (h2 hn1 hle) ?_; rintro srt hs rfl)
      refine ws_one (ws1_returnN (pn_sliceT (l := srt) (PN.pe (pn_sortedK (l := l) (key := key) (m := m) (pe_glo ((hk _).trans rfl) hB.sorted) (pe_loc rfl) rfl (.cons (pe_loc rfl) .nil) (.inl ⟨rfl, rfl⟩) (by (exact Nat.lt_of_lt_of_eq ‹_› (Eq.symm ‹_›))) (fun x hx => (hkey x hx).2.2) (by omega) (ord_of ltOk_int fun x hx => ?_) (keyed_int fun x hx => ?_) hs)) rfl .none (.some (pe_loc rfl)) (by have := hs.length; lia)) (iEA _ rfl ?_))
      · (refine oEA (List.mem_map.mp (mem_katRev.mp hx)) ?_; rintro y hy rfl); exact (hkey y hy).2.1
      · (refine oEA (List.mem_map.mp hx) ?_; rintro y hy rfl); exact (hkey y hy).2.1
      · rw [pickL_take]
    · have hlt : n < l.length := by have := of_decide_eq_false ht2; lia
      refine ws_cons (ws1_if (pt_cmp (pe_loc rfl) pe_none (co_isNone rfl)) (fun h => nomatch h) (fun _ => ws_nil ?_))
      refine ws_cons (ws1_assignE (.inl ((hk _).trans rfl)) (we_iter (l := l) (pe_glo ((hk _).trans rfl) hB.iter) (pe_loc rfl) rfl ?_))
      refine ws_from (st' := ⟨[("n", .f (.int n)), ("key", .lam ps le sc), ("it", .obj 0)], [.iter l]⟩) ⟨⟨[], rfl⟩, ⟨rfl, rfl, rfl, trivial⟩, rfl⟩ rfl ?_
      rcases h3 hn1 hlt with ⟨hz, ho⟩ | ⟨hz, srt, hs, ho⟩
      · refine (nsK_rest (srt := []) (by (exact Nat.lt_of_lt_of_eq ‹_› (Eq.symm ‹_›))) hB hsd hsu hhr hhy hkey (by lia) hnb hlen (fun q => absurd hz q) he).mono ?_
        rintro af st' (⟨_, rfl, o, hh⟩ | ⟨q, _⟩)
        · refine (iEA (.lst []) ?_ (by rw [ho]))
          simp [retAV, hh]
        · exact absurd hz q
      · refine (nsK_rest (srt := srt) (by lia) hB hsd hsu hhr hhy hkey (by lia) hnb hlen (fun _ => hs) he).mono ?_
        rintro af st' (⟨q, _⟩ | ⟨_, rfl, _⟩)
        · exact absurd q hz
        · exact (iEA _ rfl (by rw [ho]))

/- of an iterator, with a key -/
theorem con_nsI {W : Wx} (hB : BiOk W) {fsd fsu fhy fhr f : Addr} {dV : Value} (hsd : FnOk W 9 "_siftdown_max" .none .none fsd) (hsu : FnOk W 10 "_siftup_max" .none .none fsu) (hhr : FnOk W 5 "_heapreplace_max" .none .none fhr) (hhy : FnOk W 6 "_heapify_max" .none .none fhy) (hf : FnOk W 11 "nsmallest" dV .none f) (hdV : TupAt W dV #[.none])
    {n m : Nat} {l out : List FV} {ps : Arguments} {le : Expr} {sc : Scope} {key : FV → FV} (hkey : ∀ e ∈ l, PairF e ∧ IntF (key e) ∧ LamGives W ps le sc m e (key e)) (hnb : n ≤ 60) (hlen : l.length ≤ 60) (k : Nat) (hk3 : 3 ≤ k) (hmk : m + 2 ≤ k)
    (h1 : n = 1 → out = (bestF FV.lt key l).toList)
    (h3 : n ≠ 1 → zipL 0 (1) n l ≠ [] ∧ ∃ srt, SOut id false (nsFin key n l) srt ∧ out = srt.map el3) :
    Con W (.ref f) (k + 1) [.f (.int n), .obj 0] [("key", .lam ps le sc)] [.iter l] (fun av hp => av = .lst out ∧ hp = [.junk]) := by
  (refine oEEEEEEAA hf.at_ ?_; rintro o doc pm an cd ct ho hd hcd)
  refine con_def ho hd hcd [("n", .f (.int n)), ("iterable", .obj 0), ("key", .lam ps le sc)] (bindnsK hdV) (by simp only [List.map_cons, List.map_nil]; decide) locns cnns rfl rfl rfl ?_
  rintro X rfl hn ⟨L, he⟩ hfr
  have hk : ∀ x, X.env.kindOf x = (dSco 11).names.lookup x := fun x => by rw [he]; rfl
  refine ws_cons (ws1_if (pt_cmp (pe_loc rfl) pe_int co_eq_int) (fun ht => ?_) fun ht => ?_)
  · have hn1 : n = 1 := by have := beq_iff_eq.mp ht; lia
    refine ws_cons (ws1_assignE (.inl ((hk _).trans rfl)) (we_iter_own (l := l) (pe_glo ((hk _).trans rfl) hB.iter) (pe_loc rfl) rfl ?_))
    refine ws_from (st' := ⟨[("key", .lam ps le sc), ("it", .obj 0)], [.iter l]⟩) ⟨⟨[], rfl⟩, ⟨rfl, rfl, trivial⟩, rfl⟩ rfl ?_
    refine (ns1_rest (by lia) hB (key := key) (.inr ⟨ps, le, sc, m, rfl, by lia, fun x hx => (hkey x hx).2.2⟩) (fun x hx y hy => cmpU_int _ _ (hkey x hx).2.1 (hkey y hy).2.1) he).mono ?_
    (rintro af st' zq1; refine oAE zq1 ?_; clear zq1; rintro rfl o hh)
    exact (iEAA _ rfl (by rw [h1 hn1]) (by rw [hh]; rfl))
  · have hn1 : n ≠ 1 := fun q => by rw [q] at ht; simp at ht
    (refine oAEA (h3 hn1) ?_; rintro hz srt hs ho)
    refine ws_nil (ws_cons (ws1_try_len (l := l) hfr (pe_glo ((hk _).trans rfl) hB.len) (pe_loc rfl) rfl ((hk _).trans rfl) hB.terr ((hk _).trans rfl) hB.aerr ?_))
    refine ws_cons (ws1_if (pt_cmp (pe_loc rfl) pe_none (co_isNone rfl)) (fun h => nomatch h) (fun _ => ws_nil ?_))
    refine ws_cons (ws1_assignE (.inl ((hk _).trans rfl)) (we_iter_own (l := l) (pe_glo ((hk _).trans rfl) hB.iter) (pe_loc rfl) rfl ?_))
    refine ws_from (st' := ⟨[("n", .f (.int n)), ("key", .lam ps le sc), ("it", .obj 0)], [.iter l]⟩) ⟨⟨[], rfl⟩, ⟨rfl, rfl, rfl, trivial⟩, rfl⟩ rfl ?_
    refine (nsK_rest (srt := srt) (by lia) hB hsd hsu hhr hhy hkey (by lia) hnb hlen (fun _ => hs) he).mono ?_
    rintro af st' (⟨q, _⟩ | ⟨_, rfl, o, hh⟩)
    · exact absurd q hz
    · exact (iEAA _ rfl (by rw [ho]) (by rw [hh]; rfl))
/- of a list, without a key -/
theorem con_nu {W : Wx} (hB : BiOk W) {fsd fsu fhy fhr f : Addr} {dV : Value} (hsd : FnOk W 9 "_siftdown_max" .none .none fsd) (hsu : FnOk W 10 "_siftup_max" .none .none fsu) (hhr : FnOk W 5 "_heapreplace_max" .none .none fhr) (hhy : FnOk W 6 "_heapify_max" .none .none fhy) (hf : FnOk W 11 "nsmallest" dV .none f) (hdV : TupAt W dV #[.none])
    {n : Nat} {l out : List FV} (hkey : ∀ e ∈ l, PairF e) (hnb : n ≤ 60) (hlen : l.length ≤ 60) (k : Nat) (hk3 : 3 ≤ k)
    (h1 : n = 1 → out = (bestF FV.lt id l).toList) (h2 : n ≠ 1 → l.length ≤ n → ∃ srt, SOut id false l srt ∧ out = srt.take n)
    (h3 : n ≠ 1 → n < l.length → (zipL 0 1 n l = [] ∧ out = []) ∨ (zipL 0 1 n l ≠ [] ∧ ∃ srt, SOut id false (nuFin n l) srt ∧ out = srt.map el2)) :
    Con W (.ref f) (k + 1) [.f (.int n), .lst l] [] [] (fun av _ => av = .lst out) := by
  (refine oEEEEEEAA hf.at_ ?_; rintro o doc pm an cd ct ho hd hcd)
  refine con_def ho hd hcd [("n", .f (.int n)), ("iterable", .lst l), ("key", .f .none)] (bindns hdV) (by simp only [List.map_cons, List.map_nil]; decide) locns cnns rfl rfl rfl ?_
  rintro X rfl hn ⟨L, he⟩ hfr
  have hk : ∀ x, X.env.kindOf x = (dSco 11).names.lookup x := fun x => by rw [he]; rfl
  refine ws_cons (ws1_if (pt_cmp (pe_loc rfl) pe_int co_eq_int) (fun ht => ?_) fun ht => ?_)
  · have hn1 : n = 1 := by have := beq_iff_eq.mp ht; lia
    refine ws_cons (ws1_assignE (.inl ((hk _).trans rfl)) (we_iter (l := l) (pe_glo ((hk _).trans rfl) hB.iter) (pe_loc rfl) rfl ?_))
    refine ws_from (st' := ⟨[("key", .f .none), ("it", .obj 0)], [.iter l]⟩) ⟨⟨[], rfl⟩, ⟨rfl, rfl, trivial⟩, rfl⟩ rfl ?_
    refine (ns1_rest (by lia) hB (key := id) (.inl ⟨rfl, fun x hx => rfl⟩) (fun x hx y hy => cmpU_pair _ _ (hkey x hx) (hkey y hy)) he).mono ?_
    rintro af st' ⟨rfl, _⟩
    exact (iEA _ rfl (by rw [h1 hn1]))
  · have hn1 : n ≠ 1 := fun q => by rw [q] at ht; simp at ht
    refine ws_nil (ws_cons (ws1_try_ok (ws_one (ws1_assign (.inl ((hk _).trans rfl)) (pe_lenN (l := l) hB ((hk _).trans rfl) (pe_loc rfl) (by lia)) ?_))))
    refine ws_one (ws1_if (pt_cmp (pe_loc rfl) (pe_loc rfl) co_ge_int) (fun ht2 => ?_) fun ht2 => ws_nil ?_)
    · have hle : l.length ≤ n := by have := of_decide_eq_true ht2; lia
      (refine oEA (h2 hn1 hle) ?_; rintro srt hs rfl)
      refine ws_one (ws1_returnN (pn_sliceT (l := srt) (PN.pe (pn_sorted (l := l) (pe_glo ((hk _).trans rfl) hB.sorted) (pe_loc rfl) rfl (.cons (pe_loc rfl) .nil) (.inr (.inl ⟨rfl, rfl⟩)) (by lia) (ord_of ltOk_pair fun x hx => hkey x (mem_katRev.mp hx)) (keyed_pair hkey) hs)) rfl .none (.some (pe_loc rfl)) (by have := hs.length; lia)) (iEA _ rfl ?_))
      rw [pickL_take]
    · have hlt : n < l.length := by have := of_decide_eq_false ht2; lia
      refine ws_cons (ws1_if (pt_cmp (pe_loc rfl) pe_none (co_isNone rfl)) (fun _ => ?_) (fun h => nomatch h))
      refine ws_cons (ws1_assignE (.inl ((hk _).trans rfl)) (we_iter (l := l) (pe_glo ((hk _).trans rfl) hB.iter) (pe_loc rfl) rfl ?_))
      refine ws_from (st' := ⟨[("n", .f (.int n)), ("it", .obj 0)], [.iter l]⟩) ⟨⟨[], rfl⟩, ⟨rfl, rfl, trivial⟩, rfl⟩ rfl ?_
      rcases h3 hn1 hlt with ⟨hz, ho⟩ | ⟨hz, srt, hs, ho⟩
      · refine (nu_rest (srt := []) (by lia) hB hsd hsu hhr hhy hkey hnb hlen (fun q => absurd hz q) he).mono ?_
        rintro af st' (⟨_, rfl, o, hh⟩ | ⟨q, _⟩)
        · refine (iEA (.lst []) ?_ (by rw [ho]))
          simp [retAV, hh]
        · exact absurd hz q
      · refine (nu_rest (srt := srt) (by lia) hB hsd hsu hhr hhy hkey hnb hlen (fun _ => hs) he).mono ?_
        rintro af st' (⟨q, _⟩ | ⟨_, rfl, _⟩)
        · exact absurd q hz
        · exact (iEA _ rfl (by rw [ho]))

theorem nl1_rest {X : Fx} (hn : 2 ≤ X.n) (hB : BiOk X.toWx) {l : List FV} {kav : AV} {key : FV → FV} (hkav : (kav = .f .none ∧ ∀ x ∈ l, key x = x) ∨ ∃ ps e sc m, kav = .lam ps e sc ∧ m + 1 ≤ X.n ∧ ∀ x ∈ l, LamGives X.toWx ps e sc m x (key x)) (hcm : ∀ x ∈ l, ∀ y ∈ l, IntP (key x) (key y)) {L f : Addr} {cd : Value} (he : X.env = envOf "nlargest" (dSco 12) L f cd) :
    WS X ((match dBody 12 with | .If _ b _ _ :: _ => b | _ => []).drop 1) ⟨[("key", kav), ("it", .obj 0)], [.iter l]⟩ (fun af st' => af = .ret (.lst (bestF gtF key l).toList) ∧ ∃ o, st'.hp = [.junk, o]) := by
  have hk : ∀ x, X.env.kindOf x = (dSco 12).names.lookup x := fun x => by rw [he]; rfl
  refine ws_cons (ws1_assignE (.inl ((hk _).trans rfl)) (we_object (pe_glo ((hk _).trans rfl) hB.object) ?_))
  refine ws_cons (ws1_assignE (.inl ((hk _).trans rfl)) (we_max (key := key) (better := gtF) (Cq := IntP) (by lia) (pe_glo ((hk _).trans rfl) hB.max) (pe_loc rfl) rfl (pe_loc rfl) (pe_loc rfl) hkav hcm ?_ ?_ ?_))
  · rintro x y v u s ⟨⟨a, rfl⟩, ⟨b, rfl⟩⟩ r1 r2 Q E q
    obtain ⟨t, rfl⟩ := r1
    obtain ⟨t', rfl⟩ := r2
    exact gt_int (by rw [show decide (a > b) = gtF (.int a) (.int b) from (int_lt b a).symm]; exact q)
  · rintro rfl
    exact ws_one (ws1_returnN (pn_if (b := true) (pt_cmp (pe_loc rfl) (pe_loc rfl) (co_is_self rfl)) (fun _ => pn_list (l := []) .nil (by simp)) (fun h => nomatch h)) (iAE rfl _ rfl))
  · intro x hx
    refine ws_one (ws1_returnN (pn_if (b := false) (pt_cmp (pe_loc rfl) (pe_loc rfl) (co_is_flat rfl)) (fun h => nomatch h) (fun _ => pn_list (l := [x]) (.cons (pe_loc rfl) .nil rfl) (by simp))) (iAE ?_ _ rfl))
    rw [hx]; rfl
theorem bindnlK {W : Wx} {dV : Value} (hdV : TupAt W dV #[.none]) {n : Nat} {a kav : AV} {hp : List AO} {doc pm cd ct : Value} {an : Option Addr} :
    ∀ s F ρ vs kvs, Rep0 W F ρ hp s → RepVs s.heap (im0 W ρ) ρ [.f (.int n), a] vs → RepKs s.heap (im0 W ρ) ρ [("key", kav)] kvs → ∃ binds, BindsTo s (fnX "nlargest" "nlargest" (dPar 12) (dBody 12) (dSco 12) [] dV .none doc pm an cd ct) ⟨vs, kvs⟩ binds ∧ RepKs s.heap (im0 W ρ) ρ [("n", .f (.int n)), ("iterable", a), ("key", kav)] binds := by
  intro s F ρ vs kvs R hv hk
  refine hk.c1 (fun _ rk => ?_)
  ·
    refine hv.c2 (fun _ _ r1 r2 => ?_)
    ·
        (refine oEEEAA hdV ?_; try clear hdV; rintro T oT nT rfl hT hTd)
        exact (iEA _ (BindsTo.of_defaults rfl (R.keep _ _ hT) hTd rfl rfl) (.cons r1 (.cons r2 (.cons rk .nil))))
theorem bindnl {W : Wx} {dV : Value} (hdV : TupAt W dV #[.none]) {n : Nat} {a : AV} {hp : List AO} {doc pm cd ct : Value} {an : Option Addr} :
    ∀ s F ρ vs kvs, Rep0 W F ρ hp s → RepVs s.heap (im0 W ρ) ρ [.f (.int n), a] vs → RepKs s.heap (im0 W ρ) ρ [] kvs → ∃ binds, BindsTo s (fnX "nlargest" "nlargest" (dPar 12) (dBody 12) (dSco 12) [] dV .none doc pm an cd ct) ⟨vs, kvs⟩ binds ∧ RepKs s.heap (im0 W ρ) ρ [("n", .f (.int n)), ("iterable", a), ("key", .f .none)] binds := by
  intro s F ρ vs kvs R hv hk
  refine hk.c0 ?_
  refine hv.c2 (fun _ _ r1 r2 => ?_)
  ·
      (refine oEEEAA hdV ?_; try clear hdV; rintro T oT nT rfl hT hTd)
      exact (iEA _ (BindsTo.of_defaults rfl (R.keep _ _ hT) hTd rfl rfl) (.cons r1 (.cons r2 (.cons rfl .nil))))
theorem locnl {a b c : AV} : ∀ y ∈ [(Str.ofString "n", a), (Str.ofString "iterable", b), (Str.ofString "key", c)], (dSco 12).names.lookup y.1 = some .local ∨ ((dSco 12).names.lookup y.1 = some .cell ∧ ∀ k, ((cellsFrom k (dSco 12).names []).lookup y.1).isSome = true) := by
  intro y hy
  simp only [List.mem_cons, List.not_mem_nil, or_false] at hy
  rcases hy with rfl | rfl | rfl
  · exact .inl rfl
  · exact .inl rfl
  · exact .inr ⟨rfl, fun k => rfl⟩
theorem cnnl : ∀ k, ((cellsFrom k (dSco 12).names []).map (·.1)).Nodup := fun k => by
  show List.Nodup [_]
  simp
/- of a list, with a key -/
theorem con_nlK {W : Wx} (hB : BiOk W) {fsd fsu fhy fhr f : Addr} {dV : Value} (hsd : FnOk W 7 "_siftdown" .none .none fsd) (hsu : FnOk W 8 "_siftup" .none .none fsu) (hhr : FnOk W 2 "heapreplace" .none .none fhr) (hhy : FnOk W 4 "heapify" .none .none fhy) (hf : FnOk W 12 "nlargest" dV .none f) (hdV : TupAt W dV #[.none])
    {n m : Nat} {l out : List FV} {ps : Arguments} {le : Expr} {sc : Scope} {key : FV → FV} (hkey : ∀ e ∈ l, PairF e ∧ IntF (key e) ∧ LamGives W ps le sc m e (key e)) (hnb : n ≤ 60) (hlen : l.length ≤ 60) (k : Nat) (hk3 : 3 ≤ k) (hmk : m + 2 ≤ k)
    (h1 : n = 1 → out = (bestF gtF key l).toList) (h2 : n ≠ 1 → l.length ≤ n → ∃ srt, SOut key true l srt ∧ out = srt.take n)
    (h3 : n ≠ 1 → n < l.length → (zipL 0 (-1) n l = [] ∧ out = []) ∨ (zipL 0 (-1) n l ≠ [] ∧ ∃ srt, SOut id true (nlFin key n l) srt ∧ out = srt.map el3)) :
    Con W (.ref f) (k + 1) [.f (.int n), .lst l] [("key", .lam ps le sc)] [] (fun av _ => av = .lst out) := by
  (refine oEEEEEEAA hf.at_ ?_; rintro o doc pm an cd ct ho hd hcd)
  refine con_def ho hd hcd [("n", .f (.int n)), ("iterable", .lst l), ("key", .lam ps le sc)] (bindnlK hdV) (by simp only [List.map_cons, List.map_nil]; decide) locnl cnnl rfl rfl rfl ?_
  rintro X rfl hn ⟨L, he⟩ hfr
  have hk : ∀ x, X.env.kindOf x = (dSco 12).names.lookup x := fun x => by rw [he]; rfl
  refine ws_cons (ws1_if (pt_cmp (pe_loc rfl) pe_int co_eq_int) (fun ht => ?_) fun ht => ?_)
  · have hn1 : n = 1 := by have := beq_iff_eq.mp ht; lia
    refine ws_cons (ws1_assignE (.inl ((hk _).trans rfl)) (we_iter (l := l) (pe_glo ((hk _).trans rfl) hB.iter) (pe_loc rfl) rfl ?_))
    refine ws_from (st' := ⟨[("key", .lam ps le sc), ("it", .obj 0)], [.iter l]⟩) ⟨⟨[], rfl⟩, ⟨rfl, rfl, trivial⟩, rfl⟩ rfl ?_
    refine (nl1_rest (by lia) hB (key := key) (.inr ⟨ps, le, sc, m, rfl, by lia, fun x hx => (hkey x hx).2.2⟩) (fun x hx y hy => ⟨(hkey x hx).2.1, (hkey y hy).2.1⟩) he).mono ?_
    rintro af st' ⟨rfl, _⟩
    exact (iEA _ rfl (by rw [h1 hn1]))
  · have hn1 : n ≠ 1 := fun q => by rw [q] at ht; simp at ht
    refine ws_nil (ws_cons (ws1_try_ok (ws_one (ws1_assign (.inl ((hk _).trans rfl)) (pe_lenN (l := l) hB ((hk _).trans rfl) (pe_loc rfl) (by lia)) ?_))))
    refine ws_one (ws1_if (pt_cmp (pe_loc rfl) (pe_loc rfl) co_ge_int) (fun ht2 => ?_) fun ht2 => ws_nil ?_)
    · have hle : l.length ≤ n := by have := of_decide_eq_true ht2; lia
      (refine oEA (h2 hn1 hle) ?_; rintro srt hs rfl)
      refine ws_one (ws1_returnN (pn_sliceT (l := srt) (PN.pe (pn_sortedK (l := l) (key := key) (m := m) (pe_glo ((hk _).trans rfl) hB.sorted) (pe_loc rfl) rfl (.cons (pe_loc rfl) (.cons pe_bool .nil)) (.inr ⟨rfl, rfl⟩) (by lia) (fun x hx => (hkey x hx).2.2) (by lia) (ord_of ltOk_int fun x hx => ?_) (keyed_int fun x hx => ?_) hs)) rfl .none (.some (pe_loc rfl)) (by have := hs.length; lia)) (iEA _ rfl ?_))
      · (refine oEA (List.mem_map.mp (mem_katRev.mp hx)) ?_; rintro y hy rfl); exact (hkey y hy).2.1
      · (refine oEA (List.mem_map.mp hx) ?_; rintro y hy rfl); exact (hkey y hy).2.1
      · rw [pickL_take]
    · have hlt : n < l.length := by have := of_decide_eq_false ht2; lia
      refine ws_cons (ws1_if (pt_cmp (pe_loc rfl) pe_none (co_isNone rfl)) (fun h => nomatch h) (fun _ => ws_nil ?_))
      refine ws_cons (ws1_assignE (.inl ((hk _).trans rfl)) (we_iter (l := l) (pe_glo ((hk _).trans rfl) hB.iter) (pe_loc rfl) rfl ?_))
      refine ws_from (st' := ⟨[("n", .f (.int n)), ("key", .lam ps le sc), ("it", .obj 0)], [.iter l]⟩) ⟨⟨[], rfl⟩, ⟨rfl, rfl, rfl, trivial⟩, rfl⟩ rfl ?_
      rcases h3 hn1 hlt with ⟨hz, ho⟩ | ⟨hz, srt, hs, ho⟩
      · refine (nlK_rest (srt := []) (by lia) hB hsd hsu hhr hhy hkey (by lia) hnb hlen (fun q => absurd hz q) he).mono ?_
        rintro af st' (⟨_, rfl, o, hh⟩ | ⟨q, _⟩)
        · refine (iEA (.lst []) ?_ (by rw [ho]))
          simp [retAV, hh]
        · exact absurd hz q
      · refine (nlK_rest (srt := srt) (by lia) hB hsd hsu hhr hhy hkey (by lia) hnb hlen (fun _ => hs) he).mono ?_
        rintro af st' (⟨q, _⟩ | ⟨_, rfl, _⟩)
        · exact absurd q hz
        · exact (iEA _ rfl (by rw [ho]))

/- of no things -/
theorem con_nl0 {W : Wx} (hB : BiOk W) {f : Addr} {dV : Value} (hf : FnOk W 12 "nlargest" dV .none f) (hdV : TupAt W dV #[.none]) {n : Nat} (hnb : n ≤ 60) (k : Nat) (hk3 : 3 ≤ k) :
    Con W (.ref f) (k + 1) [.f (.int n), .lst []] [] [] (fun av _ => av = .lst []) := by
  (refine oEEEEEEAA hf.at_ ?_; rintro o doc pm an cd ct ho hd hcd)
  refine con_def ho hd hcd [("n", .f (.int n)), ("iterable", .lst []), ("key", .f .none)] (bindnl hdV) (by simp only [List.map_cons, List.map_nil]; decide) locnl cnnl rfl rfl rfl ?_
  rintro X rfl hn ⟨L, he⟩ hfr
  have hk : ∀ x, X.env.kindOf x = (dSco 12).names.lookup x := fun x => by rw [he]; rfl
  refine ws_cons (ws1_if (pt_cmp (pe_loc rfl) pe_int co_eq_int) (fun ht => ?_) fun ht => ?_)
  · refine ws_cons (ws1_assignE (.inl ((hk _).trans rfl)) (we_iter (l := []) (pe_glo ((hk _).trans rfl) hB.iter) (pe_loc rfl) rfl ?_))
    refine ws_from (st' := ⟨[("key", .f .none), ("it", .obj 0)], [.iter []]⟩) ⟨⟨[], rfl⟩, ⟨rfl, rfl, trivial⟩, rfl⟩ rfl ?_
    refine (nl1_rest (by lia) hB (key := id) (.inl ⟨rfl, fun x hx => rfl⟩) (fun x hx => by simp at hx) he).mono ?_
    rintro af st' ⟨rfl, _⟩
    exact (iEA _ rfl rfl)
  · refine ws_nil (ws_cons (ws1_try_ok (ws_one (ws1_assign (.inl ((hk _).trans rfl)) (pe_lenN (l := []) hB ((hk _).trans rfl) (pe_loc rfl) (by simp)) ?_))))
    refine ws_one (ws1_if (b := true) (PT.to (pt_cmp (pe_loc rfl) (pe_loc rfl) co_ge_int) (by simp)) (fun ht2 => ?_) fun ht2 => nomatch ht2)
    have hs : SOut id true [] [] := (iEAA ([]) (.refl _) (.nil) rfl)
    refine ws_one (ws1_returnN (pn_sliceT (l := []) (PN.pe (pn_sorted (l := []) (pe_glo ((hk _).trans rfl) hB.sorted) (pe_loc rfl) rfl (.cons (pe_loc rfl) (.cons pe_bool .nil)) (.inr (.inr ⟨rfl, rfl⟩)) (by simp) (ord_of ltOk_pair fun x hx => by simp [katRev] at hx) (keyed_pair fun x hx => by simp at hx) hs)) rfl .none (.some (pe_loc rfl)) (by simp)) (iEA _ rfl ?_))
    rw [pickL_take]; simp
end Mine
end
section
open PySem PySem.W PySem.Calls PyProof.Rows
set_option Elab.async false
set_option maxRecDepth 100000
set_option linter.unusedVariables false
set_option linter.unusedSimpArgs false
namespace Mine
section
variable {X : Fx} {st : St}
/- return f(..) -/
theorem ws1_retcall {fn : Str} {p pos rpos : Pos} {es : List Expr} {kws : List Keyword} {f : Value} {n : Nat} {as bs : List AV} {kas kbs : List (Str × AV)} {av : AV} {Q : AF → St → Prop}
    (hf : PE X st (.Name fn p) (.val f)) (hfo : ∃ a o fd, f = .ref a ∧ X.h₀.get? a = some o ∧ o.data = .func fd) (h1 : PEs X st es as) (h2 : PKs X st kws kas)
    (C : Con X.toWx f n bs kbs [] (fun a _ => a = av)) (hn : n ≤ X.n) (hca : convAs st.hp [] as = some bs) (hck : convKs st.hp [] kas = some kbs) (q : Q (.ret av) st) : WS1 X (.Return (some (.Call (.Name fn p) es kws pos)) rpos) st Q := fun ρ s R =>
  wpAny_Return_some (call_on hf hfo h1 h2 C hn hca hck R fun v s' av' hp' R' G rr hq => by
    subst hq
    refine (iEEEAAA ρ (.ret av') st R' (R.ext G) ((iEA v rfl ?_)) q)
    cases av' with
    | lst l => exact rr
    | f x => exact rr
    | val x => exact rr
    | lam p e sc => exact rr
    | obj k => (refine oEA rr ?_; try clear rr; rintro a e _); simp at e)
end
noncomputable def rankOf (x : Int) : Int := if x.fmod 2 = 0 then x.fdiv 2 else (x.fdiv 2).fmod 4
noncomputable def thingF (r : Int) (i : Nat) : FV := .tup [.int r, .int i]
noncomputable def thingsFrom : Nat → List Int → List FV
  | _, [] => []
  | i, x :: xs => thingF (rankOf x) i :: thingsFrom (i + 1) xs
noncomputable def theInts (ns : List Int) : List Int := ns.take 10 ++ [6, 4, 6, 3, 0, 6]
theorem con_things {W : Wx} (hB : BiOk W) {f : Addr} (hf : FnOk W 17 "_law_things" .none .none f) {ns : List Int} (hns : ns.length ≤ 100) (n : Nat) :
    Con W (.ref f) (n + 1) [.lst (ns.map .int)] [] [] (fun av _ => av = .lst (thingsFrom 0 (theInts ns))) := by
  (refine oEEEEEEAA hf.at_ ?_; rintro o doc pm an cd ct ho hd hcd)
  refine con_def ho hd hcd [("script", .lst (ns.map .int))] bind1 (by simp only [List.map_cons, List.map_nil]; decide) ?_ (fun k => .nil) rfl rfl rfl ?_
  · intro y hy
    simp only [List.mem_cons, List.not_mem_nil, or_false] at hy
    rcases hy with rfl; exact .inl rfl
  · rintro X rfl hn ⟨L, he⟩ hfr
    have hk : ∀ x, X.env.kindOf x = (dSco 17).names.lookup x := fun x => by rw [he]; rfl
    refine ws_cons (ws1_assignE (.inl ((hk _).trans rfl)) ((pn_list (l := []) .nil (by simp)).own ?_))
    refine ws_cons (ws1_for 1 (fun m st => ∃ (acc : List FV) (rest : List Int), m = rest.length ∧ acc.length + rest.length ≤ 16 ∧ acc ++ thingsFrom acc.length rest = thingsFrom 0 (theInts ns) ∧ st = ⟨[("script", .lst (ns.map .int)), ("things", .obj 0)], [.list acc, .iter (rest.map .int)]⟩) (theInts ns).length
      (wi_list (l := (theInts ns).map .int) (PE.to (pn_add (l := pickL (ns.map .int) none (some 10)) (m := [6, 4, 6, 3, 0, 6].map .int) (pn_slice (l := ns.map .int) (pe_loc rfl) rfl .none (.some pe_int) (by simp; (exact Nat.le_trans ‹_› (by decide)))).pe (pn_list (l := [6, 4, 6, 3, 0, 6].map .int) (.cons pe_int (.cons pe_int (.cons pe_int (.cons pe_int (.cons pe_int (.cons pe_int .nil rfl) rfl) rfl) rfl) rfl) rfl) (by simp)).pe rfl rfl ?_).pe ?_) (iAEEAAA rfl ([]) (theInts ns) rfl ?_ rfl rfl)) ?_)
    · rw [show ((10 : Int)) = ((10 : Nat) : Int) from rfl, pickL_take]; simp; lia
    · rw [show ((10 : Int)) = ((10 : Nat) : Int) from rfl, pickL_take, theInts, List.map_append, List.map_take]
    · simp [theInts]; lia
    · (rintro m st zq1; refine oEEAAA zq1 ?_; clear zq1; rintro acc rest rfl hlen hacc rfl)
      refine (iEAA _ rfl rfl ?_)
      cases rest with
      | nil =>
        refine ws_one (ws1_return (pe_loc rfl) rfl (iEA (.lst acc) rfl ?_))
        rw [← hacc]; simp [thingsFrom]
      | cons x xs =>
        refine (iAEA rfl _ (at_name (.inl ((hk _).trans rfl))) (ws_weak ?_))
        refine ws_cons (ws1_assign (.inl ((hk _).trans rfl)) (av := .f (.int (rankOf x))) (pe_if (b := x.fmod 2 == 0) (pt_cmp (pe_bin (pe_loc rfl) pe_int (bo_mod (by decide))) pe_int co_eq_int) (fun h => PE.to (pe_bin (pe_loc rfl) pe_int (bo_fdiv (by decide) (PyProof.noPylong_small (by decide)))) (by unfold rankOf; rw [if_pos (beq_iff_eq.mp h)])) (fun h => PE.to (pe_bin (pe_bin (pe_loc rfl) pe_int (bo_fdiv (by decide) (PyProof.noPylong_small (by decide)))) pe_int (bo_mod (by decide))) (by unfold rankOf; rw [if_neg (fun q => by rw [q] at h; simp at h)]))) ?_)
        simp only [List.length_cons] at hlen
        refine ws_one (ws1_expr (we_append (l₀ := acc) (pe_loc rfl) rfl ((pe_tuple (l := [.int (rankOf x), .int acc.length]) (.cons (pe_loc rfl) (.cons (pe_lenN (l := acc) hB ((hk _).trans rfl) (pe_loc rfl) (by lia)) .nil rfl) rfl) (by simp)).we (iEEAAA _ acc rfl rfl (by lia) ?_))) X.notInteractive)
        refine ⟨⟨[("script", .lst (ns.map .int)), ("things", .obj 0)], [.list (acc ++ [thingF (rankOf x) acc.length]), .iter (xs.map .int)]⟩, ⟨⟨[], rfl⟩, ⟨rfl, rfl, trivial⟩, rfl⟩, Nat.le_refl _, _, ?_, acc ++ [thingF (rankOf x) acc.length], xs, rfl, ?_, ?_, rfl⟩
        · simp
        · simp; lia
        · rw [← hacc]; simp [thingsFrom]
noncomputable def negF : FV → FV
  | .tup [.int a, .int b] => .tup [.int (-a), .int (-b)]
  | _ => .none
theorem negF_pair {y : FV} (h : PairF y) : PairF (negF y) := by (refine oEE h ?_; try clear h; rintro a b rfl); exact (iEE (-a) (-b) rfl)
theorem con_turned {W : Wx} (hB : BiOk W) {f : Addr} (hf : FnOk W 18 "_law_turned" .none .none f) {l out : List FV} (hl : ∀ x ∈ l, PairF x) (hz : l.length ≤ 60) (ho : SOut id false (l.map negF) out) (n : Nat) :
    Con W (.ref f) (n + 1) [.lst l] [] [] (fun av _ => av = .lst out) := by
  (refine oEEEEEEAA hf.at_ ?_; rintro o doc pm an cd ct ho' hd hcd)
  refine con_def ho' hd hcd [("heap", .lst l)] bind1 (by simp only [List.map_cons, List.map_nil]; decide) ?_ (fun k => .nil) rfl rfl rfl ?_
  · intro y hy
    simp only [List.mem_cons, List.not_mem_nil, or_false] at hy
    rcases hy with rfl; exact .inl rfl
  · rintro X rfl hn ⟨L, he⟩ hfr
    have hk : ∀ x, X.env.kindOf x = (dSco 18).names.lookup x := fun x => by rw [he]; rfl
    have hneg : ∀ x ∈ l.map negF, PairF x := fun x hx => by (refine oEA (List.mem_map.mp hx) ?_; rintro y hy rfl); exact negF_pair (hl y hy)
    refine ws_one (ws1_returnN (pn_sorted (l := l.map negF) (pe_glo ((hk _).trans rfl) hB.sorted) (PE.to (pn_comp (l := l) (p := fun _ => true) (f := negF) ⟨cs_list (pe_loc rfl) rfl, rfl, ?_, ?_, ⟨[], [], by rw [he]; rfl, (fun _ h => nomatch h), by simp, fun _ _ h => by simp at h, ?_⟩, by (exact Nat.le_trans ‹_› (by decide))⟩).pe (by rw [List.filter_eq_self.mpr (fun _ _ => rfl)])) rfl .nil (.inl ⟨rfl, rfl⟩) (by simp; (exact Nat.lt_of_le_of_lt ‹_› (by decide))) (ord_of ltOk_pair fun x hx => hneg x (mem_katRev.mp hx)) (keyed_pair hneg) ho) (iEA _ rfl rfl))
    · intro x hx
      simp only [List.mem_cons, List.not_mem_nil, or_false] at hx
      rcases hx with rfl | rfl | rfl <;> simp
    · intro x hx _
      simp only [List.mem_cons, List.not_mem_nil, or_false] at hx
      rcases hx with rfl | rfl | rfl <;> rfl
    · intro C x built hx
      (refine oEE (hl x hx) ?_; rintro a b rfl)
      exact (iEAAAA _ (atl_pair (by show (relabel _ X.env).names.lookup _ = _; rw [he]; rfl) (by show (relabel _ X.env).names.lookup _ = _; rw [he]; rfl)) (.nil) (fun _ => pe_tuple (l := [.int (-a), .int (-b)]) (.cons (pe_neg (pe_loc rfl)) (.cons (pe_neg (pe_loc rfl)) .nil rfl) rfl) (by simp)) rfl (fun _ _ h => by simp at h))
end Mine
end
section
open PySem PySem.W PySem.Calls PyProof.Rows
set_option Elab.async false
set_option maxRecDepth 100000
set_option linter.unusedVariables false
set_option linter.unusedSimpArgs false
namespace Mine
noncomputable def hsGo (places : Nat) : List FV → List FV → List FV → List FV × List FV
  | h, g, [] => (h, g)
  | h, g, t :: ts => if h.length < places then hsGo places (sd FV.lt 0 (negF t) (h ++ [negF t]) h.length) g ts else hsGo places (hppHeap h (negF t)) (g ++ [hppRet h (negF t)]) ts
theorem push_perm (h : List FV) (x : FV) : (sd FV.lt 0 x (h ++ [x]) h.length).Perm (h ++ [x]) := by
  refine (sd_perm FV.lt 0 x (h ++ [x]) h.length (by simp)).trans (.of_eq ?_)
  simp
theorem hpp_perm (h : List FV) (x : FV) : (hppRet h x :: hppHeap h x).Perm (x :: h) := by
  unfold hppRet hppHeap
  split
  · rename_i hc
    have hp : 0 < h.length := by
      simp only [Bool.and_eq_true] at hc
      cases h <;> simp_all
    refine (List.Perm.cons _ (su_perm FV.lt (h.set 0 x) 0 (by simpa using hp))).trans ?_
    cases h with
    | nil => simp at hp
    | cons y ys => simp only [List.set_cons_zero, List.getD_cons_zero]; exact List.Perm.swap _ _ _
  · exact .refl _
theorem hpp_pair {h : List FV} {x : FV} (hh : ∀ y ∈ h, PairF y) (hx : PairF x) : PairF (hppRet h x) ∧ ∀ y ∈ hppHeap h x, PairF y := by
  have : ∀ y ∈ hppRet h x :: hppHeap h x, PairF y := fun y hy => by
    rcases List.mem_cons.mp ((hpp_perm h x).mem_iff.mp hy) with rfl | h
    · exact hx
    · exact hh y h
  exact ⟨this _ (.head _), fun y hy => this y (.tail _ hy)⟩
theorem con_hstep {W : Wx} (hB : BiOk W) {fsd fsu fhp fpp ft f : Addr} (hsd : FnOk W 7 "_siftdown" .none .none fsd) (hsu : FnOk W 8 "_siftup" .none .none fsu) (hhp : FnOk W 1 "heappush" .none .none fhp) (hpp : FnOk W 3 "heappushpop" .none .none fpp) (hft : FnOk W 18 "_law_turned" .none .none ft) (hf : FnOk W 19 "_law_heap_step" .none .none f)
    {h come out : List FV} {places : Nat} (hh : ∀ x ∈ h, PairF x) (hcm : ∀ x ∈ come, PairF x) (hlh : h.length + come.length ≤ 60) (ho : SOut id false ((hsGo places h [] come).2.map negF) out) (n : Nat) :
    Con W (.ref f) (n + 4) [.obj 0, .f (.int places), .lst come] [] [.list h] (fun av hp => av = .lst out ∧ hp = [.list (hsGo places h [] come).1]) := by
  (refine oEEEEEEAA hf.at_ ?_; rintro o doc pm an cd ct ho' hd hcd)
  refine con_def ho' hd hcd [("heap", .obj 0), ("places", .f (.int places)), ("come", .lst come)] bind3 (by simp only [List.map_cons, List.map_nil]; decide) ?_ (fun k => .nil) rfl rfl rfl ?_
  · intro y hy
    simp only [List.mem_cons, List.not_mem_nil, or_false] at hy
    rcases hy with rfl | rfl | rfl <;> exact .inl rfl
  · rintro X rfl hn ⟨L, he⟩ hfr
    have hk : ∀ x, X.env.kindOf x = (dSco 19).names.lookup x := fun x => by rw [he]; rfl
    refine ws_cons (ws1_assignE (.inl ((hk _).trans rfl)) ((pn_list (l := []) .nil (by simp)).own ?_))
    refine ws_cons (ws1_for 2 (fun m st => ∃ h' g rest, m = rest.length ∧ (∀ x ∈ h', PairF x) ∧ (∀ x ∈ g, PairF x) ∧ (∀ x ∈ rest, PairF x) ∧ h'.length + rest.length ≤ 60 ∧ g.length + rest.length ≤ 60 ∧ hsGo places h' g rest = hsGo places h [] come ∧ st = ⟨[("heap", .obj 0), ("places", .f (.int places)), ("come", .lst come), ("gone", .obj 1)], [.list h', .list g, .iter rest]⟩) come.length
      (wi_list (l := come) (pe_loc rfl) ⟨rfl, h, [], come, rfl, hh, fun x hx => by simp at hx, hcm, hlh, by simp; (exact Nat.le_trans (Nat.le_add_left _ _) ‹_›), rfl, rfl⟩) ?_)
    (rintro m st zq1; refine oEEEAAAAAAA zq1 ?_; clear zq1; rintro h' g rest rfl hh' hg hrest hl1 hl2 hgo rfl)
    refine (iEAA _ rfl rfl ?_)
    cases rest with
    | nil =>
      have e : hsGo places h [] come = (h', g) := by rw [← hgo]; rfl
      rw [e] at ho ⊢
      simp only [List.length_nil, Nat.add_zero] at hl2
      refine ws_one (ws1_retcall (pe_glo ((hk _).trans rfl) hft.gl) hft.fo (.cons (pe_loc rfl) .nil rfl) .nil (con_turned hB hft hg hl2 ho 0) (by lia) rfl rfl (iEAA _ rfl rfl rfl))
    | cons t ts =>
      have ht := hrest t (.head _)
      (refine oEE (id ht) ?_; rintro a b rfl)
      simp only [List.length_cons] at hl1 hl2
      refine (iAEA rfl _ (at_pair (.inl ((hk _).trans rfl)) (.inl ((hk _).trans rfl))) (ws_weak ?_))
      refine ws_one (ws1_if (b := decide (h'.length < places)) (PT.to (pt_cmp (pe_lenN (l := h') hB ((hk _).trans rfl) (pe_loc rfl) (by lia)) (pe_loc rfl) co_lt_int) (decide_eq_decide.mpr (by simp))) (fun hc => ?_) fun hc => ?_)
      · have hc := of_decide_eq_true hc
        refine ws_one (ws1_expr (we_call (pe_glo ((hk _).trans rfl) hhp.gl) hhp.fo (.cons (pe_loc rfl) (.cons (pe_tuple (l := [.int (-a), .int (-b)]) (.cons (pe_neg (pe_loc rfl)) (.cons (pe_neg (pe_loc rfl)) .nil rfl) rfl) (by simp)) .nil rfl) rfl) .nil (con_push hB hsd hhp cmpU_pair (l := h') hh' ⟨-a, -b, rfl⟩ (by lia) 0) (by lia) (ks := [0]) (by decide) rfl rfl rfl ?_ ?_) X.notInteractive)
        · rintro a hp' ⟨rfl, rfl⟩; rfl
        · rintro a' hp' ⟨rfl, rfl⟩
          refine ⟨⟨[("heap", .obj 0), ("places", .f (.int places)), ("come", .lst come), ("gone", .obj 1)], [.list (sd FV.lt 0 (negF (.tup [.int a, .int b])) (h' ++ [negF (.tup [.int a, .int b])]) h'.length), .list g, .iter ts]⟩, ⟨⟨[], rfl⟩, ⟨rfl, rfl, rfl, rfl, trivial⟩, rfl⟩, Nat.le_refl _, _, Nat.lt_succ_self _, _, g, ts, rfl, ?_, hg, fun x hx => hrest x (.tail _ hx), ?_, by (exact Nat.le_of_lt ‹_›), ?_, rfl⟩
          · intro x hx
            rcases List.mem_append.mp ((push_perm h' _).mem_iff.mp hx) with q | q
            · exact hh' x q
            · rw [List.mem_singleton.mp q]; exact negF_pair ht
          · rw [(push_perm h' _).length_eq]; simp; lia
          · rw [← hgo]; conv => rhs; unfold hsGo
            rw [if_pos hc]
      · have hc := of_decide_eq_false hc
        have hpr := hpp_pair hh' (negF_pair ht)
        refine ws_one (ws1_expr (we_append (l₀ := g) (pe_loc rfl) rfl (we_call (pe_glo ((hk _).trans rfl) hpp.gl) hpp.fo (.cons (pe_loc rfl) (.cons (pe_tuple (l := [.int (-a), .int (-b)]) (.cons (pe_neg (pe_loc rfl)) (.cons (pe_neg (pe_loc rfl)) .nil rfl) rfl) (by simp)) .nil rfl) rfl) .nil (con_hpp hB hsd hsu hpp cmpU_pair (l := h') hh' ⟨-a, -b, rfl⟩ (by lia) 0) (by lia) (ks := [0]) (by decide) rfl rfl rfl ?_ ?_)) X.notInteractive)
        · rintro a hp' ⟨rfl, rfl⟩; rfl
        · rintro a' hp' ⟨rfl, rfl⟩
          refine ⟨hppRet h' (negF (.tup [.int a, .int b])), g, rfl, rfl, by lia, ⟨[("heap", .obj 0), ("places", .f (.int places)), ("come", .lst come), ("gone", .obj 1)], [.list (hppHeap h' (negF (.tup [.int a, .int b]))), .list (g ++ [hppRet h' (negF (.tup [.int a, .int b]))]), .iter ts]⟩, ⟨⟨[], rfl⟩, ⟨rfl, rfl, rfl, rfl, trivial⟩, rfl⟩, Nat.le_refl _, _, Nat.lt_succ_self _, _, _, ts, rfl, hpr.2, ?_, fun x hx => hrest x (.tail _ hx), ?_, ?_, ?_, rfl⟩
          · intro x hx
            rcases List.mem_append.mp hx with q | q
            · exact hg x q
            · rw [List.mem_singleton.mp q]; exact hpr.1
          · have := (hpp_perm h' (negF (.tup [.int a, .int b]))).length_eq
            simp only [List.length_cons] at this; lia
          · simp; lia
          · rw [← hgo]; conv => rhs; unfold hsGo
            rw [if_neg hc]
/- the row's step -/
noncomputable def rsGo (key : FV → FV) (places : Nat) : List FV → List FV → List FV → List FV × List FV
  | r, g, [] => (r, g)
  | r, g, t :: ts =>
    let r' := insAt r t (brGo (fun y => (key t).lt (key y)) r 0 r.length)
    if places < r'.length then rsGo key places r'.dropLast (g ++ [r'.getD (r'.length - 1) .none]) ts else rsGo key places r' g ts
theorem insAt_len {l : List FV} {x : FV} {j : Nat} : (insAt l x j).length = l.length + 1 := by simp [insAt]; lia
theorem insAt_mem {l : List FV} {x y : FV} {j : Nat} (h : y ∈ insAt l x j) : y = x ∨ y ∈ l := by
  simp only [insAt, List.mem_append, List.mem_singleton] at h
  rcases h with (h | h) | h
  · exact .inr (List.mem_of_mem_take h)
  · exact .inl h
  · exact .inr (List.mem_of_mem_drop h)
theorem con_rstep {W : Wx} (hB : BiOk W) {fb fi f : Addr} {dV kV dV' kV' : Value} {t0 t1 : Tok} (hfb : FnOk W 15 "bisect_right" dV kV fb) (hdV : TupAt W dV #[.int 0 t0, .none]) (hkV : KeyAt W kV) (hfi : FnOk W 14 "insort_right" dV' kV' fi) (hdV' : TupAt W dV' #[.int 0 t1, .none]) (hf : FnOk W 20 "_law_row_step" .none .none f)
    {r come : List FV} {places : Nat} {kav : AV} {key : FV → FV} (hr : ∀ x ∈ r, PairF x) (hcm : ∀ x ∈ come, PairF x) (hlr : r.length + come.length ≤ 60)
    (hkav : (kav = .f .none ∧ key = id) ∨ ∃ ps e sc, kav = .lam ps e sc ∧ ∀ x, PairF x → IntF (key x) ∧ LamGives W ps e sc 1 x (key x)) (n : Nat) :
    Con W (.ref f) (n + 4) [.obj 0, .f (.int places), .lst come, kav] [] [.list r] (fun av hp => av = .lst (rsGo key places r [] come).2 ∧ hp = [.list (rsGo key places r [] come).1]) := by
  (refine oEEEEEEAA hf.at_ ?_; rintro o doc pm an cd ct ho' hd hcd)
  refine con_def ho' hd hcd [("row", .obj 0), ("places", .f (.int places)), ("come", .lst come), ("by", kav)] ?_ (by simp only [List.map_cons, List.map_nil]; decide) ?_ (fun k => .nil) rfl rfl rfl ?_
  · intro s F ρ vs kvs R hv hk
    cases hk
    refine hv.c4 (fun _ _ _ _ r1 r2 r3 r4 => ?_)
    ·
            exact (iEA _ (BindsTo.of_eq rfl) (.cons r1 (.cons r2 (.cons r3 (.cons r4 .nil)))))
  · intro y hy
    simp only [List.mem_cons, List.not_mem_nil, or_false] at hy
    rcases hy with rfl | rfl | rfl | rfl <;> exact .inl rfl
  · rintro X rfl hn ⟨L, he⟩ hfr
    have hk : ∀ x, X.env.kindOf x = (dSco 20).names.lookup x := fun x => by rw [he]; rfl
    refine ws_cons (ws1_assignE (.inl ((hk _).trans rfl)) ((pn_list (l := []) .nil (by simp)).own ?_))
    refine ws_cons (ws1_for 2 (fun m st => ∃ r' g rest, m = rest.length ∧ (∀ x ∈ r', PairF x) ∧ (∀ x ∈ rest, PairF x) ∧ r'.length + rest.length ≤ 60 ∧ g.length + rest.length ≤ 60 ∧ rsGo key places r' g rest = rsGo key places r [] come ∧ st = ⟨[("row", .obj 0), ("places", .f (.int places)), ("come", .lst come), ("by", kav), ("gone", .obj 1)], [.list r', .list g, .iter rest]⟩) come.length
      (wi_list (l := come) (pe_loc rfl) ⟨rfl, r, [], come, rfl, hr, hcm, hlr, by simp; lia, rfl, rfl⟩) ?_)
    (rintro m st zq1; refine oEEEAAAAAA zq1 ?_; clear zq1; rintro r' g rest rfl hr' hrest hl1 hl2 hgo rfl)
    refine (iEAA _ rfl rfl ?_)
    cases rest with
    | nil =>
      have e : rsGo key places r [] come = (r', g) := by rw [← hgo]; rfl
      rw [e]
      exact ws_one (ws1_return (pe_loc rfl) rfl (iEAA _ rfl rfl rfl))
    | cons t ts =>
      have ht := hrest t (.head _)
      simp only [List.length_cons] at hl1 hl2
      refine (iAEA rfl _ (at_name (.inl ((hk _).trans rfl))) (ws_weak ?_))
      have hC : Con X.toWx (.ref fi) 3 [.obj 0, .f t] [("key", kav)] [.list r'] (fun av hp => av = .f .none ∧ hp = [.list (insAt r' t (brGo (fun y => (key t).lt (key y)) r' 0 r'.length))]) := by
        rcases hkav with ⟨rfl, rfl⟩ | ⟨ps, e, sc, rfl, hkey⟩
        · exact con_ins hB hfb hdV hkV hfi hdV' (fun y hy => cmpU_pair _ _ ht (hr' y hy)) (by lia) 1
        · exact con_insK hB hfb hdV hfi hdV' (m := 1) (hkey t ht).2 (fun y hy => ⟨(hkey y (hr' y hy)).2, cmpU_int _ _ (hkey t ht).1 (hkey y (hr' y hy)).1⟩) (by lia) 1 (by (exact Nat.zero_lt_succ _))
      refine ws_cons (ws1_expr (we_call (pe_glo ((hk _).trans rfl) hfi.gl) hfi.fo (.cons (pe_loc rfl) (.cons (pe_loc rfl) .nil rfl) rfl) (.cons (pe_loc rfl) .nil) hC (by lia) (ks := [0]) (by decide) rfl (by rfl) (by rcases hkav with ⟨rfl, rfl⟩ | ⟨ps, e, sc, rfl, hkey⟩ <;> rfl) ?_ ?_) X.notInteractive)
      · rintro a hp' ⟨rfl, rfl⟩; rfl
      rintro a' hp' ⟨rfl, rfl⟩
      have hil : (insAt r' t (brGo (fun y => (key t).lt (key y)) r' 0 r'.length)).length = r'.length + 1 := insAt_len
      have hip : ∀ x ∈ insAt r' t (brGo (fun y => (key t).lt (key y)) r' 0 r'.length), PairF x := fun x hx => by
        rcases insAt_mem hx with rfl | q
        · exact ht
        · exact hr' x q
      have hgo' : (if places < (insAt r' t (brGo (fun y => (key t).lt (key y)) r' 0 r'.length)).length then rsGo key places (insAt r' t (brGo (fun y => (key t).lt (key y)) r' 0 r'.length)).dropLast (g ++ [(insAt r' t (brGo (fun y => (key t).lt (key y)) r' 0 r'.length)).getD ((insAt r' t (brGo (fun y => (key t).lt (key y)) r' 0 r'.length)).length - 1) .none]) ts else rsGo key places (insAt r' t (brGo (fun y => (key t).lt (key y)) r' 0 r'.length)) g ts) = rsGo key places r [] come := by
        rw [← hgo]; rfl
      generalize insAt r' t (brGo (fun y => (key t).lt (key y)) r' 0 r'.length) = q at hil hip hgo'
      refine ws_one (ws1_if (b := decide (places < q.length)) (PT.to (pt_cmp (pe_lenN (l := q) hB ((hk _).trans rfl) (pe_loc rfl) (by lia)) (pe_loc rfl) co_gt_int) (decide_eq_decide.mpr (by simp))) (fun hc => ?_) fun hc => ws_nil ?_)
      · have hc := of_decide_eq_true hc
        rw [if_pos hc] at hgo'
        have hqd : q.dropLast ++ [q.getD (q.length - 1) .none] = q := by
          have hne : q ≠ [] := by intro z; rw [z] at hil; simp at hil
          conv => rhs; rw [← List.dropLast_concat_getLast hne]
          rw [List.getLast_eq_getElem, List.getD_eq_getElem?_getD, List.getElem?_eq_getElem (by lia)]; rfl
        refine ws_one (ws1_expr (we_append (l₀ := g) (pe_loc rfl) rfl (we_pop (x := q.getD (q.length - 1) .none) (l := q.dropLast) (pe_loc rfl) (by rw [hqd]; rfl) (by simp; lia) ⟨_, g, rfl, rfl, by lia, ?_⟩)) X.notInteractive)
        refine ⟨⟨[("row", .obj 0), ("places", .f (.int places)), ("come", .lst come), ("by", kav), ("gone", .obj 1)], [.list q.dropLast, .list (g ++ [q.getD (q.length - 1) .none]), .iter ts]⟩, ⟨⟨[], rfl⟩, ⟨rfl, rfl, rfl, rfl, rfl, trivial⟩, ?_⟩, Nat.le_refl _, _, Nat.lt_succ_self _, _, _, ts, rfl, fun x hx => hip x (List.dropLast_subset _ hx), fun x hx => hrest x (.tail _ hx), by simp; lia, by simp; lia, hgo', rfl⟩
        rcases hkav with ⟨rfl, rfl⟩ | ⟨ps, e, sc, rfl, hkey⟩ <;> rfl
      · have hc := of_decide_eq_false hc
        rw [if_neg hc] at hgo'
        refine ⟨⟨[("row", .obj 0), ("places", .f (.int places)), ("come", .lst come), ("by", kav), ("gone", .obj 1)], [.list q, .list g, .iter ts]⟩, ⟨⟨[], rfl⟩, ⟨rfl, rfl, rfl, rfl, rfl, trivial⟩, ?_⟩, Nat.le_refl _, _, Nat.lt_succ_self _, _, _, ts, rfl, hip, fun x hx => hrest x (.tail _ hx), by lia, by lia, hgo', rfl⟩
        rcases hkav with ⟨rfl, rfl⟩ | ⟨ps, e, sc, rfl, hkey⟩ <;> rfl
end Mine
end
section
open PySem PySem.W PySem.Calls PyProof.Rows
set_option Elab.async false
set_option maxRecDepth 100000
set_option linter.unusedVariables false
set_option linter.unusedSimpArgs false
namespace Mine
open Classical in
noncomputable def leavesF (ranked : List FV) (places : Nat) (t : FV) : List FV := if ranked.length ≤ places then [] else if t ∈ ranked.drop places then [t] else [ranked.getD places .none]
theorem ok_pair {x : FV} (h : PairF x) : okF 1 x = true := by (refine oEE h ?_; try clear h; rintro a b rfl); simp [okF]
open Classical in
theorem con_leaves {W : Wx} (hB : BiOk W) {f : Addr} (hf : FnOk W 21 "_law_leaves" .none .none f) {l : List FV} {places : Nat} {t : FV} (hl : ∀ x ∈ l, PairF x) (ht : PairF t) (hz : l.length ≤ 60) (n : Nat) :
    Con W (.ref f) (n + 1) [.lst l, .f (.int places), .f t] [] [] (fun av _ => av = .lst (leavesF l places t)) := by
  (refine oEEEEEEAA hf.at_ ?_; rintro o doc pm an cd ct ho' hd hcd)
  refine con_def ho' hd hcd [("ranked", .lst l), ("places", .f (.int places)), ("thing", .f t)] bind3 (by simp only [List.map_cons, List.map_nil]; decide) ?_ (fun k => .nil) rfl rfl rfl ?_
  · intro y hy
    simp only [List.mem_cons, List.not_mem_nil, or_false] at hy
    rcases hy with rfl | rfl | rfl <;> exact .inl rfl
  · rintro X rfl hn ⟨L, he⟩ hfr
    have hk : ∀ x, X.env.kindOf x = (dSco 21).names.lookup x := fun x => by rw [he]; rfl
    refine ws_cons (ws1_if (b := decide (l.length ≤ places)) (PT.to (pt_cmp (pe_lenN (l := l) hB ((hk _).trans rfl) (pe_loc rfl) (by (exact Nat.le_trans ‹_› (by decide)))) (pe_loc rfl) co_le_int) (decide_eq_decide.mpr (by simp))) (fun hc => ?_) fun hc => ws_nil ?_)
    · have hc := of_decide_eq_true hc
      refine ws_one (ws1_returnN (pn_list (l := []) .nil (by simp)) (iEA _ rfl ?_))
      unfold leavesF; rw [if_pos hc]
    · have hc := of_decide_eq_false hc
      refine ws_cons (ws1_if (pt_cmp (pe_loc rfl) (pn_slice (l := l) (pe_loc rfl) rfl (.some (pe_loc rfl)) .none (by (exact Nat.le_trans ‹_› (by decide)))).pe (co_in (m := pickL l (some (places : Int)) none) rfl (ok_pair ht) (fun d hd => ok_pair (hl d ?_)) (by (exact Nat.zero_lt_succ _)))) (fun hd => ?_) fun hd => ws_nil ?_)
      · rw [pickL_drop] at hd; exact List.mem_of_mem_drop hd
      · have hd := of_decide_eq_true hd
        rw [pickL_drop] at hd
        refine ws_one (ws1_returnN (pn_list (l := [t]) (.cons (pe_loc rfl) .nil rfl) (by simp)) (iEA _ rfl ?_))
        unfold leavesF; rw [if_neg hc, if_pos hd]
      · have hd := of_decide_eq_false hd
        rw [pickL_drop] at hd
        refine ws_one (ws1_returnN (pn_list (l := [l.getD places .none]) (.cons (pe_itemN (l := l) (pe_loc rfl) (pe_loc rfl) (getD_some (by (exact Nat.not_le.mp ‹_›))) (by lia)) .nil rfl) (by simp)) (iEA _ rfl ?_))
        unfold leavesF; rw [if_neg hc, if_neg hd]
theorem seq_rng1 (n : Nat) (h : n ≤ 2 ^ 20) : Builtin.Range.small 1 n 1 = true ∧ (Builtin.Range.rangeSize 1 n 1).toNat = n - 1 := by
  have e : Builtin.Range.rangeSize 1 n 1 = ((n - 1 : Nat) : Int) := by rw [rangeSize_one]; split <;> lia
  refine ⟨?_, by rw [e]; simp⟩
  unfold Builtin.Range.small
  rw [e, fitsL (i := 1) (by lia) (by lia), fitsL (i := (n : Int)) (by lia) (by lia), fitsL (i := ((n - 1 : Nat) : Int)) (by lia) (by omega), if_pos (by lia), fitsL (i := (n : Int) + (1 - 1)) (by lia) (by lia)]
  simp
theorem rangeL_mem {y : FV} : ∀ {n : Nat} {x : Nat}, y ∈ rangeL (x : Int) 1 n → ∃ k, y = .int (k : Nat) ∧ x ≤ k ∧ k < x + n
  | 0, x, h => by simp [rangeL] at h
  | n + 1, x, h => by
    simp only [rangeL, List.mem_cons] at h
    rcases h with rfl | h
    · exact (iEAA x rfl (Nat.le_refl _) (by simp))
    · rw [show ((x : Int) + 1) = ((x + 1 : Nat) : Int) from by rfl] at h
      (refine oEAA (rangeL_mem h) ?_; rintro k e h1 h2)
      exact (iEAA k e (by (exact Nat.le_of_succ_le ‹_›)) (by lia))
theorem rangeL_len {x c : Int} : ∀ {n : Nat} {x : Int}, (rangeL x c n).length = n
  | 0, x => rfl
  | n + 1, x => by simp [rangeL, rangeL_len (x := x)]
theorem con_inorder {W : Wx} (hB : BiOk W) {f : Addr} (hf : FnOk W 22 "_law_in_order" .none .none f) {l : List FV} (hl : ∀ x ∈ l, PairF x) (hz : l.length ≤ 60) (hV : VH FV.lt l 0) (n : Nat) :
    Con W (.ref f) (n + 1) [.lst l] [] [] (fun av _ => av = .f (.bool true)) := by
  (refine oEEEEEEAA hf.at_ ?_; rintro o doc pm an cd ct ho' hd hcd)
  refine con_def ho' hd hcd [("heap", .lst l)] bind1 (by simp only [List.map_cons, List.map_nil]; decide) ?_ ?_ rfl rfl rfl ?_
  · intro y hy
    simp only [List.mem_cons, List.not_mem_nil, or_false] at hy
    rcases hy with rfl; exact .inr ⟨rfl, fun k => rfl⟩
  · intro k
    show List.Nodup [_]
    simp
  · rintro X rfl hn ⟨L, he⟩ hfr
    have hk : ∀ x, X.env.kindOf x = (dSco 22).names.lookup x := fun x => by rw [he]; rfl
    have hrs := seq_rng1 l.length (by lia)
    have hsrc : ∀ (rE : Expr), PRng X ⟨[("heap", .lst l)], []⟩ rE 1 l.length 1 → CS X ⟨[("heap", .lst l)], []⟩ rE (rangeL 1 1 (l.length - 1)) := fun rE h => by
      have := cs_rng h hrs.1
      rw [hrs.2] at this; exact this
    have hre : ((rangeL 1 1 (l.length - 1)).filter (fun _ => false)).map (fun x : FV => x) = [] := by simp
    refine ws_one (ws1_return (av := .f (.bool true)) (PE.to (pe_cmp (PN.pe (pn_comp (l := rangeL 1 1 (l.length - 1)) (p := fun _ => false) (f := fun x => x) ⟨hsrc _ (prng2 (pe_glo ((hk _).trans rfl) hB.range) pe_int (pe_lenN (l := l) hB ((hk _).trans rfl) (pe_loc rfl) (by lia))), rfl, ?_, ?_, (iEEAAAA ([("heap", L + 1)]) ([("heap", .lst l)]) (by rw [he]; rfl) ?_ (by simp) ?_ ?_), by rw [rangeL_len (x := 1)]; omega⟩)) (PN.pe (pn_list (l := []) .nil (by simp))) (co_eqL (n := 1) rfl rfl (by rw [hre]; intro d hd; simp at hd) (by intro d hd; simp at hd) (by lia))) (by rw [hre]; simp)) rfl (iEA _ rfl rfl))
    · intro x hx
      simp only [List.mem_cons, List.not_mem_nil, or_false] at hx
      rcases hx with rfl | rfl | rfl <;> simp
    · intro x hx _
      simp only [List.mem_cons, List.not_mem_nil, or_false] at hx
      rcases hx with rfl | rfl | rfl
      · rfl
      · rfl
      · rename_i h; cases h
    · intro x hx
      rw [List.mem_singleton.mp hx, he]
      exact .head _
    · intro y av hy
      simp only [List.lookup_cons, List.lookup_nil] at hy
      by_cases q : y = Str.ofString "heap"
      · subst q
        cases hy
        exact (iEEAAAAA (.lst l) (L + 1) rfl rfl (by rw [he]; rfl) rfl (by rw [he]; rfl) (.inl (by rw [he]; rfl)))
      · simp only [beq_eq_false_iff_ne.mpr q] at hy; cases hy
    · intro C x built hx
      (refine oEAA (rangeL_mem (x := 1) hx) ?_; rintro k rfl h1 h2)
      have hkl : k < l.length := by omega
      have hpl : (k - 1) / 2 < l.length := by lia
      have hpar : ((k : Int) - 1).fdiv 2 = (((k - 1) / 2 : Nat) : Int) := fdiv2 k (by assumption)
      refine (iEAAAA _ (atl_name (by show (relabel _ X.env).names.lookup _ = _; rw [he]; rfl)) (.one (PT.to (pt_cmp (pe_itemN (l := l) (pe_loc rfl) (pe_loc rfl) (getD_some hkl) (by lia)) (pe_itemN (l := l) (k := (k - 1) / 2) (pe_loc rfl) (PE.to (pe_bin (pe_bin (pe_loc rfl) pe_int bo_sub) pe_int (bo_fdiv (by decide) (PyProof.noPylong_small (by decide)))) (by rw [hpar])) (getD_some hpl) (by lia)) (co_lt (cmpU_pair _ _ (hl _ (getD_mem hkl)) (hl _ (getD_mem hpl))) (by (exact Nat.le_add_left _ _)))) (hV k (by assumption) hkl (Nat.zero_le _)))) ((fun h => nomatch h)) rfl ?_)
      intro y av hy
      simp only [List.lookup_cons, List.lookup_nil] at hy
      by_cases q : y = Str.ofString "heap"
      · subst q
        cases hy
        rfl
      · simp only [beq_eq_false_iff_ne.mpr q] at hy; cases hy
end Mine
end
section
open PySem PySem.W
set_option Elab.async false
set_option linter.unusedVariables false
set_option linter.unusedSimpArgs false
namespace Mine
/- t goes ahead of the first that it beats -/
noncomputable def insG {α : Type} (R : α → α → Bool) (t : α) : List α → List α
  | [] => [t]
  | y :: ys => if R t y then t :: y :: ys else y :: insG R t ys
noncomputable def SSG {α : Type} (R : α → α → Bool) (l : List α) : List α := l.foldl (fun acc t => insG R t acc) []
theorem snocInd {α : Type} {P : List α → Prop} (h0 : P []) (h1 : ∀ l t, P l → P (l ++ [t])) : ∀ l, P l := by
  have : ∀ n (l : List α), l.length = n → P l := by
    intro n
    induction n with
    | zero => intro l hl; rw [List.eq_nil_of_length_eq_zero hl]; exact h0
    | succ n ih =>
      intro l hl
      have hne : l ≠ [] := by intro q; simp [q] at hl
      rw [← List.dropLast_concat_getLast hne]
      exact h1 _ _ (ih _ (by simp [hl]))
  exact fun l => this _ l rfl
section
variable {α β : Type} {R : α → α → Bool}
theorem insG_perm (t : α) : ∀ l : List α, (insG R t l).Perm (t :: l)
  | [] => .refl _
  | y :: ys => by
    unfold insG
    split
    · exact .refl _
    · exact ((insG_perm t ys).cons y).trans (.swap _ _ _)
theorem insG_len (t : α) (l : List α) : (insG R t l).length = l.length + 1 := (insG_perm t l).length_eq
theorem SSG_snoc (l : List α) (t : α) : SSG R (l ++ [t]) = insG R t (SSG R l) := by simp [SSG, List.foldl_append]
theorem SSG_perm : ∀ l : List α, (SSG R l).Perm l := by
  refine snocInd (.refl _) fun l t ih => ?_
  rw [SSG_snoc]
  exact (insG_perm t _).trans ((ih.cons t).trans (List.perm_append_comm (l₁ := [t])))
theorem SSG_len (l : List α) : (SSG R l).length = l.length := (SSG_perm l).length_eq
theorem insG_map {R' : β → β → Bool} (f : α → β) (t : α) : ∀ l : List α, (∀ y ∈ l, R' (f t) (f y) = R t y) → (insG R t l).map f = insG R' (f t) (l.map f)
  | [], _ => rfl
  | y :: ys, h => by
    simp only [insG, List.map_cons, h y (.head _)]
    split
    · rfl
    · simp only [List.map_cons, insG_map f t ys fun z hz => h z (.tail _ hz)]
/- where it goes -/
theorem insG_split (t : α) : ∀ l : List α, ∃ p, p ≤ l.length ∧ insG R t l = l.take p ++ t :: l.drop p ∧ (∀ y ∈ l.take p, R t y = false) ∧ ∀ y, (l.drop p).head? = some y → R t y = true
  | [] => (iEAAA 0 (Nat.le_refl _) rfl (by simp) (by simp))
  | y :: ys => by
    unfold insG
    by_cases h : R t y = true
    · rw [if_pos h]; exact (iEAAA 0 (Nat.zero_le _) rfl (by simp) (by simp [h]))
    · rw [if_neg h]
      (refine oEAAA (insG_split t ys) ?_; rintro p h1 h2 h3 h4)
      refine (iEAAA (p + 1) (by simpa using h1) (by rw [h2]; rfl) ?_ (by simpa using h4))
      intro z hz
      simp only [List.take_succ_cons, List.mem_cons] at hz
      rcases hz with rfl | hz
      · exact Bool.eq_false_iff.mpr h
      · exact h3 z hz
/- cut to n, where it goes in time -/
theorem insG_take (t : α) : ∀ (n : Nat) (l : List α), (insG R t (l.take n)).take n = (insG R t l).take n
  | 0, l => by simp
  | n + 1, [] => by simp
  | n + 1, y :: ys => by
    simp only [List.take_succ_cons, insG]
    split
    · rw [List.take_succ_cons, List.take_succ_cons]
      have : (y :: List.take n ys).take n = (y :: ys).take n := by
        cases n with
        | zero => rfl
        | succ n => simp [List.take_take]
      rw [this]
    · rw [List.take_succ_cons, List.take_succ_cons, insG_take t n ys]
theorem insG_late (t : α) : ∀ (n : Nat) (l : List α), (∀ y ∈ l.take n, R t y = false) → n ≤ l.length → (insG R t l).take n = l.take n
  | 0, l, _, _ => by simp
  | n + 1, [], _, h => by simp at h
  | n + 1, y :: ys, h, hl => by
    have hy : R t y = false := h y (by simp)
    simp only [insG, hy]
    rw [if_neg (by simp), List.take_succ_cons, List.take_succ_cons, insG_late t n ys (fun z hz => h z (by simp [hz])) (by simpa using hl)]
end
/- strictly in order -/
noncomputable def Srt (lt : FV → FV → Bool) (l : List FV) : Prop := l.Pairwise fun x y => lt x y = true
structure LtTot (lt : FV → FV → Bool) (U : FV → Prop) : Prop extends LtOk lt U where
  tot : ∀ x y, U x → U y → x ≠ y → lt x y = true ∨ lt y x = true
section
variable {lt : FV → FV → Bool} {U : FV → Prop}
theorem LtOk.trans (O : LtOk lt U) {x y z : FV} (hx : U x) (hy : U y) (hz : U z) (h1 : lt x y = true) (h2 : lt y z = true) : lt x z = true := by
  cases h : lt x z with
  | true => rfl
  | false =>
    have := O.ntr x z y hx hz hy h (O.asym y z hy hz h2)
    rw [h1] at this; cases this
theorem LtOk.irr (O : LtOk lt U) {x : FV} (hx : U x) : lt x x = false := by
  cases h : lt x x with
  | false => rfl
  | true => have := O.asym x x hx hx h; rw [h] at this; cases this
theorem Srt.eq (O : LtOk lt U) {l m : List FV} (hl : ∀ x ∈ l, U x) (h1 : Srt lt l) (h2 : Srt lt m) (hp : l.Perm m) : l = m :=
  List.Perm.eq_of_pairwise (le := fun x y => lt x y = true) (fun x y hx hy h h' => by have := O.asym x y (hl x hx) (hl y (hp.mem_iff.mpr hy)) h; rw [h'] at this; cases this) h1 h2 hp
theorem insG_srt (O : LtTot lt U) (t : FV) (ht : U t) : ∀ l : List FV, (∀ x ∈ l, U x) → t ∉ l → Srt lt l → Srt lt (insG lt t l)
  | [], _, _, _ => by simp [insG, Srt]
  | y :: ys, hl, hn, hs => by
    have hy := hl y (.head _)
    have hs' := hs
    simp only [Srt, List.pairwise_cons] at hs
    unfold insG
    split
    · rename_i h
      refine List.pairwise_cons.mpr ⟨fun z hz => ?_, hs'⟩
      rcases List.mem_cons.mp hz with rfl | hz
      · exact h
      · exact O.trans ht hy (hl z (.tail _ hz)) h (hs.1 z hz)
    · rename_i h
      have ih := insG_srt O t ht ys (fun x hx => hl x (.tail _ hx)) (fun q => hn (.tail _ q)) hs.2
      refine List.pairwise_cons.mpr ⟨fun z hz => ?_, ih⟩
      rcases List.mem_cons.mp ((insG_perm t ys).mem_iff.mp hz) with rfl | hz
      · rcases O.tot y z hy ht (fun q => hn (q ▸ .head _)) with q | q
        · exact q
        · exact absurd q h
      · exact hs.1 z hz
end
end Mine
end
section
open PySem PySem.W
set_option Elab.async false
set_option linter.unusedVariables false
set_option linter.unusedSimpArgs false
namespace Mine
noncomputable def ltB (b : Bool) : FV → FV → Bool := if b then gtF else FV.lt
/- i stands ahead of j -/
noncomputable def LexK (lt : FV → FV → Bool) (ks : List FV) (i j : Nat) : Prop := lt (ks.getD i .none) (ks.getD j .none) = true ∨ (lt (ks.getD j .none) (ks.getD i .none) = false ∧ i < j)
theorem getD_rev {l : List FV} {i : Nat} (h : i < l.length) : l.reverse.getD (l.length - 1 - i) .none = l.getD i .none := by
  rw [List.getD_eq_getElem?_getD, List.getElem?_reverse (by omega), List.getD_eq_getElem?_getD]
  congr 2; omega
theorem SOut_of {key : FV → FV} {b : Bool} {l : List FV} {q : List Nat} (hq : q.Perm (List.range l.length)) (hs : q.Pairwise (LexK (ltB b) (l.map key))) : SOut key b l (q.map fun i => l.getD i .none) := by
  have hlt : ∀ i ∈ q, i < l.length := fun i hi => List.mem_range.mp (hq.mem_iff.mp hi)
  cases b with
  | false =>
    refine (iEAA q hq ?_ (by simp [sortOut, katRev]))
    refine List.Pairwise.imp_of_mem (fun {i j} hi hj h => ?_) hs
    have h1 := hlt i hi
    have h2 := hlt j hj
    unfold Lex cmpF
    simp only [katRev, Bool.false_eq_true, if_false, List.length_map, if_pos h1, if_pos h2]
    exact h
  | true =>
    have hp : (q.map fun i => l.length - 1 - i).Perm (List.range l.length) := by
      refine (hq.map _).trans ?_
      have e : (List.range l.length).map (fun i => l.length - 1 - i) = (List.range l.length).reverse := by
        apply List.ext_getElem (by simp)
        intro i h1 h2
        simp [List.getElem_reverse]
      rw [e]
      exact List.reverse_perm _
    refine (iEAA ((q.map fun i => l.length - 1 - i).reverse) ((List.reverse_perm _).trans hp) ?_ ?_)
    · rw [List.pairwise_reverse, List.pairwise_map]
      refine List.Pairwise.imp_of_mem (fun {i j} hi hj h => ?_) hs
      have h1 := hlt i hi
      have h2 := hlt j hj
      have e : ∀ k, k < l.length → (l.map key).reverse.getD (l.length - 1 - k) .none = (l.map key).getD k .none := fun k hk => by
        have := getD_rev (l := l.map key) (i := k) (by simpa using hk)
        simpa using this
      unfold Lex cmpF
      simp only [katRev, if_true, List.length_reverse, List.length_map, if_pos (show l.length - 1 - i < l.length by lia), if_pos (show l.length - 1 - j < l.length by lia), e i h1, e j h2]
      rcases h with h | ⟨h, h3⟩
      · exact .inl h
      · exact .inr ⟨h, by omega⟩
    · simp only [sortOut, katRev, if_true]
      rw [List.map_reverse, List.reverse_reverse, List.map_map]
      apply List.map_congr_left
      intro i hi
      exact (getD_rev (hlt i hi)).symm
section
variable {lt : FV → FV → Bool} {U : FV → Prop}
theorem idx_srt (O : LtOk lt U) {ks : List FV} (hk : ∀ x ∈ ks, U x) : ∀ m, m ≤ ks.length → (SSG (fun i j => lt (ks.getD i .none) (ks.getD j .none)) (List.range m)).Pairwise (LexK lt ks)
  | 0, _ => by simp [SSG]
  | m + 1, h => by
    have ih := idx_srt O hk m (by (exact Nat.le_of_succ_le ‹_›))
    rw [List.range_succ, SSG_snoc]
    have hmem : ∀ i ∈ SSG (fun i j => lt (ks.getD i .none) (ks.getD j .none)) (List.range m), i < m := fun i hi => List.mem_range.mp ((SSG_perm _).mem_iff.mp hi)
    generalize SSG (fun i j => lt (ks.getD i .none) (ks.getD j .none)) (List.range m) = q at ih hmem
    (refine oEAAA (insG_split (R := fun i j => lt (ks.getD i .none) (ks.getD j .none)) m q) ?_; rintro p hp e h1 h2)
    rw [e]
    have hq : q = q.take p ++ q.drop p := (List.take_append_drop p q).symm
    have hu : ∀ i, i ≤ m → U (ks.getD i .none) := fun i hi => hk _ (getD_mem (by (exact Nat.lt_of_le_of_lt ‹_› ‹_›)))
    rw [hq, List.pairwise_append] at ih
    (refine oAA ih ?_; try clear ih; rintro i1 i2 i3)
    refine List.pairwise_append.mpr ⟨i1, ?_, ?_⟩
    · refine List.pairwise_cons.mpr ⟨fun y hy => .inl ?_, i2⟩
      cases hd : q.drop p with
      | nil => rw [hd] at hy; cases hy
      | cons z zs =>
        have hz : lt (ks.getD m .none) (ks.getD z .none) = true := h2 z (by rw [hd]; rfl)
        rw [hd] at hy i2
        have hzm : z < m := hmem z (List.mem_of_mem_drop (by rw [hd]; exact .head _))
        rcases List.mem_cons.mp hy with rfl | hy
        · exact hz
        · have hym : y < m := hmem y (List.mem_of_mem_drop (by rw [hd]; exact .tail _ hy))
          have hle : lt (ks.getD y .none) (ks.getD z .none) = false := by
            rcases (List.pairwise_cons.mp i2).1 y hy with q | q
            · exact O.asym _ _ (hu z (by (exact Nat.le_of_lt ‹_›))) (hu y (by lia)) q
            · exact q.1
          cases hc : lt (ks.getD m .none) (ks.getD y .none) with
          | true => rfl
          | false => have := O.ntr _ _ _ (hu m (Nat.le_refl _)) (hu y (by lia)) (hu z (by lia)) hc hle; rw [hz] at this; cases this
    · intro x hx y hy
      rcases List.mem_cons.mp hy with rfl | hy
      · exact .inr ⟨h1 x hx, hmem x (List.mem_of_mem_take hx)⟩
      · exact i3 x hx y hy
theorem idx_map {key : FV → FV} {l : List FV} : ∀ m, m ≤ l.length → (SSG (fun i j => lt ((l.map key).getD i .none) ((l.map key).getD j .none)) (List.range m)).map (fun i => l.getD i .none) = SSG (fun x y => lt (key x) (key y)) (l.take m)
  | 0, _ => by simp [SSG]
  | m + 1, h => by
    have ih := idx_map (key := key) (l := l) m (by lia)
    have e : l.take (m + 1) = l.take m ++ [l.getD m .none] := by
      rw [List.take_succ, getD_some (by assumption)]; rfl
    rw [List.range_succ, SSG_snoc, e, SSG_snoc, ← ih]
    have hmem : ∀ i ∈ SSG (fun i j => lt ((l.map key).getD i .none) ((l.map key).getD j .none)) (List.range m), i < m := fun i hi => List.mem_range.mp ((SSG_perm _).mem_iff.mp hi)
    refine insG_map (fun i => l.getD i .none) m _ fun y hy => ?_
    have hym := hmem y hy
    have g : ∀ i, i < l.length → (l.map key).getD i .none = key (l.getD i .none) := fun i hi => by
      simp [List.getD_eq_getElem?_getD, hi]
    show lt (key (l.getD m .none)) (key (l.getD y .none)) = _
    rw [g m (by assumption), g y (by (exact Nat.le_trans ‹_› (Nat.le_of_lt ‹_›)))]
/- the stable sort by a key -/
theorem SOut_SSG {b : Bool} (O : LtOk (ltB b) U) {key : FV → FV} {l : List FV} (hl : ∀ x ∈ l, U (key x)) : SOut key b l (SSG (fun x y => ltB b (key x) (key y)) l) := by
  have h := SOut_of (key := key) (b := b) (l := l) (q := SSG (fun i j => ltB b ((l.map key).getD i .none) ((l.map key).getD j .none)) (List.range l.length)) (SSG_perm _)
    (idx_srt O (fun x hx => by (refine oEA (List.mem_map.mp hx) ?_; rintro y hy rfl); exact hl y hy) l.length (by simp))
  rw [idx_map (lt := ltB b) (key := key) l.length (Nat.le_refl _), List.take_length] at h
  exact h
theorem SSG_srt (O : LtTot lt U) : ∀ l : List FV, (∀ x ∈ l, U x) → l.Nodup → Srt lt (SSG lt l) := by
  refine snocInd (fun _ _ => by simp [SSG, Srt]) fun l t ih h nd => ?_
  rw [SSG_snoc]
  have hl : ∀ x ∈ l, U x := fun x hx => h x (List.mem_append_left _ hx)
  rw [List.nodup_append] at nd
  refine insG_srt O t (h t (by simp)) _ (fun x hx => hl x ((SSG_perm l).mem_iff.mp hx)) (fun q => ?_) (ih hl nd.1)
  exact nd.2.2 t ((SSG_perm l).mem_iff.mp q) t (by simp) rfl
theorem Srt.nodup (O : LtOk lt U) {l : List FV} (hl : ∀ x ∈ l, U x) (h : Srt lt l) : l.Nodup := by
  refine List.Pairwise.imp_of_mem (fun {a b} ha hb h q => ?_) h
  subst q
  rw [O.irr (hl a ha)] at h; cases h
/- a sorted rearrangement is what the sort gives -/
theorem SOut_srt {b : Bool} (O : LtTot (ltB b) U) {l out : List FV} (hl : ∀ x ∈ l, U x) (hp : out.Perm l) (hs : Srt (ltB b) out) : SOut id b l out := by
  have hout : ∀ x ∈ out, U x := fun x hx => hl x (hp.mem_iff.mp hx)
  have nd : l.Nodup := hp.nodup_iff.mp (hs.nodup O.toLtOk hout)
  have h := SOut_SSG (b := b) (key := id) O.toLtOk (l := l) hl
  have e : SSG (fun x y => ltB b (id x) (id y)) l = out := by
    show SSG (ltB b) l = out
    exact Srt.eq O.toLtOk (fun x hx => hl x ((SSG_perm l).mem_iff.mp hx)) (SSG_srt O l hl nd) hs ((SSG_perm l).trans hp.symm)
  rw [e] at h; exact h
theorem best_go {key : FV → FV} : ∀ (l acc : List FV) (b : FV), acc.head? = some b → (l.foldl (fun acc t => insG (fun x y => lt (key x) (key y)) t acc) acc).head? = some (bestGo lt key b l)
  | [], acc, b, h => h
  | x :: l, acc, b, h => by
    simp only [List.foldl_cons, bestGo]
    cases acc with
    | nil => cases h
    | cons y ys =>
      simp only [List.head?_cons, Option.some.injEq] at h
      subst h
      simp only [insG]
      split
      · exact best_go l _ x rfl
      · exact best_go l _ y rfl
theorem best_SSG {key : FV → FV} (l : List FV) : (bestF lt key l).toList = (SSG (fun x y => lt (key x) (key y)) l).take 1 := by
  cases l with
  | nil => rfl
  | cons x l =>
    have := best_go (lt := lt) (key := key) l [x] x rfl
    simp only [bestF, SSG, List.foldl_cons, insG, Option.toList]
    cases e : List.foldl (fun acc t => insG (fun x y => lt (key x) (key y)) t acc) [x] l with
    | nil => rw [e] at this; cases this
    | cons y ys => rw [e] at this; simp only [List.head?_cons, Option.some.injEq] at this; simp [this]
end
end Mine
end
section
open PySem PySem.W
set_option Elab.async false
set_option linter.unusedVariables false
set_option linter.unusedSimpArgs false
namespace Mine
/- things with key and order -/
structure DecOk (lt : FV → FV → Bool) (U UK E : FV → Prop) (key : FV → FV) (dec : FV → Int → FV) (el : FV → FV) (step : Int) : Prop where
  O : LtTot lt U
  OK : LtOk lt UK
  key_U : ∀ e, E e → UK (key e)
  el_dec : ∀ e o, el (dec e o) = e
  fst_dec : ∀ e o, fstF (dec e o) = key e
  U_dec : ∀ e o, E e → U (dec e o)
  lt_dec : ∀ e e' o o', E e → E e' → step * o' < step * o → lt (dec e o) (dec e' o') = lt (key e) (key e')
  ref : ∀ e e' o o', E e → E e' → lt (dec e o) (dec e' o') = true → lt (key e') (key e) = false
  inj : ∀ e e' o o', dec e o = dec e' o' → o = o'
section
variable {lt : FV → FV → Bool} {U UK E : FV → Prop} {key : FV → FV} {dec : FV → Int → FV} {el : FV → FV} {step : Int}
noncomputable def enumD (dec : FV → Int → FV) (step : Int) : Int → List FV → List FV
  | _, [] => []
  | o, e :: es => dec e o :: enumD dec step (o + step) es
/- those of order ahead of o -/
noncomputable def Bef (E : FV → Prop) (dec : FV → Int → FV) (step o : Int) (y : FV) : Prop := ∃ e o', E e ∧ y = dec e o' ∧ step * o' < step * o
theorem ins_dec (D : DecOk lt U UK E key dec el step) {Hs : List FV} {e : FV} {o : Int} (he : E e) (hb : ∀ y ∈ Hs, Bef E dec step o y) (hs : Srt lt Hs) :
    Srt lt (insG lt (dec e o) Hs) ∧ (insG lt (dec e o) Hs).map el = insG (fun x y => lt (key x) (key y)) e (Hs.map el) := by
  refine ⟨insG_srt D.O _ (D.U_dec e o he) Hs (fun x hx => ?_) (fun q => ?_) hs, ?_⟩
  · (refine oEEAA (hb x hx) ?_; rintro e' o' h1 rfl _); exact D.U_dec e' o' h1
  · (refine oEEAA (hb _ q) ?_; rintro e' o' h1 h2 h3)
    have := D.inj _ _ _ _ h2
    subst this; lia
  · rw [insG_map (R' := fun x y => lt (key x) (key y)) el (dec e o) Hs fun y hy => ?_]
    · rw [D.el_dec]
    · (refine oEEAA (hb y hy) ?_; rintro e' o' h1 rfl h3)
      rw [D.el_dec, D.el_dec]
      exact (D.lt_dec e e' o o' he h1 h3).symm
theorem ins_all (D : DecOk lt U UK E key dec el step) (hst : 0 < step * step) : ∀ (es : List FV) (o : Int) (Hs : List FV), (∀ e ∈ es, E e) → (∀ y ∈ Hs, Bef E dec step o y) → Srt lt Hs →
    Srt lt ((enumD dec step o es).foldl (fun acc t => insG lt t acc) Hs) ∧ ((enumD dec step o es).foldl (fun acc t => insG lt t acc) Hs).map el = es.foldl (fun acc t => insG (fun x y => lt (key x) (key y)) t acc) (Hs.map el) ∧
    ∀ y ∈ (enumD dec step o es).foldl (fun acc t => insG lt t acc) Hs, Bef E dec step (o + step * es.length) y
  | [], o, Hs, _, hb, hs => ⟨hs, rfl, by simpa [enumD] using hb⟩
  | e :: es, o, Hs, he, hb, hs => by
    obtain ⟨h1, h2⟩ := ins_dec D (he e (.head _)) hb hs
    have hb' : ∀ y ∈ insG lt (dec e o) Hs, Bef E dec step (o + step) y := fun y hy => by
      rcases List.mem_cons.mp ((insG_perm _ _).mem_iff.mp hy) with rfl | hy
      · exact (iEEAA e o (he e (.head _)) rfl (by rw [Int.mul_add]; lia))
      · (refine oEEAA (hb y hy) ?_; rintro e' o' a b c); exact (iEEAA e' o' a b (by rw [Int.mul_add]; lia))
    (refine oAA (ins_all D hst es (o + step) (insG lt (dec e o) Hs) (fun x hx => he x (.tail _ hx)) hb' h1) ?_; rintro k1 k2 k3)
    simp only [enumD, List.foldl_cons]
    refine ⟨k1, by rw [k2, h2], fun y hy => ?_⟩
    have := k3 y hy
    rwa [show o + step * ((e :: es).length : Int) = o + step + step * (es.length : Int) by simp only [List.length_cons]; rw [Int.natCast_add, Int.mul_add]; lia]
theorem insG_early {R : FV → FV → Bool} {t : FV} : ∀ (m : Nat) (l : List FV), m < l.length → R t (l.getD m .none) = true → (insG R t l).take (m + 1) = insG R t (l.take m)
  | m, [], h, _ => by simp at h
  | 0, y :: ys, _, h => by
    have h : R t y = true := h
    simp [insG, h]
  | m + 1, y :: ys, hl, h => by
    have h : R t (ys.getD m .none) = true := by simpa using h
    simp only [insG, List.take_succ_cons]
    split
    · simp
    · rw [List.take_succ_cons, insG_early m ys (by simpa using hl) h]
theorem ns_loop (D : DecOk lt U UK E key dec el step) (hst : 0 < step * step) {n : Nat} (hn : 0 < n) : ∀ (rest pre h Hs : List FV) (o : Int), (∀ e ∈ rest, E e) → (∀ e ∈ pre, E e) → n ≤ pre.length → h.length = n → VH (fun x y => lt y x) h 0 → Srt lt Hs → h.Perm Hs → (∀ y ∈ Hs, Bef E dec step o y) → Hs.map el = (SSG (fun x y => lt (key x) (key y)) pre).take n →
    ∃ Hs', Srt lt Hs' ∧ (nsLoop (fun x y => lt y x) lt key dec step h o rest).Perm Hs' ∧ Hs'.map el = (SSG (fun x y => lt (key x) (key y)) (pre ++ rest)).take n ∧ ∀ y ∈ Hs', U y
  | [], pre, h, Hs, o, _, _, _, _, _, hs, hp, hb, hm => (iEAAA Hs hs hp (by rw [List.append_nil]; exact hm) (fun y hy => by (refine oEEAA (hb y hy) ?_; rintro e o' a rfl _); exact D.U_dec e o' a))
  | e :: rest, pre, h, Hs, o, her, hpre, hnp, hhl, hV, hs, hp, hb, hm => by
    have he := her e (.head _)
    have hHU : ∀ y ∈ Hs, U y := fun y hy => by (refine oEEAA (hb y hy) ?_; rintro e o' a rfl _); exact D.U_dec e o' a
    have hhU : ∀ y ∈ h, U y := fun y hy => hHU y (hp.mem_iff.mp hy)
    have hHl : Hs.length = n := by rw [← hp.length_eq]; exact hhl
    have hne : Hs ≠ [] := by intro q; rw [q] at hHl; simp at hHl; lia
    have O' : LtOk (fun x y => lt y x) U := ltOk_flip D.O.toLtOk
    have hroot := VH_root O' h hhU hV
    have hr := getD_mem (l := h) (i := 0) (by (exact Nat.lt_of_lt_of_eq ‹_› (Eq.symm ‹_›)))
    have hHs := (List.dropLast_concat_getLast hne).symm
    have hlast : h.getD 0 .none = Hs.getLast hne := by
      have hrH := hp.mem_iff.mp hr
      have hzh : Hs.getLast hne ∈ h := hp.mem_iff.mpr (List.getLast_mem hne)
      obtain ⟨k, hk, ek⟩ := List.mem_iff_getElem.mp hzh
      have h1 := hroot k (by omega)
      rw [List.getD_eq_getElem?_getD (l := h) (i := k), List.getElem?_eq_getElem hk, ek] at h1
      rw [hHs] at hrH
      rcases List.mem_append.mp hrH with q | q
      · have hs' := hs
        unfold Srt at hs'
        rw [hHs, List.pairwise_append] at hs'
        have := hs'.2.2 _ q (Hs.getLast hne) (by simp)
        have h1 : lt (h.getD 0 .none) (Hs.getLast hne) = false := h1
        rw [this] at h1; cases h1
      · exact List.mem_singleton.mp q
    (refine oEEAA (hb _ (List.getLast_mem hne)) ?_; rintro er orr her' hre hro)
    have hL : n ≤ (SSG (fun x y => lt (key x) (key y)) pre).length := by rw [SSG_len]; exact hnp
    have hkU : ∀ x ∈ SSG (fun x y => lt (key x) (key y)) pre, E x := fun x hx => hpre x ((SSG_perm pre).mem_iff.mp hx)
    have hgl : (SSG (fun x y => lt (key x) (key y)) pre).getD (n - 1) .none = er := by
      have h1 : (Hs.map el).getD (n - 1) .none = el (Hs.getLast hne) := by
        rw [List.getD_eq_getElem?_getD, List.getElem?_map, List.getLast_eq_getElem, List.getElem?_eq_getElem (by lia)]
        simp [hHl]
      rw [hm, hre, D.el_dec] at h1
      rw [← h1, List.getD_eq_getElem?_getD, List.getD_eq_getElem?_getD, List.getElem?_take_of_lt (by lia)]
    have hfst : fstF (h.getD 0 .none) = key er := by rw [hlast, hre, D.fst_dec]
    have hpre' : ∀ x ∈ pre ++ [e], E x := fun x hx => by
      rcases List.mem_append.mp hx with q | q
      · exact hpre x q
      · rw [List.mem_singleton.mp q]; exact he
    simp only [nsLoop]
    rw [hfst, show pre ++ e :: rest = (pre ++ [e]) ++ rest by simp]
    by_cases hc : lt (key e) (key er) = true
    · rw [if_pos hc]
      have hlen0 : 0 < h.length := by lia
      have hset : ∀ y ∈ h.set 0 (dec e o), U y := fun y hy => by
        rcases List.mem_or_eq_of_mem_set hy with q | q
        · exact hhU y q
        · rw [q]; exact D.U_dec e o he
      have hbd : ∀ y ∈ Hs.dropLast, Bef E dec step o y := fun y hy => hb y (List.dropLast_subset _ hy)
      have hsd : Srt lt Hs.dropLast := by
        unfold Srt at hs ⊢
        rw [hHs, List.pairwise_append] at hs
        exact hs.1
      obtain ⟨k1, k2⟩ := ins_dec D he hbd hsd
      refine ns_loop D hst hn rest (pre ++ [e]) _ (insG lt (dec e o) Hs.dropLast) (o + step) (fun x hx => her x (.tail _ hx)) hpre' (by simp; (exact Nat.le_succ_of_le ‹_›)) (by rw [su_len]; simpa using hhl) (repl_V O' h (dec e o) hlen0 hhU (D.U_dec e o he) hV) k1 ?_ ?_ ?_
      · refine (su_perm _ _ 0 (by simpa using hlen0)).trans ?_
        refine List.Perm.trans ?_ (insG_perm _ _).symm
        cases h with
        | nil => simp at hlen0
        | cons x xs =>
          simp only [List.set_cons_zero]
          refine List.Perm.cons _ ?_
          have hx : x = Hs.getLast hne := by simpa using hlast
          have : (x :: xs).Perm (x :: Hs.dropLast) := hp.trans (by
            conv => lhs; rw [hHs]
            rw [hx]
            exact List.perm_append_comm (l₂ := [Hs.getLast hne]))
          exact this.cons_inv
      · intro y hy
        rcases List.mem_cons.mp ((insG_perm _ _).mem_iff.mp hy) with rfl | hy
        · exact (iEEAA e o he rfl (by rw [Int.mul_add]; lia))
        · (refine oEEAA (hbd y hy) ?_; rintro e' o' a b c); exact (iEEAA e' o' a b (by rw [Int.mul_add]; lia))
      · rw [k2, SSG_snoc, List.map_dropLast, hm]
        have := insG_early (R := fun x y => lt (key x) (key y)) (t := e) (n - 1) (SSG (fun x y => lt (key x) (key y)) pre) (by lia) (by rw [hgl]; exact hc)
        rw [show n - 1 + 1 = n by (exact Nat.sub_add_cancel ‹_›)] at this
        rw [this, List.dropLast_eq_take, List.take_take, List.length_take]
        congr 2
        lia
    · rw [if_neg hc]
      have hc := Bool.eq_false_iff.mpr hc
      refine ns_loop D hst hn rest (pre ++ [e]) h Hs o (fun x hx => her x (.tail _ hx)) hpre' (by simp; lia) hhl hV hs hp hb ?_
      rw [SSG_snoc, insG_late e n _ (fun y hy => ?_) hL]
      · exact hm
      · rw [← hm] at hy
        (refine oEA (List.mem_map.mp hy) ?_; rintro y' hy' rfl)
        (refine oEEAA (hb y' hy') ?_; rintro ey oy a rfl c)
        rw [D.el_dec]
        show lt (key e) (key ey) = false
        have hle : lt (key er) (key ey) = false := by
          rw [hHs] at hy'
          rcases List.mem_append.mp hy' with q | q
          · have hs' := hs
            unfold Srt at hs'
            rw [hHs, List.pairwise_append] at hs'
            have := hs'.2.2 _ q (Hs.getLast hne) (by simp)
            rw [hre] at this
            exact D.ref _ _ _ _ a her' this
          · have q := List.mem_singleton.mp q
            rw [hre] at q
            have e1 : ey = er := by rw [← D.el_dec ey oy, q, D.el_dec]
            rw [e1]; exact D.OK.irr (D.key_U _ her')
        exact D.OK.ntr _ _ _ (D.key_U _ he) (D.key_U _ her') (D.key_U _ a) hc hle
/- the whole -/
theorem ns_fin (D : DecOk lt U UK E key dec el step) (hst : 0 < step * step) {n : Nat} (hn : 0 < n) {l : List FV} (hl : ∀ e ∈ l, E e) :
    ∃ Hs, Srt lt Hs ∧ (nsLoop (fun x y => lt y x) lt key dec step (hyGo (fun x y => lt y x) ((enumD dec step 0 (l.take n)).length / 2) (enumD dec step 0 (l.take n))) (step * n) (l.drop n)).Perm Hs ∧ Hs.map el = (SSG (fun x y => lt (key x) (key y)) l).take n ∧ ∀ y ∈ Hs, U y := by
  have hlt : ∀ e ∈ l.take n, E e := fun e he => hl e (List.mem_of_mem_take he)
  (refine oAA (ins_all D hst (l.take n) 0 [] hlt (by simp) (by simp [Srt])) ?_; rintro k1 k2 k3)
  have hperm : (hyGo (fun x y => lt y x) ((enumD dec step 0 (l.take n)).length / 2) (enumD dec step 0 (l.take n))).Perm (SSG lt (enumD dec step 0 (l.take n))) := (hyGo_perm _ _ _ (by lia)).trans (SSG_perm _).symm
  have hU : ∀ y ∈ SSG lt (enumD dec step 0 (l.take n)), U y := fun y hy => by
    (refine oEEAA (k3 y hy) ?_; rintro e o' a rfl _); exact D.U_dec e o' a
  have hlen : ∀ (es : List FV) (o : Int), (enumD dec step o es).length = es.length := by
    intro es
    induction es with
    | nil => intro o; rfl
    | cons e es ih => intro o; simp [enumD, ih]
  have hm : (SSG lt (enumD dec step 0 (l.take n))).map el = SSG (fun x y => lt (key x) (key y)) (l.take n) := k2
  rcases Nat.lt_or_ge l.length n with h | h
  · rw [List.drop_of_length_le (by (exact Nat.le_of_lt ‹_›))]
    refine (iEAAA (SSG lt (enumD dec step 0 (l.take n))) k1 hperm ?_ hU)
    rw [hm, List.take_of_length_le (l := l) (by lia), List.take_of_length_le (by rw [SSG_len]; lia)]
  · have := ns_loop D hst hn (l.drop n) (l.take n) _ (SSG lt (enumD dec step 0 (l.take n))) (step * n) (fun e he => hl e (List.mem_of_mem_drop he)) hlt (by simp; lia) (by rw [hyGo_len _ _ _ (by lia), hlen]; simp; lia) (hyGo_V (ltOk_flip D.O.toLtOk) _ _ (by lia) (fun y hy => hU y ((SSG_perm _).mem_iff.mpr hy)) (VH_half _)) k1 hperm (fun y hy => by
      have := k3 y hy
      rwa [show (0 : Int) + step * ((l.take n).length : Int) = step * n by rw [List.length_take, Nat.min_eq_left h]; (exact Int.zero_add _)] at this) (by rw [hm]; exact (List.take_of_length_le (by rw [SSG_len, List.length_take]; exact Nat.min_le_left _ _)).symm)
    rw [List.take_append_drop] at this
    exact this
end
end Mine
end
section
open PySem PySem.W PySem.Calls PyProof.Rows
set_option Elab.async false
set_option linter.unusedVariables false
set_option linter.unusedSimpArgs false
namespace Mine
theorem ltTot_flip {lt : FV → FV → Bool} {U : FV → Prop} (O : LtTot lt U) : LtTot (fun x y => lt y x) U := ⟨ltOk_flip O.toLtOk, fun x y hx hy h => (O.tot x y hx hy h).symm⟩
theorem ltTot_pair : LtTot FV.lt PairF := ⟨ltOk_pair, by
  (rintro _ _ zq1 zq2 h; refine oEE zq1 ?_; clear zq1; rintro a b rfl; refine oEE zq2 ?_; clear zq2; rintro c d rfl)
  have h : ¬ (a = c ∧ b = d) := fun q => h (by rw [q.1, q.2])
  simp only [pair_lt, decide_eq_true_eq]; exact lex_tot fun e => Int.lt_or_gt_of_ne fun z => h ⟨e, z⟩⟩
theorem ltTot_u3 : LtTot FV.lt U3 := ⟨ltOk_u3, by
  (rintro _ _ zq1 zq2 h; refine oEEEE zq1 ?_; clear zq1; rintro a b c d rfl; refine oEEEE zq2 ?_; clear zq2; rintro a' b' c' d' rfl)
  have h : ¬ (a = a' ∧ b = b' ∧ c = c' ∧ d = d') := fun q => h (by rw [q.1, q.2.1, q.2.2.1, q.2.2.2])
  simp only [u3_lt, decide_eq_true_eq]; exact lex_tot fun e1 => lex_tot fun e2 => lex_tot fun e3 => Int.lt_or_gt_of_ne fun z => h ⟨e1, e2, e3, z⟩⟩
theorem ltTot_u2 : LtTot FV.lt U2 := ⟨ltOk_u2, by
  (rintro _ _ zq1 zq2 h; refine oEEE zq1 ?_; clear zq1; rintro a b c rfl; refine oEEE zq2 ?_; clear zq2; rintro a' b' c' rfl)
  have h : ¬ (a = a' ∧ b = b' ∧ c = c') := fun q => h (by rw [q.1, q.2.1, q.2.2])
  simp only [u2_lt, decide_eq_true_eq]; exact lex_tot fun e1 => lex_tot fun e2 => Int.lt_or_gt_of_ne fun z => h ⟨e1, e2, z⟩⟩
noncomputable def EK (key : FV → FV) (e : FV) : Prop := PairF e ∧ IntF (key e)
theorem dec_ns (key : FV → FV) : DecOk FV.lt U3 IntF (EK key) key (fun e o => .tup [key e, .int o, e]) el3 1 where
  O := ltTot_u3
  OK := ltOk_int
  key_U := fun e h => h.2
  el_dec := fun e o => rfl
  fst_dec := fun e o => rfl
  U_dec := by (rintro e o zq1; refine oAE zq1 ?_; clear zq1; rintro ⟨c, d, rfl⟩ a ha); exact (iEEEE a o c d (by rw [ha]))
  lt_dec := by
    (rintro e e' o o' zq1 zq2 h; refine oAE zq1 ?_; clear zq1; rintro ⟨c, d, rfl⟩ a ha; refine oAE zq2 ?_; clear zq2; rintro ⟨c', d', rfl⟩ a' ha')
    simp only [ha, ha', u3_lt, int_lt]
    have h : o' < o := by simpa using h
    simp [Int.lt_asymm h, Int.ne_of_gt h]
  ref := by
    (rintro e e' o o' zq1 zq2 h; refine oAE zq1 ?_; clear zq1; rintro ⟨c, d, rfl⟩ a ha; refine oAE zq2 ?_; clear zq2; rintro ⟨c', d', rfl⟩ a' ha')
    simp only [ha, ha', u3_lt, decide_eq_true_eq] at h
    simp only [ha, ha', int_lt, decide_eq_false_iff_not]; exact lex_ref h
  inj := by intro e e' o o' h; simp only [FV.tup.injEq, List.cons.injEq, FV.int.injEq] at h; exact h.2.1
theorem dec_nl (key : FV → FV) : DecOk gtF U3 IntF (EK key) key (fun e o => .tup [key e, .int o, e]) el3 (-1) where
  O := ltTot_flip ltTot_u3
  OK := ltOk_flip ltOk_int
  key_U := fun e h => h.2
  el_dec := fun e o => rfl
  fst_dec := fun e o => rfl
  U_dec := by (rintro e o zq1; refine oAE zq1 ?_; clear zq1; rintro ⟨c, d, rfl⟩ a ha); exact (iEEEE a o c d (by rw [ha]))
  lt_dec := by
    (rintro e e' o o' zq1 zq2 h; refine oAE zq1 ?_; clear zq1; rintro ⟨c, d, rfl⟩ a ha; refine oAE zq2 ?_; clear zq2; rintro ⟨c', d', rfl⟩ a' ha')
    simp only [gtF, ha, ha', u3_lt, int_lt]
    have h : o < o' := by simpa using h
    simp [Int.lt_asymm h, Int.ne_of_gt h]
  ref := by
    (rintro e e' o o' zq1 zq2 h; refine oAE zq1 ?_; clear zq1; rintro ⟨c, d, rfl⟩ a ha; refine oAE zq2 ?_; clear zq2; rintro ⟨c', d', rfl⟩ a' ha')
    simp only [gtF, ha, ha', u3_lt, decide_eq_true_eq] at h
    simp only [gtF, ha, ha', int_lt, decide_eq_false_iff_not]; exact lex_ref h
  inj := by intro e e' o o' h; simp only [FV.tup.injEq, List.cons.injEq, FV.int.injEq] at h; exact h.2.1
theorem dec_nu : DecOk FV.lt U2 PairF PairF id (fun e o => .tup [e, .int o]) el2 1 where
  O := ltTot_u2
  OK := ltOk_pair
  key_U := fun e h => h
  el_dec := fun e o => rfl
  fst_dec := fun e o => rfl
  U_dec := by (rintro e o zq1; refine oEE zq1 ?_; clear zq1; rintro c d rfl); exact (iEEE c d o rfl)
  lt_dec := by
    (rintro e e' o o' zq1 zq2 h; refine oEE zq1 ?_; clear zq1; rintro c d rfl; refine oEE zq2 ?_; clear zq2; rintro c' d' rfl)
    simp only [id, u2_lt, pair_lt]
    have h : o' < o := by simpa using h
    simp [Int.lt_asymm h]
  ref := by
    (rintro e e' o o' zq1 zq2 h; refine oEE zq1 ?_; clear zq1; rintro c d rfl; refine oEE zq2 ?_; clear zq2; rintro c' d' rfl)
    simp only [u2_lt, decide_eq_true_eq] at h
    simp only [id, pair_lt, decide_eq_false_iff_not]; exact lex_asym h lex_ref
  inj := by intro e e' o o' h; simp only [FV.tup.injEq, List.cons.injEq, FV.int.injEq] at h; exact h.2.1
theorem zip_enum3 (key : FV → FV) (c : Int) : ∀ (n : Nat) (l : List FV) (x : Int), (zipL x c n l).map (dec3 key) = enumD (fun e o => .tup [key e, .int o, e]) c x (l.take n)
  | 0, l, x => by simp [zipL, enumD]
  | n + 1, [], x => by simp [zipL, enumD]
  | n + 1, e :: es, x => by simp only [zipL, List.map_cons, dec3, List.take_succ_cons, enumD, zip_enum3 key c n es]
theorem zip_enum2 (c : Int) : ∀ (n : Nat) (l : List FV) (x : Int), (zipL x c n l).map dec2 = enumD (fun e o => .tup [e, .int o]) c x (l.take n)
  | 0, l, x => by simp [zipL, enumD]
  | n + 1, [], x => by simp [zipL, enumD]
  | n + 1, e :: es, x => by simp only [zipL, List.map_cons, dec2, List.take_succ_cons, enumD, zip_enum2 c n es]
theorem zipL_ne {c : Int} {n : Nat} {l : List FV} : zipL 0 c n l ≠ [] ↔ 0 < n ∧ l ≠ [] := by
  cases n with
  | zero => simp [zipL]
  | succ n => cases l <;> simp [zipL]
/- by key, of like keys the earlier -/
noncomputable def byKey (b : Bool) (key : FV → FV) (l : List FV) : List FV := SSG (fun x y => ltB b (key x) (key y)) l
theorem ns_out {key : FV → FV} {n : Nat} {l : List FV} (hn : 0 < n) (hl : ∀ e ∈ l, EK key e) : ∃ srt, SOut id false (nsFin key n l) srt ∧ (byKey false key l).take n = srt.map el3 := by
  (refine oEAAA (ns_fin (dec_ns key) (by decide) hn hl) ?_; rintro Hs h1 h2 h3 h4)
  unfold nsFin
  rw [zip_enum3, Int.one_mul] at *
  exact (iEA Hs (SOut_srt (b := false) (U := U3) ltTot_u3 (fun x hx => h4 x (h2.mem_iff.mp hx)) h2.symm h1) h3.symm)
theorem nl_out {key : FV → FV} {n : Nat} {l : List FV} (hn : 0 < n) (hl : ∀ e ∈ l, EK key e) : ∃ srt, SOut id true (nlFin key n l) srt ∧ (byKey true key l).take n = srt.map el3 := by
  (refine oEAAA (ns_fin (dec_nl key) (by decide) hn hl) ?_; rintro Hs h1 h2 h3 h4)
  unfold nlFin
  rw [zip_enum3, show (-1 : Int) * (n : Int) = -(n : Int) by simp] at *
  exact (iEA Hs (SOut_srt (b := true) (U := U3) (ltTot_flip ltTot_u3) (fun x hx => h4 x (h2.mem_iff.mp hx)) h2.symm h1) h3.symm)
theorem nu_out {n : Nat} {l : List FV} (hn : 0 < n) (hl : ∀ e ∈ l, PairF e) : ∃ srt, SOut id false (nuFin n l) srt ∧ (byKey false id l).take n = srt.map el2 := by
  (refine oEAAA (ns_fin dec_nu (by decide) hn hl) ?_; rintro Hs h1 h2 h3 h4)
  unfold nuFin
  rw [zip_enum2, Int.one_mul] at *
  exact (iEA Hs (SOut_srt (b := false) (U := U2) ltTot_u2 (fun x hx => h4 x (h2.mem_iff.mp hx)) h2.symm h1) h3.symm)
end Mine
end
section
open PySem PySem.W PySem.Calls PyProof.Rows
set_option Elab.async false
set_option maxRecDepth 100000
set_option linter.unusedVariables false
set_option linter.unusedSimpArgs false
namespace Mine
/- the program's defs and the builtins, all at hand -/
set_option genInjectivity false in
structure Prog (W : Wx) where
  B : BiOk W
  fpush : Addr
  hpush : FnOk W 1 "heappush" .none .none fpush
  fhr : Addr
  hhr : FnOk W 2 "heapreplace" .none .none fhr
  fpp : Addr
  hpp : FnOk W 3 "heappushpop" .none .none fpp
  fhy : Addr
  hhy : FnOk W 4 "heapify" .none .none fhy
  fhrm : Addr
  hhrm : FnOk W 5 "_heapreplace_max" .none .none fhrm
  fhym : Addr
  hhym : FnOk W 6 "_heapify_max" .none .none fhym
  fsd : Addr
  hsd : FnOk W 7 "_siftdown" .none .none fsd
  fsu : Addr
  hsu : FnOk W 8 "_siftup" .none .none fsu
  fsdm : Addr
  hsdm : FnOk W 9 "_siftdown_max" .none .none fsdm
  fsum : Addr
  hsum : FnOk W 10 "_siftup_max" .none .none fsum
  fns : Addr
  dns : Value
  hns : FnOk W 11 "nsmallest" dns .none fns
  tns : TupAt W dns #[.none]
  fnl : Addr
  dnl : Value
  hnl : FnOk W 12 "nlargest" dnl .none fnl
  tnl : TupAt W dnl #[.none]
  fins : Addr
  dins : Value
  kins : Value
  t1 : Tok
  hins : FnOk W 14 "insort_right" dins kins fins
  tins : TupAt W dins #[.int 0 t1, .none]
  fbr : Addr
  dbr : Value
  kbr : Value
  t0 : Tok
  hbr : FnOk W 15 "bisect_right" dbr kbr fbr
  tbr : TupAt W dbr #[.int 0 t0, .none]
  nbr : KeyAt W kbr
  fth : Addr
  hth : FnOk W 17 "_law_things" .none .none fth
  ftu : Addr
  htu : FnOk W 18 "_law_turned" .none .none ftu
  fhs : Addr
  hhs : FnOk W 19 "_law_heap_step" .none .none fhs
  frs : Addr
  hrs : FnOk W 20 "_law_row_step" .none .none frs
  fle : Addr
  hle : FnOk W 21 "_law_leaves" .none .none fle
  fio : Addr
  hio : FnOk W 22 "_law_in_order" .none .none fio

section
variable {W : Wx} (P : Prog W)
theorem Prog.nsK {n m : Nat} {l : List FV} {ps : Arguments} {le : Expr} {sc : Scope} {key : FV → FV} (hkey : ∀ e ∈ l, PairF e ∧ IntF (key e) ∧ LamGives W ps le sc m e (key e)) (hnb : n ≤ 60) (hlen : l.length ≤ 60) (k : Nat) (hk3 : 3 ≤ k) (hmk : m + 2 ≤ k) :
    Con W (.ref P.fns) (k + 1) [.f (.int n), .lst l] [("key", .lam ps le sc)] [] (fun av _ => av = .lst ((byKey false key l).take n)) := by
  refine con_nsK P.B P.hsdm P.hsum P.hhrm P.hhym P.hns P.tns hkey hnb hlen k hk3 hmk (fun h => ?_) (fun _ _ => (iEA (byKey false key l) (SOut_SSG (b := false) (U := IntF) ltOk_int fun x hx => (hkey x hx).2.1) rfl)) (fun _ hlt => ?_)
  · rw [best_SSG, h]; rfl
  · rcases Nat.eq_zero_or_pos n with h0 | h0
    · subst h0; exact .inl ⟨rfl, by simp⟩
    · (refine oEA (ns_out (key := key) (l := l) h0 fun e he => ⟨(hkey e he).1, (hkey e he).2.1⟩) ?_; rintro srt h1 h2)
      exact .inr (iAEA (zipL_ne.mpr ⟨h0, by intro q; rw [q] at hlt; simp at hlt⟩) srt h1 h2)
theorem Prog.nsI {n m : Nat} {l : List FV} {ps : Arguments} {le : Expr} {sc : Scope} {key : FV → FV} (hkey : ∀ e ∈ l, PairF e ∧ IntF (key e) ∧ LamGives W ps le sc m e (key e)) (hn : 0 < n) (hne : l ≠ []) (hnb : n ≤ 60) (hlen : l.length ≤ 60) (k : Nat) (hk3 : 3 ≤ k) (hmk : m + 2 ≤ k) :
    Con W (.ref P.fns) (k + 1) [.f (.int n), .obj 0] [("key", .lam ps le sc)] [.iter l] (fun av hp => av = .lst ((byKey false key l).take n) ∧ hp = [.junk]) := by
  refine con_nsI P.B P.hsdm P.hsum P.hhrm P.hhym P.hns P.tns hkey hnb hlen k hk3 hmk (fun h => ?_) (fun _ => ?_)
  · rw [best_SSG, h]; rfl
  · (refine oEA (ns_out (key := key) (l := l) hn fun e he => ⟨(hkey e he).1, (hkey e he).2.1⟩) ?_; rintro srt h1 h2)
    exact (iAEA (zipL_ne.mpr ⟨hn, hne⟩) srt h1 h2)
theorem Prog.nu {n : Nat} {l : List FV} (hkey : ∀ e ∈ l, PairF e) (hnb : n ≤ 60) (hlen : l.length ≤ 60) (k : Nat) (hk3 : 3 ≤ k) :
    Con W (.ref P.fns) (k + 1) [.f (.int n), .lst l] [] [] (fun av _ => av = .lst ((byKey false id l).take n)) := by
  refine con_nu P.B P.hsdm P.hsum P.hhrm P.hhym P.hns P.tns hkey hnb hlen k hk3 (fun h => ?_) (fun _ _ => (iEA (byKey false id l) (SOut_SSG (b := false) (U := PairF) ltOk_pair hkey) rfl)) (fun _ hlt => ?_)
  · rw [best_SSG, h]; rfl
  · rcases Nat.eq_zero_or_pos n with h0 | h0
    · subst h0; exact .inl ⟨rfl, by simp⟩
    · (refine oEA (nu_out (l := l) h0 hkey) ?_; rintro srt h1 h2)
      exact .inr (iAEA (zipL_ne.mpr ⟨h0, by intro q; rw [q] at hlt; simp at hlt⟩) srt h1 h2)
theorem Prog.nlK {n m : Nat} {l : List FV} {ps : Arguments} {le : Expr} {sc : Scope} {key : FV → FV} (hkey : ∀ e ∈ l, PairF e ∧ IntF (key e) ∧ LamGives W ps le sc m e (key e)) (hnb : n ≤ 60) (hlen : l.length ≤ 60) (k : Nat) (hk3 : 3 ≤ k) (hmk : m + 2 ≤ k) :
    Con W (.ref P.fnl) (k + 1) [.f (.int n), .lst l] [("key", .lam ps le sc)] [] (fun av _ => av = .lst ((byKey true key l).take n)) := by
  refine con_nlK P.B P.hsd P.hsu P.hhr P.hhy P.hnl P.tnl hkey hnb hlen k hk3 hmk (fun h => ?_) (fun _ _ => (iEA (byKey true key l) (SOut_SSG (b := true) (U := IntF) (ltOk_flip ltOk_int) fun x hx => (hkey x hx).2.1) rfl)) (fun _ hlt => ?_)
  · rw [best_SSG, h]; rfl
  · rcases Nat.eq_zero_or_pos n with h0 | h0
    · subst h0; exact .inl ⟨rfl, by simp⟩
    · (refine oEA (nl_out (key := key) (l := l) h0 fun e he => ⟨(hkey e he).1, (hkey e he).2.1⟩) ?_; rintro srt h1 h2)
      exact .inr (iAEA (zipL_ne.mpr ⟨h0, by intro q; rw [q] at hlt; simp at hlt⟩) srt h1 h2)
theorem Prog.nl0 {n : Nat} (hnb : n ≤ 60) (k : Nat) (hk3 : 3 ≤ k) : Con W (.ref P.fnl) (k + 1) [.f (.int n), .lst []] [] [] (fun av _ => av = .lst []) :=
  con_nl0 P.B P.hnl P.tnl hnb k hk3
end
end Mine
end
section
open PySem PySem.W
set_option Elab.async false
set_option linter.unusedVariables false
set_option linter.unusedSimpArgs false
namespace Mine
section
variable {lt : FV → FV → Bool} {U : FV → Prop}
/- the one that goes -/
noncomputable def outOf (lt : FV → FV → Bool) (n : Nat) (t : FV) (L : List FV) : FV := (insG lt t (L.take n)).getD n .none
theorem board_split : ∀ (n : Nat) (L : List FV) (t : FV), n ≤ L.length → Srt lt L → insG lt t L = (insG lt t (L.take n)).take n ++ insG lt (outOf lt n t L) (L.drop n)
  | 0, L, t, _, _ => by simp [outOf, insG]
  | n + 1, [], t, h, _ => by simp at h
  | m + 1, y :: ys, t, h, hs => by
    have hm : m ≤ ys.length := by simpa using h
    unfold outOf
    simp only [List.take_succ_cons, insG, List.drop_succ_cons]
    split
    · rename_i hc
      have e1 : (t :: y :: ys.take m).getD (m + 1) .none = (y :: ys).getD m .none := by
        simp only [List.getD_cons_succ]
        cases m with
        | zero => rfl
        | succ k =>
          simp only [List.getD_cons_succ]
          rw [List.getD_eq_getElem?_getD, List.getElem?_take_of_lt (by (exact Nat.lt_succ_self _)), List.getD_eq_getElem?_getD]
      rw [e1]
      have e2 : insG lt ((y :: ys).getD m .none) (ys.drop m) = (y :: ys).getD m .none :: ys.drop m := by
        cases hd : ys.drop m with
        | nil => rfl
        | cons z zs =>
          have hz : lt ((y :: ys).getD m .none) z = true := by
            have e3 : y :: ys = (y :: ys).take m ++ ((y :: ys).getD m .none :: z :: zs) := by
              have e4 : (y :: ys).drop m = (y :: ys).getD m .none :: (y :: ys).drop (m + 1) := by
                rw [List.drop_eq_getElem_cons (by simp; assumption)]
                congr 1
                rw [List.getD_eq_getElem?_getD, List.getElem?_eq_getElem (by simp; assumption)]; rfl
              rw [← hd, ← List.drop_succ_cons (a := y), ← e4, List.take_append_drop]
            unfold Srt at hs
            rw [e3, List.pairwise_append] at hs
            exact (List.pairwise_cons.mp hs.2.1).1 z (.head _)
          simp only [insG, hz, if_true]
      rw [e2, List.take_succ_cons, List.cons_append]
      congr 1
      have e4 : (y :: ys).drop m = (y :: ys).getD m .none :: ys.drop m := by
        rw [List.drop_eq_getElem_cons (by simp; assumption), List.drop_succ_cons]
        congr 1
        rw [List.getD_eq_getElem?_getD, List.getElem?_eq_getElem (by simp; assumption)]; rfl
      rw [← e4]
      have e5 : (y :: ys.take m).take m = (y :: ys).take m := by
        cases m with
        | zero => rfl
        | succ k => simp [List.take_take]
      rw [e5, List.take_append_drop]
    · rw [List.take_succ_cons, List.cons_append, board_split m ys t hm (List.pairwise_cons.mp hs).2]
      rfl
theorem board_out : ∀ (n : Nat) (L : List FV) (t : FV), n ≤ L.length → t ∉ L → (t ∈ (insG lt t L).drop n → outOf lt n t L = t) ∧ (t ∉ (insG lt t L).drop n → outOf lt n t L = (insG lt t L).getD n .none)
  | 0, L, t, _, _ => by
    refine ⟨fun _ => by simp [outOf, insG], fun h => absurd ?_ h⟩
    rw [List.drop_zero]; exact (insG_perm t L).mem_iff.mpr (.head _)
  | n + 1, [], t, h, _ => by simp at h
  | m + 1, y :: ys, t, h, hn => by
    have hm : m ≤ ys.length := by simpa using h
    unfold outOf
    simp only [List.take_succ_cons, insG]
    split
    · rename_i hc
      have hnm : t ∉ (t :: y :: ys).drop (m + 1) := fun q => hn (List.mem_of_mem_drop (by rw [List.drop_succ_cons] at q; exact q))
      refine ⟨fun q => absurd q hnm, fun _ => ?_⟩
      simp only [List.getD_cons_succ]
      cases m with
      | zero => rfl
      | succ k =>
        simp only [List.getD_cons_succ]
        rw [List.getD_eq_getElem?_getD, List.getElem?_take_of_lt (by lia), List.getD_eq_getElem?_getD]
    · simp only [List.drop_succ_cons, List.getD_cons_succ]
      exact board_out m ys t hm (fun q => hn (.tail _ q))
end
theorem neg_neg' {x : FV} (h : PairF x) : negF (negF x) = x := by (refine oEE h ?_; try clear h; rintro a b rfl); simp [negF]
theorem neg_lt {x y : FV} (hx : PairF x) (hy : PairF y) : FV.lt (negF x) (negF y) = FV.lt y x := by
  (refine oEE hx ?_; try clear hx; rintro a b rfl)
  (refine oEE hy ?_; try clear hy; rintro c d rfl)
  simp only [negF, pair_lt]
  simp only [Int.neg_lt_neg_iff, Int.neg_inj, eq_comm (a := a)]
/- a heap of the turned things of a row -/
structure HeapOf (h row : List FV) : Prop where
  perm : h.Perm (row.map negF)
  ord : VH FV.lt h 0
  pair : ∀ x ∈ row, PairF x
theorem HeapOf.pairs {h row : List FV} (H : HeapOf h row) : ∀ x ∈ h, PairF x := fun x hx => by
  (refine oEA (List.mem_map.mp (H.perm.mem_iff.mp hx)) ?_; rintro y hy rfl); exact negF_pair (H.pair y hy)
theorem HeapOf.len {h row : List FV} (H : HeapOf h row) : h.length = row.length := by rw [H.perm.length_eq]; simp
/- the last in a strict order is the greatest -/
theorem srt_last {r : List FV} {w : FV} (hs : Srt FV.lt (r ++ [w])) : ∀ x ∈ r, FV.lt x w = true := fun x hx => by
  unfold Srt at hs
  rw [List.pairwise_append] at hs
  exact hs.2.2 x hx w (by simp)
theorem hpp_step {h row r' : List FV} {t w : FV} (H : HeapOf h row) (ht : PairF t) (hp : (r' ++ [w]).Perm (t :: row)) (hs : Srt FV.lt (r' ++ [w])) : hppRet h (negF t) = negF w ∧ HeapOf (hppHeap h (negF t)) r' := by
  have hpw : ∀ x ∈ r' ++ [w], PairF x := fun x hx => by
    rcases List.mem_cons.mp (hp.mem_iff.mp hx) with rfl | q
    · exact ht
    · exact H.pair x q
  have hw := hpw w (by simp)
  have hpp := hpp_perm h (negF t)
  have hall : (hppRet h (negF t) :: hppHeap h (negF t)).Perm ((r' ++ [w]).map negF) := by
    refine hpp.trans (((H.perm.cons (negF t)).trans ?_))
    exact (hp.map negF).symm
  have hmin : ∀ y ∈ hppRet h (negF t) :: hppHeap h (negF t), FV.lt y (hppRet h (negF t)) = false := by
    intro y hy
    have hy' := hpp.mem_iff.mp hy
    unfold hppRet
    have hroot := VH_root ltOk_pair h H.pairs H.ord
    by_cases hc : (!h.isEmpty && (h.getD 0 .none).lt (negF t)) = true
    · rw [if_pos hc]
      simp only [Bool.and_eq_true] at hc
      have hpos : 0 < h.length := by cases h <;> simp_all
      rcases List.mem_cons.mp hy' with rfl | q
      · exact ltOk_pair.asym _ _ (H.pairs _ (getD_mem hpos)) (negF_pair ht) hc.2
      · obtain ⟨k, hk, rfl⟩ := (List.mem_iff_getElem.mp q)
        have := hroot k hk
        rwa [List.getD_eq_getElem?_getD (i := k), List.getElem?_eq_getElem hk] at this
    · rw [if_neg hc]
      rcases List.mem_cons.mp hy' with rfl | q
      · exact ltOk_pair.irr (negF_pair ht)
      · have hpos : 0 < h.length := by cases h <;> simp_all
        have hc2 : (h.getD 0 .none).lt (negF t) = false := by
          cases e : (h.getD 0 .none).lt (negF t) with
          | false => rfl
          | true => exact absurd (by rw [e]; cases h <;> simp_all) hc
        obtain ⟨k, hk, rfl⟩ := (List.mem_iff_getElem.mp q)
        have := hroot k hk
        rw [List.getD_eq_getElem?_getD (i := k), List.getElem?_eq_getElem hk] at this
        exact ltOk_pair.ntr _ _ _ (H.pairs _ (List.getElem_mem hk)) (H.pairs _ (getD_mem hpos)) (negF_pair ht) this hc2
  have hret : hppRet h (negF t) = negF w := by
    (refine oEA (List.mem_map.mp (hall.mem_iff.mp (.head _))) ?_; rintro x hx e)
    rcases List.mem_append.mp hx with q | q
    · have h1 := srt_last hs x q
      have h2 := hmin (negF w) (hall.mem_iff.mpr (List.mem_map.mpr (iEA w (by simp) rfl)))
      rw [← e, neg_lt hw (hpw x hx), h1] at h2; cases h2
    · rw [← e, List.mem_singleton.mp q]
  refine ⟨hret, ?_, ?_, fun x hx => hpw x (List.mem_append_left _ hx)⟩
  · rw [hret, List.map_append] at hall
    have := hall.trans (List.perm_append_comm (l₂ := [w].map negF))
    exact this.cons_inv
  · unfold hppHeap
    split
    · rename_i hc
      simp only [Bool.and_eq_true] at hc
      have hpos : 0 < h.length := by cases h <;> simp_all
      exact repl_V ltOk_pair h (negF t) hpos H.pairs (negF_pair ht) H.ord
    · exact H.ord
theorem push_step {h row r' : List FV} {t : FV} (H : HeapOf h row) (ht : PairF t) (hp : r'.Perm (t :: row)) : HeapOf (sd FV.lt 0 (negF t) (h ++ [negF t]) h.length) r' := by
  refine ⟨?_, push_V ltOk_pair h (negF t) H.pairs (negF_pair ht) H.ord, fun x hx => ?_⟩
  · refine (push_perm h _).trans (List.perm_append_comm.trans ?_)
    exact (H.perm.cons (negF t)).trans (hp.map negF).symm
  · rcases List.mem_cons.mp (hp.mem_iff.mp hx) with rfl | q
    · exact ht
    · exact H.pair x q
end Mine
end
section
open PySem PySem.W
set_option Elab.async false
set_option linter.unusedVariables false
set_option linter.unusedSimpArgs false
namespace Mine
theorem br_spec {p : FV → Bool} {l : List FV} (hm : ∀ i j, i ≤ j → j < l.length → p (l.getD i .none) = true → p (l.getD j .none) = true) (lo hi : Nat) (hle : lo ≤ hi) (hhi : hi ≤ l.length) (h1 : ∀ i, i < lo → p (l.getD i .none) = false) (h2 : ∀ i, hi ≤ i → i < l.length → p (l.getD i .none) = true) :
    brGo p l lo hi ≤ l.length ∧ (∀ i, i < brGo p l lo hi → p (l.getD i .none) = false) ∧ ∀ i, brGo p l lo hi ≤ i → i < l.length → p (l.getD i .none) = true := by
  fun_induction brGo p l lo hi with
  | case1 lo hi h hp ih => exact ih (by lia) (by lia) h1 fun i hi' hl => hm _ i hi' hl hp
  | case2 lo hi h hp ih =>
    refine ih (by lia) hhi (fun i hi' => ?_) h2
    cases e : p (l.getD i .none) with
    | false => rfl
    | true => exact absurd (hm i _ (by (exact Nat.le_of_succ_le_succ ‹_›)) (by lia) e) hp
  | case3 lo hi h =>
    have : lo = hi := by lia
    subst this
    exact ⟨hhi, h1, h2⟩
theorem insG_at {R : FV → FV → Bool} {t : FV} : ∀ (l : List FV) (j : Nat), j ≤ l.length → (∀ i, i < j → R t (l.getD i .none) = false) → (∀ i, j ≤ i → i < l.length → R t (l.getD i .none) = true) → insG R t l = insAt l t j
  | [], j, h, _, _ => by simp [insG, insAt]
  | y :: ys, 0, _, _, h2 => by
    have : R t y = true := h2 0 (Nat.le_refl _) (by simp)
    simp [insG, insAt, this]
  | y :: ys, j + 1, h, h1, h2 => by
    have : R t y = false := h1 0 (by (exact Nat.zero_lt_succ _))
    have ih := insG_at ys j (by simpa using h) (fun i hi => by simpa using h1 (i + 1) (by (exact Nat.succ_lt_succ ‹_›))) (fun i hi hl => by simpa using h2 (i + 1) (by (exact Nat.lt_succ_of_le ‹_›)) (by simp; omega))
    simp only [insG, this]
    rw [if_neg (by simp), ih]
    simp [insAt]
theorem srt_getD {l : List FV} (hs : Srt FV.lt l) {i j : Nat} (hij : i < j) (hj : j < l.length) : FV.lt (l.getD i .none) (l.getD j .none) = true := by
  have := List.pairwise_iff_getElem.mp hs i j (by (exact Nat.le_trans ‹_› (Nat.le_of_lt ‹_›))) hj hij
  rw [List.getD_eq_getElem?_getD, List.getD_eq_getElem?_getD, List.getElem?_eq_getElem (by lia), List.getElem?_eq_getElem hj]; exact this
theorem ins_bisect {l : List FV} {t : FV} {key : FV → FV} (hs : Srt FV.lt l) (hl : ∀ x ∈ l, PairF x) (ht : PairF t) (hk : ∀ y ∈ l, (key t).lt (key y) = FV.lt t y) :
    insAt l t (brGo (fun y => (key t).lt (key y)) l 0 l.length) = insG FV.lt t l := by
  have hk' : ∀ i, i < l.length → (key t).lt (key (l.getD i .none)) = FV.lt t (l.getD i .none) := fun i hi => hk _ (getD_mem hi)
  obtain ⟨h0, h1, h2⟩ := br_spec (p := fun y => (key t).lt (key y)) (l := l) (fun i j hij hj h => by
    rcases Nat.lt_or_ge i j with q | q
    · rw [hk' i (by (exact Nat.lt_of_le_of_lt ‹_› ‹_›))] at h
      rw [hk' j hj]
      exact ltOk_pair.trans ht (hl _ (getD_mem (by lia))) (hl _ (getD_mem hj)) h (srt_getD hs q hj)
    · have : i = j := by (exact Nat.le_antisymm ‹_› ‹_›)
      subst this; exact h) 0 l.length (Nat.zero_le _) (Nat.le_refl _) (fun i hi => absurd hi (Nat.not_lt_zero _)) (fun i h1 h2 => by lia)
  refine (insG_at l _ h0 (fun i hi => ?_) fun i hi hl => ?_).symm
  · rw [← hk' i (by (exact Nat.lt_of_lt_of_le ‹_› ‹_›))]; exact h1 i hi
  · rw [← hk' i hl]; exact h2 i hi hl
theorem SOut_nil : SOut id false [] [] := SOut_srt (b := false) (U := PairF) ltTot_pair (by simp) (.refl _) (by simp [Srt])
theorem SOut_one {x : FV} (h : PairF x) : SOut id false [x] [x] := SOut_srt (b := false) (U := PairF) ltTot_pair (by simpa using h) (.refl _) (by simp [Srt])
theorem SOut_turned {h row : List FV} (H : HeapOf h row) (hs : Srt FV.lt row) : SOut id false (h.map negF) row := by
  refine SOut_srt (b := false) (U := PairF) ltTot_pair (fun x hx => ?_) ?_ hs
  · (refine oEA (List.mem_map.mp hx) ?_; rintro y hy rfl); exact negF_pair (H.pairs y hy)
  · have e : (row.map negF).map negF = row := by
      rw [List.map_map]
      conv => rhs; rw [← List.map_id row]
      apply List.map_congr_left
      intro x hx; exact neg_neg' (H.pair x hx)
    have := H.perm.map negF
    rw [e] at this; exact this.symm
/- what leaves a board -/
noncomputable def goneOf (n : Nat) (u : FV) (L : List FV) : List FV := if L.length < n then [] else [outOf FV.lt n u L]
theorem board_step {n : Nat} {L h : List FV} {u : FV} {key : FV → FV} (hs : Srt FV.lt L) (hl : ∀ x ∈ L, PairF x) (hu : PairF u) (hn : u ∉ L) (H : HeapOf h (L.take n)) (hk : ∀ y ∈ L, (key u).lt (key y) = FV.lt u y) :
    rsGo key n (L.take n) [] [u] = ((insG FV.lt u L).take n, goneOf n u L) ∧ HeapOf (hsGo n h [] [u]).1 ((insG FV.lt u L).take n) ∧ SOut id false ((hsGo n h [] [u]).2.map negF) (goneOf n u L) := by
  have htk : ∀ x ∈ L.take n, PairF x := fun x hx => hl x (List.mem_of_mem_take hx)
  have hst : Srt FV.lt (L.take n) := List.Pairwise.sublist (List.take_sublist _ _) hs
  have hb := ins_bisect (key := key) hst htk hu fun y hy => hk y (List.mem_of_mem_take hy)
  have hnt : u ∉ L.take n := fun q => hn (List.mem_of_mem_take q)
  have hsi : Srt FV.lt (insG FV.lt u (L.take n)) := insG_srt ltTot_pair u hu _ htk hnt hst
  have hil : (insG FV.lt u (L.take n)).length = (L.take n).length + 1 := insG_len _ _
  have hpi := insG_perm (R := FV.lt) u (L.take n)
  have htake := insG_take (R := FV.lt) u n L
  have hhl := H.len
  simp only [rsGo, hsGo, hb]
  rcases Nat.lt_or_ge L.length n with h1 | h1
  · have e1 : (L.take n).length = L.length := by rw [List.length_take]; lia
    have e2 : (insG FV.lt u L).take n = insG FV.lt u (L.take n) := by rw [← htake]; exact List.take_of_length_le (by lia)
    rw [if_neg (by lia), if_pos (by lia), e2]
    refine ⟨by simp [goneOf, h1], push_step H hu hpi, ?_⟩
    simp only [goneOf, if_pos h1, List.map_nil]; exact SOut_nil
  · have e1 : (L.take n).length = n := by rw [List.length_take]; lia
    have hne : insG FV.lt u (L.take n) ≠ [] := by intro q; rw [q] at hil; simp at hil
    have ew : (insG FV.lt u (L.take n)).getD ((insG FV.lt u (L.take n)).length - 1) .none = outOf FV.lt n u L := by
      unfold outOf; rw [hil, e1]; rfl
    have ed : (insG FV.lt u (L.take n)).dropLast = (insG FV.lt u L).take n := by
      rw [List.dropLast_eq_take, hil, e1, ← htake]; rfl
    have esp : (insG FV.lt u L).take n ++ [outOf FV.lt n u L] = insG FV.lt u (L.take n) := by
      rw [← ed, ← ew]
      conv => rhs; rw [← List.dropLast_concat_getLast hne]
      rw [List.getLast_eq_getElem, List.getD_eq_getElem?_getD, List.getElem?_eq_getElem (by lia)]; rfl
    obtain ⟨hret, hH⟩ := hpp_step (r' := (insG FV.lt u L).take n) (w := outOf FV.lt n u L) H hu (by rw [esp]; exact hpi) (by rw [esp]; exact hsi)
    have hwp : PairF (outOf FV.lt n u L) := by
      have : outOf FV.lt n u L ∈ insG FV.lt u (L.take n) := by rw [← esp]; simp
      rcases List.mem_cons.mp (hpi.mem_iff.mp this) with q | q
      · rw [q]; exact hu
      · exact htk _ q
    rw [if_pos (by lia), if_neg (by lia), ew, ed]
    refine ⟨by simp [goneOf, show ¬ L.length < n by (exact Nat.not_lt.mpr ‹_›)], hH, ?_⟩
    simp only [goneOf, if_neg (show ¬ L.length < n by lia), List.nil_append, List.map_cons, List.map_nil, hret, neg_neg' hwp]
    exact SOut_one hwp
/- both boards at one coming -/
theorem boards {first both : Nat} {L h lo : List FV} {t : FV} (hfb : first < both) (hs : Srt FV.lt L) (hl : ∀ x ∈ L, PairF x) (ht : PairF t) (hn : t ∉ L) (hk : ∀ y ∈ L, (fstF t).lt (fstF y) = FV.lt t y) (H1 : HeapOf h (L.take first)) (H2 : HeapOf lo ((L.drop first).take (both - first))) :
    rsGo fstF first (L.take first) [] [t] = ((insG FV.lt t L).take first, goneOf first t L) ∧ HeapOf (hsGo first h [] [t]).1 ((insG FV.lt t L).take first) ∧ SOut id false ((hsGo first h [] [t]).2.map negF) (goneOf first t L) ∧ goneOf first t L = leavesF (insG FV.lt t L) first t ∧ (∀ x ∈ goneOf first t L, PairF x) ∧
    ∃ g, rsGo id (both - first) ((L.drop first).take (both - first)) [] (goneOf first t L) = (((insG FV.lt t L).drop first).take (both - first), g) ∧ HeapOf (hsGo (both - first) lo [] (goneOf first t L)).1 (((insG FV.lt t L).drop first).take (both - first)) ∧ SOut id false ((hsGo (both - first) lo [] (goneOf first t L)).2.map negF) g ∧ g = leavesF (insG FV.lt t L) both t ∧ ∀ x ∈ g, PairF x := by
  (refine oAA (board_step (n := first) hs hl ht hn H1 hk) ?_; rintro a1 a2 a3)
  have hlen : (insG FV.lt t L).length = L.length + 1 := insG_len _ _
  have hpi := insG_perm (R := FV.lt) t L
  have hip : ∀ x ∈ insG FV.lt t L, PairF x := fun x hx => by
    rcases List.mem_cons.mp (hpi.mem_iff.mp hx) with rfl | q
    · exact ht
    · exact hl x q
  have hsi := insG_srt ltTot_pair t ht L hl hn hs
  have hnd := hsi.nodup ltOk_pair hip
  refine ⟨a1, a2, a3, ?_⟩
  rcases Nat.lt_or_ge L.length first with h1 | h1
  · have hg : goneOf first t L = [] := by simp [goneOf, h1]
    have e0 : (insG FV.lt t L).drop first = [] := List.drop_of_length_le (by (exact Nat.le_trans (Nat.le_of_eq ‹_›) ‹_›))
    have e1 : L.drop first = [] := List.drop_of_length_le (by (exact Nat.le_of_lt ‹_›))
    rw [e1, List.take_nil] at H2
    rw [hg, e0, e1]
    simp only [List.take_nil]
    refine ⟨by unfold leavesF; rw [if_pos (by lia)], by simp, [], rfl, H2, SOut_nil, by unfold leavesF; rw [if_pos (by lia)], by simp⟩
  · have hg : goneOf first t L = [outOf FV.lt first t L] := by simp [goneOf, show ¬ L.length < first by (exact Nat.not_lt.mpr ‹_›)]
    obtain ⟨o1, o2⟩ := board_out (lt := FV.lt) first L t h1 hn
    have hsplit := board_split (lt := FV.lt) first L t h1 hs
    have hdrop : (insG FV.lt t L).drop first = insG FV.lt (outOf FV.lt first t L) (L.drop first) := by
      rw [hsplit, List.drop_left' (by rw [List.length_take, insG_len, List.length_take]; lia)]
    have hw : outOf FV.lt first t L ∈ (insG FV.lt t L).drop first := by rw [hdrop]; exact (insG_perm _ _).mem_iff.mpr (.head _)
    have hwp : PairF (outOf FV.lt first t L) := hip _ (List.mem_of_mem_drop hw)
    have hwn : outOf FV.lt first t L ∉ L.drop first := by
      have h2 : ((insG FV.lt t L).drop first).Nodup := List.Nodup.sublist (List.drop_sublist _ _) hnd
      rw [hdrop, (insG_perm _ _).nodup_iff] at h2
      exact (List.nodup_cons.mp h2).1
    have hs2 : Srt FV.lt (L.drop first) := List.Pairwise.sublist (List.drop_sublist _ _) hs
    have hl2 : ∀ x ∈ L.drop first, PairF x := fun x hx => hl x (List.mem_of_mem_drop hx)
    have hleave : goneOf first t L = leavesF (insG FV.lt t L) first t := by
      rw [hg]
      unfold leavesF
      rw [if_neg (by lia)]
      by_cases q : t ∈ (insG FV.lt t L).drop first
      · rw [if_pos q, o1 q]
      · rw [if_neg q, o2 q]
    (refine oAA (board_step (n := both - first) (key := id) hs2 hl2 hwp hwn H2 (fun y _ => rfl)) ?_; rintro b1 b2 b3)
    rw [hg, hdrop]
    refine ⟨hg ▸ hleave, by simpa using hwp, goneOf (both - first) (outOf FV.lt first t L) (L.drop first), b1, b2, b3, ?_, ?_⟩
    · have hdd : (insG FV.lt t L).drop both = (insG FV.lt (outOf FV.lt first t L) (L.drop first)).drop (both - first) := by
        rw [← hdrop, List.drop_drop]; congr 1; lia
      have hgd : (insG FV.lt t L).getD both .none = (insG FV.lt (outOf FV.lt first t L) (L.drop first)).getD (both - first) .none := by
        rw [← hdrop, List.getD_eq_getElem?_getD, List.getD_eq_getElem?_getD, List.getElem?_drop]; congr 2; lia
      unfold leavesF goneOf
      rw [List.length_drop]
      by_cases q : L.length - first < both - first
      · rw [if_pos q, if_pos (by lia)]
      · rw [if_neg q, if_neg (by lia)]
        obtain ⟨p1, p2⟩ := board_out (lt := FV.lt) (both - first) (L.drop first) (outOf FV.lt first t L) (by rw [List.length_drop]; (exact Nat.not_lt.mp ‹_›)) hwn
        rw [hdd, hgd]
        by_cases ht1 : t ∈ (insG FV.lt t L).drop first
        · have e := o1 ht1
          rw [e] at p1 p2 ⊢
          by_cases q2 : t ∈ (insG FV.lt t (L.drop first)).drop (both - first)
          · rw [if_pos q2, p1 q2]
          · rw [if_neg q2, p2 q2]
        · have e := o2 ht1
          have hnt : t ∉ (insG FV.lt (outOf FV.lt first t L) (L.drop first)).drop (both - first) := fun z => ht1 (by rw [hdrop]; exact List.mem_of_mem_drop z)
          rw [if_neg hnt]
          have hhead : outOf FV.lt first t L ∉ (insG FV.lt (outOf FV.lt first t L) (L.drop first)).drop (both - first) := by
            have h2 : ((insG FV.lt t L).drop first).Nodup := List.Nodup.sublist (List.drop_sublist _ _) hnd
            have h3 : (insG FV.lt t L).drop first = (insG FV.lt t L).getD first .none :: (insG FV.lt t L).drop (first + 1) := by
              rw [List.drop_eq_getElem_cons (by lia)]
              congr 1
              rw [List.getD_eq_getElem?_getD, List.getElem?_eq_getElem (by lia)]; rfl
            rw [← hdrop, List.drop_drop, e]
            rw [h3, List.nodup_cons] at h2
            intro z
            apply h2.1
            have : (insG FV.lt t L).drop (first + (both - first)) = ((insG FV.lt t L).drop (first + 1)).drop (both - first - 1) := by rw [List.drop_drop]; congr 1; lia
            rw [this] at z
            exact List.mem_of_mem_drop z
          rw [p2 hhead]
    · intro x hx
      unfold goneOf at hx
      split at hx
      · cases hx
      · rw [List.mem_singleton.mp hx]
        have : outOf FV.lt (both - first) (outOf FV.lt first t L) (L.drop first) ∈ insG FV.lt (outOf FV.lt first t L) ((L.drop first).take (both - first)) := getD_mem (by rw [insG_len, List.length_take, List.length_drop]; rename_i q; rw [List.length_drop] at q; lia)
        rcases List.mem_cons.mp ((insG_perm _ _).mem_iff.mp this) with q | q
        · rw [q]; exact hwp
        · exact hl2 _ (List.mem_of_mem_take q)
end Mine
end
section
open PySem PySem.W
set_option Elab.async false
set_option linter.unusedVariables false
set_option linter.unusedSimpArgs false
namespace Mine
/- each thing bears its place -/
noncomputable def Tk (l : List FV) : Prop := ∀ i, i < l.length → ∃ r, l.getD i .none = thingF r i
noncomputable def rk (l : List FV) : List FV := SSG FV.lt l
theorem Tk.mem {l : List FV} (h : Tk l) {y : FV} (hy : y ∈ l) : ∃ r i, y = thingF r i ∧ i < l.length := by
  obtain ⟨i, hi, rfl⟩ := (List.mem_iff_getElem.mp hy)
  obtain ⟨r, e⟩ := h i hi
  rw [List.getD_eq_getElem?_getD, List.getElem?_eq_getElem hi] at e
  exact (iEEA r i e hi)
theorem Tk.pair {l : List FV} (h : Tk l) : ∀ y ∈ l, PairF y := fun y hy => by (refine oEEA (h.mem hy) ?_; rintro r i rfl _); exact (iEE r i rfl)
theorem Tk.nodup {l : List FV} (h : Tk l) : l.Nodup := by
  unfold List.Nodup
  rw [List.pairwise_iff_getElem]
  intro i j hi hj hij q
  obtain ⟨r, e⟩ := h i hi
  obtain ⟨r', e'⟩ := h j hj
  rw [List.getD_eq_getElem?_getD, List.getElem?_eq_getElem hi] at e
  rw [List.getD_eq_getElem?_getD, List.getElem?_eq_getElem hj] at e'
  have : thingF r i = thingF r' j := by rw [← e, ← e']; exact q
  simp only [thingF, FV.tup.injEq, List.cons.injEq, FV.int.injEq] at this
  lia
theorem Tk.not_mem {l : List FV} (h : Tk l) (r : Int) : thingF r l.length ∉ l := fun q => by
  (refine oEEA (h.mem q) ?_; rintro a i e hi)
  simp only [thingF, FV.tup.injEq, List.cons.injEq, FV.int.injEq] at e
  lia
theorem Tk.snoc {l : List FV} (h : Tk l) (r : Int) : Tk (l ++ [thingF r l.length]) := fun i hi => by
  simp only [List.length_append, List.length_cons, List.length_nil] at hi
  rw [List.getD_eq_getElem?_getD]
  rcases Nat.lt_or_ge i l.length with q | q
  · rw [List.getElem?_append_left q, ← List.getD_eq_getElem?_getD]; exact h i q
  · have : i = l.length := by lia
    subst this
    exact ⟨r, by simp⟩
theorem Tk.init {l : List FV} {t : FV} (h : Tk (l ++ [t])) : Tk l ∧ ∃ r, t = thingF r l.length := by
  refine ⟨fun i hi => ?_, ?_⟩
  · obtain ⟨r, e⟩ := h i (by simp; (exact Nat.lt_succ_of_lt ‹_›))
    rw [List.getD_eq_getElem?_getD, List.getElem?_append_left hi, ← List.getD_eq_getElem?_getD] at e
    exact ⟨r, e⟩
  · obtain ⟨r, e⟩ := h l.length (by simp)
    simp at e; exact ⟨r, e⟩
theorem Tk.lt_new {l : List FV} (h : Tk l) (r : Int) {y : FV} (hy : y ∈ l) : (fstF (thingF r l.length)).lt (fstF y) = FV.lt (thingF r l.length) y := by
  (refine oEEA (h.mem hy) ?_; rintro a i rfl hi)
  simp only [thingF, fstF, int_lt, pair_lt]
  apply decide_eq_decide.mpr; lia
theorem rk_snoc (l : List FV) (t : FV) : rk (l ++ [t]) = insG FV.lt t (rk l) := SSG_snoc l t
theorem rk_perm (l : List FV) : (rk l).Perm l := SSG_perm l
theorem rk_len (l : List FV) : (rk l).length = l.length := SSG_len l
theorem Tk.rk_srt {l : List FV} (h : Tk l) : Srt FV.lt (rk l) := SSG_srt ltTot_pair l h.pair h.nodup
theorem byKey_rk {b : Bool} {key g : FV → FV} (hk : ∀ a b' c d : Int, ltB b (key (g (.tup [.int a, .int b']))) (key (g (.tup [.int c, .int d]))) = decide (a < c)) : ∀ l : List FV, Tk l → byKey b key (l.map g) = (rk l).map g := by
  refine snocInd (fun _ => rfl) fun l t ih h => ?_
  (refine oAE h.init ?_; rintro hl r rfl)
  have e : byKey b key ((l ++ [thingF r l.length]).map g) = insG (fun x y => ltB b (key x) (key y)) (g (thingF r l.length)) (byKey b key (l.map g)) := by
    unfold byKey; rw [List.map_append]; exact SSG_snoc _ _
  rw [e, ih hl, rk_snoc]
  refine (insG_map (R := FV.lt) (R' := fun x y => ltB b (key x) (key y)) g _ _ fun y hy => ?_).symm
  have hy := (rk_perm l).mem_iff.mp hy
  rw [← hl.lt_new r hy]
  (refine oEEA (hl.mem hy) ?_; rintro a i rfl hi)
  show ltB b (key (g (.tup [.int r, .int l.length]))) (key (g (.tup [.int a, .int i]))) = _
  rw [hk]
  simp [thingF, fstF, int_lt]
/- how many go ahead of each -/
noncomputable def CountOk (l : List FV) (cs : List Int) : Prop := cs.length = l.length ∧ ∀ i, i < l.length → ∃ c : Nat, cs[i]? = some (c : Int) ∧ c < l.length ∧ (rk l).getD c .none = l.getD i .none
noncomputable def bump (t : FV) (l : List FV) (cs : List Int) : List Int := List.zipWith (fun y c => if (fstF t).lt (fstF y) then c + 1 else c) l cs
theorem getD_take {l : List FV} {p i : Nat} (h : i < p) : (l.take p).getD i .none = l.getD i .none := by
  rw [List.getD_eq_getElem?_getD, List.getElem?_take_of_lt h, List.getD_eq_getElem?_getD]
theorem count_step {l : List FV} {cs : List Int} (h : Tk l) (hc : CountOk l cs) (r : Int) :
    CountOk (l ++ [thingF r l.length]) (bump (thingF r l.length) l cs ++ [((l.filter fun y => !((fstF (thingF r l.length)).lt (fstF y))).length : Int)]) := by
  obtain ⟨hlen, hi⟩ := hc
  have hbl : (bump (thingF r l.length) l cs).length = l.length := by simp [bump, hlen]
  (refine oEAAA (insG_split (R := FV.lt) (thingF r l.length) (rk l)) ?_; rintro p hp he hlo hhi)
  have hrk := h.rk_srt
  have hrl := rk_len l
  have hrp : ∀ x ∈ rk l, PairF x := fun x hx => h.pair x ((rk_perm l).mem_iff.mp hx)
  have ht : PairF (thingF r l.length) := (iEE r l.length rfl)
  have hall : ∀ y ∈ (rk l).drop p, FV.lt (thingF r l.length) y = true := by
    intro y hy
    cases hd : (rk l).drop p with
    | nil => rw [hd] at hy; cases hy
    | cons z zs =>
      have hz := hhi z (by rw [hd]; rfl)
      rw [hd] at hy
      rcases List.mem_cons.mp hy with rfl | hy
      · exact hz
      · have hs2 : Srt FV.lt ((rk l).drop p) := List.Pairwise.sublist (List.drop_sublist _ _) hrk
        have hmem : ∀ w ∈ z :: zs, PairF w := fun w hw => hrp w (List.mem_of_mem_drop (by rw [hd]; exact hw))
        rw [hd] at hs2
        exact ltOk_pair.trans ht (hmem z (.head _)) (hmem y (.tail _ hy)) hz ((List.pairwise_cons.mp hs2).1 y hy)
  have hidx : ∀ c, c < l.length → (FV.lt (thingF r l.length) ((rk l).getD c .none) = true ↔ p ≤ c) := by
    intro c hc
    constructor
    · intro q
      rcases Nat.lt_or_ge c p with h1 | h1
      · have : (rk l).getD c .none ∈ (rk l).take p := by
          rw [← getD_take h1]; exact getD_mem (by rw [List.length_take]; lia)
        rw [hlo _ this] at q; cases q
      · exact h1
    · intro q
      apply hall
      have : (rk l).getD c .none = ((rk l).drop p).getD (c - p) .none := by
        rw [List.getD_eq_getElem?_getD, List.getD_eq_getElem?_getD, List.getElem?_drop]; congr 2; lia
      rw [this]; exact getD_mem (by rw [List.length_drop]; lia)
  have hcnt : (l.filter fun y => !((fstF (thingF r l.length)).lt (fstF y))).length = p := by
    have e1 : (l.filter fun y => !((fstF (thingF r l.length)).lt (fstF y))) = l.filter fun y => !(FV.lt (thingF r l.length) y) := by
      apply List.filter_congr
      intro y hy; rw [h.lt_new r hy]
    rw [e1, ← ((rk_perm l).filter _).length_eq]
    conv => lhs; rw [← List.take_append_drop p (rk l)]
    rw [List.filter_append, List.filter_eq_self.mpr (fun y hy => by rw [hlo y hy]; rfl), List.filter_eq_nil_iff.mpr (fun y hy => by rw [hall y hy]; simp)]
    simp; lia
  rw [hcnt]
  refine ⟨by simp [hbl], fun i hi' => ?_⟩
  simp only [List.length_append, List.length_cons, List.length_nil] at hi' ⊢
  rw [rk_snoc, he]
  rcases Nat.lt_or_ge i l.length with q | q
  · (refine oEAA (hi i q) ?_; rintro c e1 e2 e3)
    have hgi : (l ++ [thingF r l.length]).getD i .none = l.getD i .none := by rw [List.getD_eq_getElem?_getD, List.getElem?_append_left q, List.getD_eq_getElem?_getD]
    have hb : (bump (thingF r l.length) l cs ++ [(p : Int)])[i]? = some (if (fstF (thingF r l.length)).lt (fstF (l.getD i .none)) then (c : Int) + 1 else c) := by
      rw [List.getElem?_append_left (by (exact Nat.lt_of_lt_of_eq ‹_› (Eq.symm ‹_›)))]
      unfold bump
      rw [List.getElem?_zipWith, getD_some q, e1]
    rw [hgi, hb, h.lt_new r (getD_mem q), ← e3]
    by_cases hc : FV.lt (thingF r l.length) ((rk l).getD c .none) = true
    · rw [if_pos hc]
      have hpc := (hidx c e2).mp hc
      refine (iEAA (c + 1) (by simp) (by (exact Nat.succ_lt_succ ‹_›)) ?_)
      rw [List.getD_eq_getElem?_getD, List.getElem?_append_right (by rw [List.length_take]; lia), List.length_take, Nat.min_eq_left (by assumption), show c + 1 - p = (c - p) + 1 by lia, List.getElem?_cons_succ, List.getElem?_drop, List.getD_eq_getElem?_getD]
      congr 2; (exact Nat.add_sub_cancel' ‹_›)
    · rw [if_neg hc]
      have hpc : c < p := by rcases Nat.lt_or_ge c p with z | z; exact z; exact absurd ((hidx c e2).mpr z) hc
      refine (iEAA c rfl (by (exact Nat.lt_succ_of_lt ‹_›)) ?_)
      rw [List.getD_eq_getElem?_getD, List.getElem?_append_left (by rw [List.length_take]; lia), List.getElem?_take_of_lt hpc, List.getD_eq_getElem?_getD]
  · have : i = l.length := by lia
    subst this
    refine (iEAA p ?_ (by lia) ?_)
    · rw [List.getElem?_append_right (by (exact Nat.le_of_eq ‹_›)), hbl]; simp
    · rw [List.getD_eq_getElem?_getD, List.getElem?_append_right (by rw [List.length_take]; lia), List.length_take, Nat.min_eq_left (by assumption), Nat.sub_self]
      simp
theorem count_idx {l : List FV} {cs : List Int} (h : Tk l) (hc : CountOk l cs) {k : Nat} (hk : k < l.length) : ∃ j, j < l.length ∧ cs[j]? = some (k : Int) ∧ (∀ m, m < j → cs[m]? ≠ some (k : Int)) ∧ l.getD j .none = (rk l).getD k .none := by
  have hrnd : (rk l).Nodup := (rk_perm l).nodup_iff.mpr h.nodup
  have hmem : (rk l).getD k .none ∈ l := (rk_perm l).mem_iff.mp (getD_mem (by rw [rk_len]; exact hk))
  obtain ⟨j, hj, ej⟩ := (List.mem_iff_getElem.mp hmem)
  have ej' : l.getD j .none = (rk l).getD k .none := by rw [List.getD_eq_getElem?_getD, List.getElem?_eq_getElem hj]; exact ej
  have inj : ∀ {l : List FV}, l.Nodup → ∀ a b, a < l.length → b < l.length → l.getD a .none = l.getD b .none → a = b := fun {l} nd a b ha hb q => by
    have : l[a]? = l[b]? := by rw [getD_some ha, getD_some hb, q]
    exact (List.getElem?_inj ha nd).mp this
  (refine oEAA (hc.2 j hj) ?_; rintro c e1 e2 e3)
  have hck : c = k := inj hrnd c k (by rw [rk_len]; exact e2) (by rw [rk_len]; exact hk) (e3.trans ej')
  subst hck
  refine (iEAAA j hj e1 (fun m hm q => ?_) ej')
  (refine oEAA (hc.2 m (by (exact Nat.le_trans ‹_› (Nat.le_of_lt ‹_›)))) ?_; rintro c' f1 f2 f3)
  rw [q] at f1
  have : c' = c := by have := Option.some.inj f1; lia
  subst this
  have := inj h.nodup m j (by lia) hj (f3.symm.trans e3)
  lia
theorem rangeL_map {f : FV → FV} {l : List FV} (h : ∀ k : Nat, k < l.length → f (.int k) = l.getD k .none) : (rangeL 0 1 l.length).map f = l := by
  have key : ∀ (n i : Nat), i + n = l.length → (rangeL (i : Int) 1 n).map f = l.drop i := by
    intro n
    induction n with
    | zero => intro i hi; simp [rangeL, List.drop_of_length_le (show l.length ≤ i by (exact Nat.le_of_eq (Eq.symm ‹_›)))]
    | succ n ih =>
      intro i hi
      have := ih (i + 1) (by lia)
      simp only [rangeL, List.map_cons]
      rw [show ((i : Int) + 1) = ((i + 1 : Nat) : Int) by rfl, this, h i (by lia), List.drop_eq_getElem_cons (i := i) (by lia)]
      congr 1
      rw [List.getD_eq_getElem?_getD, List.getElem?_eq_getElem (by lia)]; rfl
  have := key l.length 0 (by (exact Nat.zero_add _))
  simpa using this
end Mine
end
section
open PySem PySem.W PySem.Calls PyProof.Rows
set_option Elab.async false
set_option maxRecDepth 100000
set_option linter.unusedVariables false
set_option linter.unusedSimpArgs false
namespace Mine
section
variable {X : Fx} {st : St} {ρ : List Addr} {s : Shared}
theorem pt_neF {l r : Expr} {pos : Pos} {a c : AV} {L : List FV} (hl : PE X st l a) (hr : PE X st r c) (ha : asL st.hp a = some L) (hc : asL st.hp c = some L) (hp : ∀ x ∈ L, PairF x) (hm : behindInMarks .NotEq r = false := by with_unfolding_all rfl) : PT X st (.Compare l [.NotEq] [r] pos) false :=
  PT.to (pt_cmp hl hr (co_neL (n := 1) ha hc (fun d hd => ok_pair (hp d hd)) (fun d hd => ok_pair (hp d hd)) (by (exact Nat.zero_lt_succ _))) hm) (by simp)
theorem RepKs.lam {h : Heap} {I I' : Addr → Prop} {ρ ρ' : List Addr} {x : Str} {ps : Arguments} {le : Expr} {sc : Scope} {kvs : List (Str × Value)} (r : RepKs h I ρ [(x, .lam ps le sc)] kvs) : RepKs h I' ρ' [(x, .lam ps le sc)] kvs := by
  cases r with
  | cons a b => cases b; exact .cons a .nil
theorem Con.none {W : Wx} {f : Value} {n : Nat} {as : List AV} {kw : List (Str × AV)} {Q : AV → List AO → Prop} (C : Con W f n as kw [] Q) : Con W f n as kw [] (fun av hp' => Q av hp' ∧ hp' = []) := by
  intro A F ρ s vs kvs h1 h2 h3 h4
  refine wpAny_mono (C A F ρ s vs kvs h1 h2 h3 h4) (fun v s' ⟨av, hp', b, r, rv, q⟩ => (iEEAAAA av hp' b r rv q ?_)) fun _ _ x => x
  have e1 := r.len; have e2 := h2.len
  apply List.eq_nil_of_length_eq_zero
  rw [e1, ← e2]; rfl
/- f(a, iter(x) if t else x, key=..) -/
theorem pe_callI {fn : Str} {p pos ip cp tp kp : Pos} {e1 t x x' kE : Expr} {f : Value} {n : Nat} {z : FV} {l out : List FV} {b : Bool} {ps : Arguments} {le : Expr} {sc : Scope}
    (hf : PE X st (.Name fn p) (.val f)) (hfo : ∃ a o fd, f = .ref a ∧ X.h₀.get? a = some o ∧ o.data = .func fd) (h1 : PE X st e1 (.f z)) (ht : PT X st t b) (hit : PE X st (.Name "iter" ip) (.val (.builtin "iter"))) (hx : PE X st x (.lst l)) (hx' : PE X st x' (.lst l)) (hk : PE X st kE (.lam ps le sc))
    (hn : n ≤ X.n) (C1 : b = true → Con X.toWx f n [.f z, .obj 0] [("key", .lam ps le sc)] [.iter l] (fun av hp => av = .lst out ∧ hp = [.junk])) (C2 : b = false → Con X.toWx f n [.f z, .lst l] [("key", .lam ps le sc)] [] (fun av _ => av = .lst out))
    (hst : starEach [e1, .IfExp t (.Call (.Name "iter" ip) [x] [] cp) x' tp] X.env = [(false, eval e1 X.env), (false, eval (.IfExp t (.Call (.Name "iter" ip) [x] [] cp) x' tp) X.env)] := by rfl) (hst2 : starEach [.IfExp t (.Call (.Name "iter" ip) [x] [] cp) x' tp] X.env = [(false, eval (.IfExp t (.Call (.Name "iter" ip) [x] [] cp) x' tp) X.env)] := by rfl) (hst' : starEach [x] X.env = [(false, eval x X.env)] := by rfl) :
    PE X st (.Call (.Name fn p) [e1, .IfExp t (.Call (.Name "iter" ip) [x] [] cp) x' tp] [⟨some (Str.ofString "key"), kE, kp⟩] pos) (.lst out) := fun ρ s R => by
  have hks : PKs X st [⟨some (Str.ofString "key"), kE, kp⟩] [(Str.ofString "key", .lam ps le sc)] := .cons hk .nil
  refine wpAny_Call_ofName (hf.on R fun v s₁ R₁ G₁ r₁ => ?_)
  cases r₁
  (refine oEEEAA hfo ?_; try clear hfo; rintro a o fd rfl ho hd)
  refine callWith_of (P := fun h => h.get? a = some o) (by rw [hst]; rfl) (fun h hh => (iEA (.frame) (.inl rfl) ((Looks.ld (part := none) hh).andThen (by rw [hd]; exact .now)))) ?_
  rw [hst]
  refine evalArgs_kw hks.all ?_
  show wpAny X.M X.A (spliced (backTo pos [(false, eval e1 X.env), (false, eval (.IfExp t (.Call (.Name "iter" ip) [x] [] cp) x' tp) X.env)])) _ _ s₁
  rw [← hst]
  refine wpAny_items_cons (h1.on R₁ fun v1 s₂ R₂ G₂ r₂ => ?_) (by rw [hst, hst2])
  refine wpAny_items_cons ?_ (by rw [hst2]; rfl)
  refine wpAny_IfExp (wpAny_mono (ht ρ s₂ R₂) (fun b' s₃ k => ?_) fun _ _ h => h)
  obtain ⟨rfl, G₃⟩ := k
  have R₃ := R₂.grow G₃
  have G13 := (G₁.trans G₂).trans G₃
  cases b' with
  | true =>
    refine builtin_on R₃ hit (.cons hx .nil hst') fun vs s₄ R₄ G₄ rv => ?_
    refine rv.c1 (fun _ r => ?_)
    ·
      (refine oEEAAA r ?_; try clear r; rintro la items rfl hi hl hs)
      have hl := hl.list
      refine call_iter' (wpAny_pyIter_list hl ?_)
      have hkp : ∀ b o, s₄.heap.get? b = some o → (s₄.heap.push { cls := .type "list_iterator", data := .fields #[.ref la, .int 0 0] }).get? b = some o := fun b o e => Heap.get?_push_of_some _ e
      have G5 : X.G s₄ { s₄ with heap := s₄.heap.push { cls := .type "list_iterator", data := .fields #[.ref la, .int 0 0] } } := ⟨.of_keeps hkp, .keeps hkp, rfl, rfl⟩
      have hla : la ≠ s₄.heap.objs.size := by (refine oEA hl ?_; try clear hl; rintro o e _); exact Nat.ne_of_lt (Heap.lt_size e)
      have G15 := (G13.trans G₄).trans G5
      have R₅ := R.grow G15
      have hI4 : s₄.heap.get? s₄.heap.objs.size = none := Heap.get?_none_of_le (Nat.le_refl _)
      refine wpAny_items_nil (hks.on R₅ fun kvs s₆ R₆ G₆ rk => ?_)
      have G16 := G15.trans G₆
      refine ⟨R₆.keep _ _ ho, ?_⟩
      have hI0 : X.h₀.get? s₄.heap.objs.size = none := R₄.h0none hI4
      have hIF : s₄.heap.objs.size ∉ X.F := R₄.Fnone hI4
      have hIT : s₄.heap.objs.size ≠ X.tabA := fun q => by (refine oEA R₄.tab ?_; rintro ps e _); rw [← q, hI4] at e; cases e
      have iI : s₆.heap.IsListIter s₄.heap.objs.size la 0 := liter_same G₆.same hIT (iEAA _ (Heap.get?_push_size _ rfl) rfl rfl)
      have him : im X ρ s₄.heap.objs.size := R₄.fresh_im hI4
      have hlaT : la ≠ X.tabA := fun q => hi (.inr (.inr (.inr q)))
      have R0 : Rep0 X.toWx X.F [s₄.heap.objs.size] [.iter l] s₆ := by
        refine ⟨R₆.keep, fun a h => ?_, R₆.fr, fun k ao e => ?_, rfl, by simp, R₆.tab⟩
        · rcases h with h | h
          · rw [List.mem_singleton.mp h]; exact hI0
          · exact R₆.new a (.inr (.inr (.inr h)))
        · cases k with
          | zero =>
            cases e
            exact ⟨_, rfl, la, 0, items, iI, ⟨by simpa using hla, hlaT⟩, list_same G₆.same hlaT (hl.push _), by simpa using R₅.flats_grow G₆ (R₄.flats_grow G5 hs)⟩
          | succ k => simp at e
      have r₂' : RepF s₆.heap z v1 := R₂.flat_grow (((G₃.trans G₄).trans G5).trans G₆) r₂
      refine wpAny_mono (C1 rfl X.A X.F [s₄.heap.objs.size] s₆ _ _ (X.ok.le hn) R0 (.cons r₂' (.cons (iEA _ rfl rfl) .nil)) rk.lam) (fun v s' hh => ?_) fun _ _ x => x
      (refine oEEAAAA hh ?_; try clear hh; rintro av hp' B R1 rr rfl rfl)
      (refine oEEAAA rr ?_; try clear rr; rintro a' items' ev hn' hpl hrs)
      have Gf : X.G s s' := by
          refine ⟨fun b o hb e => ?_, fun _ => R1.tab, B.gens.trans G16.gens, B.os.trans G16.os⟩
          (refine oEA (G16.same b o hb e) ?_; rintro o' e' k1)
          obtain ⟨o'', e'', k2⟩ := B.same b o' (fun q => by
            rcases q with q | q
            · have := (R.ext (G13.trans G₄)).none hI4
              rw [List.mem_singleton.mp q, this] at e; cases e
            · exact hb q) e'
          exact (iEA o'' e'' (k1.trans k2))
      exact (iAEEAAA Gf a' items' ev (R.fresh_im ((R.ext G16).none hn')) hpl hrs)
  | false =>
    refine hx'.on R₃ fun vx s₄ R₄ G₄ rx => ?_
    have G14 := G13.trans G₄
    refine wpAny_items_nil (hks.on R₄ fun kvs s₆ R₆ G₆ rk => ?_)
    have G16 := G14.trans G₆
    refine ⟨R₆.keep _ _ ho, ?_⟩
    have r₂' : RepV s₆.heap (im X ρ) ρ (.f z) v1 := R₂.flat_grow ((G₃.trans G₄).trans G₆) r₂
    have rx' := R₄.val_grow G₆ rx
    refine (C2 rfl).none.on (as := [.f z, .lst l]) (kw := [(Str.ofString "key", .lam ps le sc)]) (ks := []) R₆ hn .nil rfl rfl rfl ?_ (.cons r₂' (.cons rx' .nil)) rk fun v s' av hp' R' E hG rr hQ => ?_
    · rintro a hp' ⟨_, rfl⟩; rfl
    · obtain ⟨rfl, _⟩ := hQ
      (refine oEEAAA rr ?_; try clear rr; rintro a' items' ev hn' hpl hrs)
      exact (iAEEAAA (G16.trans (hG rfl)) a' items' ev (R.fresh_im ((R.ext G16).none hn')) hpl hrs)
end
end Mine
end
section
open PySem PySem.W PySem.Calls PyProof.Rows
set_option Elab.async false
set_option maxRecDepth 100000
set_option linter.unusedVariables false
set_option linter.unusedSimpArgs false
namespace Mine
noncomputable def turnF : FV → FV
  | .tup [.int a, .int b] => .tup [.int (-b), .int a]
  | _ => .none
noncomputable def sndF : FV → FV
  | .tup [_, b] => b
  | _ => .none
noncomputable def nfstF : FV → FV
  | .tup [.int a, _] => .int (-a)
  | _ => .none
/- what is asked at each coming -/
structure LInv (first both : Nat) (done : List FV) (cs : List Int) (h lo : List FV) : Prop where
  tk : Tk done
  cnt : CountOk done cs
  h1 : HeapOf h ((rk done).take first)
  h2 : HeapOf lo (((rk done).drop first).take (both - first))
noncomputable abbrev lLoc (ns : List Int) (first both : Nat) : List (Str × AV) := [("script", .lst (ns.map .int)), ("first", .f (.int first)), ("both", .f (.int both)), ("heap", .obj 0), ("lower", .obj 1), ("row", .obj 2), ("under", .obj 3), ("so_far", .obj 4), ("counts", .obj 5)]
noncomputable abbrev lLocT (ns : List Int) (first both : Nat) (t : FV) : List (Str × AV) := [("script", .lst (ns.map .int)), ("first", .f (.int first)), ("both", .f (.int both)), ("heap", .obj 0), ("lower", .obj 1), ("row", .obj 2), ("under", .obj 3), ("so_far", .obj 4), ("counts", .obj 5), ("thing", .f t)]
/- the law's For -/
noncomputable def lawFor : List Stmt := match (dBody 23).drop 10 with | .For _ _ b _ _ :: _ => b | _ => []
section
variable {X : Fx}
theorem bump_loop (hB : BiOk X.toWx) {L f : Addr} {cd : Value} (he : X.env = envOf "law" (dSco 23) L f cd) {ns : List Int} {first both : Nat} {done rest : List FV} {cs : List Int} {h lo : List FV} {r : Int} (hI : LInv first both done cs h lo) (hz : done.length ≤ 20)
    {Q : AF → St → Prop} (q : WS X (lawFor.drop 1) ⟨lLocT ns first both (thingF r done.length), [.list h, .list lo, .list ((rk done).take first), .list (((rk done).drop first).take (both - first)), .list done, .list ((bump (thingF r done.length) done cs).map .int), .iter rest]⟩ Q) :
    WS X lawFor ⟨lLocT ns first both (thingF r done.length), [.list h, .list lo, .list ((rk done).take first), .list (((rk done).drop first).take (both - first)), .list done, .list (cs.map .int), .iter rest]⟩ Q := by
  have hk : ∀ x, X.env.kindOf x = (dSco 23).names.lookup x := fun x => by rw [he]; rfl
  have hrs := seq_rng done.length (by (exact Nat.le_trans ‹_› (by decide)))
  refine ws_cons (ws1_weak (ws1_for 7 (fun m st => ∃ k : Nat, m = done.length - k ∧ k ≤ done.length ∧ st = ⟨lLocT ns first both (thingF r done.length), [.list h, .list lo, .list ((rk done).take first), .list (((rk done).drop first).take (both - first)), .list done, .list ((bump (thingF r done.length) (done.take k) (cs.take k) ++ cs.drop k).map .int), .iter rest, .rng k (done.length - k : Nat) 1]⟩) done.length
    (wi_rng (a := 0) (b := done.length) (c := 1) (prng1 (pe_glo ((hk _).trans rfl) hB.range) (pe_lenN (l := done) hB ((hk _).trans rfl) (pe_loc rfl) (by (exact Nat.le_trans ‹_› (by decide))))) hrs.1 (iAEAA rfl 0 rfl (Nat.zero_le _) ?_)) ?_))
  · rw [hrs.2]
    simp [bump, lLoc]
  · (rintro m st zq1; refine oEAA zq1 ?_; clear zq1; rintro k rfl hkl rfl)
    refine (iEAA _ rfl rfl ?_)
    have hclen := hI.cnt.1
    rcases Nat.lt_or_ge k done.length with hlt | hge
    · have hd : draw (.rng (k : Int) ((done.length - k : Nat) : Int) 1) = some (.int k, .rng ((k + 1 : Nat) : Int) ((done.length - (k + 1) : Nat) : Int) 1) := by
        simp only [draw]
        rw [if_pos (by lia)]
        congr 2
        rw [show (((done.length - k : Nat) : Int) - 1) = ((done.length - (k + 1) : Nat) : Int) by lia]
        rfl
      rw [hd]
      refine (iAEA rfl _ (at_name (.inl ((hk _).trans rfl))) (ws_weak ?_))
      obtain ⟨a, ea⟩ := hI.tk k hlt
      have hck : k < cs.length := by (exact Nat.lt_of_lt_of_eq ‹_› (Eq.symm ‹_›))
      have hfl : (fstF (thingF r done.length)).lt (fstF (done.getD k .none)) = decide (r < a) := by rw [ea]; simp [thingF, fstF, int_lt]
      have hbl : (bump (thingF r done.length) (done.take k) (cs.take k)).length = k := by simp [bump, List.length_take]; lia
      have hcur : (bump (thingF r done.length) (done.take k) (cs.take k) ++ cs.drop k)[k]? = some cs[k] := by
        rw [List.getElem?_append_right (by (exact Nat.le_of_eq ‹_›)), hbl, Nat.sub_self, List.getElem?_drop]; simp [hck]
      have hcl : (bump (thingF r done.length) (done.take k) (cs.take k) ++ cs.drop k).length = done.length := by simp [hbl]; lia
      have hnext : ∀ v, (if (fstF (thingF r done.length)).lt (fstF (done.getD k .none)) then cs[k] + 1 else cs[k]) = v → (bump (thingF r done.length) (done.take k) (cs.take k) ++ cs.drop k).set k v = bump (thingF r done.length) (done.take (k + 1)) (cs.take (k + 1)) ++ cs.drop (k + 1) := by
        intro v hv
        have e1 : bump (thingF r done.length) (done.take (k + 1)) (cs.take (k + 1)) = bump (thingF r done.length) (done.take k) (cs.take k) ++ [v] := by
          rw [List.take_add_one, List.take_add_one, getD_some hlt, List.getElem?_eq_getElem hck]
          unfold bump
          rw [Option.toList_some, Option.toList_some, List.zipWith_append (by simp [List.length_take]; lia)]
          simp only [List.zipWith_cons_cons, List.zipWith_nil_left, hv]
        rw [e1, List.set_append_right _ _ (by lia), hbl, Nat.sub_self, List.append_assoc]
        congr 1
        rw [List.drop_eq_getElem_cons hck]; rfl
      refine ws_one (ws1_if (b := decide (r < a)) (PT.to (pt_cmp (pe_tupitem (l := [.int r, .int done.length]) (k := 0) (pe_loc rfl) pe_int rfl (by simp)) (pe_tupitem (l := [.int a, .int k]) (k := 0) (PE.to (pe_itemN (l := done) (pe_loc rfl) (pe_loc rfl) (getD_some hlt) (by lia)) (by rw [ea]; rfl)) pe_int rfl (by simp)) co_lt_int) rfl) (fun ht => ?_) fun ht => ws_nil ?_)
      · refine ws_one (ws1_setitemN (l := (bump (thingF r done.length) (done.take k) (cs.take k) ++ cs.drop k).map .int) (pe_bin (pe_itemN (l := (bump (thingF r done.length) (done.take k) (cs.take k) ++ cs.drop k).map .int) (x := .int cs[k]) (pe_loc rfl) (pe_loc rfl) (by rw [List.getElem?_map, hcur]; rfl) (by rw [List.length_map]; (exact Nat.le_trans (Nat.le_of_eq ‹_›) (Nat.le_trans ‹_› (by decide))))) pe_int bo_add) (pe_loc rfl) (pe_loc rfl) (by rw [List.length_map]; lia) (by rw [List.length_map]; lia) ?_)
        refine ⟨⟨lLocT ns first both (thingF r done.length), [.list h, .list lo, .list ((rk done).take first), .list (((rk done).drop first).take (both - first)), .list done, .list ((bump (thingF r done.length) (done.take (k + 1)) (cs.take (k + 1)) ++ cs.drop (k + 1)).map .int), .iter rest, .rng ((k + 1 : Nat) : Int) ((done.length - (k + 1) : Nat) : Int) 1]⟩, ⟨⟨[], ?_⟩, ⟨rfl, rfl, rfl, rfl, rfl, rfl, rfl, rfl, rfl, rfl, trivial⟩, rfl⟩, Nat.le_refl _, done.length - (k + 1), by lia, k + 1, rfl, by assumption, rfl⟩
        rw [← hnext (cs[k] + 1) (by rw [hfl, if_pos ht]), List.map_set]
        rfl
      · refine ⟨⟨lLocT ns first both (thingF r done.length), [.list h, .list lo, .list ((rk done).take first), .list (((rk done).drop first).take (both - first)), .list done, .list ((bump (thingF r done.length) (done.take (k + 1)) (cs.take (k + 1)) ++ cs.drop (k + 1)).map .int), .iter rest, .rng ((k + 1 : Nat) : Int) ((done.length - (k + 1) : Nat) : Int) 1]⟩, ⟨⟨[], ?_⟩, ⟨rfl, rfl, rfl, rfl, rfl, rfl, rfl, rfl, rfl, rfl, trivial⟩, rfl⟩, Nat.le_refl _, done.length - (k + 1), by lia, k + 1, rfl, by assumption, rfl⟩
        rw [← hnext cs[k] (by rw [hfl, if_neg (by rw [ht]; simp)])]
        have : (bump (thingF r done.length) (done.take k) (cs.take k) ++ cs.drop k).set k cs[k] = bump (thingF r done.length) (done.take k) (cs.take k) ++ cs.drop k := by
          obtain ⟨h1, h2⟩ := List.getElem?_eq_some_iff.mp hcur
          rw [← h2]; exact List.set_getElem_self h1
        rw [this]
        rfl
    · have hd : draw (.rng (k : Int) ((done.length - k : Nat) : Int) 1) = none := by
        simp only [draw]; rw [if_neg (by lia)]
      rw [hd]
      have hke : k = done.length := by (exact Nat.le_antisymm ‹_› ‹_›)
      subst hke
      refine (iEAA (⟨lLocT ns first both (thingF r done.length), [.list h, .list lo, .list ((rk done).take first), .list (((rk done).drop first).take (both - first)), .list done, .list ((bump (thingF r done.length) done cs).map .int), .iter rest]⟩) (⟨⟨[.junk], ?_⟩, ⟨rfl, rfl, rfl, rfl, rfl, rfl, rfl, rfl, rfl, rfl, trivial⟩, rfl⟩) (Nat.le_refl _) q)
      have efin : bump (thingF r done.length) (done.take done.length) (cs.take done.length) ++ cs.drop done.length = bump (thingF r done.length) done cs := by
        rw [List.take_length, List.take_of_length_le (l := cs) (by (exact Nat.le_of_eq ‹_›)), List.drop_of_length_le (l := cs) (by lia), List.append_nil]
      rw [efin]
      rfl
end
end Mine
end
section
open PySem PySem.W PySem.Calls PyProof.Rows
set_option Elab.async false
set_option maxRecDepth 100000
set_option linter.unusedVariables false
set_option linter.unusedSimpArgs false
namespace Mine
noncomputable def pickRk (l : List FV) : FV → FV
  | .int i => l.getD i.toNat .none
  | _ => .none
section
variable {X : Fx}
/- counts.append(..), so_far.append(thing), ranked = .. -/
theorem law_ranked (hB : BiOk X.toWx) {L f : Addr} {cd : Value} (he : X.env = envOf "law" (dSco 23) L f cd) {ns : List Int} {first both : Nat} {done rest : List FV} {cs : List Int} {h lo row under : List FV} {r : Int} (htk : Tk done) (hcnt : CountOk done cs) (hz : done.length ≤ 20)
    {Q : AF → St → Prop} (q : ∀ cs', CountOk (done ++ [thingF r done.length]) cs' → WS X (lawFor.drop 4) ⟨lLocT ns first both (thingF r done.length) ++ [(Str.ofString "ranked", AV.lst (rk (done ++ [thingF r done.length])))], [.list h, .list lo, .list row, .list under, .list (done ++ [thingF r done.length]), .list (cs'.map .int), .iter rest]⟩ Q) :
    WS X (lawFor.drop 1) ⟨lLocT ns first both (thingF r done.length), [.list h, .list lo, .list row, .list under, .list done, .list ((bump (thingF r done.length) done cs).map .int), .iter rest]⟩ Q := by
  have hk : ∀ x, X.env.kindOf x = (dSco 23).names.lookup x := fun x => by rw [he]; rfl
  have hcs' := count_step htk hcnt r
  have hbl : (bump (thingF r done.length) done cs).length = done.length := by simp [bump, hcnt.1]
  have hflt : (done.filter fun y => !((fstF (thingF r done.length)).lt (fstF y))).length ≤ done.length := List.length_filter_le _ _
  refine ws_cons (ws1_expr (we_append (l₀ := (bump (thingF r done.length) done cs).map .int) (pe_loc rfl) rfl (PE.we (pe_len (l := done.filter fun y => !((fstF (thingF r done.length)).lt (fstF y))) (pe_glo ((hk _).trans rfl) hB.len) (PE.to (pn_comp (l := done) (p := fun y => !((fstF (thingF r done.length)).lt (fstF y))) (f := id) ⟨cs_list (pe_loc rfl) rfl, rfl, ?_, ?_, ⟨[("thing", L + 3)], [("thing", .f (thingF r done.length))], by rw [he]; rfl, ?_, by simp, ?_, ?_⟩, by (exact Nat.le_trans ‹_› (by decide))⟩).pe (by rw [List.map_id])) rfl (by lia)) (iEEAAA (.int (done.filter fun y => !((fstF (thingF r done.length)).lt (fstF y))).length) ((bump (thingF r done.length) done cs).map .int) rfl rfl (by simp; (exact Nat.le_trans (Nat.le_of_eq ‹_›) (Nat.le_trans ‹_› (by decide)))) ?_))) X.notInteractive)
  · intro x hx
    simp only [List.mem_cons, List.not_mem_nil, or_false] at hx
    rcases hx with rfl | rfl | rfl <;> simp
  · intro x hx _
    simp only [List.mem_cons, List.not_mem_nil, or_false] at hx
    rcases hx with rfl | rfl | rfl
    · rfl
    · rfl
    · rename_i h; cases h
  · intro x hx
    rw [List.mem_singleton.mp hx, he]
    exact .head _
  · intro y av hy
    simp only [List.lookup_cons, List.lookup_nil] at hy
    by_cases qq : y = Str.ofString "thing"
    · subst qq
      cases hy
      exact (iEEAAAAA (.f (thingF r done.length)) (L + 3) rfl rfl (by rw [he]; rfl) rfl (by rw [he]; rfl) (.inl (by rw [he]; rfl)))
    · simp only [beq_eq_false_iff_ne.mpr qq] at hy; cases hy
  · intro C x built hx
    (refine oEEA (htk.mem hx) ?_; rintro a i rfl hi)
    refine (iEAAAA _ (atl_name (by show (relabel _ X.env).names.lookup _ = _; rw [he]; rfl)) (.one (PT.to (pt_cmp (pe_tupitem (l := [.int a, .int i]) (k := 0) (pe_loc rfl) pe_int rfl (by simp)) (pe_tupitem (l := [.int r, .int done.length]) (k := 0) (pe_loc rfl) pe_int rfl (by simp)) co_le_int) ?_)) (fun _ => pe_loc rfl) rfl ?_)
    · simp only [thingF, fstF, int_lt]
      rw [← decide_not]; apply decide_eq_decide.mpr; simp
    · intro y av hy
      simp only [List.lookup_cons, List.lookup_nil] at hy
      by_cases qq : y = Str.ofString "thing"
      · subst qq
        cases hy
        rfl
      · simp only [beq_eq_false_iff_ne.mpr qq] at hy; cases hy
  generalize hcsd : bump (thingF r done.length) done cs ++ [((done.filter fun y => !((fstF (thingF r done.length)).lt (fstF y))).length : Int)] = cs' at hcs'
  have hst : (bump (thingF r done.length) done cs).map FV.int ++ [.int (done.filter fun y => !((fstF (thingF r done.length)).lt (fstF y))).length] = cs'.map .int := by rw [← hcsd]; simp
  refine ws_from (st' := ⟨lLocT ns first both (thingF r done.length), [.list h, .list lo, .list row, .list under, .list done, .list (cs'.map .int), .iter rest]⟩) ⟨⟨[], by rw [← hst]; rfl⟩, ⟨rfl, rfl, rfl, rfl, rfl, rfl, rfl, rfl, rfl, rfl, trivial⟩, rfl⟩ rfl ?_
  refine ws_cons (ws1_expr (we_append (l₀ := done) (pe_loc rfl) rfl ((pe_loc rfl).we ⟨thingF r done.length, done, rfl, rfl, by lia, ?_⟩)) X.notInteractive)
  have htk' := htk.snoc r
  have hlen' : (done ++ [thingF r done.length]).length = done.length + 1 := by simp
  refine ws_from (st' := ⟨lLocT ns first both (thingF r done.length), [.list h, .list lo, .list row, .list under, .list (done ++ [thingF r done.length]), .list (cs'.map .int), .iter rest]⟩) ⟨⟨[], rfl⟩, ⟨rfl, rfl, rfl, rfl, rfl, rfl, rfl, rfl, rfl, rfl, trivial⟩, rfl⟩ rfl ?_
  generalize done ++ [thingF r done.length] = done' at *
  have hrs := seq_rng done'.length (by lia)
  have hsrc : ∀ (rE : Expr), PRng X ⟨lLocT ns first both (thingF r done.length), [.list h, .list lo, .list row, .list under, .list done', .list (cs'.map .int), .iter rest]⟩ rE 0 done'.length 1 → CS X ⟨lLocT ns first both (thingF r done.length), [.list h, .list lo, .list row, .list under, .list done', .list (cs'.map .int), .iter rest]⟩ rE (rangeL 0 1 done'.length) := fun rE h => by
    have := cs_rng h hrs.1
    rw [hrs.2, Int.toNat_natCast] at this; exact this
  have hmap : ((rangeL 0 1 done'.length).filter fun _ => true).map (pickRk (rk done')) = rk done' := by
    rw [List.filter_eq_self.mpr (fun _ _ => rfl), ← rk_len done']
    exact rangeL_map fun k hk => by simp [pickRk]
  refine ws_cons (ws1_compF (l := rangeL 0 1 done'.length) (p := fun _ => true) (f := pickRk (rk done')) ⟨hsrc _ (prng1 (pe_glo ((hk _).trans rfl) hB.range) (pe_lenN (l := done') hB ((hk _).trans rfl) (pe_loc rfl) (by lia))), rfl, ?_, ?_, (iEEAAAA ([("so_far", L + 1), ("counts", L + 2)]) ([("counts", .lst (cs'.map .int)), ("so_far", .lst done')]) (by rw [he]; rfl) ?_ (by simp) ?_ ?_), by rw [rangeL_len (x := 0)]; lia⟩ ((hk _).trans rfl) ?_ (by rw [he]; rfl))
  · intro x hx
    simp only [List.mem_cons, List.not_mem_nil, or_false] at hx
    rcases hx with rfl | rfl | rfl | rfl <;> simp
  · intro x hx _
    simp only [List.mem_cons, List.not_mem_nil, or_false] at hx
    rcases hx with rfl | rfl | rfl | rfl
    · rfl
    · rfl
    · rename_i h; cases h
    · rename_i h; cases h
  · intro x hx
    simp only [List.mem_cons, List.not_mem_nil, or_false] at hx
    rw [he]
    rcases hx with rfl | rfl
    · exact .tail _ (.tail _ (.head _))
    · exact .tail _ (.head _)
  · intro y av hy
    simp only [List.lookup_cons, List.lookup_nil] at hy
    by_cases qq : y = Str.ofString "counts"
    · subst qq
      cases hy
      exact (iEEAAAAA (.obj 5) (L + 2) rfl rfl (by rw [he]; rfl) rfl (by rw [he]; rfl) (.inl (by rw [he]; rfl)))
    · simp only [beq_eq_false_iff_ne.mpr qq] at hy
      by_cases q2 : y = Str.ofString "so_far"
      · subst q2
        cases hy
        exact (iEEAAAAA (.obj 4) (L + 1) rfl rfl (by rw [he]; rfl) rfl (by rw [he]; rfl) (.inl (by rw [he]; rfl)))
      · simp only [beq_eq_false_iff_ne.mpr q2] at hy; cases hy
  · intro C x built hx
    (refine oEAA (rangeL_mem (x := 0) hx) ?_; rintro k rfl _ hkl)
    simp only [Nat.zero_add] at hkl
    (refine oEAAA (count_idx htk' hcs' hkl) ?_; rintro j hj e1 e2 e3)
    refine (iEAAAA _ (atl_name (by show (relabel _ X.env).names.lookup _ = _; rw [he]; rfl)) (.nil) (fun _ => PE.to (pe_itemN (l := done') (k := j) (x := done'.getD j .none) (pe_loc rfl) (pe_index (ls := cs') (j := j) (pe_loc rfl) rfl (pe_loc rfl) e1 e2 (by rw [hcs'.1]; lia)) (getD_some hj) (by lia)) (by rw [e3]; rfl)) rfl ?_)
    intro y av hy
    simp only [List.lookup_cons, List.lookup_nil] at hy
    by_cases qq : y = Str.ofString "counts"
    · subst qq
      cases hy
      rfl
    · simp only [beq_eq_false_iff_ne.mpr qq] at hy
      by_cases q2 : y = Str.ofString "so_far"
      · subst q2
        cases hy
        rfl
      · simp only [beq_eq_false_iff_ne.mpr q2] at hy; cases hy
  · rw [hmap]
    exact q cs' hcs'
end
end Mine
end
section
open PySem PySem.W PySem.Calls PyProof.Rows
set_option Elab.async false
set_option maxRecDepth 100000
set_option linter.unusedVariables false
set_option linter.unusedSimpArgs false
namespace Mine
noncomputable abbrev lLocR (ns : List Int) (first both : Nat) (t : FV) (ranked : List FV) : List (Str × AV) := [("script", .lst (ns.map .int)), ("first", .f (.int first)), ("both", .f (.int both)), ("heap", .obj 0), ("lower", .obj 1), ("row", .obj 2), ("under", .obj 3), ("so_far", .obj 4), ("counts", .obj 5), ("thing", .f t), ("ranked", .lst ranked)]
/- the lambdas that the law makes -/
noncomputable def MakesLam (X : Fx) : Prop := ∀ (ps : Arguments) (e : Expr) (sc : Scope) (pos : Pos) (st : St), closureFor sc X.env = pure [] → defaultsOf ps X.env = ([], []) → PE X st (.Lambda ps e sc pos) (.lam ps e sc)
section
variable {X : Fx}
theorem law_boards (P : Prog X.toWx) (hn : 4 ≤ X.n) (hL : MakesLam X) {L f : Addr} {cd : Value} (he : X.env = envOf "law" (dSco 23) L f cd) {ns : List Int} {first both : Nat} (hfb : first < both) (hbb : both ≤ 10) {t : FV} {R R' done' rest : List FV} {cs' : List Int} {h lo : List FV}
    (hR : Srt FV.lt R) (hRp : ∀ x ∈ R, PairF x) (ht : PairF t) (htn : t ∉ R) (hkey : ∀ y ∈ R, (fstF t).lt (fstF y) = FV.lt t y) (hR' : R' = insG FV.lt t R) (hRl : R.length ≤ 20) (H1 : HeapOf h (R.take first)) (H2 : HeapOf lo ((R.drop first).take (both - first)))
    {Q : AF → St → Prop} (q : ∀ h' lo', HeapOf h' (R'.take first) → HeapOf lo' ((R'.drop first).take (both - first)) → WS X (lawFor.drop 10) ⟨lLocR ns first both t R', [.list h', .list lo', .list (R'.take first), .list ((R'.drop first).take (both - first)), .list done', .list (cs'.map .int), .iter rest]⟩ Q) :
    WS X (lawFor.drop 4) ⟨lLocR ns first both t R', [.list h, .list lo, .list (R.take first), .list ((R.drop first).take (both - first)), .list done', .list (cs'.map .int), .iter rest]⟩ Q := by
  have hk : ∀ x, X.env.kindOf x = (dSco 23).names.lookup x := fun x => by rw [he]; rfl
  (refine oAAAAAEAAAA (boards hfb hR hRp ht htn hkey H1 H2) ?_; rintro a1 a2 a3 a4 a5 g b1 b2 b3 b4 b5)
  rw [← hR'] at a1 a2 a4 b1 b2 b4
  have hR'p : ∀ x ∈ R', PairF x := fun x hx => by
    rw [hR'] at hx
    rcases List.mem_cons.mp ((insG_perm _ _).mem_iff.mp hx) with rfl | z
    · exact ht
    · exact hRp x z
  have hR'l : R'.length ≤ 21 := by rw [hR', insG_len]; (exact Nat.succ_le_succ ‹_›)
  have h1l := H1.len
  have h2l := H2.len
  rw [List.length_take] at h1l h2l
  rw [List.length_drop] at h2l
  have hgl : (goneOf first t R).length ≤ 1 := by unfold goneOf; split <;> simp
  -- told = _law_heap_step(heap, first, [thing])
  refine ws_cons (ws1_assignE (.inl ((hk _).trans rfl)) (we_call (pe_glo ((hk _).trans rfl) P.hhs.gl) P.hhs.fo (.cons (pe_loc rfl) (.cons (pe_loc rfl) (.cons (pn_list (l := [t]) (.cons (pe_loc rfl) .nil rfl) (by simp)).pe .nil rfl) rfl) rfl) .nil (con_hstep P.B P.hsd P.hsu P.hpush P.hpp P.htu P.hhs (h := h) (come := [t]) (places := first) H1.pairs (by simpa using ht) (by simp; lia) a3 0) hn (ks := [0]) (by decide) rfl rfl rfl ?_ ?_))
  · rintro a hp' ⟨rfl, rfl⟩; rfl
  rintro a hp' ⟨rfl, rfl⟩
  -- seen = _law_row_step(row, first, [thing], lambda one: one[0])
  refine ws_cons (ws1_assignE (.inl ((hk _).trans rfl)) (we_call (pe_glo ((hk _).trans rfl) P.hrs.gl) P.hrs.fo (.cons (pe_loc rfl) (.cons (pe_loc rfl) (.cons (pn_list (l := [t]) (.cons (pe_loc rfl) .nil rfl) (by simp)).pe (.cons (hL _ _ _ _ _ (by rw [he]; rfl) rfl) .nil rfl) rfl) rfl) rfl) .nil (con_rstep P.B P.hbr P.tbr P.nbr P.hins P.tins P.hrs (r := R.take first) (come := [t]) (places := first) (key := fstF) (fun x hx => hRp x (List.mem_of_mem_take hx)) (by simpa using ht) (by simp; lia) (.inr ⟨_, _, _, rfl, ?_⟩) 0) hn (ks := [2]) (by decide) rfl rfl rfl ?_ ?_))
  · (rintro x zq1; refine oEE zq1 ?_; clear zq1; rintro a b rfl)
    refine ⟨⟨a, rfl⟩, lam_gives (nm := "one") (fun _ _ _ _ _ => rfl) rfl (by intro x hx; simp only [List.mem_cons, List.not_mem_nil, or_false] at hx; rcases hx with rfl; simp) rfl rfl rfl fun Y _ _ _ => pe_tupitem (l := [.int a, .int b]) (k := 0) (pe_loc rfl) pe_int rfl (by simp)⟩
  · rintro a hp' ⟨rfl, rfl⟩; rfl
  rintro a hp' ⟨rfl, rfl⟩
  rw [a1]
  -- if told != seen or ..
  refine ws_cons (ws1_if (b := false) (pt_or (a := false) (b := false) (pt_neF (L := goneOf first t R) (pe_loc rfl) (pe_loc rfl) rfl rfl a5) fun _ => pt_neF (L := goneOf first t R) (pe_loc rfl) (pe_call (pe_glo ((hk _).trans rfl) P.hle.gl) P.hle.fo (.cons (pe_loc rfl) (.cons (pe_loc rfl) (.cons (pe_loc rfl) .nil rfl) rfl) rfl) .nil (con_leaves P.B P.hle (l := R') (places := first) (t := t) hR'p ht (by (exact Nat.le_trans ‹_› (by decide))) 0) (by (exact Nat.lt_of_le_of_lt (Nat.zero_le _) ‹_›)) rfl rfl) rfl (by rw [a4]; rfl) a5) (fun h => nomatch h) fun _ => ws_nil ?_)
  refine ws_from (st' := ⟨lLocR ns first both t R' ++ [(Str.ofString "told", AV.lst (goneOf first t R)), (Str.ofString "seen", AV.lst (goneOf first t R))], [.list (hsGo first h [] [t]).1, .list lo, .list (R'.take first), .list ((R.drop first).take (both - first)), .list done', .list (cs'.map .int), .iter rest]⟩) ⟨⟨[], rfl⟩, ⟨rfl, rfl, rfl, rfl, rfl, rfl, rfl, rfl, rfl, rfl, rfl, rfl, rfl, trivial⟩, rfl⟩ rfl ?_
  have hbf : ((both : Int) - (first : Int)) = ((both - first : Nat) : Int) := by lia
  -- told = _law_heap_step(lower, both - first, told)
  refine ws_cons (ws1_assignE (.inl ((hk _).trans rfl)) (we_call (pe_glo ((hk _).trans rfl) P.hhs.gl) P.hhs.fo (.cons (pe_loc rfl) (.cons (PE.to (pe_bin (pe_loc rfl) (pe_loc rfl) bo_sub) (congrArg (fun i => AV.f (.int i)) hbf)) (.cons (pe_loc rfl) .nil rfl) rfl) rfl) .nil (con_hstep P.B P.hsd P.hsu P.hpush P.hpp P.htu P.hhs (h := lo) (come := goneOf first t R) (places := both - first) H2.pairs a5 (by lia) b3 0) hn (ks := [1]) (by decide) rfl rfl rfl ?_ ?_))
  · rintro a hp' ⟨rfl, rfl⟩; rfl
  rintro a hp' ⟨rfl, rfl⟩
  -- seen = _law_row_step(under, both - first, seen, None)
  refine ws_cons (ws1_assignE (.inl ((hk _).trans rfl)) (we_call (pe_glo ((hk _).trans rfl) P.hrs.gl) P.hrs.fo (.cons (pe_loc rfl) (.cons (PE.to (pe_bin (pe_loc rfl) (pe_loc rfl) bo_sub) (congrArg (fun i => AV.f (.int i)) hbf)) (.cons (pe_loc rfl) (.cons pe_none .nil rfl) rfl) rfl) rfl) .nil (con_rstep P.B P.hbr P.tbr P.nbr P.hins P.tins P.hrs (r := (R.drop first).take (both - first)) (come := goneOf first t R) (places := both - first) (key := id) (fun x hx => hRp x (List.mem_of_mem_drop (List.mem_of_mem_take hx))) a5 (by rw [List.length_take, List.length_drop]; lia) (.inl ⟨rfl, rfl⟩) 0) hn (ks := [3]) (by decide) rfl rfl rfl ?_ ?_))
  · rintro a hp' ⟨rfl, rfl⟩; rfl
  rintro a hp' ⟨rfl, rfl⟩
  rw [b1]
  refine ws_cons (ws1_if (b := false) (pt_or (a := false) (b := false) (pt_neF (L := g) (pe_loc rfl) (pe_loc rfl) rfl rfl b5) fun _ => pt_neF (L := g) (pe_loc rfl) (pe_call (pe_glo ((hk _).trans rfl) P.hle.gl) P.hle.fo (.cons (pe_loc rfl) (.cons (pe_loc rfl) (.cons (pe_loc rfl) .nil rfl) rfl) rfl) .nil (con_leaves P.B P.hle (l := R') (places := both) (t := t) hR'p ht (by lia) 0) (by lia) rfl rfl) rfl (by rw [b4]; rfl) b5) (fun h => nomatch h) fun _ => ws_nil ?_)
  refine ws_from (st' := ⟨lLocR ns first both t R', [.list (hsGo first h [] [t]).1, .list (hsGo (both - first) lo [] (goneOf first t R)).1, .list (R'.take first), .list ((R'.drop first).take (both - first)), .list done', .list (cs'.map .int), .iter rest]⟩) ⟨⟨[], rfl⟩, ⟨rfl, rfl, rfl, rfl, rfl, rfl, rfl, rfl, rfl, rfl, rfl, trivial⟩, rfl⟩ rfl ?_
  exact q _ _ a2 b2
end
end Mine
end
section
open PySem PySem.W PySem.Calls PyProof.Rows
set_option Elab.async false
set_option maxRecDepth 100000
set_option linter.unusedVariables false
set_option linter.unusedSimpArgs false
namespace Mine
theorem turnF_pair {x : FV} (h : PairF x) : PairF (turnF x) ∧ IntF (sndF (turnF x)) := by (refine oEE h ?_; try clear h; rintro a b rfl); exact (iAE ((iEE (-b) a rfl)) a rfl)
theorem by_snd {l : List FV} (h : Tk l) : byKey false sndF (l.map turnF) = (rk l).map turnF := byKey_rk (fun a b' c d => by show FV.lt (.int a) (.int c) = _; rw [int_lt]) l h
theorem by_nfst {l : List FV} (h : Tk l) : byKey true nfstF l = rk l := by
  have := byKey_rk (b := true) (key := nfstF) (g := id) (fun a b' c d => by show FV.lt (.int (-c)) (.int (-a)) = _; rw [int_lt]; apply decide_eq_decide.mpr; simp) l h
  simpa using this
theorem by_id (l : List FV) : byKey false id l = rk l := rfl
section
variable {X : Fx}
theorem law_checks (P : Prog X.toWx) (hn : 4 ≤ X.n) (hL : MakesLam X) {L f : Addr} {cd : Value} (he : X.env = envOf "law" (dSco 23) L f cd) {ns : List Int} {first both : Nat} (hfb : first < both) (hbb : both ≤ 10) {t : FV} {done' rest : List FV} {cs' : List Int} {h lo : List FV}
    (htk : Tk done') (hz : done'.length ≤ 21) (hne : done' ≠ []) (H1 : HeapOf h ((rk done').take first)) (H2 : HeapOf lo (((rk done').drop first).take (both - first)))
    {Q : AF → St → Prop} (q : ∀ st', Weak st' ⟨lLoc ns first both, [.list h, .list lo, .list ((rk done').take first), .list (((rk done').drop first).take (both - first)), .list done', .list (cs'.map .int), .iter rest]⟩ → Q .next st') :
    WS X (lawFor.drop 10) ⟨lLocR ns first both t (rk done'), [.list h, .list lo, .list ((rk done').take first), .list (((rk done').drop first).take (both - first)), .list done', .list (cs'.map .int), .iter rest]⟩ Q := by
  have hk : ∀ x, X.env.kindOf x = (dSco 23).names.lookup x := fun x => by rw [he]; rfl
  have hRp : ∀ x ∈ rk done', PairF x := fun x hx => htk.pair x ((rk_perm done').mem_iff.mp hx)
  have hRl := rk_len done'
  have hs := htk.rk_srt
  have hp1 : ∀ n, ∀ x ∈ (rk done').take n, PairF x := fun n x hx => hRp x (List.mem_of_mem_take hx)
  have hp2 : ∀ x ∈ ((rk done').drop first).take (both - first), PairF x := fun x hx => hRp x (List.mem_of_mem_drop (List.mem_of_mem_take hx))
  have h1l := H1.len
  have h2l := H2.len
  rw [List.length_take] at h1l h2l
  rw [List.length_drop] at h2l
  -- row, under
  refine ws_cons (ws1_if (b := false) (pt_or (a := false) (b := false)
    (pt_neF (L := (rk done').take first) (pe_loc rfl) (pn_slice (l := rk done') (pe_loc rfl) rfl .none (.some (pe_loc rfl)) (by (exact Nat.le_trans (Nat.le_of_eq ‹_›) (Nat.le_trans ‹_› (by decide))))).pe rfl (by rw [pickL_take]; rfl) (hp1 first))
    fun _ => pt_neF (L := ((rk done').drop first).take (both - first)) (pe_loc rfl) (pn_slice (l := rk done') (pe_loc rfl) rfl (.some (pe_loc rfl)) (.some (pe_loc rfl)) (by lia)).pe rfl (by rw [pickL_mid, List.drop_take]; rfl) hp2) (fun h => nomatch h) fun _ => ws_nil ?_)
  -- turned heaps
  refine ws_cons (ws1_if (b := false) (pt_or (a := false) (b := false)
    (pt_neF (L := (rk done').take first) (pe_call (pe_glo ((hk _).trans rfl) P.htu.gl) P.htu.fo (.cons (pe_loc rfl) .nil rfl) .nil (con_turned P.B P.htu (l := h) H1.pairs (by lia) (SOut_turned H1 (List.Pairwise.sublist (List.take_sublist _ _) hs)) 0) (by (exact Nat.lt_of_le_of_lt (Nat.zero_le _) ‹_›)) rfl rfl) (pe_loc rfl) rfl rfl (hp1 first))
    fun _ => pt_neF (L := ((rk done').drop first).take (both - first)) (pe_call (pe_glo ((hk _).trans rfl) P.htu.gl) P.htu.fo (.cons (pe_loc rfl) .nil rfl) .nil (con_turned P.B P.htu (l := lo) H2.pairs (by lia) (SOut_turned H2 (List.Pairwise.sublist ((List.take_sublist _ _).trans (List.drop_sublist _ _)) hs)) 0) (by lia) rfl rfl) (pe_loc rfl) rfl rfl hp2) (fun h => nomatch h) fun _ => ws_nil ?_)
  -- in order
  refine ws_cons (ws1_if (b := false) (pt_or (a := false) (b := false)
    (pt_not (b := true) (pt_val (pe_call (pe_glo ((hk _).trans rfl) P.hio.gl) P.hio.fo (.cons (pe_loc rfl) .nil rfl) .nil (con_inorder P.B P.hio (l := h) H1.pairs (by lia) H1.ord 0) (by lia) rfl rfl) to_bool))
    fun _ => pt_not (b := true) (pt_val (pe_call (pe_glo ((hk _).trans rfl) P.hio.gl) P.hio.fo (.cons (pe_loc rfl) .nil rfl) .nil (con_inorder P.B P.hio (l := lo) H2.pairs (by lia) H2.ord 0) (by lia) rfl rfl) to_bool)) (fun h => nomatch h) fun _ => ws_nil ?_)
  -- turned
  have hnames3 : ∀ {x : Str × NameKind}, x ∈ [(Str.ofString ".0", NameKind.local), (Str.ofString "rank", NameKind.local), (Str.ofString "ticket", NameKind.local)] → x.2 ≠ .cell := by
    intro x hx
    simp only [List.mem_cons, List.not_mem_nil, or_false] at hx
    rcases hx with rfl | rfl | rfl <;> simp
  have hnames3' : ∀ {x : Str × NameKind}, x ∈ [(Str.ofString ".0", NameKind.local), (Str.ofString "rank", NameKind.local), (Str.ofString "ticket", NameKind.local)] → x.2 = .local → [(Str.ofString ".0", NameKind.local), (Str.ofString "rank", NameKind.local), (Str.ofString "ticket", NameKind.local)].lookup x.1 = some .local := by
    intro x hx _
    simp only [List.mem_cons, List.not_mem_nil, or_false] at hx
    rcases hx with rfl | rfl | rfl <;> rfl
  refine ws_cons (ws1_compF (l := done') (p := fun _ => true) (f := turnF) ⟨cs_list (pe_loc rfl) rfl, rfl, fun x hx => hnames3 hx, fun x hx => hnames3' hx, (iEEAAAA ([]) ([]) (by rw [he]; rfl) ((fun _ h => nomatch h)) (by simp) (fun _ _ h => by simp at h) ?_), by (exact Nat.le_trans ‹_› (by decide))⟩ ((hk _).trans rfl) ?_ (by rw [he]; rfl))
  · intro C x built hx
    (refine oEE (htk.pair x hx) ?_; rintro a b rfl)
    exact (iEAAAA _ (atl_pair (by show (relabel _ X.env).names.lookup _ = _; rw [he]; rfl) (by show (relabel _ X.env).names.lookup _ = _; rw [he]; rfl)) (.nil) (fun _ => pe_tuple (l := [.int (-b), .int a]) (.cons (pe_neg (pe_loc rfl)) (.cons (pe_loc rfl) .nil rfl) rfl) (by simp)) rfl (fun _ _ h => by simp at h))
  rw [List.filter_eq_self.mpr (fun _ _ => rfl)]
  have htl : (done'.map turnF).length = done'.length := by simp
  have hlam2 : ∀ {ps : Arguments} {e : Expr} {sc : Scope}, (∀ x, PairF x → LamGives X.toWx ps e sc 1 x (sndF x)) → ∀ e' ∈ done'.map turnF, PairF e' ∧ IntF (sndF e') ∧ LamGives X.toWx ps e sc 1 e' (sndF e') := fun hh e' he' => by
    (refine oEA (List.mem_map.mp he') ?_; rintro x hx rfl)
    have := turnF_pair (htk.pair x hx)
    exact ⟨this.1, this.2, hh _ this.1⟩
  have hout : ((rk done').take both).map turnF = (byKey false sndF (done'.map turnF)).take both := by rw [by_snd htk, List.map_take]
  have hoP : ∀ x ∈ (byKey false sndF (done'.map turnF)).take both, PairF x := fun x hx => by
    rw [← hout] at hx
    (refine oEA (List.mem_map.mp hx) ?_; rintro y hy rfl)
    exact (turnF_pair (hp1 both y hy)).1
  -- nsmallest by rank
  refine ws_cons (ws1_if (b := false) (pt_neF (L := (byKey false sndF (done'.map turnF)).take both)
    (pe_callI (l := done'.map turnF) (n := 4) (pe_glo ((hk _).trans rfl) P.hns.gl) P.hns.fo (pe_loc rfl) (pt_cmp (pe_bin (pe_lenN (l := done'.map turnF) P.B ((hk _).trans rfl) (pe_loc rfl) (by (exact Nat.le_trans (Nat.le_of_eq ‹_›) (Nat.le_trans ‹_› (by decide))))) pe_int (bo_mod (by decide))) pe_int co_eq_int) (pe_glo ((hk _).trans rfl) P.B.iter) (pe_loc rfl) (pe_loc rfl) (hL _ _ _ _ _ (by rw [he]; rfl) rfl) hn
      (fun _ => P.nsI (m := 1) (hlam2 ?_) (by (exact Nat.lt_of_le_of_lt (Nat.zero_le _) ‹_›)) (by simpa using hne) (by (exact Nat.le_trans ‹_› (by decide))) (by (exact Nat.le_trans (Nat.le_of_eq ‹_›) (Nat.le_trans ‹_› (by decide)))) 3 (by (exact Nat.lt_succ_self _)) (by (exact Nat.lt_succ_self _))) (fun _ => P.nsK (m := 1) (hlam2 ?_) (by lia) (by (exact Nat.le_trans (Nat.le_of_eq ‹_›) (Nat.le_trans ‹_› (by decide)))) 3 (by lia) (by lia)))
    (pn_comp (l := (rk done').take both) (p := fun _ => true) (f := turnF) ⟨cs_list (pn_slice (l := rk done') (pe_loc rfl) rfl .none (.some (pe_loc rfl)) (by lia)).pe (by rw [pickL_take]; rfl), rfl, fun x hx => hnames3 hx, fun x hx => hnames3' hx, ⟨[], [], by rw [he]; rfl, (fun _ h => nomatch h), by simp, fun _ _ h => by simp at h, ?_⟩, by rw [List.length_take]; lia⟩).pe rfl (by rw [List.filter_eq_self.mpr (fun _ _ => rfl), hout]; rfl) hoP) (fun h => nomatch h) fun _ => ws_nil ?_)
  · (rintro x zq1; refine oEE zq1 ?_; clear zq1; rintro a b rfl)
    exact lam_gives (nm := "one") (fun _ _ _ _ _ => rfl) rfl (by intro x hx; simp only [List.mem_cons, List.not_mem_nil, or_false] at hx; rcases hx with rfl; simp) rfl rfl rfl fun Y _ _ _ => pe_tupitem (l := [.int a, .int b]) (k := 1) (pe_loc rfl) pe_int rfl (by simp)
  · (rintro x zq1; refine oEE zq1 ?_; clear zq1; rintro a b rfl)
    exact lam_gives (nm := "one") (fun _ _ _ _ _ => rfl) rfl (by intro x hx; simp only [List.mem_cons, List.not_mem_nil, or_false] at hx; rcases hx with rfl; simp) rfl rfl rfl fun Y _ _ _ => pe_tupitem (l := [.int a, .int b]) (k := 1) (pe_loc rfl) pe_int rfl (by simp)
  · intro C x built hx
    (refine oEE (hp1 both x hx) ?_; rintro a b rfl)
    exact (iEAAAA _ (atl_pair (by show (relabel _ X.env).names.lookup _ = _; rw [he]; rfl) (by show (relabel _ X.env).names.lookup _ = _; rw [he]; rfl)) (.nil) (fun _ => pe_tuple (l := [.int (-b), .int a]) (.cons (pe_neg (pe_loc rfl)) (.cons (pe_loc rfl) .nil rfl) rfl) (by simp)) rfl (fun _ _ h => by simp at h))
  -- nlargest by the rank turned
  refine ws_cons (ws1_if (b := false) (pt_neF (L := (rk done').take both)
    (pe_call (pe_glo ((hk _).trans rfl) P.hnl.gl) P.hnl.fo (.cons (pe_loc rfl) (.cons (pe_loc rfl) .nil rfl) rfl) (.cons (hL _ _ _ _ _ (by rw [he]; rfl) rfl) .nil) (P.nlK (l := done') (m := 1) (n := both) (key := nfstF) ?_ (by lia) (by (exact Nat.le_trans ‹_› (by decide))) 3 (by lia) (by lia)) hn rfl rfl)
    (pn_slice (l := rk done') (pe_loc rfl) rfl .none (.some (pe_loc rfl)) (by lia)).pe (by rw [by_nfst htk]; rfl) (by rw [pickL_take]; rfl) (hp1 both)) (fun h => nomatch h) fun _ => ws_nil ?_)
  · intro x hx
    (refine oEE (htk.pair x hx) ?_; rintro a b rfl)
    exact ⟨(iEE a b rfl), ⟨-a, rfl⟩, lam_gives (nm := "one") (fun _ _ _ _ _ => rfl) rfl (by intro x hx; simp only [List.mem_cons, List.not_mem_nil, or_false] at hx; rcases hx with rfl; simp) rfl rfl rfl fun Y _ _ _ => pe_neg (pe_tupitem (l := [.int a, .int b]) (k := 0) (pe_loc rfl) pe_int rfl (by simp))⟩
  -- nsmallest without a key
  refine ws_one (ws1_if (b := false) (pt_neF (L := (rk done').take first)
    (pe_call (pe_glo ((hk _).trans rfl) P.hns.gl) P.hns.fo (.cons (pe_loc rfl) (.cons (pe_loc rfl) .nil rfl) rfl) .nil (P.nu (l := done') (n := first) htk.pair (by lia) (by lia) 3 (by lia)) hn rfl rfl)
    (pn_slice (l := rk done') (pe_loc rfl) rfl .none (.some (pe_loc rfl)) (by lia)).pe (by rw [by_id]; rfl) (by rw [pickL_take]; rfl) (hp1 first)) (fun h => nomatch h) fun _ => ws_nil ?_)
  exact q _ ⟨⟨[], rfl⟩, ⟨rfl, rfl, rfl, rfl, rfl, rfl, rfl, rfl, rfl, trivial⟩, rfl⟩
end
end Mine
end
section
open PySem PySem.W PySem.Calls PyProof.Rows
set_option Elab.async false
set_option maxRecDepth 100000
set_option linter.unusedVariables false
set_option linter.unusedSimpArgs false
namespace Mine
theorem nat_of {x : Int} {m : Int} (h0 : 0 ≤ x) (h1 : x < m) : ∃ n : Nat, x = n ∧ (n : Int) < m := (iEA x.toNat (by lia) (by lia))
theorem fmod_bounds (a m : Int) (h : 0 < m) : 0 ≤ a.fmod m ∧ a.fmod m < m := ⟨Int.fmod_nonneg_of_pos a h, Int.fmod_lt_of_pos a h⟩
theorem con_law {W : Wx} (P : Prog W) {f c : Addr} {o : Obj} {doc pm ct : Value} {an : Option Addr} (ho : W.h₀.get? f = some o) (hd : o.data = .func (fnX "law" "law" (dPar 23) (dBody 23) (dSco 23) [] .none .none doc pm an (.ref c) ct)) (hcd : W.h₀.CodeRec (.ref c) "law")
    (Lm : LamOk W c) (hq : W.tabQ = ("law" ++ ".<locals>." : Str) ++ "<lambda>") {ns : List Int} (hns : ns.length ≤ 63) : Con W (.ref f) 5 [.lst (ns.map .int)] [] [] (fun av _ => av = .f (.bool true)) := by
  refine con_def ho hd hcd [("script", .lst (ns.map .int))] bind1 (by simp only [List.map_cons, List.map_nil]; decide) ?_ ?_ rfl rfl rfl ?_
  · intro y hy
    simp only [List.mem_cons, List.not_mem_nil, or_false] at hy
    rcases hy with rfl; exact .inl rfl
  · intro k
    show List.Nodup [Str.ofString "thing", Str.ofString "counts", Str.ofString "so_far"]
    decide
  rintro X rfl hn ⟨L, he⟩ hfr
  have hk : ∀ x, X.env.kindOf x = (dSco 23).names.lookup x := fun x => by rw [he]; rfl
  have hL : MakesLam X := fun ps e sc pos st h1 h2 => pe_lambda Lm (by rw [he]; rfl) (by rw [hq, he]; rfl) h1 h2
  have hB := P.B
  generalize hT : ns.sum + 6 = T
  (refine oEA (nat_of (fmod_bounds T 4 (by lia)).1 (fmod_bounds T 4 (by lia)).2) ?_; rintro first ef hf)
  (refine oEA (nat_of (fmod_bounds (T.fdiv 4) 3 (by lia)).1 (fmod_bounds (T.fdiv 4) 3 (by lia)).2) ?_; rintro x ex hx)
  have hboth : (first : Int) + 1 + (T.fdiv 4).fmod 3 = ((first + 1 + x : Nat) : Int) := by rw [ex]; rfl
  generalize hbd : first + 1 + x = both at hboth
  refine ws_cons (ws1_assign (av := .f (.int T)) (.inl ((hk _).trans rfl)) (PE.to (pe_bin (pe_sum (ns := ns) (pe_glo ((hk _).trans rfl) hB.sum) (pe_loc rfl) rfl) pe_int bo_add) (by rw [hT])) ?_)
  refine ws_cons (ws1_assign (av := .f (.int first)) (.inl ((hk _).trans rfl)) (PE.to (pe_bin (pe_loc rfl) pe_int (bo_mod (by decide))) (by rw [ef])) ?_)
  refine ws_cons (ws1_assign (av := .f (.int both)) (.inl ((hk _).trans rfl)) (PE.to (pe_bin (pe_bin (pe_loc rfl) pe_int bo_add) (pe_bin (pe_bin (pe_loc rfl) pe_int (bo_fdiv (by decide) (PyProof.noPylong_small (by decide)))) pe_int (bo_mod (by decide))) bo_add) (by rw [hboth])) ?_)
  refine ws_cons (ws1_assignE (.inl ((hk _).trans rfl)) ((pn_list (l := []) .nil (by simp)).own ?_))
  refine ws_cons (ws1_assignE (.inl ((hk _).trans rfl)) ((pn_list (l := []) .nil (by simp)).own ?_))
  refine ws_cons (ws1_assignE (.inl ((hk _).trans rfl)) ((pn_list (l := []) .nil (by simp)).own ?_))
  refine ws_cons (ws1_assignE (.inl ((hk _).trans rfl)) ((pn_list (l := []) .nil (by simp)).own ?_))
  refine ws_cons (ws1_assignE (.inr ⟨(hk _).trans rfl, by rw [he]; rfl⟩) ((pn_list (l := []) .nil (by simp)).own ?_))
  refine ws_cons (ws1_assignE (.inr ⟨(hk _).trans rfl, by rw [he]; rfl⟩) ((pn_list (l := []) .nil (by simp)).own ?_))
  refine ws_from (st' := ⟨lLoc ns first both, [.list [], .list [], .list [], .list [], .list [], .list []]⟩) ⟨⟨[], rfl⟩, ⟨rfl, rfl, rfl, rfl, rfl, rfl, rfl, rfl, rfl, trivial⟩, rfl⟩ rfl ?_
  refine ws_cons (ws1_if (b := false) (pt_or (a := false) (b := false)
    (pt_neF (L := []) (pe_call (pe_glo ((hk _).trans rfl) P.hns.gl) P.hns.fo (.cons (pe_loc rfl) (.cons (pn_list (l := []) .nil (by simp)).pe .nil rfl) rfl) .nil (P.nu (l := []) (n := first) (by simp) (by lia) (by simp) 3 (by (exact Nat.lt_succ_self _))) (by (exact Nat.le_of_eq (Eq.symm ‹_›))) rfl rfl) (pn_list (l := []) .nil (by simp)).pe (by simp [asL, byKey, SSG]) rfl (by simp))
    fun _ => pt_neF (L := []) (pe_call (pe_glo ((hk _).trans rfl) P.hnl.gl) P.hnl.fo (.cons (pe_loc rfl) (.cons (pn_list (l := []) .nil (by simp)).pe .nil rfl) rfl) .nil (P.nl0 (n := first) (by lia) 3 (by lia)) (by lia) rfl rfl) (pn_list (l := []) .nil (by simp)).pe rfl rfl (by simp)) (fun h => nomatch h) fun _ => ws_nil ?_)
  have hI0 : LInv first both [] [] [] [] := by
    have e : rk [] = [] := rfl
    refine ⟨fun i hi => by simp at hi, ⟨rfl, fun i hi => by simp at hi⟩, ?_, ?_⟩
    · rw [e, List.take_nil]; exact ⟨.refl _, fun k h0 h1 _ => by simp at h1, by simp⟩
    · rw [e, List.drop_nil, List.take_nil]; exact ⟨.refl _, fun k h0 h1 _ => by simp at h1, by simp⟩
  have hti : (theInts ns).length ≤ 16 := by simp [theInts]; lia
  refine ws_cons (ws1_for 6 (fun m st => ∃ (done : List FV) (xs cs : List Int) (h lo : List FV), False ∨ (m = xs.length ∧ done.length + xs.length ≤ 16 ∧ LInv first both done cs h lo ∧ st = ⟨lLoc ns first both, [.list h, .list lo, .list ((rk done).take first), .list (((rk done).drop first).take (both - first)), .list done, .list (cs.map .int), .iter (thingsFrom done.length xs)]⟩)) (theInts ns).length
    (wi_list (l := thingsFrom 0 (theInts ns)) (pe_call (pe_glo ((hk _).trans rfl) P.hth.gl) P.hth.fo (.cons (pe_loc rfl) .nil rfl) .nil (con_things hB P.hth (ns := ns) (by (exact Nat.le_trans ‹_› (by decide))) 0) (by lia) rfl rfl) ⟨rfl, [], theInts ns, [], [], [], .inr ⟨rfl, by simpa using hti, hI0, by simp [rk, SSG]⟩⟩) ?_)
  rintro m st ⟨done, xs, cs, h, lo, hf | ⟨rfl, hlen, hI, rfl⟩⟩
  · exact hf.elim
  refine (iEAA _ rfl rfl ?_)
  cases xs with
  | nil => exact ws_one (ws1_return pe_bool rfl (iEA _ rfl rfl))
  | cons y ys =>
    simp only [List.length_cons] at hlen
    refine (iAEA rfl _ (at_name (.inr ⟨(hk _).trans rfl, by rw [he]; rfl⟩)) (ws_weak ?_))
    refine ws_from (st' := ⟨lLocT ns first both (thingF (rankOf y) done.length), [.list h, .list lo, .list ((rk done).take first), .list (((rk done).drop first).take (both - first)), .list done, .list (cs.map .int), .iter (thingsFrom (done.length + 1) ys)]⟩) ⟨⟨[], rfl⟩, ⟨rfl, rfl, rfl, rfl, rfl, rfl, rfl, rfl, rfl, rfl, trivial⟩, rfl⟩ rfl ?_
    refine bump_loop hB he hI (by lia) ?_
    refine law_ranked hB he hI.tk hI.cnt (by lia) fun cs' hcs' => ?_
    have htk' := hI.tk.snoc (rankOf y)
    have hrl := rk_len done
    refine law_boards P (by (exact Nat.le_of_eq (Eq.symm ‹_›))) hL he (R := rk done) (by omega) (by omega) hI.tk.rk_srt (fun x hx => hI.tk.pair x ((rk_perm done).mem_iff.mp hx)) ⟨_, _, rfl⟩ (fun z => hI.tk.not_mem (rankOf y) ((rk_perm done).mem_iff.mp z)) (fun z hz => hI.tk.lt_new (rankOf y) ((rk_perm done).mem_iff.mp hz)) (rk_snoc _ _) (by lia) hI.h1 hI.h2 fun h' lo' H1 H2 => ?_
    refine law_checks P (by lia) hL he (by lia) (by lia) htk' (by simp; lia) (by simp) H1 H2 fun st' hw => ?_
    refine ⟨_, hw, Nat.le_refl _, ys.length, Nat.lt_succ_self _, done ++ [thingF (rankOf y) done.length], ys, cs', h', lo', .inr ⟨rfl, by simp; lia, ⟨htk', hcs', H1, H2⟩, ?_⟩⟩
    simp
end Mine
end
section
open PySem PySem.W PySem.Calls PyProof.Rows PyProof.Rows.TI
set_option Elab.async false
set_option maxRecDepth 100000
set_option linter.unusedVariables false
set_option linter.unusedSimpArgs false
namespace Mine
/- the world of the call -/
theorem gone_keep {h : Heap} {P : Addr} : ∀ b o, (gone h [P]).get? b = some o → h.get? b = some o := fun b o e => by
  by_cases q : b = P
  · rw [q, gone_none (.head _)] at e; cases e
  · rwa [gone_get (by simpa using q)] at e
theorem gone_back {h : Heap} {P : Addr} : ∀ b o, b ≠ P → h.get? b = some o → (gone h [P]).get? b = some o := fun b o q e => by
  rwa [gone_get (by simpa using q)]
theorem ns_gone {h : Heap} {P a : Addr} {m} (hne : a ≠ P) (x : h.Ns a m) : (gone h [P]).Ns a m := by
  (refine oEEEA x ?_; try clear x; rintro o es ep ho r)
  exact (iEEEA o es ep (gone_back _ _ hne ho) r)
noncomputable def mkW (prog : Program) (w : World) (h : Heap) (P : Addr) (gl : List (Str × Value)) (nol : (gone h [P]).NoLimit) (glo : ∃ mg mb, (gone h [P]).Ns mainGlobals mg ∧ (gone h [P]).Ns builtinsNs mb ∧ ∀ x v, gl.lookup x = some v → (mg x = some v ∨ (mg x = none ∧ mb x = some v))) : Wx :=
  ⟨prog, w, gone h [P], gl, P, ("law" ++ ".<locals>." : Str) ++ "<lambda>", nol, glo⟩
theorem glo_gone {h : Heap} {P : Addr} {gl : List (Str × Value)} {mg mb : Str → Option Value} (hg : h.Ns mainGlobals mg) (hb : h.Ns builtinsNs mb) (n1 : mainGlobals ≠ P) (n2 : builtinsNs ≠ P) (hgl : ∀ x v, (x, v) ∈ gl → (mg x = some v ∨ (mg x = none ∧ mb x = some v))) :
    ∃ mg mb, (gone h [P]).Ns mainGlobals mg ∧ (gone h [P]).Ns builtinsNs mb ∧ ∀ x v, gl.lookup x = some v → (mg x = some v ∨ (mg x = none ∧ mb x = some v)) :=
  (iEEAA mg mb (ns_gone n1 hg) (ns_gone n2 hb) (fun x v e => hgl x v (lookup_mem e)))
theorem nol_gone {h : Heap} {P : Addr} (x : h.NoLimit) (n : cStatics ≠ P) : (gone h [P]).NoLimit := let ⟨mc, a, b⟩ := x; (iEA mc (ns_gone n a) b)
theorem ints_rep {h : Heap} {vs : List Value} {ns : List Int} (x : IntsAre vs ns) : RepFs h (ns.map .int) vs := by
  induction x with
  | nil => simp [RepFs]
  | cons n t _ ih => simp only [List.map_cons, RepFs]; exact (iEEAA _ _ rfl (⟨t, rfl⟩) ih)
theorem law_end {prog : Program} {w : World} {s₁ : Shared} {P c fa la : Addr} {gl : List (Str × Value)} {nol glo} (Pr : Prog (mkW prog w s₁.heap P gl nol glo)) {o : Obj} {doc pm ct : Value} {an : Option Addr} (ho : s₁.heap.get? fa = some o) (hd : o.data = .func (fnX "law" "law" (dPar 23) (dBody 23) (dSco 23) [] .none .none doc pm an (.ref c) ct)) (hcd : s₁.heap.CodeRec (.ref c) "law")
    (hc : CodeHd s₁.heap c P) (hP : s₁.heap.get? P = some (tabObj #[])) (hbi : ∃ mg, s₁.heap.Ns mainGlobals mg ∧ s₁.heap.BuiltinsAt mg P) (n1 : mainGlobals ≠ P) {vs : List Value} {ns : List Int} (hl : s₁.heap.get? la = some { cls := .type "list", data := .seq vs.toArray }) (hi : IntsAre vs ns) (h63 : ns.length ≤ 63) :
    wpAny (model prog w) callerA (call (.ref fa) [.ref la]) (fun v s' => v = .bool true ∧ OldK s₁.heap s'.heap ∧ s'.os = s₁.os ∧ s'.gens = s₁.gens) NoE s₁ := by
  have hne : ∀ {b : Addr} {o : Obj}, s₁.heap.get? b = some o → o.cls ≠ .none → b ≠ P := fun {b o} e h q => by rw [q, hP] at e; cases e; exact h rfl
  have nf : fa ≠ P := fun q => by rw [q, hP] at ho; cases ho; cases hd
  have hcP : c ≠ P := by (refine oEEEEEEEEEAAAAAAAAA hc ?_; try clear hc; rintro _ _ _ _ _ _ _ _ _ _ _ _ _ _ _ _ _ _ q); exact q
  have hcd' : (gone s₁.heap [P]).CodeRec (.ref c) "law" := by
    (refine oEEEEAA hcd ?_; try clear hcd; rintro c' oc vs t e g r)
    cases e
    exact ⟨c, oc, vs, t, rfl, gone_back _ _ hcP g, r⟩
  have hLm : LamOk (mkW prog w s₁.heap P gl nol glo) c := by
    refine ⟨?_, ?_, gone_none (.head _)⟩
    · (refine oEEEEEEEEEA hc ?_; try clear hc; rintro o vs file tf flags tg inF text tt e r)
      exact ⟨o, vs, file, tf, flags, tg, inF, text, tt, gone_back _ _ hcP e, r⟩
    · (refine oEAEEAAAAA hbi ?_; try clear hbi; rintro mg h1 bm ob b1 b2 b3 b4 b5 b6)
      exact ⟨mg, ns_gone n1 h1, bm, ob, b1, b2, b3, b4, gone_back _ _ b4 b5, b6⟩
  have C := con_law Pr (gone_back _ _ nf ho) hd hcd' hLm rfl h63
  have R : Rep0 (mkW prog w s₁.heap P gl nol glo) [] [] [] s₁ := by
    refine ⟨gone_keep, fun a h => ?_, (fun b h => nomatch h), fun k ao e => by simp at e, rfl, .nil, #[], hP, trivial, fun pos cv h => by simp [codeAmong] at h⟩
    rcases h with h | h
    · cases h
    · rw [h]; exact gone_none (.head _)
  have hA : AOk callerA [] 5 := ⟨rfl, by decide +kernel, by decide +kernel, [], rfl, rfl, by simp⟩
  have hla : la ≠ P := hne hl (by simp)
  refine wpAny_mono (C callerA [] [] s₁ [.ref la] [] hA R (.cons (iEEAAA la vs.toArray rfl (⟨by simp, hla⟩) ((iEAAAE _ hl rfl rfl _ rfl)) (by simpa using ints_rep hi)) .nil) .nil) (fun v s' h => ?_) fun _ _ x => x
  (refine oEEAAA h ?_; try clear h; rintro av hp' B R' rv rfl)
  refine ⟨rv, ⟨fun b o e => ?_, B.ex⟩, B.os, B.gens⟩
  by_cases q : b = P
  · subst q
    rw [hP] at e
    cases e
    (refine oEA R'.tab ?_; rintro ps e' _)
    (refine oEEEEEEEEEAAAA hc ?_; try clear hc; rintro oc vs file tf flags tg inF text tt f1 f2 f3 f4 _)
    refine .inr (.inl (iAAEEA ((iEEEAAA c oc vs f1 f2 f3 f4)) rfl (#[]) ps rfl ?_))
    refine (show s'.heap.get? b = some (tabObj ps) from e').trans ?_
    simp [tabObj]
  · refine .inl (B.same.exact (fun z => ?_) (by simp) e)
    rcases z with z | z
    · cases z
    · exact q z
end Mine
end
section
open PySem PySem.W PySem.Calls PyProof.Rows PyProof.Rows.TI
set_option Elab.async false
set_option maxRecDepth 100000
set_option linter.unusedVariables false
set_option linter.unusedSimpArgs false
namespace Mine
open PySem.Challenge
noncomputable def codeNm (h : Heap) (c : Addr) : Option Str := match h.get? c with
  | some o => (match o.data with | .fields vs => (match vs[1]? with | some (Value.str q _) => some q | _ => none) | _ => none)
  | none => none
theorem codeNm_of {h : Heap} {c : Addr} {q : Str} (e : codeNm h c = some q) : h.CodeRec (.ref c) q := by
  unfold codeNm at e
  split at e
  · rename_i o ho
    split at e
    · rename_i vs hv
      split at e
      · rename_i q' t hq
        cases e
        exact (iEEEEAAA c o vs t rfl ho hv hq)
      · cases e
    · cases e
  · cases e
/- the defaults: none, (None,), (0, None) -/
noncomputable def dfKind (h : Heap) : Value → Nat
  | .none => 0
  | .ref T => (match h.get? T with
    | some o => (match o.data with
      | .seq xs _ => (match xs with | ⟨[.none]⟩ => 1 | ⟨[.int 0 _, .none]⟩ => 2 | _ => 9)
      | _ => 9)
    | none => 9)
  | _ => 9
noncomputable def DfSaid (h : Heap) (d : Nat) (dV : Value) : Prop := (d = 0 ∧ dV = .none) ∨ (d = 1 ∧ ∃ T o n, dV = .ref T ∧ h.get? T = some o ∧ o.data = .seq #[.none] n) ∨ (d = 2 ∧ ∃ T o n t, dV = .ref T ∧ h.get? T = some o ∧ o.data = .seq #[.int 0 t, .none] n)
theorem dfKind_of {h : Heap} {d : Nat} {v : Value} (e : dfKind h v = d) (hd : d ≠ 9) : DfSaid h d v := by
  subst e
  unfold dfKind at hd ⊢
  split at hd
  · exact .inl ⟨rfl, rfl⟩
  · split at hd
    · rename_i o ho
      split at hd
      · rename_i xs n hx
        split at hd
        · exact .inr (.inl (iAEEEAA (by simp only [ho, hx]) _ o n rfl ho hx))
        · exact .inr (.inr (iAEEEEAA (by simp only [ho, hx]) _ o n _ rfl ho hx))
        · exact absurd rfl hd
      · exact absurd rfl hd
    · exact absurd rfl hd
  · exact absurd rfl hd
/- the keyword's default: none, {key: None} -/
noncomputable def kwKind (h : Heap) : Value → Nat
  | .none => 0
  | .ref d => if h.isNs d then (match h.nsMap d (Str.ofString "key") with | some .none => 1 | _ => 9) else 9
  | _ => 9
noncomputable def KwSaid (h : Heap) (w : Nat) (kV : Value) : Prop := (w = 0 ∧ kV = .none) ∨ (w = 1 ∧ ∃ d m, kV = .ref d ∧ h.Ns d m ∧ m (Str.ofString "key") = some .none)
theorem kwKind_of {h : Heap} {d : Nat} {v : Value} (e : kwKind h v = d) (hd : d ≠ 9) : KwSaid h d v := by
  subst e
  unfold kwKind at hd ⊢
  split at hd
  · exact .inl ⟨rfl, rfl⟩
  · split at hd
    · rename_i hn
      split at hd
      · rename_i hk
        exact .inr (iAEEAA (by simp only [hn, hk, if_true]) _ _ rfl (.of_isNs hn) hk)
      · exact absurd rfl hd
    · exact absurd rfl hd
  · exact absurd rfl hd
noncomputable abbrev FnInfo : Type := (Str × Str × Arguments × FuncBody × Scope × Addr × List (Str × Addr) × Addr) × Option Str × Nat × Nat
noncomputable def fnInfo (h : Heap) (nm : Str) : Option FnInfo := match h.nsMap mainGlobals nm with
  | some (.ref f) => (match h.get? f with
    | some o => (match o.data with
      | .func fd => (match fd.code with
        | .ref c => some ((fd.name, fd.qualname, fd.params, fd.body, fd.scope, fd.globals, fd.closure, fd.builtins), codeNm h c, dfKind h fd.defaults, kwKind h fd.kwdefaults)
        | _ => none)
      | _ => none)
    | none => none)
  | _ => none
noncomputable def FnSaid (h : Heap) (k : Nat) (nm : Str) (d w : Nat) : Prop := ∃ m f o doc pm an ct c dV kV, h.Ns mainGlobals m ∧ m nm = some (.ref f) ∧ h.get? f = some o ∧ o.data = .func (fnX nm nm (dPar k) (dBody k) (dSco k) [] dV kV doc pm an (.ref c) ct) ∧ h.CodeRec (.ref c) nm ∧ DfSaid h d dV ∧ KwSaid h w kV
noncomputable def infoOf (k : Nat) (nm : Str) (d w : Nat) : FnInfo := ((nm, nm, dPar k, .stmts (dBody k), dSco k, mainGlobals, [], builtinsNs), some nm, d, w)
theorem fnInfo_of {h : Heap} {k : Nat} {nm : Str} {d w : Nat} (hg : h.isNs mainGlobals = true) (e : fnInfo h nm = some (infoOf k nm d w)) (hd : d ≠ 9) (hw : w ≠ 9) : FnSaid h k nm d w := by
  unfold fnInfo infoOf at e
  split at e
  · rename_i f hf
    split at e
    · rename_i o ho
      split at e
      · rename_i fd hfd
        split at e
        · rename_i c hc
          simp only [Option.some.injEq, Prod.mk.injEq] at e
          (refine oAAA e ?_; try clear e; rintro ⟨e1, e2, e3, e4, e5, e6, e7, e8⟩ e9 e10 e11)
          obtain ⟨fn, fq, fp, fb, fs, fg, fcl, fdf, fkw, fdoc, fpm, fan, fco, fct, fbi⟩ := fd
          simp only at e1 e2 e3 e4 e5 e6 e7 e8 e9 e10 e11 hc
          subst e1 e2 e3 e4 e5 e6 e7 e8 hc
          exact ⟨_, f, o, fdoc, fpm, fan, fct, c, fdf, fkw, .of_isNs hg, hf, ho, hfd, codeNm_of e9, dfKind_of e10 hd, kwKind_of e11 hw⟩
        · cases e
      · cases e
    · cases e
  · cases e
theorem DfSaid.keeps {h h' : Heap} {d : Nat} {v : Value} (x : DfSaid h d v) (k : ∀ b o, h.get? b = some o → h'.get? b = some o) : DfSaid h' d v :=
  x.imp id fun x => x.imp (fun ⟨a, T, o, n, e, g, r⟩ => (iAEEEAA a T o n e (k _ _ g) r)) fun ⟨a, T, o, n, t, e, g, r⟩ => (iAEEEEAA a T o n t e (k _ _ g) r)
theorem KwSaid.keeps {h h' : Heap} {d : Nat} {v : Value} (x : KwSaid h d v) (k : ∀ b o, h.get? b = some o → h'.get? b = some o) : KwSaid h' d v :=
  x.imp id fun ⟨a, d, m, e, g, r⟩ => (iAEEAA a d m e (g.keeps k) r)
theorem FnSaid.keeps {h h' : Heap} {k : Nat} {nm : Str} {d w : Nat} (x : FnSaid h k nm d w) (kk : ∀ b o, h.get? b = some o → h'.get? b = some o) : FnSaid h' k nm d w := by
  (refine oEEEEEEEEEEAAAAAA x ?_; try clear x; rintro m f o doc pm an ct c dV kV a1 a2 a3 a4 a5 a6 a7)
  exact ⟨m, f, o, doc, pm, an, ct, c, dV, kV, a1.keeps kk, a2, kk _ _ a3, a4, a5.keeps kk, a6.keeps kk, a7.keeps kk⟩
noncomputable def specs : List (Nat × Str × Nat × Nat) := [(1, "heappush", 0, 0), (2, "heapreplace", 0, 0), (3, "heappushpop", 0, 0), (4, "heapify", 0, 0), (5, "_heapreplace_max", 0, 0), (6, "_heapify_max", 0, 0), (7, "_siftdown", 0, 0), (8, "_siftup", 0, 0), (9, "_siftdown_max", 0, 0), (10, "_siftup_max", 0, 0), (11, "nsmallest", 1, 0), (12, "nlargest", 1, 0), (14, "insort_right", 2, 1), (15, "bisect_right", 2, 1), (17, "_law_things", 0, 0), (18, "_law_turned", 0, 0), (19, "_law_heap_step", 0, 0), (20, "_law_row_step", 0, 0), (21, "_law_leaves", 0, 0), (22, "_law_in_order", 0, 0)]
noncomputable def bis : List (Str × Value) := [("len", .builtin "len"), ("range", .type "range"), ("reversed", .type "reversed"), ("iter", .builtin "iter"), ("object", .type "object"), ("min", .builtin "min"), ("max", .builtin "max"), ("sorted", .builtin "sorted"), ("zip", .type "zip"), ("sum", .builtin "sum"), ("TypeError", .type "TypeError"), ("AttributeError", .type "AttributeError")]
theorem specs_ok : ∀ x ∈ specs, x.2.2.1 ≠ 9 ∧ x.2.2.2 ≠ 9 := by decide
noncomputable def theHook : Hook where
  α := Bool × List (Option FnInfo) × Bool
  obs := fun s => (s.heap.isNs mainGlobals, specs.map (fun x => fnInfo s.heap x.2.1), bis.all fun x => (s.heap.nsMap mainGlobals x.1).isNone)
  val := fun _ => (true, specs.map (fun x => some (infoOf x.1 x.2.1 x.2.2.1 x.2.2.2)), true)
  says := fun _ h => (∀ x ∈ specs, FnSaid h x.1 x.2.1 x.2.2.1 x.2.2.2) ∧ ∃ m, h.Ns mainGlobals m ∧ ∀ x ∈ bis, m x.1 = none
  of := fun w s e => by
    obtain ⟨e1, e2⟩ := Prod.mk.inj e
    obtain ⟨e2, e3⟩ := Prod.mk.inj e2
    refine (iAEA (fun x hx => fnInfo_of e1 (List.map_inj_left.mp e2 x hx) (specs_ok x hx).1 (specs_ok x hx).2) (s.heap.nsMap mainGlobals) (.of_isNs e1) (fun x hx => ?_))
    have := List.all_eq_true.mp e3 x hx
    simpa using this
  keeps := fun w h h' x k => ⟨fun y hy => (x.1 y hy).keeps k, x.2.imp fun m z => ⟨z.1.keeps k, z.2⟩⟩
noncomputable def theView : Program := { pw_lg0035_01 with main := { pw_lg0035_01.main with body := (pw_lg0035_01.main.body.drop 1).take 10 ++ pw_lg0035_01.main.body.drop 17 } }
noncomputable def theLoose : List Str := [Str.ofString "nsmallest", Str.ofString "nlargest", Str.ofString "insort_right", Str.ofString "bisect_right"]
theorem theLeft : LeftO pw_lg0035_01 theView theLoose (fun s => xlAt theView [] s && recOk [] s) theHook.obs theHook.val 1512 := fun w => by kernel_rfl
end Mine
end
section
open PySem PySem.W PySem.Calls PyProof.Rows PyProof.Rows.TI
set_option Elab.async false
set_option maxRecDepth 100000
set_option maxHeartbeats 8000000
set_option linter.unusedVariables false
namespace Mine
noncomputable def adr (h : Heap) (nm : Str) : Addr := match h.nsMap mainGlobals nm with | some (.ref f) => f | _ => 0
noncomputable def glOf (h : Heap) : List (Str × Value) := bis ++ specs.map fun x => (x.2.1, .ref (adr h x.2.1))
theorem boot_bis : ∀ x ∈ bis, x.1 ≠ "__name__" ∧ bootBuiltins x.1 = some x.2 := by
  intro x hx
  simp only [bis, List.mem_cons, List.not_mem_nil, or_false] at hx
  rcases hx with rfl | rfl | rfl | rfl | rfl | rfl | rfl | rfl | rfl | rfl | rfl | rfl <;> exact ⟨by decide, by rfl⟩
theorem adr_of {h : Heap} {m : Str → Option Value} {nm : Str} {f : Addr} (hm : h.Ns mainGlobals m) (e : m nm = some (.ref f)) : adr h nm = f := by
  have hn : h.nsMap mainGlobals nm = m nm := by
    (refine oEEEAAA hm ?_; try clear hm; rintro o es ep ho hd _ hf)
    unfold Heap.nsMap
    rw [ho]
    simp only [hd, hf]
  unfold adr
  rw [hn, e]
/- a def as the world holds it -/
theorem said_ok {W : Wx} {h : Heap} {P : Addr} (hW : ∀ b o, b ≠ P → h.get? b = some o → W.h₀.get? b = some o) (hP : h.get? P = some (tabObj #[])) {k : Nat} {nm : Str} {d w : Nat} (x : FnSaid h k nm d w) (hgl : W.gl.lookup nm = some (.ref (adr h nm))) :
    ∃ dV kV, FnOk W k nm dV kV (adr h nm) ∧ DfSaid W.h₀ d dV ∧ KwSaid W.h₀ w kV := by
  (refine oEEEEEEEEEEAAAAAA x ?_; try clear x; rintro m f o doc pm an ct c dV kV a1 a2 a3 a4 ⟨c', oc, vs, t, b1, b2, b3, b4⟩ a6 a7)
  cases b1
  have e := adr_of a1 a2
  have nf : f ≠ P := fun q => by rw [q, hP] at a3; cases a3; cases a4
  have nc : c ≠ P := fun q => by rw [q, hP] at b2; cases b2; cases b3; simp at b4
  refine (iEEAA dV kV (⟨hgl, o, doc, pm, an, .ref c, ct, by rw [e]; exact hW _ _ nf a3, a4, c, oc, vs, t, rfl, hW _ _ nc b2, b3, b4⟩) ?_ ?_)
  · refine a6.imp id fun x => x.imp (fun ⟨a, T, o, n, e, g, r⟩ => (iAEEEAA a T o n e (hW _ _ ?_ g) r)) fun ⟨a, T, o, n, t, e, g, r⟩ => (iAEEEEAA a T o n t e (hW _ _ ?_ g) r)
    · intro q; rw [q, hP] at g; cases g; cases r
    · intro q; rw [q, hP] at g; cases g; cases r
  · refine a7.imp id fun ⟨a, d, m, e, g, r⟩ => (iAEEAA a d m e ?_ r)
    (refine oEEEAA g ?_; try clear g; rintro o es ep ho hd rr)
    exact (iEEEAA o es ep (hW _ _ (fun q => by rw [q, hP] at ho; cases ho; cases hd) ho) hd rr)
theorem plain_ok {W : Wx} {k : Nat} {nm : Str} {f : Addr} (x : ∃ dV kV, FnOk W k nm dV kV f ∧ DfSaid W.h₀ 0 dV ∧ KwSaid W.h₀ 0 kV) : FnOk W k nm .none .none f := by
  (refine oEEAA x ?_; try clear x; rintro dV kV a b c)
  have hd : dV = .none := by rcases b with ⟨_, h⟩ | ⟨h, _⟩ | ⟨h, _⟩; exact h; cases h; cases h
  have hk : kV = .none := by rcases c with ⟨_, h⟩ | ⟨h, _⟩; exact h; cases h
  rw [hd, hk] at a; exact a
theorem one_ok {W : Wx} {k : Nat} {nm : Str} {f : Addr} (x : ∃ dV kV, FnOk W k nm dV kV f ∧ DfSaid W.h₀ 1 dV ∧ KwSaid W.h₀ 0 kV) : ∃ dV, FnOk W k nm dV .none f ∧ TupAt W dV #[.none] := by
  (refine oEEAA x ?_; try clear x; rintro dV kV a b c)
  have hk : kV = .none := by rcases c with ⟨_, h⟩ | ⟨h, _⟩; exact h; cases h
  rw [hk] at a
  refine (iEA dV a ?_)
  rcases b with ⟨h, _⟩ | ⟨_, T, o, n, h1, h2, h3⟩ | ⟨h, _⟩
  · cases h
  · exact (iEEEAA T o n h1 h2 h3)
  · cases h
theorem two_ok {W : Wx} {k : Nat} {nm : Str} {f : Addr} (x : ∃ dV kV, FnOk W k nm dV kV f ∧ DfSaid W.h₀ 2 dV ∧ KwSaid W.h₀ 1 kV) : ∃ (y : Value × Value × Tok), FnOk W k nm y.1 y.2.1 f ∧ TupAt W y.1 #[.int 0 y.2.2, .none] ∧ KeyAt W y.2.1 := by
  (refine oEEAA x ?_; try clear x; rintro dV kV a b c)
  have hk : KeyAt W kV := by rcases c with ⟨h, _⟩ | ⟨_, d, m, h⟩; cases h; exact (iEE d m h)
  rcases b with ⟨h, _⟩ | ⟨h, _⟩ | ⟨_, T, o, n, t, h1, h2, h3⟩
  · cases h
  · cases h
  · exact (iEAA ((dV, kV, t)) a ((iEEEAA T o n h1 h2 h3)) hk)
noncomputable def prog_of {W : Wx} {h : Heap} {P : Addr} (hW : ∀ b o, b ≠ P → h.get? b = some o → W.h₀.get? b = some o) (hP : h.get? P = some (tabObj #[])) (hS : ∀ x ∈ specs, FnSaid h x.1 x.2.1 x.2.2.1 x.2.2.2) (hg : W.gl = glOf h) : Prog W := by
  have S : ∀ (i : Nat) k nm d w, specs[i]? = some (k, nm, d, w) → W.gl.lookup nm = some (.ref (adr h nm)) → ∃ dV kV, FnOk W k nm dV kV (adr h nm) ∧ DfSaid W.h₀ d dV ∧ KwSaid W.h₀ w kV :=
    fun i k nm d w e q => said_ok hW hP (hS _ (List.mem_of_getElem? e)) q
  have s11 := one_ok (S 10 _ _ _ _ rfl (by rw [hg]; rfl))
  have s12 := one_ok (S 11 _ _ _ _ rfl (by rw [hg]; rfl))
  have s14 := two_ok (S 12 _ _ _ _ rfl (by rw [hg]; rfl))
  have s15 := two_ok (S 13 _ _ _ _ rfl (by rw [hg]; rfl))
  exact
  { B := by constructor <;> (rw [hg]; rfl)
    fpush := _, hpush := plain_ok (S 0 _ _ _ _ rfl (by rw [hg]; rfl))
    fhr := _, hhr := plain_ok (S 1 _ _ _ _ rfl (by rw [hg]; rfl))
    fpp := _, hpp := plain_ok (S 2 _ _ _ _ rfl (by rw [hg]; rfl))
    fhy := _, hhy := plain_ok (S 3 _ _ _ _ rfl (by rw [hg]; rfl))
    fhrm := _, hhrm := plain_ok (S 4 _ _ _ _ rfl (by rw [hg]; rfl))
    fhym := _, hhym := plain_ok (S 5 _ _ _ _ rfl (by rw [hg]; rfl))
    fsd := _, hsd := plain_ok (S 6 _ _ _ _ rfl (by rw [hg]; rfl))
    fsu := _, hsu := plain_ok (S 7 _ _ _ _ rfl (by rw [hg]; rfl))
    fsdm := _, hsdm := plain_ok (S 8 _ _ _ _ rfl (by rw [hg]; rfl))
    fsum := _, hsum := plain_ok (S 9 _ _ _ _ rfl (by rw [hg]; rfl))
    fns := _, dns := s11.choose, hns := s11.choose_spec.1, tns := s11.choose_spec.2
    fnl := _, dnl := s12.choose, hnl := s12.choose_spec.1, tnl := s12.choose_spec.2
    fins := _, dins := s14.choose.1, kins := s14.choose.2.1, t1 := s14.choose.2.2, hins := s14.choose_spec.1, tins := s14.choose_spec.2.1
    fbr := _, dbr := s15.choose.1, kbr := s15.choose.2.1, t0 := s15.choose.2.2, hbr := s15.choose_spec.1, tbr := s15.choose_spec.2.1, nbr := s15.choose_spec.2.2
    fth := _, hth := plain_ok (S 14 _ _ _ _ rfl (by rw [hg]; rfl))
    ftu := _, htu := plain_ok (S 15 _ _ _ _ rfl (by rw [hg]; rfl))
    fhs := _, hhs := plain_ok (S 16 _ _ _ _ rfl (by rw [hg]; rfl))
    frs := _, hrs := plain_ok (S 17 _ _ _ _ rfl (by rw [hg]; rfl))
    fle := _, hle := plain_ok (S 18 _ _ _ _ rfl (by rw [hg]; rfl))
    fio := _, hio := plain_ok (S 19 _ _ _ _ rfl (by rw [hg]; rfl)) }
theorem gl_ok {h : Heap} {mg mb : Str → Option Value} (hg : h.Ns mainGlobals mg) (hb : ∀ x : Str, x ≠ "__name__" → mb x = bootBuiltins x) (hS : ∀ x ∈ specs, FnSaid h x.1 x.2.1 x.2.2.1 x.2.2.2) (hB : ∃ m, h.Ns mainGlobals m ∧ ∀ x ∈ bis, m x.1 = none) : ∀ x v, (x, v) ∈ glOf h → (mg x = some v ∨ (mg x = none ∧ mb x = some v)) := by
  intro x v hm
  rcases List.mem_append.mp hm with q | q
  · (refine oEA hB ?_; try clear hB; rintro m h1 h2)
    have := boot_bis _ q
    exact .inr ⟨(hg.agree h1 x).trans (h2 _ q), (hb x this.1).trans this.2⟩
  · (refine oEA (List.mem_map.mp q) ?_; rintro y hy e)
    cases e
    (refine oEEEEEEEEEEAA (hS y hy) ?_; rintro m f _ _ _ _ _ _ _ _ a1 a2 _)
    left
    rw [hg.agree a1, a2, adr_of a1 a2]
theorem law_tab {mean : ExcName → Option Value} {mg mb : Str → Option Value} {h : Heap} (T : Top theView (looseW theView theLoose) mean mg mb h) : ∃ a o fd c P, mg "law" = some (.ref a) ∧ h.get? a = some o ∧ o.data = .func fd ∧ fd.code = .ref c ∧ h.IsCode c P #[] ∧ h.TableAt c P #[] := by
  have : ((recsOf theView).any fun d => d.name == "law") = true := by decide +kernel
  (refine oEA (List.any_eq_true.mp this) ?_; rintro d hd e)
  have e := beq_iff_eq.mp e
  (refine oEEEEEA (T.tab d hd) ?_; rintro a o fd c P h1 r)
  exact (iEEEEEA a o fd c P (e ▸ h1) r)
end Mine
open Mine in
theorem Mine.ws : PySem.Challenge.rw_lg0035_01.wellSaid = true := by
  delta OpenLaw.wellSaid OpenRow.wellSaid OpenRow.partSaid looksOpen
  repeat' with_reducible refine look_both ?_ ?_
  all_goals decide +kernel
open Mine in
theorem PySem.Challenge.cw_lg0035_01_holds : PySem.Challenge.rw_lg0035_01.Holds := by
  w_on
  refine holds_law Mine.ws fun said => ?_
  refine holds_open (q := theView) (loose := theLoose) (Xt := fun s => xlAt theView [] s && recOk [] s) (XP := XL theView []) (Yf := theHook.obs) (Ya := theHook.val) (YP := theHook.says) (N := 1512) theLeft theHook.of theHook.keeps (fun s e => xl_of s (Bool.and_eq_true_iff.mp e).1) XL.keeps (by rfl) (by rfl) (by rfl) (fun s e => recFacts_of (Bool.and_eq_true_iff.mp e).2) (by rfl) (by first | assumption | decide +kernel) (by decide +kernel) ⟨rfl, rfl, rfl, rfl, rfl, by decide +kernel⟩ ?hw ?hc
  case hw => w_witness2
  intro w s₀ s₁ mg mb G Y fa o pm cd doc dV kV ho hd hcd hD hmg hg args vals as hpre hlay hrd hwl hlo
  have T := G.T
  wrow_args hpre hlay hrd hwl hlo
  rename_i ns hs hlay0 hLay hr1 hl2 as1 as2 la vs as3 hL ra hWl r0 hI hr2 hlen htriv
  have hdV : dV = .none := by
    rcases hD.pos with h | h
    · exact h.2
    · exact absurd rfl h.1
  have hkV : kV = .none := by
    rcases hD.kw with h | h
    · exact h.2
    · exact absurd rfl h.1
  subst hdV hkV
  (refine oEEEEEAAAAA (law_tab T) ?_; rintro a o2 fd c P m1 m2 m3 m4 m5 m6)
  have hP : s₁.heap.get? P = some (tabObj #[]) := m6.2
  have ha : a = fa := by
    have q := m1.symm.trans hmg
    cases q
    rfl
  subst ha
  rw [ho] at m2
  cases m2
  rw [hd] at m3
  cases m3
  cases m4
  have hl : s₁.heap.get? la = some { cls := .type "list", data := .seq vs.toArray } := by
    cases hWl with
    | list e _ =>
      (refine oEAAE hL ?_; try clear hL; rintro o' e' _ n' d')
      rw [e] at e'
      cases e'
      cases d'
      exact e
  have nP : ∀ {m : Str → Option Value} {b : Addr}, s₁.heap.Ns b m → b ≠ P := by
    intro m b h q
    (refine oEEEAA h ?_; try clear h; rintro o' es ep e' d' _)
    rw [q, hP] at e'; cases e'; cases d'
  have hbi : ∃ mg, s₁.heap.Ns mainGlobals mg ∧ s₁.heap.BuiltinsAt mg P := by
    (refine oEEAAAAA T.bmain ?_; rintro bm ob b1 b2 b3 b4 b5 b6)
    refine ⟨mg, T.g, bm, ob, b1, b2, fun q => ?_, fun q => ?_, b3, b4, b5, b6⟩
    · (refine oEEEAA T.g ?_; rintro o' es ep e' d' _)
      rw [q, e'] at b3; cases b3; rw [d'] at b6; cases b6
    · rw [q, hP] at b3; cases b3; cases b4
  have nS : cStatics ≠ P := by
    (refine oEA T.nolimit ?_; rintro mc hmc _)
    exact nP hmc
  have hend := law_end (prog := Challenge.rw_lg0035_01.row.prog) (w := w) (s₁ := s₁) (P := P) (gl := glOf s₁.heap) (nol := nol_gone T.nolimit nS) (glo := glo_gone T.g T.b (nP T.g) (nP T.b) (gl_ok T.g T.builtins Y.1 Y.2)) (prog_of (fun b o q e => gone_back b o q e) hP Y.1 rfl) ho hd hcd (.of m5 m6) hP hbi (nP T.g) hl hI (by lia)
  refine wpAny_mono hend (fun v s' h => ?_) fun _ _ x => x.elim
  (refine oAAA h ?_; try clear h; rintro rfl h1 h2 h3)
  refine ⟨.inl (iEEEAAAA _ (.bool true) ([]) rfl ?_ ?_ ?_ ?_), h1, h2, ?_⟩
  · intro cls; rfl
  · exact .bool true
  · kernel_rfl!
  · intro h; exact ⟨.nil, fun a h => nomatch h⟩
  · rw [h3, hg]; intro y hy; simp at hy
end
