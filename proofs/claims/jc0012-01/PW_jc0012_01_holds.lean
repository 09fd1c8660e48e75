import PyProof.Rows.All
import Wide.All
import OpenK.AllK
import Wide.FinOn
import PySem.Challenge.RW_jc0012_01
set_option Elab.async false
set_option linter.unusedVariables false
set_option linter.unusedSimpArgs false
set_option compiler.extract_closed false
section
theorem Mine.fresh1 : True := by w_top off; trivial
namespace Mine
/-- a big goal made opaque while a hypothesis is taken apart -/
theorem opg {P : Prop} (h : ∀ G : Prop, (P → G) → G) : P := h P id
/-- a hypothesis of k things and m facts taken apart at once: p k m -/
theorem p0_5  {A0 A1 A2 A3 A4 : Prop} {G : Prop} (f : A0 → A1 → A2 → A3 → A4 → G) : (A0 ∧ A1 ∧ A2 ∧ A3 ∧ A4) → G := fun h => f h.1 h.2.1 h.2.2.1 h.2.2.2.1 h.2.2.2.2
theorem p2_3 {α0 : Type} {α1 : Type} {A0 A1 A2 : α0 → α1 → Prop} {G : Prop} (f : ∀ x0 x1, A0 x0 x1 → A1 x0 x1 → A2 x0 x1 → G) : (∃ x0 x1, A0 x0 x1 ∧ A1 x0 x1 ∧ A2 x0 x1) → G := fun h => Exists.elim h fun x0 h0 => Exists.elim h0 fun x1 h1 => f x0 x1 h1.1 h1.2.1 h1.2.2
theorem p3_2 {α0 : Type} {α1 : Type} {α2 : Type} {A0 A1 : α0 → α1 → α2 → Prop} {G : Prop} (f : ∀ x0 x1 x2, A0 x0 x1 x2 → A1 x0 x1 x2 → G) : (∃ x0 x1 x2, A0 x0 x1 x2 ∧ A1 x0 x1 x2) → G := fun h => Exists.elim h fun x0 h0 => Exists.elim h0 fun x1 h1 => Exists.elim h1 fun x2 h2 => f x0 x1 x2 h2.1 h2.2
theorem p0_6  {A0 A1 A2 A3 A4 A5 : Prop} {G : Prop} (f : A0 → A1 → A2 → A3 → A4 → A5 → G) : (A0 ∧ A1 ∧ A2 ∧ A3 ∧ A4 ∧ A5) → G := fun h => f h.1 h.2.1 h.2.2.1 h.2.2.2.1 h.2.2.2.2.1 h.2.2.2.2.2
theorem p1_5 {α0 : Type} {A0 A1 A2 A3 A4 : α0 → Prop} {G : Prop} (f : ∀ x0, A0 x0 → A1 x0 → A2 x0 → A3 x0 → A4 x0 → G) : (∃ x0, A0 x0 ∧ A1 x0 ∧ A2 x0 ∧ A3 x0 ∧ A4 x0) → G := fun h => Exists.elim h fun x0 h0 => f x0 h0.1 h0.2.1 h0.2.2.1 h0.2.2.2.1 h0.2.2.2.2
theorem p2_4 {α0 : Type} {α1 : Type} {A0 A1 A2 A3 : α0 → α1 → Prop} {G : Prop} (f : ∀ x0 x1, A0 x0 x1 → A1 x0 x1 → A2 x0 x1 → A3 x0 x1 → G) : (∃ x0 x1, A0 x0 x1 ∧ A1 x0 x1 ∧ A2 x0 x1 ∧ A3 x0 x1) → G := fun h => Exists.elim h fun x0 h0 => Exists.elim h0 fun x1 h1 => f x0 x1 h1.1 h1.2.1 h1.2.2.1 h1.2.2.2
theorem p3_3 {α0 : Type} {α1 : Type} {α2 : Type} {A0 A1 A2 : α0 → α1 → α2 → Prop} {G : Prop} (f : ∀ x0 x1 x2, A0 x0 x1 x2 → A1 x0 x1 x2 → A2 x0 x1 x2 → G) : (∃ x0 x1 x2, A0 x0 x1 x2 ∧ A1 x0 x1 x2 ∧ A2 x0 x1 x2) → G := fun h => Exists.elim h fun x0 h0 => Exists.elim h0 fun x1 h1 => Exists.elim h1 fun x2 h2 => f x0 x1 x2 h2.1 h2.2.1 h2.2.2
theorem p4_2 {α0 : Type} {α1 : Type} {α2 : Type} {α3 : Type} {A0 A1 : α0 → α1 → α2 → α3 → Prop} {G : Prop} (f : ∀ x0 x1 x2 x3, A0 x0 x1 x2 x3 → A1 x0 x1 x2 x3 → G) : (∃ x0 x1 x2 x3, A0 x0 x1 x2 x3 ∧ A1 x0 x1 x2 x3) → G := fun h => Exists.elim h fun x0 h0 => Exists.elim h0 fun x1 h1 => Exists.elim h1 fun x2 h2 => Exists.elim h2 fun x3 h3 => f x0 x1 x2 x3 h3.1 h3.2
theorem p0_7  {A0 A1 A2 A3 A4 A5 A6 : Prop} {G : Prop} (f : A0 → A1 → A2 → A3 → A4 → A5 → A6 → G) : (A0 ∧ A1 ∧ A2 ∧ A3 ∧ A4 ∧ A5 ∧ A6) → G := fun h => f h.1 h.2.1 h.2.2.1 h.2.2.2.1 h.2.2.2.2.1 h.2.2.2.2.2.1 h.2.2.2.2.2.2
theorem p3_4 {α0 : Type} {α1 : Type} {α2 : Type} {A0 A1 A2 A3 : α0 → α1 → α2 → Prop} {G : Prop} (f : ∀ x0 x1 x2, A0 x0 x1 x2 → A1 x0 x1 x2 → A2 x0 x1 x2 → A3 x0 x1 x2 → G) : (∃ x0 x1 x2, A0 x0 x1 x2 ∧ A1 x0 x1 x2 ∧ A2 x0 x1 x2 ∧ A3 x0 x1 x2) → G := fun h => Exists.elim h fun x0 h0 => Exists.elim h0 fun x1 h1 => Exists.elim h1 fun x2 h2 => f x0 x1 x2 h2.1 h2.2.1 h2.2.2.1 h2.2.2.2
theorem p4_3 {α0 : Type} {α1 : Type} {α2 : Type} {α3 : Type} {A0 A1 A2 : α0 → α1 → α2 → α3 → Prop} {G : Prop} (f : ∀ x0 x1 x2 x3, A0 x0 x1 x2 x3 → A1 x0 x1 x2 x3 → A2 x0 x1 x2 x3 → G) : (∃ x0 x1 x2 x3, A0 x0 x1 x2 x3 ∧ A1 x0 x1 x2 x3 ∧ A2 x0 x1 x2 x3) → G := fun h => Exists.elim h fun x0 h0 => Exists.elim h0 fun x1 h1 => Exists.elim h1 fun x2 h2 => Exists.elim h2 fun x3 h3 => f x0 x1 x2 x3 h3.1 h3.2.1 h3.2.2
theorem p3_5 {α0 : Type} {α1 : Type} {α2 : Type} {A0 A1 A2 A3 A4 : α0 → α1 → α2 → Prop} {G : Prop} (f : ∀ x0 x1 x2, A0 x0 x1 x2 → A1 x0 x1 x2 → A2 x0 x1 x2 → A3 x0 x1 x2 → A4 x0 x1 x2 → G) : (∃ x0 x1 x2, A0 x0 x1 x2 ∧ A1 x0 x1 x2 ∧ A2 x0 x1 x2 ∧ A3 x0 x1 x2 ∧ A4 x0 x1 x2) → G := fun h => Exists.elim h fun x0 h0 => Exists.elim h0 fun x1 h1 => Exists.elim h1 fun x2 h2 => f x0 x1 x2 h2.1 h2.2.1 h2.2.2.1 h2.2.2.2.1 h2.2.2.2.2
theorem p4_4 {α0 : Type} {α1 : Type} {α2 : Type} {α3 : Type} {A0 A1 A2 A3 : α0 → α1 → α2 → α3 → Prop} {G : Prop} (f : ∀ x0 x1 x2 x3, A0 x0 x1 x2 x3 → A1 x0 x1 x2 x3 → A2 x0 x1 x2 x3 → A3 x0 x1 x2 x3 → G) : (∃ x0 x1 x2 x3, A0 x0 x1 x2 x3 ∧ A1 x0 x1 x2 x3 ∧ A2 x0 x1 x2 x3 ∧ A3 x0 x1 x2 x3) → G := fun h => Exists.elim h fun x0 h0 => Exists.elim h0 fun x1 h1 => Exists.elim h1 fun x2 h2 => Exists.elim h2 fun x3 h3 => f x0 x1 x2 x3 h3.1 h3.2.1 h3.2.2.1 h3.2.2.2
theorem p2_7 {α0 : Type} {α1 : Type} {A0 A1 A2 A3 A4 A5 A6 : α0 → α1 → Prop} {G : Prop} (f : ∀ x0 x1, A0 x0 x1 → A1 x0 x1 → A2 x0 x1 → A3 x0 x1 → A4 x0 x1 → A5 x0 x1 → A6 x0 x1 → G) : (∃ x0 x1, A0 x0 x1 ∧ A1 x0 x1 ∧ A2 x0 x1 ∧ A3 x0 x1 ∧ A4 x0 x1 ∧ A5 x0 x1 ∧ A6 x0 x1) → G := fun h => Exists.elim h fun x0 h0 => Exists.elim h0 fun x1 h1 => f x0 x1 h1.1 h1.2.1 h1.2.2.1 h1.2.2.2.1 h1.2.2.2.2.1 h1.2.2.2.2.2.1 h1.2.2.2.2.2.2
theorem p3_6 {α0 : Type} {α1 : Type} {α2 : Type} {A0 A1 A2 A3 A4 A5 : α0 → α1 → α2 → Prop} {G : Prop} (f : ∀ x0 x1 x2, A0 x0 x1 x2 → A1 x0 x1 x2 → A2 x0 x1 x2 → A3 x0 x1 x2 → A4 x0 x1 x2 → A5 x0 x1 x2 → G) : (∃ x0 x1 x2, A0 x0 x1 x2 ∧ A1 x0 x1 x2 ∧ A2 x0 x1 x2 ∧ A3 x0 x1 x2 ∧ A4 x0 x1 x2 ∧ A5 x0 x1 x2) → G := fun h => Exists.elim h fun x0 h0 => Exists.elim h0 fun x1 h1 => Exists.elim h1 fun x2 h2 => f x0 x1 x2 h2.1 h2.2.1 h2.2.2.1 h2.2.2.2.1 h2.2.2.2.2.1 h2.2.2.2.2.2
theorem p4_5 {α0 : Type} {α1 : Type} {α2 : Type} {α3 : Type} {A0 A1 A2 A3 A4 : α0 → α1 → α2 → α3 → Prop} {G : Prop} (f : ∀ x0 x1 x2 x3, A0 x0 x1 x2 x3 → A1 x0 x1 x2 x3 → A2 x0 x1 x2 x3 → A3 x0 x1 x2 x3 → A4 x0 x1 x2 x3 → G) : (∃ x0 x1 x2 x3, A0 x0 x1 x2 x3 ∧ A1 x0 x1 x2 x3 ∧ A2 x0 x1 x2 x3 ∧ A3 x0 x1 x2 x3 ∧ A4 x0 x1 x2 x3) → G := fun h => Exists.elim h fun x0 h0 => Exists.elim h0 fun x1 h1 => Exists.elim h1 fun x2 h2 => Exists.elim h2 fun x3 h3 => f x0 x1 x2 x3 h3.1 h3.2.1 h3.2.2.1 h3.2.2.2.1 h3.2.2.2.2
theorem p5_4 {α0 : Type} {α1 : Type} {α2 : Type} {α3 : Type} {α4 : Type} {A0 A1 A2 A3 : α0 → α1 → α2 → α3 → α4 → Prop} {G : Prop} (f : ∀ x0 x1 x2 x3 x4, A0 x0 x1 x2 x3 x4 → A1 x0 x1 x2 x3 x4 → A2 x0 x1 x2 x3 x4 → A3 x0 x1 x2 x3 x4 → G) : (∃ x0 x1 x2 x3 x4, A0 x0 x1 x2 x3 x4 ∧ A1 x0 x1 x2 x3 x4 ∧ A2 x0 x1 x2 x3 x4 ∧ A3 x0 x1 x2 x3 x4) → G := fun h => Exists.elim h fun x0 h0 => Exists.elim h0 fun x1 h1 => Exists.elim h1 fun x2 h2 => Exists.elim h2 fun x3 h3 => Exists.elim h3 fun x4 h4 => f x0 x1 x2 x3 x4 h4.1 h4.2.1 h4.2.2.1 h4.2.2.2
theorem p6_3 {α0 : Type} {α1 : Type} {α2 : Type} {α3 : Type} {α4 : Type} {α5 : Type} {A0 A1 A2 : α0 → α1 → α2 → α3 → α4 → α5 → Prop} {G : Prop} (f : ∀ x0 x1 x2 x3 x4 x5, A0 x0 x1 x2 x3 x4 x5 → A1 x0 x1 x2 x3 x4 x5 → A2 x0 x1 x2 x3 x4 x5 → G) : (∃ x0 x1 x2 x3 x4 x5, A0 x0 x1 x2 x3 x4 x5 ∧ A1 x0 x1 x2 x3 x4 x5 ∧ A2 x0 x1 x2 x3 x4 x5) → G := fun h => Exists.elim h fun x0 h0 => Exists.elim h0 fun x1 h1 => Exists.elim h1 fun x2 h2 => Exists.elim h2 fun x3 h3 => Exists.elim h3 fun x4 h4 => Exists.elim h4 fun x5 h5 => f x0 x1 x2 x3 x4 x5 h5.1 h5.2.1 h5.2.2
theorem p4_6 {α0 : Type} {α1 : Type} {α2 : Type} {α3 : Type} {A0 A1 A2 A3 A4 A5 : α0 → α1 → α2 → α3 → Prop} {G : Prop} (f : ∀ x0 x1 x2 x3, A0 x0 x1 x2 x3 → A1 x0 x1 x2 x3 → A2 x0 x1 x2 x3 → A3 x0 x1 x2 x3 → A4 x0 x1 x2 x3 → A5 x0 x1 x2 x3 → G) : (∃ x0 x1 x2 x3, A0 x0 x1 x2 x3 ∧ A1 x0 x1 x2 x3 ∧ A2 x0 x1 x2 x3 ∧ A3 x0 x1 x2 x3 ∧ A4 x0 x1 x2 x3 ∧ A5 x0 x1 x2 x3) → G := fun h => Exists.elim h fun x0 h0 => Exists.elim h0 fun x1 h1 => Exists.elim h1 fun x2 h2 => Exists.elim h2 fun x3 h3 => f x0 x1 x2 x3 h3.1 h3.2.1 h3.2.2.1 h3.2.2.2.1 h3.2.2.2.2.1 h3.2.2.2.2.2
theorem p6_4 {α0 : Type} {α1 : Type} {α2 : Type} {α3 : Type} {α4 : Type} {α5 : Type} {A0 A1 A2 A3 : α0 → α1 → α2 → α3 → α4 → α5 → Prop} {G : Prop} (f : ∀ x0 x1 x2 x3 x4 x5, A0 x0 x1 x2 x3 x4 x5 → A1 x0 x1 x2 x3 x4 x5 → A2 x0 x1 x2 x3 x4 x5 → A3 x0 x1 x2 x3 x4 x5 → G) : (∃ x0 x1 x2 x3 x4 x5, A0 x0 x1 x2 x3 x4 x5 ∧ A1 x0 x1 x2 x3 x4 x5 ∧ A2 x0 x1 x2 x3 x4 x5 ∧ A3 x0 x1 x2 x3 x4 x5) → G := fun h => Exists.elim h fun x0 h0 => Exists.elim h0 fun x1 h1 => Exists.elim h1 fun x2 h2 => Exists.elim h2 fun x3 h3 => Exists.elim h3 fun x4 h4 => Exists.elim h4 fun x5 h5 => f x0 x1 x2 x3 x4 x5 h5.1 h5.2.1 h5.2.2.1 h5.2.2.2
theorem p4_7 {α0 : Type} {α1 : Type} {α2 : Type} {α3 : Type} {A0 A1 A2 A3 A4 A5 A6 : α0 → α1 → α2 → α3 → Prop} {G : Prop} (f : ∀ x0 x1 x2 x3, A0 x0 x1 x2 x3 → A1 x0 x1 x2 x3 → A2 x0 x1 x2 x3 → A3 x0 x1 x2 x3 → A4 x0 x1 x2 x3 → A5 x0 x1 x2 x3 → A6 x0 x1 x2 x3 → G) : (∃ x0 x1 x2 x3, A0 x0 x1 x2 x3 ∧ A1 x0 x1 x2 x3 ∧ A2 x0 x1 x2 x3 ∧ A3 x0 x1 x2 x3 ∧ A4 x0 x1 x2 x3 ∧ A5 x0 x1 x2 x3 ∧ A6 x0 x1 x2 x3) → G := fun h => Exists.elim h fun x0 h0 => Exists.elim h0 fun x1 h1 => Exists.elim h1 fun x2 h2 => Exists.elim h2 fun x3 h3 => f x0 x1 x2 x3 h3.1 h3.2.1 h3.2.2.1 h3.2.2.2.1 h3.2.2.2.2.1 h3.2.2.2.2.2.1 h3.2.2.2.2.2.2
theorem p6_5 {α0 : Type} {α1 : Type} {α2 : Type} {α3 : Type} {α4 : Type} {α5 : Type} {A0 A1 A2 A3 A4 : α0 → α1 → α2 → α3 → α4 → α5 → Prop} {G : Prop} (f : ∀ x0 x1 x2 x3 x4 x5, A0 x0 x1 x2 x3 x4 x5 → A1 x0 x1 x2 x3 x4 x5 → A2 x0 x1 x2 x3 x4 x5 → A3 x0 x1 x2 x3 x4 x5 → A4 x0 x1 x2 x3 x4 x5 → G) : (∃ x0 x1 x2 x3 x4 x5, A0 x0 x1 x2 x3 x4 x5 ∧ A1 x0 x1 x2 x3 x4 x5 ∧ A2 x0 x1 x2 x3 x4 x5 ∧ A3 x0 x1 x2 x3 x4 x5 ∧ A4 x0 x1 x2 x3 x4 x5) → G := fun h => Exists.elim h fun x0 h0 => Exists.elim h0 fun x1 h1 => Exists.elim h1 fun x2 h2 => Exists.elim h2 fun x3 h3 => Exists.elim h3 fun x4 h4 => Exists.elim h4 fun x5 h5 => f x0 x1 x2 x3 x4 x5 h5.1 h5.2.1 h5.2.2.1 h5.2.2.2.1 h5.2.2.2.2
theorem p3_9 {α0 : Type} {α1 : Type} {α2 : Type} {A0 A1 A2 A3 A4 A5 A6 A7 A8 : α0 → α1 → α2 → Prop} {G : Prop} (f : ∀ x0 x1 x2, A0 x0 x1 x2 → A1 x0 x1 x2 → A2 x0 x1 x2 → A3 x0 x1 x2 → A4 x0 x1 x2 → A5 x0 x1 x2 → A6 x0 x1 x2 → A7 x0 x1 x2 → A8 x0 x1 x2 → G) : (∃ x0 x1 x2, A0 x0 x1 x2 ∧ A1 x0 x1 x2 ∧ A2 x0 x1 x2 ∧ A3 x0 x1 x2 ∧ A4 x0 x1 x2 ∧ A5 x0 x1 x2 ∧ A6 x0 x1 x2 ∧ A7 x0 x1 x2 ∧ A8 x0 x1 x2) → G := fun h => Exists.elim h fun x0 h0 => Exists.elim h0 fun x1 h1 => Exists.elim h1 fun x2 h2 => f x0 x1 x2 h2.1 h2.2.1 h2.2.2.1 h2.2.2.2.1 h2.2.2.2.2.1 h2.2.2.2.2.2.1 h2.2.2.2.2.2.2.1 h2.2.2.2.2.2.2.2.1 h2.2.2.2.2.2.2.2.2
theorem p4_8 {α0 : Type} {α1 : Type} {α2 : Type} {α3 : Type} {A0 A1 A2 A3 A4 A5 A6 A7 : α0 → α1 → α2 → α3 → Prop} {G : Prop} (f : ∀ x0 x1 x2 x3, A0 x0 x1 x2 x3 → A1 x0 x1 x2 x3 → A2 x0 x1 x2 x3 → A3 x0 x1 x2 x3 → A4 x0 x1 x2 x3 → A5 x0 x1 x2 x3 → A6 x0 x1 x2 x3 → A7 x0 x1 x2 x3 → G) : (∃ x0 x1 x2 x3, A0 x0 x1 x2 x3 ∧ A1 x0 x1 x2 x3 ∧ A2 x0 x1 x2 x3 ∧ A3 x0 x1 x2 x3 ∧ A4 x0 x1 x2 x3 ∧ A5 x0 x1 x2 x3 ∧ A6 x0 x1 x2 x3 ∧ A7 x0 x1 x2 x3) → G := fun h => Exists.elim h fun x0 h0 => Exists.elim h0 fun x1 h1 => Exists.elim h1 fun x2 h2 => Exists.elim h2 fun x3 h3 => f x0 x1 x2 x3 h3.1 h3.2.1 h3.2.2.1 h3.2.2.2.1 h3.2.2.2.2.1 h3.2.2.2.2.2.1 h3.2.2.2.2.2.2.1 h3.2.2.2.2.2.2.2
theorem p5_7 {α0 : Type} {α1 : Type} {α2 : Type} {α3 : Type} {α4 : Type} {A0 A1 A2 A3 A4 A5 A6 : α0 → α1 → α2 → α3 → α4 → Prop} {G : Prop} (f : ∀ x0 x1 x2 x3 x4, A0 x0 x1 x2 x3 x4 → A1 x0 x1 x2 x3 x4 → A2 x0 x1 x2 x3 x4 → A3 x0 x1 x2 x3 x4 → A4 x0 x1 x2 x3 x4 → A5 x0 x1 x2 x3 x4 → A6 x0 x1 x2 x3 x4 → G) : (∃ x0 x1 x2 x3 x4, A0 x0 x1 x2 x3 x4 ∧ A1 x0 x1 x2 x3 x4 ∧ A2 x0 x1 x2 x3 x4 ∧ A3 x0 x1 x2 x3 x4 ∧ A4 x0 x1 x2 x3 x4 ∧ A5 x0 x1 x2 x3 x4 ∧ A6 x0 x1 x2 x3 x4) → G := fun h => Exists.elim h fun x0 h0 => Exists.elim h0 fun x1 h1 => Exists.elim h1 fun x2 h2 => Exists.elim h2 fun x3 h3 => Exists.elim h3 fun x4 h4 => f x0 x1 x2 x3 x4 h4.1 h4.2.1 h4.2.2.1 h4.2.2.2.1 h4.2.2.2.2.1 h4.2.2.2.2.2.1 h4.2.2.2.2.2.2
theorem p6_6 {α0 : Type} {α1 : Type} {α2 : Type} {α3 : Type} {α4 : Type} {α5 : Type} {A0 A1 A2 A3 A4 A5 : α0 → α1 → α2 → α3 → α4 → α5 → Prop} {G : Prop} (f : ∀ x0 x1 x2 x3 x4 x5, A0 x0 x1 x2 x3 x4 x5 → A1 x0 x1 x2 x3 x4 x5 → A2 x0 x1 x2 x3 x4 x5 → A3 x0 x1 x2 x3 x4 x5 → A4 x0 x1 x2 x3 x4 x5 → A5 x0 x1 x2 x3 x4 x5 → G) : (∃ x0 x1 x2 x3 x4 x5, A0 x0 x1 x2 x3 x4 x5 ∧ A1 x0 x1 x2 x3 x4 x5 ∧ A2 x0 x1 x2 x3 x4 x5 ∧ A3 x0 x1 x2 x3 x4 x5 ∧ A4 x0 x1 x2 x3 x4 x5 ∧ A5 x0 x1 x2 x3 x4 x5) → G := fun h => Exists.elim h fun x0 h0 => Exists.elim h0 fun x1 h1 => Exists.elim h1 fun x2 h2 => Exists.elim h2 fun x3 h3 => Exists.elim h3 fun x4 h4 => Exists.elim h4 fun x5 h5 => f x0 x1 x2 x3 x4 x5 h5.1 h5.2.1 h5.2.2.1 h5.2.2.2.1 h5.2.2.2.2.1 h5.2.2.2.2.2
theorem p7_5 {α0 : Type} {α1 : Type} {α2 : Type} {α3 : Type} {α4 : Type} {α5 : Type} {α6 : Type} {A0 A1 A2 A3 A4 : α0 → α1 → α2 → α3 → α4 → α5 → α6 → Prop} {G : Prop} (f : ∀ x0 x1 x2 x3 x4 x5 x6, A0 x0 x1 x2 x3 x4 x5 x6 → A1 x0 x1 x2 x3 x4 x5 x6 → A2 x0 x1 x2 x3 x4 x5 x6 → A3 x0 x1 x2 x3 x4 x5 x6 → A4 x0 x1 x2 x3 x4 x5 x6 → G) : (∃ x0 x1 x2 x3 x4 x5 x6, A0 x0 x1 x2 x3 x4 x5 x6 ∧ A1 x0 x1 x2 x3 x4 x5 x6 ∧ A2 x0 x1 x2 x3 x4 x5 x6 ∧ A3 x0 x1 x2 x3 x4 x5 x6 ∧ A4 x0 x1 x2 x3 x4 x5 x6) → G := fun h => Exists.elim h fun x0 h0 => Exists.elim h0 fun x1 h1 => Exists.elim h1 fun x2 h2 => Exists.elim h2 fun x3 h3 => Exists.elim h3 fun x4 h4 => Exists.elim h4 fun x5 h5 => Exists.elim h5 fun x6 h6 => f x0 x1 x2 x3 x4 x5 x6 h6.1 h6.2.1 h6.2.2.1 h6.2.2.2.1 h6.2.2.2.2
theorem p5_8 {α0 : Type} {α1 : Type} {α2 : Type} {α3 : Type} {α4 : Type} {A0 A1 A2 A3 A4 A5 A6 A7 : α0 → α1 → α2 → α3 → α4 → Prop} {G : Prop} (f : ∀ x0 x1 x2 x3 x4, A0 x0 x1 x2 x3 x4 → A1 x0 x1 x2 x3 x4 → A2 x0 x1 x2 x3 x4 → A3 x0 x1 x2 x3 x4 → A4 x0 x1 x2 x3 x4 → A5 x0 x1 x2 x3 x4 → A6 x0 x1 x2 x3 x4 → A7 x0 x1 x2 x3 x4 → G) : (∃ x0 x1 x2 x3 x4, A0 x0 x1 x2 x3 x4 ∧ A1 x0 x1 x2 x3 x4 ∧ A2 x0 x1 x2 x3 x4 ∧ A3 x0 x1 x2 x3 x4 ∧ A4 x0 x1 x2 x3 x4 ∧ A5 x0 x1 x2 x3 x4 ∧ A6 x0 x1 x2 x3 x4 ∧ A7 x0 x1 x2 x3 x4) → G := fun h => Exists.elim h fun x0 h0 => Exists.elim h0 fun x1 h1 => Exists.elim h1 fun x2 h2 => Exists.elim h2 fun x3 h3 => Exists.elim h3 fun x4 h4 => f x0 x1 x2 x3 x4 h4.1 h4.2.1 h4.2.2.1 h4.2.2.2.1 h4.2.2.2.2.1 h4.2.2.2.2.2.1 h4.2.2.2.2.2.2.1 h4.2.2.2.2.2.2.2
theorem p8_5 {α0 : Type} {α1 : Type} {α2 : Type} {α3 : Type} {α4 : Type} {α5 : Type} {α6 : Type} {α7 : Type} {A0 A1 A2 A3 A4 : α0 → α1 → α2 → α3 → α4 → α5 → α6 → α7 → Prop} {G : Prop} (f : ∀ x0 x1 x2 x3 x4 x5 x6 x7, A0 x0 x1 x2 x3 x4 x5 x6 x7 → A1 x0 x1 x2 x3 x4 x5 x6 x7 → A2 x0 x1 x2 x3 x4 x5 x6 x7 → A3 x0 x1 x2 x3 x4 x5 x6 x7 → A4 x0 x1 x2 x3 x4 x5 x6 x7 → G) : (∃ x0 x1 x2 x3 x4 x5 x6 x7, A0 x0 x1 x2 x3 x4 x5 x6 x7 ∧ A1 x0 x1 x2 x3 x4 x5 x6 x7 ∧ A2 x0 x1 x2 x3 x4 x5 x6 x7 ∧ A3 x0 x1 x2 x3 x4 x5 x6 x7 ∧ A4 x0 x1 x2 x3 x4 x5 x6 x7) → G := fun h => Exists.elim h fun x0 h0 => Exists.elim h0 fun x1 h1 => Exists.elim h1 fun x2 h2 => Exists.elim h2 fun x3 h3 => Exists.elim h3 fun x4 h4 => Exists.elim h4 fun x5 h5 => Exists.elim h5 fun x6 h6 => Exists.elim h6 fun x7 h7 => f x0 x1 x2 x3 x4 x5 x6 x7 h7.1 h7.2.1 h7.2.2.1 h7.2.2.2.1 h7.2.2.2.2
theorem p6_9 {α0 : Type} {α1 : Type} {α2 : Type} {α3 : Type} {α4 : Type} {α5 : Type} {A0 A1 A2 A3 A4 A5 A6 A7 A8 : α0 → α1 → α2 → α3 → α4 → α5 → Prop} {G : Prop} (f : ∀ x0 x1 x2 x3 x4 x5, A0 x0 x1 x2 x3 x4 x5 → A1 x0 x1 x2 x3 x4 x5 → A2 x0 x1 x2 x3 x4 x5 → A3 x0 x1 x2 x3 x4 x5 → A4 x0 x1 x2 x3 x4 x5 → A5 x0 x1 x2 x3 x4 x5 → A6 x0 x1 x2 x3 x4 x5 → A7 x0 x1 x2 x3 x4 x5 → A8 x0 x1 x2 x3 x4 x5 → G) : (∃ x0 x1 x2 x3 x4 x5, A0 x0 x1 x2 x3 x4 x5 ∧ A1 x0 x1 x2 x3 x4 x5 ∧ A2 x0 x1 x2 x3 x4 x5 ∧ A3 x0 x1 x2 x3 x4 x5 ∧ A4 x0 x1 x2 x3 x4 x5 ∧ A5 x0 x1 x2 x3 x4 x5 ∧ A6 x0 x1 x2 x3 x4 x5 ∧ A7 x0 x1 x2 x3 x4 x5 ∧ A8 x0 x1 x2 x3 x4 x5) → G := fun h => Exists.elim h fun x0 h0 => Exists.elim h0 fun x1 h1 => Exists.elim h1 fun x2 h2 => Exists.elim h2 fun x3 h3 => Exists.elim h3 fun x4 h4 => Exists.elim h4 fun x5 h5 => f x0 x1 x2 x3 x4 x5 h5.1 h5.2.1 h5.2.2.1 h5.2.2.2.1 h5.2.2.2.2.1 h5.2.2.2.2.2.1 h5.2.2.2.2.2.2.1 h5.2.2.2.2.2.2.2.1 h5.2.2.2.2.2.2.2.2
theorem p7_8 {α0 : Type} {α1 : Type} {α2 : Type} {α3 : Type} {α4 : Type} {α5 : Type} {α6 : Type} {A0 A1 A2 A3 A4 A5 A6 A7 : α0 → α1 → α2 → α3 → α4 → α5 → α6 → Prop} {G : Prop} (f : ∀ x0 x1 x2 x3 x4 x5 x6, A0 x0 x1 x2 x3 x4 x5 x6 → A1 x0 x1 x2 x3 x4 x5 x6 → A2 x0 x1 x2 x3 x4 x5 x6 → A3 x0 x1 x2 x3 x4 x5 x6 → A4 x0 x1 x2 x3 x4 x5 x6 → A5 x0 x1 x2 x3 x4 x5 x6 → A6 x0 x1 x2 x3 x4 x5 x6 → A7 x0 x1 x2 x3 x4 x5 x6 → G) : (∃ x0 x1 x2 x3 x4 x5 x6, A0 x0 x1 x2 x3 x4 x5 x6 ∧ A1 x0 x1 x2 x3 x4 x5 x6 ∧ A2 x0 x1 x2 x3 x4 x5 x6 ∧ A3 x0 x1 x2 x3 x4 x5 x6 ∧ A4 x0 x1 x2 x3 x4 x5 x6 ∧ A5 x0 x1 x2 x3 x4 x5 x6 ∧ A6 x0 x1 x2 x3 x4 x5 x6 ∧ A7 x0 x1 x2 x3 x4 x5 x6) → G := fun h => Exists.elim h fun x0 h0 => Exists.elim h0 fun x1 h1 => Exists.elim h1 fun x2 h2 => Exists.elim h2 fun x3 h3 => Exists.elim h3 fun x4 h4 => Exists.elim h4 fun x5 h5 => Exists.elim h5 fun x6 h6 => f x0 x1 x2 x3 x4 x5 x6 h6.1 h6.2.1 h6.2.2.1 h6.2.2.2.1 h6.2.2.2.2.1 h6.2.2.2.2.2.1 h6.2.2.2.2.2.2.1 h6.2.2.2.2.2.2.2
theorem p8_7 {α0 : Type} {α1 : Type} {α2 : Type} {α3 : Type} {α4 : Type} {α5 : Type} {α6 : Type} {α7 : Type} {A0 A1 A2 A3 A4 A5 A6 : α0 → α1 → α2 → α3 → α4 → α5 → α6 → α7 → Prop} {G : Prop} (f : ∀ x0 x1 x2 x3 x4 x5 x6 x7, A0 x0 x1 x2 x3 x4 x5 x6 x7 → A1 x0 x1 x2 x3 x4 x5 x6 x7 → A2 x0 x1 x2 x3 x4 x5 x6 x7 → A3 x0 x1 x2 x3 x4 x5 x6 x7 → A4 x0 x1 x2 x3 x4 x5 x6 x7 → A5 x0 x1 x2 x3 x4 x5 x6 x7 → A6 x0 x1 x2 x3 x4 x5 x6 x7 → G) : (∃ x0 x1 x2 x3 x4 x5 x6 x7, A0 x0 x1 x2 x3 x4 x5 x6 x7 ∧ A1 x0 x1 x2 x3 x4 x5 x6 x7 ∧ A2 x0 x1 x2 x3 x4 x5 x6 x7 ∧ A3 x0 x1 x2 x3 x4 x5 x6 x7 ∧ A4 x0 x1 x2 x3 x4 x5 x6 x7 ∧ A5 x0 x1 x2 x3 x4 x5 x6 x7 ∧ A6 x0 x1 x2 x3 x4 x5 x6 x7) → G := fun h => Exists.elim h fun x0 h0 => Exists.elim h0 fun x1 h1 => Exists.elim h1 fun x2 h2 => Exists.elim h2 fun x3 h3 => Exists.elim h3 fun x4 h4 => Exists.elim h4 fun x5 h5 => Exists.elim h5 fun x6 h6 => Exists.elim h6 fun x7 h7 => f x0 x1 x2 x3 x4 x5 x6 x7 h7.1 h7.2.1 h7.2.2.1 h7.2.2.2.1 h7.2.2.2.2.1 h7.2.2.2.2.2.1 h7.2.2.2.2.2.2
theorem p9_6 {α0 : Type} {α1 : Type} {α2 : Type} {α3 : Type} {α4 : Type} {α5 : Type} {α6 : Type} {α7 : Type} {α8 : Type} {A0 A1 A2 A3 A4 A5 : α0 → α1 → α2 → α3 → α4 → α5 → α6 → α7 → α8 → Prop} {G : Prop} (f : ∀ x0 x1 x2 x3 x4 x5 x6 x7 x8, A0 x0 x1 x2 x3 x4 x5 x6 x7 x8 → A1 x0 x1 x2 x3 x4 x5 x6 x7 x8 → A2 x0 x1 x2 x3 x4 x5 x6 x7 x8 → A3 x0 x1 x2 x3 x4 x5 x6 x7 x8 → A4 x0 x1 x2 x3 x4 x5 x6 x7 x8 → A5 x0 x1 x2 x3 x4 x5 x6 x7 x8 → G) : (∃ x0 x1 x2 x3 x4 x5 x6 x7 x8, A0 x0 x1 x2 x3 x4 x5 x6 x7 x8 ∧ A1 x0 x1 x2 x3 x4 x5 x6 x7 x8 ∧ A2 x0 x1 x2 x3 x4 x5 x6 x7 x8 ∧ A3 x0 x1 x2 x3 x4 x5 x6 x7 x8 ∧ A4 x0 x1 x2 x3 x4 x5 x6 x7 x8 ∧ A5 x0 x1 x2 x3 x4 x5 x6 x7 x8) → G := fun h => Exists.elim h fun x0 h0 => Exists.elim h0 fun x1 h1 => Exists.elim h1 fun x2 h2 => Exists.elim h2 fun x3 h3 => Exists.elim h3 fun x4 h4 => Exists.elim h4 fun x5 h5 => Exists.elim h5 fun x6 h6 => Exists.elim h6 fun x7 h7 => Exists.elim h7 fun x8 h8 => f x0 x1 x2 x3 x4 x5 x6 x7 x8 h8.1 h8.2.1 h8.2.2.1 h8.2.2.2.1 h8.2.2.2.2.1 h8.2.2.2.2.2
theorem p6_10 {α0 : Type} {α1 : Type} {α2 : Type} {α3 : Type} {α4 : Type} {α5 : Type} {A0 A1 A2 A3 A4 A5 A6 A7 A8 A9 : α0 → α1 → α2 → α3 → α4 → α5 → Prop} {G : Prop} (f : ∀ x0 x1 x2 x3 x4 x5, A0 x0 x1 x2 x3 x4 x5 → A1 x0 x1 x2 x3 x4 x5 → A2 x0 x1 x2 x3 x4 x5 → A3 x0 x1 x2 x3 x4 x5 → A4 x0 x1 x2 x3 x4 x5 → A5 x0 x1 x2 x3 x4 x5 → A6 x0 x1 x2 x3 x4 x5 → A7 x0 x1 x2 x3 x4 x5 → A8 x0 x1 x2 x3 x4 x5 → A9 x0 x1 x2 x3 x4 x5 → G) : (∃ x0 x1 x2 x3 x4 x5, A0 x0 x1 x2 x3 x4 x5 ∧ A1 x0 x1 x2 x3 x4 x5 ∧ A2 x0 x1 x2 x3 x4 x5 ∧ A3 x0 x1 x2 x3 x4 x5 ∧ A4 x0 x1 x2 x3 x4 x5 ∧ A5 x0 x1 x2 x3 x4 x5 ∧ A6 x0 x1 x2 x3 x4 x5 ∧ A7 x0 x1 x2 x3 x4 x5 ∧ A8 x0 x1 x2 x3 x4 x5 ∧ A9 x0 x1 x2 x3 x4 x5) → G := fun h => Exists.elim h fun x0 h0 => Exists.elim h0 fun x1 h1 => Exists.elim h1 fun x2 h2 => Exists.elim h2 fun x3 h3 => Exists.elim h3 fun x4 h4 => Exists.elim h4 fun x5 h5 => f x0 x1 x2 x3 x4 x5 h5.1 h5.2.1 h5.2.2.1 h5.2.2.2.1 h5.2.2.2.2.1 h5.2.2.2.2.2.1 h5.2.2.2.2.2.2.1 h5.2.2.2.2.2.2.2.1 h5.2.2.2.2.2.2.2.2.1 h5.2.2.2.2.2.2.2.2.2
theorem p8_9 {α0 : Type} {α1 : Type} {α2 : Type} {α3 : Type} {α4 : Type} {α5 : Type} {α6 : Type} {α7 : Type} {A0 A1 A2 A3 A4 A5 A6 A7 A8 : α0 → α1 → α2 → α3 → α4 → α5 → α6 → α7 → Prop} {G : Prop} (f : ∀ x0 x1 x2 x3 x4 x5 x6 x7, A0 x0 x1 x2 x3 x4 x5 x6 x7 → A1 x0 x1 x2 x3 x4 x5 x6 x7 → A2 x0 x1 x2 x3 x4 x5 x6 x7 → A3 x0 x1 x2 x3 x4 x5 x6 x7 → A4 x0 x1 x2 x3 x4 x5 x6 x7 → A5 x0 x1 x2 x3 x4 x5 x6 x7 → A6 x0 x1 x2 x3 x4 x5 x6 x7 → A7 x0 x1 x2 x3 x4 x5 x6 x7 → A8 x0 x1 x2 x3 x4 x5 x6 x7 → G) : (∃ x0 x1 x2 x3 x4 x5 x6 x7, A0 x0 x1 x2 x3 x4 x5 x6 x7 ∧ A1 x0 x1 x2 x3 x4 x5 x6 x7 ∧ A2 x0 x1 x2 x3 x4 x5 x6 x7 ∧ A3 x0 x1 x2 x3 x4 x5 x6 x7 ∧ A4 x0 x1 x2 x3 x4 x5 x6 x7 ∧ A5 x0 x1 x2 x3 x4 x5 x6 x7 ∧ A6 x0 x1 x2 x3 x4 x5 x6 x7 ∧ A7 x0 x1 x2 x3 x4 x5 x6 x7 ∧ A8 x0 x1 x2 x3 x4 x5 x6 x7) → G := fun h => Exists.elim h fun x0 h0 => Exists.elim h0 fun x1 h1 => Exists.elim h1 fun x2 h2 => Exists.elim h2 fun x3 h3 => Exists.elim h3 fun x4 h4 => Exists.elim h4 fun x5 h5 => Exists.elim h5 fun x6 h6 => Exists.elim h6 fun x7 h7 => f x0 x1 x2 x3 x4 x5 x6 x7 h7.1 h7.2.1 h7.2.2.1 h7.2.2.2.1 h7.2.2.2.2.1 h7.2.2.2.2.2.1 h7.2.2.2.2.2.2.1 h7.2.2.2.2.2.2.2.1 h7.2.2.2.2.2.2.2.2
theorem p7_14 {α0 : Type} {α1 : Type} {α2 : Type} {α3 : Type} {α4 : Type} {α5 : Type} {α6 : Type} {A0 A1 A2 A3 A4 A5 A6 A7 A8 A9 A10 A11 A12 A13 : α0 → α1 → α2 → α3 → α4 → α5 → α6 → Prop} {G : Prop} (f : ∀ x0 x1 x2 x3 x4 x5 x6, A0 x0 x1 x2 x3 x4 x5 x6 → A1 x0 x1 x2 x3 x4 x5 x6 → A2 x0 x1 x2 x3 x4 x5 x6 → A3 x0 x1 x2 x3 x4 x5 x6 → A4 x0 x1 x2 x3 x4 x5 x6 → A5 x0 x1 x2 x3 x4 x5 x6 → A6 x0 x1 x2 x3 x4 x5 x6 → A7 x0 x1 x2 x3 x4 x5 x6 → A8 x0 x1 x2 x3 x4 x5 x6 → A9 x0 x1 x2 x3 x4 x5 x6 → A10 x0 x1 x2 x3 x4 x5 x6 → A11 x0 x1 x2 x3 x4 x5 x6 → A12 x0 x1 x2 x3 x4 x5 x6 → A13 x0 x1 x2 x3 x4 x5 x6 → G) : (∃ x0 x1 x2 x3 x4 x5 x6, A0 x0 x1 x2 x3 x4 x5 x6 ∧ A1 x0 x1 x2 x3 x4 x5 x6 ∧ A2 x0 x1 x2 x3 x4 x5 x6 ∧ A3 x0 x1 x2 x3 x4 x5 x6 ∧ A4 x0 x1 x2 x3 x4 x5 x6 ∧ A5 x0 x1 x2 x3 x4 x5 x6 ∧ A6 x0 x1 x2 x3 x4 x5 x6 ∧ A7 x0 x1 x2 x3 x4 x5 x6 ∧ A8 x0 x1 x2 x3 x4 x5 x6 ∧ A9 x0 x1 x2 x3 x4 x5 x6 ∧ A10 x0 x1 x2 x3 x4 x5 x6 ∧ A11 x0 x1 x2 x3 x4 x5 x6 ∧ A12 x0 x1 x2 x3 x4 x5 x6 ∧ A13 x0 x1 x2 x3 x4 x5 x6) → G := fun h => Exists.elim h fun x0 h0 => Exists.elim h0 fun x1 h1 => Exists.elim h1 fun x2 h2 => Exists.elim h2 fun x3 h3 => Exists.elim h3 fun x4 h4 => Exists.elim h4 fun x5 h5 => Exists.elim h5 fun x6 h6 => f x0 x1 x2 x3 x4 x5 x6 h6.1 h6.2.1 h6.2.2.1 h6.2.2.2.1 h6.2.2.2.2.1 h6.2.2.2.2.2.1 h6.2.2.2.2.2.2.1 h6.2.2.2.2.2.2.2.1 h6.2.2.2.2.2.2.2.2.1 h6.2.2.2.2.2.2.2.2.2.1 h6.2.2.2.2.2.2.2.2.2.2.1 h6.2.2.2.2.2.2.2.2.2.2.2.1 h6.2.2.2.2.2.2.2.2.2.2.2.2.1 h6.2.2.2.2.2.2.2.2.2.2.2.2.2
end Mine
end
section
theorem Mine.fresh2 : True := by w_top off; trivial
open PySem PySem.W PyProof.Rows PySem.Calls PySem.Spec
set_option maxRecDepth 100000
set_option maxHeartbeats 8000000
namespace Mine
/-- the claim's caller stands below -/
noncomputable def noDec : Code → Bool
  | .builtin id _ => !PySem.Builtin.Bytes.decodersThatHold.contains id
  | _ => true
noncomputable def UB (Γ : PySem.Ctx) : Prop := Γ.below.any (fun x => x.1.isCaller) = true ∧ Γ.below.all (fun x => noDec x.1) = true
noncomputable def codeC (M : Model) (A : Around) (c : Code) (R : Result → Shared → Prop) (s : Shared) : Prop :=
  ∀ Γ p, Γ.code = c → Γ.Below A → UB Γ → wpCode M Γ R p s
theorem UB.enter_caller {Γ : PySem.Ctx} (h : Γ.code.isCaller = true ∧ Γ.below = []) (c : Code) (hd : Option Value) (p : Pos) : UB (Γ.enter c hd p) := by
  obtain ⟨h, hb⟩ := h
  unfold UB
  show ((Γ.code, p) :: Γ.below).any _ = true ∧ ((Γ.code, p) :: Γ.below).all _ = true
  rw [hb, List.any_cons, h, List.all_cons, List.all_nil, Bool.true_or, Bool.and_true]
  refine ⟨rfl, ?_⟩
  show noDec Γ.code = true
  generalize Γ.code = c at h
  unfold Code.isCaller at h
  split at h
  · rfl
  · cases h
/-- a tree run by the claim's caller itself -/
noncomputable def wpT {α : Type} (M : Model) (t : Sem α) (Q : α → Shared → Prop) (E : Value → Shared → Prop) (s : Shared) : Prop :=
  ∀ Γ p, Γ.In callerA → (Γ.code.isCaller = true ∧ Γ.below = []) → Sem.wp M Γ t (fun a _ s' => Q a s') (fun e _ s' => E e s') p s
section
variable {α β : Type} {M : Model} {E : Value → Shared → Prop} {s : Shared}
theorem wpT_of {t : Sem α} {Q : α → Shared → Prop} (h : wpAny M callerA t Q E s) : wpT M t Q E s := fun Γ p hΓ _ => h Γ p hΓ
theorem wpT_mono {t : Sem α} {Q Q' : α → Shared → Prop} {E' : Value → Shared → Prop} (h : wpT M t Q E s) (hQ : ∀ a s, Q a s → Q' a s) (hE : ∀ e s, E e s → E' e s) : wpT M t Q' E' s :=
  fun Γ p hΓ hU => Sem.wp_mono M Γ t (fun a _ s => hQ a s) (fun e _ s => hE e s) p s (h Γ p hΓ hU)
theorem wpT_bind {m : Sem α} {f : α → Sem β} {Q : β → Shared → Prop} (h : wpT M m (fun a s' => wpT M (f a) Q E s') E s) : wpT M (m >>= f) Q E s := fun Γ p hΓ hU => by
  rw [Sem.wp_bind']
  exact Sem.wp_mono M Γ m (fun a p' s' h' => h' Γ p' hΓ hU) (fun _ _ _ h' => h') p s (h Γ p hΓ hU)
theorem wpT_call {f : Value} {pos : List Value} {kw : List (Str × Value)} {Q : Value → Shared → Prop} (hc : codeC M callerA (.call f ⟨pos, kw⟩) (fun r s' => match r with | .ok (.ret v) => Q v s' | .ok _ => False | .error e => E e s') s) :
    wpT M (PySem.call f pos kw) Q E s := fun Γ p hΓ hU => by
  show Sem.wp M Γ (runValue _) _ _ p s
  rw [Sem.wp_runValue]; exact hc _ p rfl (hΓ.enter _ none p (by intro x; cases x)) (UB.enter_caller hU _ _ _)
end
theorem thread_endsC {prog : Program} {w : World} {t : Sem Fin} {s : Shared} {R : Result → Shared → Prop} (hreg : s.asleep)
    (h : wpT (model prog w) t (fun fin s' => ∃ f, fin = .done f ∧ (R (.ok f) s' ∧ leftWithCleanup s'.gens = false)) (fun e s' => R (.error e) s' ∧ leftWithCleanup s'.gens = false) s) :
    ∃ n r s' s'', runN (denote table) prog w n s ⟨t, .builtin "claim.caller" {}, default, []⟩ = .halted (outcomeOf r) s' ∧
      schedN (denote table) prog w n (.single s ⟨t, .builtin "claim.caller" {}, default, []⟩) = .halted (outcomeOf r) s' ∧ s'.forget = s''.forget ∧ R r s'' := by
  have h0 : Sem.wp (model prog w) ⟨.builtin "claim.caller" {}, none, none, [], none⟩ t (Sem.finPost (model prog w) ⟨.builtin "claim.caller" {}, none, none, [], none⟩ fun r s' => R r s' ∧ leftWithCleanup s'.gens = false) (fun e _ s' => R (.error e) s' ∧ leftWithCleanup s'.gens = false) default s :=
    Sem.wp_mono _ _ t (fun fin p' s' ⟨f, e, hr⟩ => by subst e; exact hr) (fun _ _ _ x => x) default s (h _ default caller_in ⟨rfl, rfl⟩)
  have hp1 := wp_halts_full (M := model prog w) (R := R) hreg h0
  refine p4_4 ?_ hp1
  (try clear hp1)
  intro n r s₁ s₂ hs hn hfo hR
  exact ⟨n, r, s₂, s₁, hn, hs, hfo, hR⟩
theorem callFromC {c : ClaimW} {tree : List Value → Sem Fin} {w : World} {s : Shared} {free : Addr → Prop} {gens : Prop} {kept : Heap → Prop} (hz : s.asleep) (hgens : s.gens = #[])
    (hspec : ∀ args, c.pre args = true → WData.layableAll args = true →
      ∀ ord : List DictEntry → List DictEntry, (∀ l, (ord l).Perm l) →
      ∃ vs s₁, layAllW c.records (classAt s.heap) w.params ord args s = some (vs, s₁) ∧
        wpT (model c.prog w) (tree vs) (fun fin s' => ∃ f, fin = .done f ∧ (c.Ends s args vs s₁ (.ok f) s' ∧ s'.os = s.os ∧ AllBare s'.gens ∧ kept s'.heap))
          (fun e s' => c.Ends s args vs s₁ (.error e) s' ∧ s'.os = s.os ∧ AllBare s'.gens ∧ kept s'.heap) s₁) :
    c.CallFrom (fun vs => ⟨tree vs, .builtin "claim.caller" {}, default, []⟩) w free gens kept s := by
  intro args hpre hlay ord hord
  obtain ⟨vs, s₁, hlaid, hcode⟩ := hspec args hpre hlay ord hord
  have hal := layAllW_rest _ _ _ hlaid
  obtain ⟨k, r, s', s'', hrun, hsched, hfo, hcase, hos, hkp⟩ := thread_endsC (prog := c.prog) (w := w) (t := tree vs) (s := s₁)
    (R := fun r s' => c.Ends s args vs s₁ r s' ∧ s'.os = s.os ∧ kept s'.heap)
    (Shared.asleep_of_life hal.2.2.2 hz)
    (wpT_mono hcode (by
      rintro fin s' hj2
      refine p1_5 ?_ hj2
      (try clear hj2)
      intro f e h1 h2 h3 h4
      exact ⟨f, e, ⟨h1, h2, h4⟩, leftWithCleanup_false_of_bare h3⟩) (by
      rintro e s' ⟨h1, h2, h3, h4⟩
      exact ⟨⟨h1, h2, h4⟩, leftWithCleanup_false_of_bare h3⟩))
  have hp3 := Shared.forget_eq hfo
  refine p0_5 ?_ hp3
  (try clear hp3)
  intro eh _ _ eo _
  have hcase := hcase.congr eh
  rw [← eh] at hkp
  rw [← eo] at hos
  have hlife : s'.heap.life = s.heap.life := (runN_life _ _ _ hrun).trans hal.2.2.2
  refine ⟨vs, s₁, hlaid, k, _, s', hsched, ?_, (fun _ i x hx => by rw [hgens] at hx; simp at hx), hkp, by rw [hlife], Shared.rest_eq hos⟩
  rcases hcase with ⟨v, rfl, d1, d2, d3, d4, d5⟩ | ⟨e, ob, cls, rfl, d1, d2, d3, d4, d5⟩
  · exact .inl ⟨v, rfl, d1, d2, d3, fun b o y _ => d4 b o y, d5⟩
  · exact .inr ⟨e, ob, cls, rfl, d1, d2, d3, d4, fun b o y _ => d5 b o y⟩
noncomputable abbrev WalkC (q : Program) (loose : List Str) (XP : (Str → Option Value) → Heap → Prop) (YP : World → Heap → Prop) (r : RowW) (d : DefRec) (kwd : List (Str × Expr)) : Prop :=
  ∀ (w : World) (s₀ s₁ : Shared) (mg mb : Str → Option Value), Ground q loose r.records XP w s₀ mg mb s₁.heap → YP w s₁.heap → ∀ (a : Addr) (o : Obj) (pm cd doc dV kV : Value), s₁.heap.get? a = some o →
    o.data = .func { docDef d.name d.params d.body d.scope pm cd doc with defaults := dV, kwdefaults := kV } → s₁.heap.CodeRec cd d.name → Dflts mg s₁.heap d.params kwd dV kV → mg d.name = some (.ref a) → s₁.gens = #[] →
    ∀ (args : List WData) (vals : List Value) (as : List Addr), r.claim.pre args = true → WData.layableAll args = true → ReadsAllW r.records (classAt s₀.heap) s₁.heap vals args as → WellAll w.params s₁.heap vals args → (∀ a ∈ as, (a == sysModules) = false) →
      ∀ R : Result → Shared → Prop, (∀ v s', GoodW r.claim (classAt s₀.heap) (ExcName.means s₀.heap) args s₁ (.ok (.ret v)) s' → R (.ok (.ret v)) s') → codeC (model r.prog w) callerA (.call (.ref a) ⟨vals, []⟩) R s₁
end Mine
/-- the head, for a call that is walked under the claim's caller -/
theorem Mine.PySem.W.holds_open {r : OpenRow} {q : Program} {loose : List Str} {Xt : Shared → Bool} {XP : (Str → Option Value) → Heap → Prop} {α : Type} {Yf : Shared → α} {Ya : World → α} {YP : World → Heap → Prop} {d : DefRec} {kwd : List (Str × Expr)} {N : Nat}
    (left : LeftO r.prog q loose Xt Yf Ya N) (hY : ∀ w s, Yf s = Ya w → YP w s.heap) (hYk : ∀ w h h', YP w h → (∀ b o, h.get? b = some o → h'.get? b = some o) → YP w h')
    (hX : ∀ s, Xt s = true → XP (s.heap.nsMap mainGlobals) s.heap) (hXk : ∀ mg h h', XP mg h → (∀ b o, h.get? b = some o → h'.get? b = some o) → XP mg h')
    (hdef : defOf q r.name = some (d, kwd)) (hp : r.prog.theDef r.name = some (d.params, d.body, d.scope)) (hk : kwWritten? d.params.kwonlyargs d.params.kw_defaults = some kwd) (hRf : ∀ s, Xt s = true → RecFacts r.records s.heap) (hwr : (!r.writes || r.records.isEmpty) = true)
    (_k1 : true = true) (ok : (chainsOk q && opensWell r.prog && (frees r.toRowW && r.within.isEmpty)) = true) (hb : r.prog.bare) (hw : r.toRowW.promised)
    (call : r.wellSaid = true ∧ WalkC q loose XP YP r.toRowW d kwd) : r.Holds := by
  refine ⟨call.1, hw, ?_⟩
  obtain ⟨ok, k5⟩ := Bool.and_eq_true_iff.mp ok
  obtain ⟨hch, o1⟩ := Bool.and_eq_true_iff.mp ok
  obtain ⟨k5, k6⟩ := Bool.and_eq_true_iff.mp k5
  have hp4 := frees_parts k5
  refine p0_5 ?_ hp4
  (try clear hp4)
  intro hsame hu ha hap hm
  refine ⟨⟨hb, o1, by show r.makers.map _ = []; rw [hm]; rfl⟩, hw.witness, fun w => ⟨(left.behind hX hch w).1, fun s' hs' => ?_⟩⟩
  obtain ⟨s₀, hf, hg0, s, hT, hz, hgens, hg, G00, y⟩ := (left.behind (XP := fun mg h => XP mg h ∧ RecFacts r.records h) (fun s hs => ⟨hX s hs, hRf s hs⟩) hch w).2 s' hs'
  have G0 : Ground q loose [] XP w s (s.heap.nsMap mainGlobals) (s.heap.nsMap builtinsNs) s.heap := ⟨G00.T, G00.B, G00.D, G00.TE, G00.TD, G00.W, G00.X.1, G00.cls, G00.has, G00.apart, G00.once, G00.K⟩
  have RF := G00.X.2
  have hT' := hT
  refine ⟨s₀, hf, hg0, s, hT, fun n hn => ?_, RF.1, RF.2.1, ?_⟩
  · obtain rfl : n = r.name := by split at hn <;> simp_all
    exact pinned_of_view hg G0 hdef hp hk
  have hgens : s.gens = #[] := Array.eq_empty_of_size_eq_zero (beq_iff_eq.mp hgens)
  have G : Ground q loose r.records XP w s _ _ s.heap := RF.ground G0
  refine callFromC (c := r.toRowW.claim) hz hgens fun args hpre hlay ord hord => ?_
  obtain ⟨⟨vs, s₁⟩, hlaid⟩ := Option.isSome_iff_exists.mp (layAllW_isSome (P := w.params) (ord := ord) G.has args r.args s (pre_splitW hpre).1)
  have keeps := layAllW_keeps _ _ _ hlaid
  have hal := layAllW_rest _ _ _ hlaid
  obtain ⟨as, hrd, hin, hold⟩ := reads_layAllW hord _ _ _ hlaid hlay s₁.heap (fun _ _ e => e)
  have L : Laid r.records w s s₁ args vs as := ⟨⟨ord, hord, hlaid⟩, hrd, hin, hold, keeps, hal.1.trans hgens, hal.2.2.1⟩
  have G₁ := G.keeps hXk keeps
  have hp5 := G₁.fn hdef
  refine p7_5 ?_ hp5
  (try clear hp5)
  intro a o pm cd doc dV kV h1 h2 h3 h4 h5
  have h := call.2 w s s₁ _ _ G₁ (hYk _ _ _ (hY w s y) keeps) a o pm cd doc dV kV h2 h3 h4 h5 (defOf_name hdef ▸ h1) L.gens args vs as hpre hlay L.reads L.well (L.low G.low)
  have hi := ident_freeW hu ha hap
  have hwi : r.toRowW.claim.within = [] := List.isEmpty_iff.mp k6
  refine ⟨vs, s₁, hlaid, ?_⟩
  refine wpT_bind (wpT_of (wpAny_nsGet G₁.T.g ?_))
  rw [show (s.heap.nsMap mainGlobals) r.name = some (.ref a) from h1]
  refine wpT_bind (wpT_call (h _ fun v s' g => ?_))
  have g' := g.toG
  have z := g'.laid (c := r.toRowW.claim) hsame hwi hi L
  exact wpT_of (wpAny_pure ⟨_, rfl, z.1, z.2.1, z.2.2, fun q => ⟨namesKept_of hT' hg _ keeps g'.2.1.old, noTable hwr q⟩⟩)
end
section
theorem Mine.fresh3 : True := by w_top off; trivial
open PySem PySem.W PyProof.Rows
set_option maxRecDepth 100000
set_option maxHeartbeats 8000000
namespace Mine
/-- the law is well said: the kernel looks at the row itself -/
theorem said : PySem.W.OpenLaw.wellSaid PySem.Challenge.rw_jc0012_01 = true := by
  rw [PySem.W.Fast.te9446332074065402090]
  delta PySem.W.Fast.tw9446332074065402090
  repeat' (with_reducible refine look_both ?_ ?_)
  all_goals kernel_rfl
open_top hd for (PySem.W.OpenLaw.row PySem.Challenge.rw_jc0012_01)
end Mine
end
section
theorem Mine.fresh4 : True := by w_top off; trivial
open PySem PySem.W PyProof.Rows PySem.Calls
set_option maxRecDepth 100000
set_option maxHeartbeats 8000000
namespace Mine
/-- entering a def over the whole heap as its base -/
theorem code_pure {prog : Program} {w : World} {A A₀ : Around} {s : Shared} {K : Frag} {L : Addr} {h₀ base : Heap} {m mg mb : Str → Option Value} {p : Program} {loose : List Str} {mean : ExcName → Option Value}
    {env : Env} {outer : List Env} {R : Result → Shared → Prop} {name qual : Str} {params : Arguments} {body : List Stmt} {scope : Scope} {dV kV doc pm cdv ct oc : Value} {an od : Option Addr} {osl : Array (Option Value)} {f : Addr} {args : Args} {binds : List (Str × Value)}
    (B : Below A₀ base outer h₀) (F : Fr h₀ L s.heap m) (X₀ : K.In h₀) (T : Top p loose mean mg mb h₀) (hA : A.frames = some (env :: outer)) (hf : env.frame = some L) (hke : env.scope.kind = .function)
    (ho : K.lookup f = some ⟨oc, od, .func (fnOf name qual params body scope dV kV doc pm an cdv ct), osl⟩) (hcd : codeIn K cdv qual = true) (hroom : A.depth < recursionLimit)
    (hbind : BindsTo s (fnOf name qual params body scope dV kV doc pm an cdv ct) args binds) (hloc : ∀ y ∈ binds, scope.names.lookup y.1 = some .local)
    (h : ∀ L' h₁, Fr s.heap L' h₁ (fun y => binds.reverse.lookup y) → News s.heap L' h₁ [] → Below A base (env :: outer) s.heap → K.In s.heap → Top p loose mean mg mb s.heap →
      wpAny (model prog w) (A.deeper (envOf qual scope L' f cdv)) (execs body (envOf qual scope L' f cdv))
        (fun fl s' => R (.ok (.ret (match fl with | .ret v => v | _ => .none))) s')
        (fun e s' => wpAny (model prog w) (A.deeper (envOf qual scope L' f cdv)) (leaving (envOf qual scope L' f cdv) e) (fun _ s'' => R (.error e) s'') (fun e' s'' => R (.error e') s'') s')
        { s with heap := h₁, toks := s.toks + binds.length })
    (hco : scope.isCoroutine = false) (hgen : scope.isGenerator = false) (hk : scope.kind = .function)
    (hcell : ∀ x ∈ scope.names, x.2 ≠ .cell) : codeAny (model prog w) A (.call (.ref f) args) R s := by
  obtain ⟨FG, BG, st, lv⟩ := groundX (R := R) (news := []) B F News.nil hA hf hke
  have X := X₀.keeps F.keep
  have hTk := T.keeps F.keep
  refine codeAny_call_def (fd := fnOf name qual params body scope dV kV doc pm an cdv ct) (body := body) (binds := binds) hroom (X _ _ ho) rfl (T.nolimit.keeps F.keep) (codeRec_of X hcd) rfl hbind hcell hloc (fun h₁ hns hk₁ => ?_) hco hgen hk
  exact h s.heap.objs.size h₁ ⟨hns, fun b o e => hk₁ b o e, Nat.le_refl _⟩ News.nil BG X hTk
end Mine
namespace Mine
noncomputable abbrev PP : Program := PySem.Challenge.rw_jc0012_01.row.prog
/-- a def that never raises and leaves alone what stood -/
noncomputable def Spec (w : World) (p : Program) (loose : List Str) (mean : ExcName → Option Value) (mg mb : Str → Option Value) (f : Addr) (c u : Nat) (vs : List Value) (pre : Heap → Prop) (post : Heap → Heap → Value → Prop) : Prop :=
  ∀ (dp un : Nat) (gd : Option (List Code)) (cn : Str) (cs : Scope) (a : Addr) (ccd : Value) (cl : List (Str × Addr)) (outer : List Env) (A₀ : Around) (base h₀ : Heap) (L : Addr) (m : Str → Option Value) (s : Shared) (R : Result → Shared → Prop),
    Below A₀ base outer h₀ → Fr h₀ L s.heap m → (hd.heap_1 w.params).In h₀ → Top p loose mean mg mb h₀ → cs.kind = .function → pre s.heap → dp + c < recursionLimit → un + u < cLine →
    (∀ r h' tk', (∀ b o, s.heap.get? b = some o → h'.get? b = some o) → post s.heap h' r → R (.ok (.ret r)) { s with heap := h', toks := tk' }) →
    codeAny (model PySem.Challenge.rw_jc0012_01.row.prog w) (ktrTop dp un gd cn cs L a ccd cl outer) (.call (.ref f) ⟨vs, []⟩) R s
theorem Spec.call {w : World} {p : Program} {loose : List Str} {mean : ExcName → Option Value} {mg mb : Str → Option Value} {f : Addr} {c u : Nat} {vs : List Value} {pre : Heap → Prop} {post : Heap → Heap → Value → Prop}
    (S : Spec w p loose mean mg mb f c u vs pre post)
    {dp un : Nat} {gd : Option (List Code)} {cn : Str} {cs : Scope} {a : Addr} {ccd : Value} {cl : List (Str × Addr)} {outer : List Env} {A₀ : Around} {base h₀ : Heap} {L : Addr} {m : Str → Option Value} {news : List (Addr × Obj)} {s : Shared} {Q E : Value → Shared → Prop}
    (B : Below A₀ base outer h₀) (F : Fr h₀ L s.heap m) (X : (hd.heap_1 w.params).In h₀) (N : News h₀ L s.heap news) (T : Top p loose mean mg mb h₀) (hk : cs.kind = .function) (hp : pre s.heap) (hd : dp + c < recursionLimit) (hu : un + u < cLine)
    (ret : ∀ r h' tk', Fr h₀ L h' m → News h₀ L h' news → (∀ b o, s.heap.get? b = some o → h'.get? b = some o) → post s.heap h' r → Q r { s with heap := h', toks := tk' }) :
    wpAny (model PySem.Challenge.rw_jc0012_01.row.prog w) (ktrTop dp un gd cn cs L a ccd cl outer) (PySem.call (.ref f) vs) Q E s := by
  refine wpAny_call (S _ _ _ _ _ _ _ _ _ _ _ _ _ _ _ _ B F X T hk hp hd hu fun r h' tk' k q => ?_)
  obtain ⟨oL, es, ep, hL, r1⟩ := F.ns
  exact ret r h' tk' ⟨⟨oL, es, ep, k _ _ hL, r1⟩, fun b o e => k b o (F.keep b o e), F.above⟩ (fun q hq => ⟨k _ _ (N q hq).1, (N q hq).2⟩) k q
end Mine
end
section
theorem Mine.fresh5 : True := by w_top off; trivial
open PySem PySem.W PyProof.Rows PySem.Calls
set_option maxRecDepth 100000
set_option maxHeartbeats 8000000
namespace Mine
theorem news_sub {h₀ h : Heap} {L : Addr} {l l' : List (Addr × Obj)} (N : News h₀ L h l) (hs : ∀ p ∈ l', p ∈ l) : News h₀ L h l' := fun p hp => N p (hs p hp)
section
variable {prog : Program} {w : World} {A : Around} {E : Value → Shared → Prop} {s : Shared} {env : Env} {h₀ : Heap} {target : Expr} {body : List Stmt} {Q : Flow → Shared → Prop}
/-- the end of a turn: the iterator I stands as it stood; keep stands; the rest of the ledger is the invariant's -/
noncomputable def TurnEnd (h₀ : Heap) (L I : Addr) (own : List (Addr × Obj)) (J1 : (Str → Option Value) → List (Addr × Obj) → Prop) (s₁ : Shared) (Q : Flow → Shared → Prop) (f : Flow) (s₂ : Shared) : Prop :=
  match f with
  | .ret v => Q (.ret v) s₂
  | .brk => Q .next s₂
  | _ => ∃ h' tk m' led', s₂ = { s₁ with heap := h', toks := tk } ∧ Fr h₀ L h' m' ∧ News h₀ L h' own ∧ News h₀ L h' led' ∧ (∀ p ∈ led', p.1 ≠ I) ∧ J1 m' led'
theorem TurnEnd.next {h₀ h' : Heap} {L I : Addr} {own led' : List (Addr × Obj)} {J1 : (Str → Option Value) → List (Addr × Obj) → Prop} {s₁ : Shared} {Q : Flow → Shared → Prop} {tk : Nat} {m' : Str → Option Value}
    (F : Fr h₀ L h' m') (N : News h₀ L h' own) (N' : News h₀ L h' led') (hI : ∀ p ∈ led', p.1 ≠ I) (hJ : J1 m' led') : TurnEnd h₀ L I own J1 s₁ Q .next { s₁ with heap := h', toks := tk } := ⟨h', tk, m', led', rfl, F, N, N', hI, hJ⟩
theorem TurnEnd.cont {h₀ h' : Heap} {L I : Addr} {own led' : List (Addr × Obj)} {J1 : (Str → Option Value) → List (Addr × Obj) → Prop} {s₁ : Shared} {Q : Flow → Shared → Prop} {tk : Nat} {m' : Str → Option Value}
    (F : Fr h₀ L h' m') (N : News h₀ L h' own) (N' : News h₀ L h' led') (hI : ∀ p ∈ led', p.1 ≠ I) (hJ : J1 m' led') : TurnEnd h₀ L I own J1 s₁ Q .cont { s₁ with heap := h', toks := tk } := ⟨h', tk, m', led', rfl, F, N, N', hI, hJ⟩
theorem turns_of {I : Addr} {fp : List Addr} {n : Nat} {P Md : Nat → Value → Heap → Prop} {St : Nat → Heap → Prop} {m : Str → Option Value} {led : List (Addr × Obj)} (W : KTurns prog w A target I fp [I] n P Md St) (keep : List (Addr × Obj))
    (hfp : ∀ b ∈ fp, b = I ∨ (∃ o, h₀.get? b = some o) ∨ ∃ o, (b, o) ∈ keep)
    (hLf : env.locals ∉ fp) (hI : h₀.get? I = none) (hst : St 0 s.heap) (hat : ∀ i h, St i h → ∃ oI, h.get? I = some oI) (F : Fr h₀ env.locals s.heap m) (N : News h₀ env.locals s.heap led) (NK : News h₀ env.locals s.heap keep) (hkI : ∀ p ∈ keep, p.1 ≠ I) (hnI : ∀ p ∈ led, p.1 ≠ I)
    (J : Nat → (Str → Option Value) → List (Addr × Obj) → Prop) (h0 : J 0 m led)
    (turn : ∀ i v m₁ led₁ h tk oI, i < n → P i v h → J i m₁ led₁ → (∀ p ∈ led₁, p.1 ≠ I) →
      Fr h₀ env.locals h m₁ → News h₀ env.locals h ((I, oI) :: (keep ++ led₁)) →
      wpAny (model prog w) A (assign target env v) (fun _ s₃ => wpAny (model prog w) A (execs body env) (TurnEnd h₀ env.locals I ((I, oI) :: keep) (J (i + 1)) { s with heap := h, toks := tk } Q) E s₃) E { s with heap := h, toks := tk })
    (done : ∀ h' tk m' led', Fr h₀ env.locals h' m' → News h₀ env.locals h' (keep ++ led') → J n m' led' → Q .next { s with heap := h', toks := tk }) :
    TurnsAt prog w A h₀ env target body Q E (.ref I) s := by
  refine ⟨I, fp, [I], n, P, Md, St, m, keep ++ led, fun i m l => ∃ led, l = keep ++ led ∧ J i m led, rfl, W, hLf, ?_, ?_, hst, F, ?_, ⟨led, rfl, h0⟩, ?_, ?_⟩
  · intro b hb; rw [List.mem_singleton.mp hb]; exact hI
  · intro p hp hb
    have e := List.mem_singleton.mp hb
    rcases List.mem_append.mp hp with q | q
    · exact hkI p q e
    · exact hnI p q e
  · intro p hp
    rcases List.mem_append.mp hp with q | q
    · exact NK p q
    · exact N p q
  · rintro i v m₁ news₁ h₁ tk₁ own hi hP ⟨led₁, rfl, hJ⟩ hoff hsub hown hall hst₁ F₁ N₁
    obtain ⟨oI, hoI⟩ := hat _ _ hst₁
    have hIfp : I ∈ fp := W.sub _ (List.mem_singleton.mpr rfl)
    have hIown := hall I hIfp hI oI hoI
    refine wpAny_mono (turn i v m₁ led₁ h₁ tk₁ oI hi hP hJ (fun p hp e => hoff p (List.mem_append.mpr (.inr hp)) (by rw [e]; exact List.mem_singleton.mpr rfl)) F₁
      (fun p hp => by
        rcases List.mem_cons.mp hp with q | q
        · exact N₁ p (q ▸ List.mem_append.mpr (.inl hIown))
        · exact N₁ p (List.mem_append.mpr (.inr q)))) (fun _ s₃ h₃ => wpAny_mono h₃ (fun f s₄ h₄ => ?_) fun _ _ e => e) fun _ _ e => e
    have fin : (∃ h' tk m' led', s₄ = { ({ s with heap := h₁, toks := tk₁ } : Shared) with heap := h', toks := tk } ∧ Fr h₀ env.locals h' m' ∧ News h₀ env.locals h' ((I, oI) :: keep) ∧ News h₀ env.locals h' led' ∧ (∀ p ∈ led', p.1 ≠ I) ∧ J (i + 1) m' led') →
        LoopStepU h₀ env.locals [I] own (fun m l => ∃ led, l = keep ++ led ∧ J (i + 1) m led) { s with heap := h₁, toks := tk₁ } .next s₄ := by
      rintro hj1
      refine p4_6 ?_ hj1
      (try clear hj1)
      intro h' tk m' led' e F' NO N' hn hj
      refine ⟨rfl, h', tk, m', keep ++ led', e, F', fun p hp => ?_, fun p hp hb => ?_, led', rfl, hj⟩
      · rcases List.mem_append.mp hp with q | q
        · have hpo := hown p q
          have hpN := N₁ p (List.mem_append.mpr (.inl q))
          rcases hfp p.1 (hsub p q) with e1 | ⟨o, e1⟩ | ⟨o, e1⟩
          · have : p = (I, oI) := by
              have := hpo; rw [e1, hoI] at this
              exact Prod.ext e1 (Option.some.inj this).symm
            exact this ▸ NO _ (.head _)
          · rw [hpN.2.2] at e1; cases e1
          · have h2 := (N₁ _ (List.mem_append.mpr (.inr (List.mem_append.mpr (.inl e1))))).1
            rw [hpo] at h2
            have : p = (p.1, o) := Prod.ext rfl (Option.some.inj h2)
            rw [this]
            exact NO _ (.tail _ e1)
        · rcases List.mem_append.mp q with q | q
          · exact NO p (.tail _ q)
          · exact N' p q
      · have e := List.mem_singleton.mp hb
        rcases List.mem_append.mp hp with q | q
        · exact hkI p q e
        · exact hn p q e
    cases f with
    | ret v => exact .ret h₄
    | brk => exact .brk h₄
    | next => exact .next (fin h₄)
    | cont => exact .cont (fin h₄)
  · rintro h' tk m' news' F' N' hoff ⟨led', rfl, hJ⟩
    exact done h' tk m' led' F' N' hJ
/-- how the thing iterated stands: in the base, or kept in the ledger -/
noncomputable def Stood (h₀ : Heap) (b : Addr) (keep : List (Addr × Obj)) : Prop := (keep = [] ∧ ∃ o, h₀.get? b = some o) ∨ ∃ o, keep = [(b, o)]
theorem Stood.base {h₀ : Heap} {b : Addr} {o : Obj} (h : h₀.get? b = some o) : Stood h₀ b [] := .inl ⟨rfl, o, h⟩
theorem Stood.kept {h₀ : Heap} {b : Addr} {o : Obj} : Stood h₀ b [(b, o)] := .inr ⟨o, rfl⟩
theorem Stood.fp {h₀ : Heap} {b I : Addr} {keep : List (Addr × Obj)} (S : Stood h₀ b keep) : ∀ c ∈ [I, b], c = I ∨ (∃ o, h₀.get? c = some o) ∨ ∃ o, (c, o) ∈ keep := by
  intro c hc
  rcases List.mem_cons.mp hc with e | hc
  · exact .inl e
  · rw [List.mem_singleton.mp hc]
    rcases S with ⟨_, o, h⟩ | ⟨o, rfl⟩
    · exact .inr (.inl ⟨o, h⟩)
    · exact .inr (.inr ⟨o, .head _⟩)
theorem Stood.ne {h₀ h : Heap} {b L : Addr} {m : Str → Option Value} {keep : List (Addr × Obj)} (S : Stood h₀ b keep) (F : Fr h₀ L h m) (N : News h₀ L h keep) : L ≠ b := by
  rcases S with ⟨_, o, q⟩ | ⟨o, rfl⟩
  · exact fun e => Nat.lt_irrefl _ (Nat.lt_of_lt_of_le (Heap.lt_size q) (e ▸ F.above))
  · exact fun e => (N _ (.head _)).2.1 e.symm
theorem Stood.keepI {h₀ h : Heap} {L I : Addr} {keep : List (Addr × Obj)} (N : News h₀ L h keep) (hI : h.objs.size ≤ I) : ∀ p ∈ keep, p.1 ≠ I := fun p hp => Nat.ne_of_lt (Nat.lt_of_lt_of_le (Heap.lt_size (N p hp).1) hI)
theorem notFp {L I b : Addr} (h1 : L ≠ I) (h2 : L ≠ b) : L ∉ [I, b] := fun hm => by
  rcases List.mem_cons.mp hm with e | hm
  · exact h1 e
  · exact h2 (List.mem_singleton.mp hm)
/-- the premises that every loop rule shares -/
noncomputable abbrev TurnH (prog : Program) (w : World) (A : Around) (h₀ : Heap) (env : Env) (target : Expr) (body : List Stmt) (Q : Flow → Shared → Prop) (E : Value → Shared → Prop) (s : Shared) (keep : List (Addr × Obj)) (J : Nat → (Str → Option Value) → List (Addr × Obj) → Prop) (n : Nat) (P : Nat → Value → Heap → Prop) : Prop :=
  ∀ i v m₁ led₁ h tk I oI, s.heap.objs.size ≤ I → i < n → P i v h → J i m₁ led₁ → (∀ p ∈ led₁, p.1 ≠ I) →
      Fr h₀ env.locals h m₁ → News h₀ env.locals h ((I, oI) :: (keep ++ led₁)) →
      ∀ gs ds oss (Qt : Flow → Shared → Prop), (∀ f s₃, TurnEnd h₀ env.locals I ((I, oI) :: keep) (J (i + 1)) ⟨h, gs, ds, tk, oss⟩ Q f s₃ → Qt f s₃) →
      wpAny (model prog w) A (assign target env v) (fun _ s₃ => wpAny (model prog w) A (execs body env) Qt E s₃) E ⟨h, gs, ds, tk, oss⟩
noncomputable abbrev DoneH (h₀ : Heap) (L : Addr) (Q : Flow → Shared → Prop) (s : Shared) (keep : List (Addr × Obj)) (Jn : (Str → Option Value) → List (Addr × Obj) → Prop) : Prop :=
  ∀ h' tk m' led', Fr h₀ L h' m' → News h₀ L h' (keep ++ led') → Jn m' led' → Q .next { s with heap := h', toks := tk }
theorem iter_values {K : Type} [DecidableEq K] {knd : KeyKind prog w K} {d vw : Addr} {kvs : List (K × Value)} {ep : Nat} {m : Str → Option Value} {led : List (Addr × Obj)} (keep : List (Addr × Obj))
    (hh : A.handled = none) (hv : s.heap.IsValuesView vw d) (hat : s.heap.DictAt knd d kvs ep) (S : Stood h₀ d keep) (F : Fr h₀ env.locals s.heap m) (N : News h₀ env.locals s.heap led) (NK : News h₀ env.locals s.heap keep)
    (J : Nat → (Str → Option Value) → List (Addr × Obj) → Prop) (h0 : J 0 m led)
    (turn : TurnH prog w A h₀ env target body Q E s keep J kvs.length (fun i v _ => ∃ k, kvs[i]? = some (k, v)))
    (done : DoneH h₀ env.locals Q s keep (J kvs.length)) :
    wpAny (model prog w) A (pyIter (.ref vw)) (fun it s₂ => TurnsAt prog w A h₀ env target body Q E it s₂) E s := by
  have hne : d ≠ s.heap.objs.size := Nat.ne_of_lt hat.lt_size
  refine wpAny_pyIter_values hv hat ?_
  refine turns_of (KTurns.ofWalks (Walks.dictValues (knd := knd) hh s.heap.objs.size d hne kvs ep) fun i v s Q E st q => letGo_valiter st.1 q) keep S.fp (notFp (Nat.ne_of_lt F.ns.lt) (S.ne F NK)) (next_is_new F) ?_ ?_ (F.push _)
    (fun p hp => ⟨Heap.get?_push_of_some _ (N p hp).1, (N p hp).2⟩) (fun p hp => ⟨Heap.get?_push_of_some _ (NK p hp).1, (NK p hp).2⟩) (Stood.keepI NK (Nat.le_refl _)) (fun p hp => Nat.ne_of_lt (Heap.lt_size (N p hp).1)) J h0
    (fun i v m₁ led₁ h tk oI hi hP hJ hn F₁ N₁ => turn i v m₁ led₁ h tk _ oI (Nat.le_refl _) hi hP hJ hn F₁ N₁ s.gens s.drawn s.os _ (fun _ _ x => x)) done
  · exact ⟨⟨_, Heap.get?_push_size _ rfl, rfl, rfl⟩, hat.push _⟩
  · rintro i h ⟨⟨o, ho, _⟩, _⟩; exact ⟨o, ho⟩
theorem pushN {h₀ h : Heap} {L : Addr} {led : List (Addr × Obj)} (N : News h₀ L h led) (o : Obj) : News h₀ L (h.push o) led := fun p hp => ⟨Heap.get?_push_of_some _ (N p hp).1, (N p hp).2⟩
theorem iter_keys {K : Type} [DecidableEq K] {knd : KeyKind prog w K} {d : Addr} {kvs : List (K × Value)} {ep : Nat} {m : Str → Option Value} {led : List (Addr × Obj)} (keep : List (Addr × Obj))
    (hh : A.handled = none) (hlo : (d == sysModules) = false) (hat : s.heap.DictAt knd d kvs ep) (S : Stood h₀ d keep) (F : Fr h₀ env.locals s.heap m) (N : News h₀ env.locals s.heap led) (NK : News h₀ env.locals s.heap keep)
    (J : Nat → (Str → Option Value) → List (Addr × Obj) → Prop) (h0 : J 0 m led)
    (turn : TurnH prog w A h₀ env target body Q E s keep J kvs.length (fun i v _ => ∃ k x, kvs[i]? = some (k, x) ∧ knd.is k v = true))
    (done : DoneH h₀ env.locals Q s keep (J kvs.length)) :
    wpAny (model prog w) A (pyIter (.ref d)) (fun it s₂ => TurnsAt prog w A h₀ env target body Q E it s₂) E s := by
  have hne : d ≠ s.heap.objs.size := Nat.ne_of_lt hat.lt_size
  refine wpAny_pyIter_dict hlo hat ?_
  refine turns_of (KTurns.ofWalks (Walks.dictKeys (knd := knd) hh s.heap.objs.size d hne kvs ep) fun i v s Q E st q => letGo_keyiter st.1 q) keep S.fp (notFp (Nat.ne_of_lt F.ns.lt) (S.ne F NK)) (next_is_new F) ?_ ?_ (F.push _)
    (pushN N _) (pushN NK _) (Stood.keepI NK (Nat.le_refl _)) (fun p hp => Nat.ne_of_lt (Heap.lt_size (N p hp).1)) J h0
    (fun i v m₁ led₁ h tk oI hi hP hJ hn F₁ N₁ => turn i v m₁ led₁ h tk _ oI (Nat.le_refl _) hi hP hJ hn F₁ N₁ s.gens s.drawn s.os _ (fun _ _ x => x)) done
  · exact ⟨⟨_, Heap.get?_push_size _ rfl, rfl, rfl⟩, hat.push _⟩
  · rintro i h ⟨⟨o, ho, _⟩, _⟩; exact ⟨o, ho⟩
theorem turns_items {K : Type} [DecidableEq K] {knd : KeyKind prog w K} (hh : A.handled = none) (I d : Addr) (hne : d ≠ I) (kvs : List (K × Value)) (ep : Nat) (elts : List Expr) (k : Nat) (pos : Pos) :
    KTurns prog w A (.Tuple elts k pos) I [I, d] [I] kvs.length (fun i v h => ∃ T key x kk, v = .ref T ∧ kvs[i]? = some (kk, x) ∧ knd.is kk key = true ∧ IsTup h T #[key, x])
      (fun i v h => ∃ T key x kk, v = .ref T ∧ kvs[i]? = some (kk, x) ∧ knd.is kk key = true ∧ IsTup h T #[key, x] ∧ T ≠ I ∧ (∃ ok ov, IsItemIterOut h I d (i + 1) kvs.length ep ok ov T) ∧ h.DictAt knd d kvs ep)
      (fun i h => (∃ ok ov, IsItemIter h I d i kvs.length ep ok ov) ∧ h.DictAt knd d kvs ep) where
  sub := fun b hb => by simp at hb; simp [hb]
  frame := fun i h h' st hk => ⟨let ⟨ok, ov, e⟩ := st.1; ⟨ok, ov, hk I (by simp) _ e⟩, st.2.at' fun o e => hk d (by simp) o e⟩
  item := fun i s Q E hi st hQ => by
    obtain ⟨⟨ok, ov, hit⟩, hm⟩ := st
    obtain ⟨⟨kk, x⟩, hx⟩ : ∃ p, kvs[i]? = some p := ⟨kvs[i], by simp [hi]⟩
    have hIlt : I < s.heap.objs.size := Heap.lt_size hit
    refine wpAny_pyNext_items_item hit hm hx fun key h' hkey hout htup hsz hk => ?_
    refine hQ _ h' s.toks ⟨_, key, x, kk, rfl, hx, hkey, ⟨_, htup, rfl, 0, rfl⟩, Nat.ne_of_gt hIlt, ⟨key, x, hout⟩, hm.at' fun o e => hk d o hne e⟩ fun b o hb e => hk b o (fun q => hb (by simp [q])) e
  go := fun i v s Q E hm hQ => by
    refine p4_7 ?_ hm
    (try clear hm)
    intro T key x kk hq2 hx hkey ht hTI hq3 hd
    subst hq2
    obtain ⟨ok, ov, hout⟩ := hq3
    refine wpAny_letOwnedTupleGo_items hout fun h' hit hs => hQ h' ⟨T, key, x, kk, rfl, hx, hkey, ?_⟩ ⟨⟨ok, ov, hit⟩, hd.at' fun o e => hs.extBut d o hne e⟩ fun b o hb e => hs.extBut b o (fun q => hb (by simp [q])) e
    obtain ⟨o, ho, r⟩ := ht
    exact ⟨o, hs.extBut T o hTI ho, r⟩
  done := fun s Q E st hQ => by
    obtain ⟨⟨ok, ov, hit⟩, hm⟩ := st
    exact wpAny_pyNext_items_end hh hit hm (by simp) fun h' he => hQ h' s.toks fun b o hb e => he b o (fun q => hb (by simp [q])) e
theorem iter_items {K : Type} [DecidableEq K] {knd : KeyKind prog w K} {d vw : Addr} {kvs : List (K × Value)} {ep : Nat} {m : Str → Option Value} {led : List (Addr × Obj)} {elts : List Expr} {k : Nat} {pos : Pos} (keep : List (Addr × Obj))
    (hh : A.handled = none) (hv : s.heap.IsItemsView vw d) (hat : s.heap.DictAt knd d kvs ep) (S : Stood h₀ d keep) (F : Fr h₀ env.locals s.heap m) (N : News h₀ env.locals s.heap led) (NK : News h₀ env.locals s.heap keep)
    (J : Nat → (Str → Option Value) → List (Addr × Obj) → Prop) (h0 : J 0 m led)
    (turn : TurnH prog w A h₀ env (.Tuple elts k pos) body Q E s keep J kvs.length (fun i v h => ∃ T key x kk, v = .ref T ∧ kvs[i]? = some (kk, x) ∧ knd.is kk key = true ∧ IsTup h T #[key, x]))
    (done : DoneH h₀ env.locals Q s keep (J kvs.length)) :
    wpAny (model prog w) A (pyIter (.ref vw)) (fun it s₂ => TurnsAt prog w A h₀ env (.Tuple elts k pos) body Q E it s₂) E s := by
  have hne : d ≠ s.heap.objs.size := Nat.ne_of_lt hat.lt_size
  refine wpAny_pyIter_items hv hat ?_
  refine turns_of (turns_items (knd := knd) hh s.heap.objs.size d hne kvs ep elts k pos) keep S.fp (notFp (Nat.ne_of_lt F.ns.lt) (S.ne F NK)) (next_is_new F) ?_ ?_ (F.push _)
    (pushN N _) (pushN NK _) (Stood.keepI NK (Nat.le_refl _)) (fun p hp => Nat.ne_of_lt (Heap.lt_size (N p hp).1)) J h0
    (fun i v m₁ led₁ h tk oI hi hP hJ hn F₁ N₁ => turn i v m₁ led₁ h tk _ oI (Nat.le_refl _) hi hP hJ hn F₁ N₁ s.gens s.drawn s.os _ (fun _ _ x => x)) done
  · exact ⟨⟨_, _, Heap.get?_push_size _ rfl⟩, hat.push _⟩
  · rintro i h ⟨⟨_, _, ho⟩, _⟩; exact ⟨_, ho⟩
theorem iter_list {l : Addr} {vs : List Value} {m : Str → Option Value} {led : List (Addr × Obj)} (keep : List (Addr × Obj))
    (hh : A.handled = none) (hl : s.heap.IsList l vs.toArray) (S : Stood h₀ l keep) (F : Fr h₀ env.locals s.heap m) (N : News h₀ env.locals s.heap led) (NK : News h₀ env.locals s.heap keep)
    (J : Nat → (Str → Option Value) → List (Addr × Obj) → Prop) (h0 : J 0 m led)
    (turn : TurnH prog w A h₀ env target body Q E s keep J vs.length (fun i v _ => vs[i]? = some v))
    (done : DoneH h₀ env.locals Q s keep (J vs.length)) :
    wpAny (model prog w) A (pyIter (.ref l)) (fun it s₂ => TurnsAt prog w A h₀ env target body Q E it s₂) E s := by
  obtain ⟨ol, hol, hlr⟩ := id hl
  have hne : l ≠ s.heap.objs.size := Nat.ne_of_lt (Heap.lt_size hol)
  refine wpAny_pyIter_list hl ?_
  have W := Walks.list (prog := prog) (w := w) hh s.heap.objs.size l hne vs.toArray
  have hsz : vs.toArray.size = vs.length := by simp
  rw [hsz] at W
  refine turns_of (KTurns.ofWalks W fun i v s Q E st q => letGo_listiter st.1 q) keep S.fp (notFp (Nat.ne_of_lt F.ns.lt) (S.ne F NK)) (next_is_new F) ?_ ?_ (F.push _)
    (pushN N _) (pushN NK _) (Stood.keepI NK (Nat.le_refl _)) (fun p hp => Nat.ne_of_lt (Heap.lt_size (N p hp).1)) J h0
    (fun i v m₁ led₁ h tk oI hi hP hJ hn F₁ N₁ => turn i v m₁ led₁ h tk _ oI (Nat.le_refl _) hi (by simpa using hP) hJ hn F₁ N₁ s.gens s.drawn s.os _ (fun _ _ x => x)) done
  · exact ⟨⟨_, Heap.get?_push_size _ rfl, rfl, rfl⟩, ol, Heap.get?_push_of_some _ hol, hlr⟩
  · rintro i h ⟨⟨o, ho, _⟩, _⟩; exact ⟨o, ho⟩
theorem fpI {h₀ : Heap} {I : Addr} : ∀ c ∈ [I], c = I ∨ (∃ o, h₀.get? c = some o) ∨ ∃ o, (c, o) ∈ ([] : List (Addr × Obj)) := fun _ hc => .inl (List.mem_singleton.mp hc)
theorem iter_range {r : Addr} {a b c : Int} {n : Nat} {t u v : Tok} {m : Str → Option Value} {led : List (Addr × Obj)} {x : Str} {px : Pos}
    (hh : A.handled = none) (hr : IsRange s.heap r a b c t u v) (hsm : Builtin.Range.small a b c = true) (hn : Builtin.Range.rangeSize a b c = (n : Int)) (F : Fr h₀ env.locals s.heap m) (N : News h₀ env.locals s.heap led)
    (J : Nat → (Str → Option Value) → List (Addr × Obj) → Prop) (h0 : J 0 m led)
    (turn : TurnH prog w A h₀ env (.Name x px) body Q E s [] J n (fun i v _ => ∃ t, v = .int (a + i * c) t))
    (done : DoneH h₀ env.locals Q s [] (J n)) :
    wpAny (model prog w) A (pyIter (.ref r)) (fun it s₂ => TurnsAt prog w A h₀ env (.Name x px) body Q E it s₂) E s := by
  refine wpAny_pyIter_range hr hsm ?_
  refine turns_of (KTurns.ofWalks (Walks.range (prog := prog) (w := w) hh s.heap.objs.size a c n) fun i v s Q E st q => wpAny_pure q) [] fpI (fun hm => Nat.ne_of_lt F.ns.lt (List.mem_singleton.mp hm)) (next_is_new F) ?_ ?_ (F.push _)
    (pushN N _) News.nil (by simp) (fun p hp => Nat.ne_of_lt (Heap.lt_size (N p hp).1)) J h0
    (fun i v m₁ led₁ h tk oI hi hP hJ hn F₁ N₁ => turn i v m₁ led₁ h tk _ oI (Nat.le_refl _) hi hP hJ hn F₁ N₁ s.gens s.drawn s.os _ (fun _ _ x => x)) done
  · have e : (rawInt a, rawInt (Builtin.Range.rangeSize a b c)) = (rawInt (a + ((0 : Nat) : Int) * c), rawInt ((n : Int) - ((0 : Nat) : Int))) := by rw [hn]; simp
    obtain ⟨e1, e2⟩ := Prod.mk.inj e
    rw [e1, e2]
    exact Heap.get?_push_size _ rfl
  · intro i h ho; exact ⟨_, ho⟩
theorem iter_bytes {b : Array UInt8} {t : Tok} {m : Str → Option Value} {led : List (Addr × Obj)} {x : Str} {px : Pos}
    (hh : A.handled = none) (F : Fr h₀ env.locals s.heap m) (N : News h₀ env.locals s.heap led)
    (J : Nat → (Str → Option Value) → List (Addr × Obj) → Prop) (h0 : J 0 m led)
    (turn : TurnH prog w A h₀ env (.Name x px) body Q E s [] J b.size (fun i v _ => ∃ c u, b[i]? = some c ∧ v = .int (c.toNat : Int) u))
    (done : DoneH h₀ env.locals Q s [] (J b.size)) :
    wpAny (model prog w) A (pyIter (.bytes b t)) (fun it s₂ => TurnsAt prog w A h₀ env (.Name x px) body Q E it s₂) E s := by
  refine KBw.pyIter_bytes ?_
  refine turns_of (KTurns.ofWalks (KBw.walks (prog := prog) (w := w) hh s.heap.objs.size b t) fun i v s Q E st q => wpAny_pure q) [] fpI (fun hm => Nat.ne_of_lt F.ns.lt (List.mem_singleton.mp hm)) (next_is_new F) ?_ ?_ (F.push _)
    (pushN N _) News.nil (by simp) (fun p hp => Nat.ne_of_lt (Heap.lt_size (N p hp).1)) J h0
    (fun i v m₁ led₁ h tk oI hi hP hJ hn F₁ N₁ => turn i v m₁ led₁ h tk _ oI (Nat.le_refl _) hi hP hJ hn F₁ N₁ s.gens s.drawn s.os _ (fun _ _ x => x)) done
  · exact ⟨_, Heap.get?_push_size _ rfl, rfl, rfl⟩
  · rintro i h ⟨o, ho, _⟩; exact ⟨o, ho⟩
noncomputable def WhEnd (h₀ : Heap) (L : Addr) (s : Shared) (J : Nat → (Str → Option Value) → List (Addr × Obj) → Prop) (n : Nat) (Q : Flow → Shared → Prop) (f : Flow) (s₃ : Shared) : Prop :=
  match f with
  | .ret v => Q (.ret v) s₃
  | .brk => Q .next s₃
  | _ => ∃ n' h' tk m' led', n' < n ∧ s₃ = { s with heap := h', toks := tk } ∧ Fr h₀ L h' m' ∧ News h₀ L h' led' ∧ J n' m' led'
theorem WhEnd.next {L : Addr} {J : Nat → (Str → Option Value) → List (Addr × Obj) → Prop} {n n' : Nat} {h' : Heap} {tk : Nat} {m' : Str → Option Value} {led' : List (Addr × Obj)} (F : Fr h₀ L h' m') (N : News h₀ L h' led') (hn : n' < n) (hJ : J n' m' led') :
    WhEnd h₀ L s J n Q .next { s with heap := h', toks := tk } := ⟨n', h', tk, m', led', hn, rfl, F, N, hJ⟩
theorem while_my {test : Expr} {pos : Pos} {m : Str → Option Value} {led : List (Addr × Obj)} (J : Nat → (Str → Option Value) → List (Addr × Obj) → Prop) {n₀ : Nat}
    (F : Fr h₀ env.locals s.heap m) (N : News h₀ env.locals s.heap led) (hJ : J n₀ m led)
    (turn : ∀ n m₁ led₁ h tk, Fr h₀ env.locals h m₁ → News h₀ env.locals h led₁ → J n m₁ led₁ →
      ∀ gs ds oss (Qt : Flow → Shared → Prop) (Qd : Shared → Prop), (∀ f s₃, WhEnd h₀ env.locals ⟨h, gs, ds, tk, oss⟩ J n Q f s₃ → Qt f s₃) → (∀ h' tk', Q .next { s with heap := h', toks := tk' } → Qd ⟨h', gs, ds, tk', oss⟩) →
      wpAny (model prog w) A (isTrue test env (eval test env)) (fun b s₂ => if b = true then wpAny (model prog w) A (execs body env) Qt E s₂ else Qd s₂) E ⟨h, gs, ds, tk, oss⟩)
    (hE : PassesOwn (model prog w) A env E := by passes_own) :
    wpAny (model prog w) A (exec (.While test body [] pos) env) Q E s := by
  refine wpAny_While (codeAny_whileLoop (R := fun r s' => match r with | .ok f => Q f s' | .error e => cameBackBy (model prog w) A env E e s')
    (fun n s' => ∃ h tk m₁ led₁, s' = { s with heap := h, toks := tk } ∧ Fr h₀ env.locals h m₁ ∧ News h₀ env.locals h led₁ ∧ J n m₁ led₁) ?_ n₀ ⟨s.heap, s.toks, m, led, rfl, F, N, hJ⟩)
  rintro n s' hj4
  refine p4_4 ?_ hj4
  (try clear hj4)
  intro h tk m₁ led₁ hq5 F₁ N₁ hJ₁
  subst hq5
  refine wpAny_mono (turn n m₁ led₁ h tk F₁ N₁ hJ₁ s.gens s.drawn s.os _ (fun s₂ => Q .next s₂) (fun _ _ x => x) (fun _ _ x => x)) (fun b s₂ h₂ => ?_) hE
  cases b with
  | false => exact wpAny_execs_nil h₂
  | true =>
    refine wpAny_mono h₂ (fun f s₃ h₃ => ?_) hE
    cases f with
    | ret v => exact h₃
    | brk => exact h₃
    | next => obtain ⟨n', h', tk', m', led', hn, e, F', N', hJ'⟩ := h₃; exact ⟨n', hn, h', tk', m', led', e, F', N', hJ'⟩
    | cont => obtain ⟨n', h', tk', m', led', hn, e, F', N', hJ'⟩ := h₃; exact ⟨n', hn, h', tk', m', led', e, F', N', hJ'⟩
/-- what a call has made, as a ledger -/
noncomputable def NewCells (h h' : Heap) (tl : List (Addr × Obj)) : Prop := ∀ p ∈ tl, h.get? p.1 = none ∧ h'.get? p.1 = some p.2
theorem NewCells.one {h h' : Heap} {a : Addr} {o : Obj} (h1 : h.get? a = none) (h2 : h'.get? a = some o) : NewCells h h' [(a, o)] := fun p hp => by rw [List.mem_singleton.mp hp]; exact ⟨h1, h2⟩
theorem NewCells.news {h h' : Heap} {L : Addr} {m : Str → Option Value} {tl : List (Addr × Obj)} (F : Fr h₀ L h m) (C : NewCells h h' tl) : News h₀ L h' tl := fun p hp => by
  obtain ⟨c1, c2⟩ := C p hp
  refine ⟨c2, fun e => ?_, ?_⟩
  · have hp6 := F.ns
    refine p3_2 ?_ hp6
    (try clear hp6)
    intro o _ _ ho _
    rw [e, ho] at c1; cases c1
  · cases q : h₀.get? p.1 with
    | none => rfl
    | some o => rw [F.keep _ _ q] at c1; cases c1
theorem NewCells.ne {h h' : Heap} {L : Addr} {tl led : List (Addr × Obj)} (N : News h₀ L h led) (C : NewCells h h' tl) : ∀ p ∈ tl, ∀ q ∈ led, q.1 ≠ p.1 := fun p hp q hq e => by
  have := (N q hq).1
  rw [e, (C p hp).1] at this; cases this
theorem news_app {h : Heap} {L : Addr} {l l' : List (Addr × Obj)} (N : News h₀ L h l) (N' : News h₀ L h l') : News h₀ L h (l ++ l') := fun p hp => (List.mem_append.mp hp).elim (N p) (N' p)
end
end Mine
end
section
theorem Mine.fresh6 : True := by w_top off; trivial
open PySem PySem.W PyProof.Rows PySem.Calls
set_option maxRecDepth 100000
set_option maxHeartbeats 8000000
namespace Mine
theorem Fr.as {h₀ h : Heap} {L : Addr} {m m' : Str → Option Value} (F : Fr h₀ L h m) (e : m = m') : Fr h₀ L h m' := e ▸ F
noncomputable def kvsOf (τ : Nat → Tok) (tab : List (Nat × Nat)) : List (Int × Value) := tab.map fun q => ((q.1 : Int), .int (q.2 : Int) (τ q.1))
noncomputable def cnt (tab : List (Nat × Nat)) : Nat := (tab.map (·.2)).sum
section
variable {prog : Program} {w : World} {A : Around} {E : Value → Shared → Prop} {s : Shared} {K : Type} [DecidableEq K] {knd : KeyKind prog w K}
theorem getM_dict {d : Addr} {kvs : List (K × Value)} {ep : Nat} {name : Str} {id : String} {pl : Sem Bool} {Q : Value × List Value → Shared → Prop} (slot : Slot "dict" name id) (hty : typeOf (.builtin id) = pure (.type "method_descriptor"))
    (hat : s.heap.DictAt knd d kvs ep) (h : Q (.builtin id, [.ref d]) s) : wpAny (model prog w) A (getMethod (.ref d) name pl) Q E s := by
  have hd : s.heap.DictOf knd d kvs := by obtain ⟨o, es, r⟩ := hat; exact ⟨o, es, ep, r⟩
  exact getMethod_builtin hd.typeIs PySem.F.plainAttrs_dict slot hty hd.mapOf.noDict h
theorem dict_of_at {h : Heap} {d : Addr} {kvs : List (K × Value)} {ep : Nat} (hat : h.DictAt knd d kvs ep) : h.DictOf knd d kvs := by obtain ⟨o, es, r⟩ := hat; exact ⟨o, es, ep, r⟩
theorem call_values {h₀ : Heap} {L d : Addr} {m : Str → Option Value} {kvs : List (K × Value)} {ep : Nat} {led : List (Addr × Obj)} {R : Value → Shared → Prop} (hat : s.heap.DictAt knd d kvs ep) (lo : (d == sysModules) = false) (F : Fr h₀ L s.heap m) (N : News h₀ L s.heap led)
    (h : ∀ v h', h'.IsValuesView v d → h'.DictAt knd d kvs ep → Fr h₀ L h' m → News h₀ L h' led → R (.ref v) { s with heap := h' }) : wpAny (model prog w) A (call (.builtin "dict.values") [.ref d]) R E s :=
  have hD := dict_of_at hat
  call_meetsIn PySem.F.slot_dict_values hD.typeIs PySem.F.entry_dict_values (PySem.F.args_dict_values_1 _) (meets_dict_values knd d lo) ⟨⟨kvs, hD⟩, h _ _ ⟨_, Heap.get?_push_size _ rfl, rfl, rfl⟩ (hat.push _) (F.push _) fun p hp => ⟨Heap.get?_push_of_some _ (N p hp).1, (N p hp).2⟩⟩
end
theorem kvs_get {τ : Nat → Tok} {tab : List (Nat × Nat)} {i : Nat} {k : Int} {v : Value} (h : (kvsOf τ tab)[i]? = some (k, v)) : ∃ q, tab[i]? = some q ∧ k = (q.1 : Int) ∧ v = .int (q.2 : Int) (τ q.1) := by
  unfold kvsOf at h
  rw [List.getElem?_map] at h
  cases hq : tab[i]? with
  | none => rw [hq] at h; cases h
  | some q => rw [hq] at h; cases h; exact ⟨q, rfl, rfl, rfl⟩
theorem cnt_take_succ {tab : List (Nat × Nat)} {i : Nat} {q : Nat × Nat} (h : tab[i]? = some q) : cnt (tab.take (i + 1)) = cnt (tab.take i) + q.2 := by
  unfold cnt; rw [List.take_add_one, h]; simp
theorem cnt_take_le (tab : List (Nat × Nat)) (i : Nat) : cnt (tab.take i) ≤ cnt tab := by
  have := congrArg cnt (List.take_append_drop i tab)
  unfold cnt at *; rw [List.map_append, List.sum_append] at this; (first | lia | omega)
section
variable {prog : Program} {w : World} {A : Around} {E : Value → Shared → Prop} {s : Shared} {K : Type} [DecidableEq K] {knd : PySem.KeyKind prog w K} {h₀ : Heap} {L d : Addr} {m : Str → Option Value} {kvs : List (K × Value)} {led : List (Addr × Obj)}
theorem call_items {R : Value → Shared → Prop} (hD : s.heap.DictOf knd d kvs) (lo : (d == sysModules) = false) (F : Fr h₀ L s.heap m) (N : News h₀ L s.heap led)
    (h : ∀ v h', h'.IsItemsView v d → h'.DictOf knd d kvs → Fr h₀ L h' m → News h₀ L h' led → R (.ref v) { s with heap := h' }) : wpAny (model prog w) A (call (.builtin "dict.items") [.ref d]) R E s :=
  call_meetsIn PySem.F.slot_dict_items hD.typeIs PySem.F.entry_dict_items (PySem.F.args_dict_items_1 _) (meets_dict_items knd d lo) ⟨⟨kvs, hD⟩, h _ _ ⟨_, Heap.get?_push_size _ rfl, rfl, rfl⟩
    (let ⟨ep, a⟩ := hD.dictAt; dict_of_at (a.push _)) (F.push _) fun p hp => ⟨Heap.get?_push_of_some _ (N p hp).1, (N p hp).2⟩⟩
theorem getM_dictO {name : Str} {id : String} {pl : Sem Bool} {Q : Value × List Value → Shared → Prop} (slot : Slot "dict" name id) (hty : typeOf (.builtin id) = pure (.type "method_descriptor"))
    (hd : s.heap.DictOf knd d kvs) (h : Q (.builtin id, [.ref d]) s) : wpAny (model prog w) A (getMethod (.ref d) name pl) Q E s :=
  getMethod_builtin hd.typeIs PySem.F.plainAttrs_dict slot hty hd.mapOf.noDict h
theorem dictOf_led {od : Obj} (N : News h₀ L s.heap led) (hm : (d, od) ∈ led) (hd : od.IsDictOf knd kvs) : s.heap.DictOf knd d kvs := Heap.dictOf_iff.mpr ⟨od, (N _ hm).1, hd⟩
theorem dictOf_keep {h h' : Heap} (k : ∀ b o, h.get? b = some o → h'.get? b = some o) (hd : h.DictOf knd d kvs) : h'.DictOf knd d kvs := by
  obtain ⟨o, ho, r⟩ := Heap.dictOf_iff.mp hd
  exact Heap.dictOf_iff.mpr ⟨o, k _ _ ho, r⟩
/-- storing into a dict of the ledger -/
theorem setItem_led {od : Obj} {k : K} {key v : Value} {Q : Unit → Shared → Prop} (F : Fr h₀ L s.heap m) (N : News h₀ L s.heap ((d, od) :: led)) (hne : ∀ p ∈ led, p.1 ≠ d) (hd : od.IsDictOf knd kvs) (hkey : knd.is k key = true) (hsz : kvs.length ≤ sizeLine)
    (h : ∀ h' od', od'.IsDictOf knd (stored kvs k v) → Fr h₀ L h' m → News h₀ L h' ((d, od') :: led) → Q () { s with heap := h', toks := s.toks + 1 }) :
    wpAny (model prog w) A (setItem (.ref d) key v) Q E s := by
  refine wpAny_setItem_pairs hkey (dictOf_led N (.head _) hd) (fun h' hm' hs' => ?_) hsz
  obtain ⟨od', ho', hr'⟩ := Heap.dictOf_iff.mp hm'
  have hD := N _ (.head _)
  refine h h' od' hr' ⟨F.ns.at' fun o e => (hs'.2 _ (Ne.symm hD.2.1)).trans e, fun b o e => (hs'.2 b fun q => ?_).trans (F.keep b o e), F.above⟩ fun p hp => ?_
  · rw [q] at e; rw [hD.2.2] at e; cases e
  · rcases List.mem_cons.mp hp with rfl | hp
    · exact ⟨ho', hD.2⟩
    · have P := N p (.tail _ hp)
      exact ⟨(hs'.2 _ (hne p hp)).trans P.1, P.2⟩
theorem getItem_dict {k : K} {key v : Value} {Q : Value → Shared → Prop} (hd : s.heap.DictOf knd d kvs) (hkey : knd.is k key = true) (hv : valueAt kvs k = some v) (h : Q v { s with toks := s.toks + 1 }) : wpAny (model prog w) A (getItem (.ref d) key) Q E s :=
  wpAny_getItem_of hkey hd.mapOf hv h
theorem in_dict {k : K} {key : Value} {Q : Value → Shared → Prop} (hd : s.heap.DictOf knd d kvs) (lo : (d == sysModules) = false) (hkey : knd.is k key = true) (h : Q (.bool (valueAt kvs k).isSome) { s with toks := s.toks + 1 }) : wpAny (model prog w) A (compareOp .In key (.ref d)) Q E s :=
  wpAny_in_of hkey lo hd.mapOf h
end
noncomputable def putTab (tab : List (Nat × Nat)) (q : Nat × Nat) : List (Nat × Nat) := if tab.any (fun r => r.1 == q.1) then tab.map (fun r => if r.1 = q.1 then (r.1, r.2 + q.2) else r) else tab ++ [q]
noncomputable def addTab (t1 t2 : List (Nat × Nat)) : List (Nat × Nat) := t2.foldl putTab t1
theorem any_key_take {t : List (Nat × Nat)} (hn : (t.map (·.1)).Nodup) {i : Nat} {q : Nat × Nat} (hq : t[i]? = some q) (τ : Nat → Tok) : (kvsOf τ (t.take i)).any (fun kv => kv.1 = (q.1 : Int)) = false := by
  rw [Bool.eq_false_iff]
  intro h
  obtain ⟨kv, hm, he⟩ := List.any_eq_true.mp h
  unfold kvsOf at hm
  obtain ⟨r, hr, rfl⟩ := List.mem_map.mp hm
  have he' : r.1 = q.1 := Int.ofNat.inj (of_decide_eq_true he)
  obtain ⟨j, hj, e⟩ := List.getElem_of_mem hr
  have hlt : i < t.length := by
    rcases Nat.lt_or_ge i t.length with h | h
    · exact h
    · rw [List.getElem?_eq_none h] at hq; cases hq
  have hji : j < i := by rw [List.length_take] at hj; (first | lia | omega)
  rw [List.getElem_take] at e
  have hqe : t[i] = q := by rw [List.getElem?_eq_getElem hlt] at hq; exact Option.some.inj hq
  have hp := List.pairwise_iff_getElem.mp hn j i (by rw [List.length_map]; exact Nat.lt_trans hji hlt) (by rw [List.length_map]; exact hlt) hji
  rw [List.getElem_map, List.getElem_map, e, hqe] at hp
  exact hp he'
theorem stored_new {t : List (Nat × Nat)} (hn : (t.map (·.1)).Nodup) {i : Nat} {q : Nat × Nat} (hq : t[i]? = some q) (τ : Nat → Tok) : stored (kvsOf τ (t.take i)) (q.1 : Int) (.int (q.2 : Int) (τ q.1)) = kvsOf τ (t.take (i + 1)) := by
  unfold stored
  rw [any_key_take hn hq τ, if_neg Bool.false_ne_true]
  unfold kvsOf
  rw [List.take_add_one, hq]
  simp
theorem valueAt_kvs (τ : Nat → Tok) (t : List (Nat × Nat)) (k : Nat) : valueAt (kvsOf τ t) (k : Int) = (t.find? fun r => r.1 == k).map fun r => .int (r.2 : Int) (τ r.1) := by
  unfold valueAt kvsOf
  rw [List.find?_map, Option.map_map]
  have e : ((fun kv : Int × Value => decide (kv.1 = (k : Int))) ∘ fun q : Nat × Nat => ((q.1 : Int), Value.int (q.2 : Int) (τ q.1))) = fun r => r.1 == k := by
    funext r
    simp only [Function.comp]
    by_cases h : r.1 = k
    · simp [h]
    · rw [beq_false_of_ne h, decide_eq_false]; exact fun q => h (Int.ofNat.inj q)
  rw [e]; rfl
theorem kvs_any (τ : Nat → Tok) (t : List (Nat × Nat)) (k : Nat) : (kvsOf τ t).any (fun kv => decide (kv.1 = (k : Int))) = t.any fun r => r.1 == k := by
  unfold kvsOf
  rw [List.any_map]
  congr 1
  funext r
  simp only [Function.comp]
  by_cases h : r.1 = k
  · simp [h]
  · rw [beq_false_of_ne h, decide_eq_false]; exact fun q => h (Int.ofNat.inj q)
theorem putTab_new {t : List (Nat × Nat)} {q : Nat × Nat} (h : (t.find? fun r => r.1 == q.1) = none) (τ : Nat → Tok) (tk : Tok) : stored (kvsOf τ t) (q.1 : Int) (.int (q.2 : Int) tk) = kvsOf (fun k => if k = q.1 then tk else τ k) (putTab t q) := by
  have ha : (t.any fun r => r.1 == q.1) = false := by rw [List.any_eq_false]; intro r hr; exact fun z => by have := List.find?_eq_none.mp h r hr; exact this z
  unfold stored putTab
  rw [kvs_any, ha]
  simp only [Bool.false_eq_true, if_false]
  unfold kvsOf
  rw [List.map_append]
  congr 1
  · apply List.map_congr_left
    intro r hr
    have : r.1 ≠ q.1 := fun z => by have := List.find?_eq_none.mp h r hr; exact this (beq_iff_eq.mpr z)
    simp [this]
  · simp
theorem putTab_old {t : List (Nat × Nat)} (hn : (t.map (·.1)).Nodup) {q r : Nat × Nat} (h : (t.find? fun r => r.1 == q.1) = some r) (τ : Nat → Tok) (tk : Tok) :
    stored (kvsOf τ t) (q.1 : Int) (.int ((r.2 : Int) + (q.2 : Int)) tk) = kvsOf (fun k => if k = q.1 then tk else τ k) (putTab t q) := by
  have hr : r ∈ t := List.mem_of_find?_eq_some h
  have hk : r.1 = q.1 := by have := List.find?_some h; simpa using this
  have ha : (t.any fun r => r.1 == q.1) = true := List.any_eq_true.mpr ⟨r, hr, beq_iff_eq.mpr hk⟩
  unfold stored putTab
  rw [kvs_any, ha]
  simp only [if_true]
  unfold kvsOf
  rw [List.map_map, List.map_map]
  apply List.map_congr_left
  intro x hx
  simp only [Function.comp]
  by_cases e : x.1 = q.1
  · have hxr : x = r := by
      obtain ⟨i, hi, rfl⟩ := List.getElem_of_mem hx
      obtain ⟨j, hj, rfl⟩ := List.getElem_of_mem hr
      rcases Nat.lt_trichotomy i j with hij | rfl | hij
      · have := List.pairwise_iff_getElem.mp hn i j (by rw [List.length_map]; exact hi) (by rw [List.length_map]; exact hj) hij
        rw [List.getElem_map, List.getElem_map] at this
        exact absurd (e.trans hk.symm) this
      · rfl
      · have := List.pairwise_iff_getElem.mp hn j i (by rw [List.length_map]; exact hj) (by rw [List.length_map]; exact hi) hij
        rw [List.getElem_map, List.getElem_map] at this
        exact absurd (hk.trans e.symm) this
    subst hxr
    simp [e]
  · have e' : ¬ ((x.1 : Int) = (q.1 : Int)) := fun z => e (Int.ofNat.inj z)
    simp [e, e']
theorem putTab_keys {t : List (Nat × Nat)} (hn : (t.map (·.1)).Nodup) (q : Nat × Nat) : ((putTab t q).map (·.1)).Nodup := by
  unfold putTab
  split
  · have : (t.map (fun r => if r.1 = q.1 then (r.1, r.2 + q.2) else r)).map (·.1) = t.map (·.1) := by
      rw [List.map_map]; apply List.map_congr_left; intro r _; simp only [Function.comp]; split <;> rfl
    rw [this]; exact hn
  · rename_i h
    rw [List.map_append, List.nodup_append]
    refine ⟨hn, by simp, ?_⟩
    intro a ha b hb
    obtain ⟨r, hr, rfl⟩ := List.mem_map.mp ha
    have : b = q.1 := by simpa using hb
    subst this
    intro e
    exact h (List.any_eq_true.mpr ⟨r, hr, beq_iff_eq.mpr e⟩)
theorem putTab_length (t : List (Nat × Nat)) (q : Nat × Nat) : (putTab t q).length ≤ t.length + 1 := by
  unfold putTab; split <;> simp
theorem addTab_length (t1 t2 : List (Nat × Nat)) : (addTab t1 t2).length ≤ t1.length + t2.length := by
  unfold addTab
  induction t2 generalizing t1 with
  | nil => simp
  | cons q r ih => rw [List.foldl_cons]; have := ih (putTab t1 q); have := putTab_length t1 q; simp only [List.length_cons]; (first | lia | omega)
theorem addTab_keys {t1 : List (Nat × Nat)} (hn : (t1.map (·.1)).Nodup) (t2 : List (Nat × Nat)) : ((addTab t1 t2).map (·.1)).Nodup := by
  unfold addTab
  induction t2 generalizing t1 with
  | nil => exact hn
  | cons q r ih => exact ih (putTab_keys hn q)
theorem addTab_succ (t1 : List (Nat × Nat)) {t2 : List (Nat × Nat)} {i : Nat} {q : Nat × Nat} (hq : t2[i]? = some q) : addTab t1 (t2.take (i + 1)) = putTab (addTab t1 (t2.take i)) q := by
  unfold addTab; rw [List.take_add_one, hq, List.foldl_append]; rfl
theorem kvsOf_length (τ : Nat → Tok) (t : List (Nat × Nat)) : (kvsOf τ t).length = t.length := List.length_map ..
section
variable {prog : Program} {w : World} {A : Around} {E : Value → Shared → Prop} {s : Shared}
theorem item_list {value slice : Expr} {l : Addr} {vs : List Value} {k : Nat} {u : Tok} {v : Value} {Q : Value → Shared → Prop} (hL : s.heap.IsList l vs.toArray) (hk : k < 2 ^ 62) (hx : vs[k]? = some v) (h : Q v s)
    (hs : subscripted slice false (.ref l) (.int (k : Int) u) = operate [.ref l, .int (k : Int) u] (getItem (.ref l) (.int (k : Int) u)) := by with_unfolding_all rfl) :
    wpAny (model prog w) A (subscriptTail value slice (.ref l) (.int (k : Int) u)) Q E s :=
  tail_any hL.typeIs slot_list_getitem.lookup (wpAny_getItem_list hL (by (first | lia | omega)) (by (first | lia | omega)) (by simpa using hx) h) hs
theorem list_led {h₀ : Heap} {L l : Addr} {led : List (Addr × Obj)} {vs : List Value} {n : Nat} (N : News h₀ L s.heap led) (hm : (l, W.listOf vs.toArray n) ∈ led) : s.heap.IsList l vs.toArray := ⟨_, (N _ hm).1, rfl, n, rfl⟩
end
theorem fmod_nat (a b : Nat) : Int.fmod (a : Int) (b : Int) = ((a % b : Nat) : Int) := by
  rw [Int.fmod_eq_emod_of_nonneg _ (by (first | lia | omega))]; rfl
theorem fdiv_nat (a b : Nat) : Int.fdiv (a : Int) (b : Int) = ((a / b : Nat) : Int) := by
  rw [Int.fdiv_eq_ediv_of_nonneg _ (by (first | lia | omega))]; rfl
theorem allne_of_lt {d : Addr} {l : List (Addr × Obj)} (h : ∀ p ∈ l, p.1 < d) : ∀ p ∈ l, p.1 ≠ d := fun p hp => Nat.ne_of_lt (h p hp)
theorem lt_of_allLt {d : Addr} {l : List (Addr × Obj)} (h : AllLt d l) : ∀ p ∈ l, p.1 < d := by
  induction l with
  | nil => intro p hp; cases hp
  | cons q r ih =>
    intro p hp
    have h2 : q.1 < d ∧ AllLt d r := h
    rcases List.mem_cons.mp hp with e | hp
    · rw [e]; exact h2.1
    · exact ih h2.2 p hp
theorem allne_of_allLt {d : Addr} {l : List (Addr × Obj)} (h : AllLt d l) : ∀ p ∈ l, p.1 ≠ d := fun p hp => Nat.ne_of_lt (lt_of_allLt h p hp)
/-- small terms for what (first | lia | omega) and simp prove with large ones -/
theorem inn (n : Nat) : (0 : Int) ≤ (n : Int) := Int.natCast_nonneg n
theorem big1920 : (1000000000 : Int) < 2 ^ 1920 := by decide +kernel
theorem ineg (n : Nat) : -(2 : Int) ^ 1920 < (n : Int) := by have := big1920; (first | lia | omega)
theorem ipos {n c : Nat} (h : n < c) (hk : Nat.ble c 1000000000 = true) : (n : Int) < 2 ^ 1920 := by have := big1920; have := Nat.le_of_ble_eq_true hk; (first | lia | omega)
theorem ipose {n c : Nat} (h : n ≤ c) (hk : Nat.ble c 1000000000 = true) : (n : Int) < 2 ^ 1920 := by have := big1920; have := Nat.le_of_ble_eq_true hk; (first | lia | omega)
theorem i63 {n c : Nat} (h : n < c) (hk : Nat.ble c 1000000000 = true) : (n : Int) < 2 ^ 63 := by have := Nat.le_of_ble_eq_true hk; (first | lia | omega)
theorem i63e {n c : Nat} (h : n ≤ c) (hk : Nat.ble c 1000000000 = true) : (n : Int) < 2 ^ 63 := by have := Nat.le_of_ble_eq_true hk; (first | lia | omega)
theorem nlt {n c k : Nat} (h : n ≤ c) (hk : Nat.blt c k = true) : n < k := Nat.lt_of_le_of_lt h (Nat.le_of_ble_eq_true hk)
theorem nle {n c k : Nat} (h : n ≤ c) (hk : Nat.ble c k = true) : n ≤ k := Nat.le_trans h (Nat.le_of_ble_eq_true hk)
theorem nlt' {n c k : Nat} (h : n < c) (hk : Nat.ble c k = true) : n < k := Nat.lt_of_lt_of_le h (Nat.le_of_ble_eq_true hk)
theorem nle' {n c k : Nat} (h : n < c) (hk : Nat.ble c k = true) : n ≤ k := Nat.le_trans (Nat.le_of_lt h) (Nat.le_of_ble_eq_true hk)
theorem sub_nil {α : Type} {l : List α} : ∀ p ∈ ([] : List α), p ∈ l := fun _ h => nomatch h
theorem sub_refl {α : Type} {l : List α} : ∀ p ∈ l, p ∈ l := fun _ h => h
theorem sub_cons {α : Type} {a : α} {l l' : List α} (h : a ∈ l) (hs : ∀ p ∈ l', p ∈ l) : ∀ p ∈ a :: l', p ∈ l := List.forall_mem_cons.2 ⟨h, hs⟩
theorem sub_tail {α : Type} {a : α} {l l' : List α} (hs : ∀ p ∈ l', p ∈ l) : ∀ p ∈ l', p ∈ a :: l := fun p h => .tail _ (hs p h)
theorem mem_h {α : Type} {a : α} {l : List α} : a ∈ a :: l := .head _
theorem mem_t {α : Type} {a b : α} {l : List α} (h : a ∈ l) : a ∈ b :: l := .tail _ h
theorem mem_l {α : Type} {a : α} {l l' : List α} (h : a ∈ l) : a ∈ l ++ l' := List.mem_append_left _ h
theorem mem_r {α : Type} {a : α} {l l' : List α} (h : a ∈ l') : a ∈ l ++ l' := List.mem_append_right _ h
theorem sub_app {α : Type} {l l1 l2 : List α} (h1 : ∀ p ∈ l1, p ∈ l) (h2 : ∀ p ∈ l2, p ∈ l) : ∀ p ∈ l1 ++ l2, p ∈ l := fun p h => (List.mem_append.mp h).elim (h1 p) (h2 p)
theorem sub_app_l {α : Type} {l l1 l2 : List α} (h1 : ∀ p ∈ l, p ∈ l1) : ∀ p ∈ l, p ∈ l1 ++ l2 := fun p h => List.mem_append_left _ (h1 p h)
theorem sub_app_r {α : Type} {l l1 l2 : List α} (h1 : ∀ p ∈ l, p ∈ l2) : ∀ p ∈ l, p ∈ l1 ++ l2 := fun p h => List.mem_append_right _ (h1 p h)
theorem dlt {d a b k m : Nat} (h : d + k < m) (e : Nat.ble (a + b) k = true) : d + a + b < m := by have := Nat.le_of_ble_eq_true e; omega
noncomputable def Hide (P : Prop) : Prop := P
theorem fa_cons {α : Type} {P : α → Prop} {a : α} {l : List α} (h : P a) (hl : ∀ p ∈ l, P p) : ∀ p ∈ a :: l, P p := List.forall_mem_cons.2 ⟨h, hl⟩
theorem fa_app {α : Type} {P : α → Prop} {l l' : List α} (h : ∀ p ∈ l, P p) (hl : ∀ p ∈ l', P p) : ∀ p ∈ l ++ l', P p := fun p hp => (List.mem_append.mp hp).elim (h p) (hl p)
noncomputable def mapE : List (Str × Value) → Str → Option Value
  | [] => fun _ => none
  | (k, v) :: l => fun y => if y = k then some v else mapE l y
theorem look_E (l : List (Str × Value)) (y : Str) : l.lookup y = mapE l y := by
  induction l with
  | nil => rfl
  | cons a l ih =>
    obtain ⟨k, v⟩ := a; rw [List.lookup_cons]; unfold mapE; by_cases h : y = k
    · subst h; simp
    · rw [show (y == k) = false from beq_eq_false_iff_ne.mpr h]; simp [h, ih]
noncomputable def keysOff : List Str → Bool
  | [] => true
  | k :: l => l.all (fun x => decide (x ≠ k)) && keysOff l
theorem mapE_append (l l' : List (Str × Value)) (y : Str) : mapE (l ++ l') y = (mapE l y).or (mapE l' y) := by
  induction l with
  | nil => simp [mapE]
  | cons a l ih => obtain ⟨k, v⟩ := a; simp only [List.cons_append, mapE]; by_cases h : y = k <;> simp [h, ih]
theorem mapE_none {l : List (Str × Value)} {y : Str} (h : ∀ p ∈ l, p.1 ≠ y) : mapE l y = none := by
  induction l with
  | nil => rfl
  | cons a l ih => obtain ⟨k, v⟩ := a; simp only [mapE]; rw [if_neg (fun e => h _ (.head _) e.symm)]; exact ih fun p hp => h p (.tail _ hp)
theorem look_rev (l : List (Str × Value)) (h : keysOff (l.map Prod.fst) = true) : (fun y => l.reverse.lookup y) = mapE l := by
  funext y
  rw [look_E]
  induction l with
  | nil => rfl
  | cons a l ih =>
    obtain ⟨k, v⟩ := a
    simp only [List.map_cons, keysOff, Bool.and_eq_true, List.all_eq_true, List.mem_map, decide_eq_true_eq] at h
    rw [List.reverse_cons, mapE_append, ih h.2]
    simp only [mapE]
    by_cases e : y = k
    · subst e; rw [mapE_none (fun p hp => h.1 _ ⟨p, hp, rfl⟩)]; simp
    · simp only [if_neg e]; cases mapE l y <;> rfl
theorem map1 {f g : Str → Option Value} (a : Str) (ha : f a = g a) (h : ∀ y, y ≠ a → f y = g y) : f = g := by
  funext y; by_cases e : y = a
  · rw [e, ha]
  · exact h y e
theorem map2 {f g : Str → Option Value} (a b : Str) (ha : f a = g a) (hb : f b = g b) (h : ∀ y, y ≠ a → y ≠ b → f y = g y) : f = g :=
  map1 a ha fun y na => by by_cases e : y = b
                           · rw [e, hb]
                           · exact h y na e
theorem map3 {f g : Str → Option Value} (a b c : Str) (ha : f a = g a) (hb : f b = g b) (hc : f c = g c) (h : ∀ y, y ≠ a → y ≠ b → y ≠ c → f y = g y) : f = g :=
  map2 a b ha hb fun y na nb => by by_cases e : y = c
                                   · rw [e, hc]
                                   · exact h y na nb e
theorem map4 {f g : Str → Option Value} (a b c d : Str) (ha : f a = g a) (hb : f b = g b) (hc : f c = g c) (hd : f d = g d) (h : ∀ y, y ≠ a → y ≠ b → y ≠ c → y ≠ d → f y = g y) : f = g :=
  map3 a b c ha hb hc fun y na nb nc => by by_cases e : y = d
                                           · rw [e, hd]
                                           · exact h y na nb nc e
end Mine
end
section
theorem Mine.fresh7 : True := by w_top off; trivial
open PySem PySem.W PyProof.Rows PySem.Calls
set_option maxRecDepth 100000
set_option maxHeartbeats 8000000
namespace Mine
/-- a call of a type's own __new__ with that type: no name is looked up among the aliases -/
theorem new_check {id T : String} {osig : Option Manifest.Signature} {args : List Value} (h1 : builtinKind id = some .builtinFn) (h2 : splitId id = some (T, "__new__")) (h3 : Manifest.signature? id = osig)
    (h4 : isSubtype (.type T) (.type T) = pure true) (h5 : (Manifest.find? T).elim false (·.noNew) = false) (h6 : Bind.staticBase (.type T) = pure (.type T)) (h7 : Bind.madeBy (.type T) = pure (some id))
    (h8 : (do if let some sig := osig then Bind.checkArgs id sig ⟨.type T :: args, []⟩ : Sem Unit) = pure ()) : checkBuiltinCall id ⟨.type T :: args, []⟩ = pure () := by
  unfold checkBuiltinCall
  rw [h1, h2, h3]
  show (isType (.type T) >>= _) = _
  rw [show isType (.type T) = pure true from rfl]
  show (isSubtype (.type T) (.type T) >>= _) = _
  rw [h4]
  show (if (Manifest.find? T).elim false (·.noNew) = true then _ else _) = _
  rw [if_neg (by rw [h5]; exact Bool.false_ne_true)]
  show (Bind.staticBase (.type T) >>= _) = _
  rw [h6]
  show (Bind.madeBy (.type T) >>= _) = _
  rw [h7]
  show (if (Manifest.canonical id != Manifest.canonical id) = true then _ else _) = _
  rw [if_neg (by rw [bne_self_eq_false]; exact Bool.false_ne_true)]
  exact h8
theorem owner_map : Manifest.owners.lookup (String.ofList ['p', 'a', 'm'].reverse) = some Manifest.sig_map := by kernel_rfl
theorem slot_map_init : Slot "map" "__init__" "object.__init__" :=
  .of (owner := "object") (n := "__init__") (by rw [typeLookup_type, builtinLookup_eq_fast]; kernel_rfl) (by decide +kernel) (by decide +kernel) (by decide +kernel)
    (by first | exact .inl (by decide +kernel) | exact .inr (by decide +kernel)) (by rw [isSubtype_type]; kernel_rfl)
theorem slot_map_iter : Slot "map" "__iter__" "map.__iter__" :=
  .of (owner := "map") (n := "__iter__") (by rw [typeLookup_type, builtinLookup_eq_fast]; kernel_rfl) (by decide +kernel) (by decide +kernel) (by decide +kernel)
    (by first | exact .inl (by decide +kernel) | exact .inr (by decide +kernel)) (by rw [isSubtype_type]; kernel_rfl)
theorem args_map_iter_1 (a : Value) : argsOk "map.__iter__" ⟨[a], []⟩ := by
  unfold argsOk; rw [signature?_of (id := "map.__iter__") (n := ['_', '_', 'r', 'e', 't', 'i', '_', '_']) (o := ['p', 'a', 'm']) (by kernel_rfl) owner_map]; kernel_rfl
theorem slot_map_next : Slot "map" "__next__" "map.__next__" :=
  .of (owner := "map") (n := "__next__") (by rw [typeLookup_type, builtinLookup_eq_fast]; kernel_rfl) (by decide +kernel) (by decide +kernel) (by decide +kernel)
    (by first | exact .inl (by decide +kernel) | exact .inr (by decide +kernel)) (by rw [isSubtype_type]; kernel_rfl)
theorem entry_map_next : entryFor table "map.__next__" = some Builtin.«map.__next__» := entryFor_of_tree (by kernel_rfl)
theorem args_map_next_1 (a : Value) : argsOk "map.__next__" ⟨[a], []⟩ := by
  unfold argsOk; rw [signature?_of (id := "map.__next__") (n := ['_', '_', 't', 'x', 'e', 'n', '_', '_']) (o := ['p', 'a', 'm']) (by kernel_rfl) owner_map]; kernel_rfl
theorem entry_map_iter : entryFor table "map.__iter__" = some Builtin.«dict_keyiterator.__iter__» :=
  entryFor_alias (id' := "dict_keyiterator.__iter__") (by rw [fastTable_eq_tree]; kernel_rfl) (by decide +kernel) (by decide +kernel) (by rw [fastTable_eq_tree]; kernel_rfl)
theorem mro_map : mroOf (.type "map") = pure [.type "map", .type "object"] := by rw [mroOf_type]; kernel_rfl
theorem lookup_map_new : typeLookup (.type "map") "__new__" = pure (some (.builtin "map.__new__")) := by rw [typeLookup_type, builtinLookup_eq_fast]; kernel_rfl
theorem called_map : TypeCalled "map" "map.__new__" "object.__init__" :=
  ⟨by decide +kernel, by decide +kernel, ⟨_, _, mro_map⟩, madeBy_type mro_map lookup_map_new (by decide +kernel), by decide +kernel, by rw [isSubtype_type]; kernel_rfl, slot_map_init⟩
theorem typeCall_map_2 (a b : Value) : checkTypeCall "map" ⟨[a, b], []⟩ = pure () := by kernel_rfl
theorem entry_map_new : entryFor table "map.__new__" = some Builtin.«map.__new__» := entryFor_of_tree (by kernel_rfl)
theorem sub_map : isSubtype (.type "map") (.type "map") = pure true := by rw [isSubtype_type]; kernel_rfl
theorem newCall_map_2 (a b : Value) : checkBuiltinCall "map.__new__" ⟨[.type "map", a, b], []⟩ = pure () :=
  new_check (by kernel_rfl) (by kernel_rfl) (signature?_of (id := "map.__new__") (n := ['_', '_', 'w', 'e', 'n', '_', '_']) (o := ['p', 'a', 'm']) (by kernel_rfl) owner_map) sub_map (by kernel_rfl) (by kernel_rfl) (madeBy_type mro_map lookup_map_new (by decide +kernel)) (by kernel_rfl)
theorem map_no_len : typeLookup (.type "map") "__len__" = pure none := by rw [typeLookup_type, builtinLookup_eq_fast]; kernel_rfl
theorem map_no_hint : typeLookup (.type "map") "__length_hint__" = pure none := by rw [typeLookup_type, builtinLookup_eq_fast]; kernel_rfl
theorem owner_filter : Manifest.owners.lookup (String.ofList ['r', 'e', 't', 'l', 'i', 'f'].reverse) = some Manifest.sig_filter := by kernel_rfl
theorem slot_filter_init : Slot "filter" "__init__" "object.__init__" :=
  .of (owner := "object") (n := "__init__") (by rw [typeLookup_type, builtinLookup_eq_fast]; kernel_rfl) (by decide +kernel) (by decide +kernel) (by decide +kernel)
    (by first | exact .inl (by decide +kernel) | exact .inr (by decide +kernel)) (by rw [isSubtype_type]; kernel_rfl)
theorem slot_filter_iter : Slot "filter" "__iter__" "filter.__iter__" :=
  .of (owner := "filter") (n := "__iter__") (by rw [typeLookup_type, builtinLookup_eq_fast]; kernel_rfl) (by decide +kernel) (by decide +kernel) (by decide +kernel)
    (by first | exact .inl (by decide +kernel) | exact .inr (by decide +kernel)) (by rw [isSubtype_type]; kernel_rfl)
theorem args_filter_iter_1 (a : Value) : argsOk "filter.__iter__" ⟨[a], []⟩ := by
  unfold argsOk; rw [signature?_of (id := "filter.__iter__") (n := ['_', '_', 'r', 'e', 't', 'i', '_', '_']) (o := ['r', 'e', 't', 'l', 'i', 'f']) (by kernel_rfl) owner_filter]; kernel_rfl
theorem slot_filter_next : Slot "filter" "__next__" "filter.__next__" :=
  .of (owner := "filter") (n := "__next__") (by rw [typeLookup_type, builtinLookup_eq_fast]; kernel_rfl) (by decide +kernel) (by decide +kernel) (by decide +kernel)
    (by first | exact .inl (by decide +kernel) | exact .inr (by decide +kernel)) (by rw [isSubtype_type]; kernel_rfl)
theorem entry_filter_next : entryFor table "filter.__next__" = some Builtin.«filter.__next__» := entryFor_of_tree (by kernel_rfl)
theorem args_filter_next_1 (a : Value) : argsOk "filter.__next__" ⟨[a], []⟩ := by
  unfold argsOk; rw [signature?_of (id := "filter.__next__") (n := ['_', '_', 't', 'x', 'e', 'n', '_', '_']) (o := ['r', 'e', 't', 'l', 'i', 'f']) (by kernel_rfl) owner_filter]; kernel_rfl
theorem entry_filter_iter : entryFor table "filter.__iter__" = some Builtin.«dict_keyiterator.__iter__» :=
  entryFor_alias (id' := "dict_keyiterator.__iter__") (by rw [fastTable_eq_tree]; kernel_rfl) (by decide +kernel) (by decide +kernel) (by rw [fastTable_eq_tree]; kernel_rfl)
theorem mro_filter : mroOf (.type "filter") = pure [.type "filter", .type "object"] := by rw [mroOf_type]; kernel_rfl
theorem lookup_filter_new : typeLookup (.type "filter") "__new__" = pure (some (.builtin "filter.__new__")) := by rw [typeLookup_type, builtinLookup_eq_fast]; kernel_rfl
theorem called_filter : TypeCalled "filter" "filter.__new__" "object.__init__" :=
  ⟨by decide +kernel, by decide +kernel, ⟨_, _, mro_filter⟩, madeBy_type mro_filter lookup_filter_new (by decide +kernel), by decide +kernel, by rw [isSubtype_type]; kernel_rfl, slot_filter_init⟩
theorem typeCall_filter_2 (a b : Value) : checkTypeCall "filter" ⟨[a, b], []⟩ = pure () := by kernel_rfl
theorem entry_filter_new : entryFor table "filter.__new__" = some Builtin.«filter.__new__» := entryFor_of_tree (by kernel_rfl)
theorem sub_filter : isSubtype (.type "filter") (.type "filter") = pure true := by rw [isSubtype_type]; kernel_rfl
theorem newCall_filter_2 (a b : Value) : checkBuiltinCall "filter.__new__" ⟨[.type "filter", a, b], []⟩ = pure () :=
  new_check (by kernel_rfl) (by kernel_rfl) (signature?_of (id := "filter.__new__") (n := ['_', '_', 'w', 'e', 'n', '_', '_']) (o := ['r', 'e', 't', 'l', 'i', 'f']) (by kernel_rfl) owner_filter) sub_filter (by kernel_rfl) (by kernel_rfl) (madeBy_type mro_filter lookup_filter_new (by decide +kernel)) (by kernel_rfl)
theorem filter_no_len : typeLookup (.type "filter") "__len__" = pure none := by rw [typeLookup_type, builtinLookup_eq_fast]; kernel_rfl
theorem filter_no_hint : typeLookup (.type "filter") "__length_hint__" = pure none := by rw [typeLookup_type, builtinLookup_eq_fast]; kernel_rfl
noncomputable abbrev IsMapO (h : Heap) (M T : Addr) (f : Value) : Prop := h.get? M = some { cls := .type "map", dict := none, data := .fields #[.ref T, f], slots := #[] }
noncomputable abbrev IsOne (h : Heap) (T : Addr) (a : Value) : Prop := h.get? T = some { cls := .type "tuple", data := .seq #[a] }
theorem meets_map_new (f : Value) (l : Addr) (xs : Array Value) :
    Meets (Builtin.«map.__new__» ⟨[.type "map", f, .ref l], []⟩) (fun _ R s => s.heap.IsList l xs ∧
      R (.ok (.ret (.ref (s.heap.objs.size + 2)))) { s with heap := ((s.heap.push { cls := .type "list_iterator", data := .fields #[.ref l, .int 0 0] }).push { cls := .type "tuple", data := .seq #[.ref s.heap.objs.size] }).push { cls := .type "map", data := .fields #[.ref (s.heap.objs.size + 1), f] } }) :=
  .of_wp fun prog w A R s h => by
    obtain ⟨hp, g, d, tk, os⟩ := s; obtain ⟨hl1, h⟩ := h
    have hsub := sub_map
    have hL1 : Heap.IsList (Shared.heap ⟨hp, g, d, tk, os⟩) l xs := hl1
    wp_walk using wpAny_pyIter_list hL1
    refine ⟨_, rfl, ?_⟩
    simp only [Heap.size_push]
    exact h
section
variable {prog : Program} {w : World} {A : Around} {E : Value → Shared → Prop} {s : Shared}
theorem call_map {f : Value} {l : Addr} {xs : Array Value} {Q : Value → Shared → Prop} (hl : s.heap.IsList l xs)
    (h : ∀ h', IsMapO h' (s.heap.objs.size + 2) (s.heap.objs.size + 1) f → IsOne h' (s.heap.objs.size + 1) (.ref s.heap.objs.size) → h'.IsListIter s.heap.objs.size l 0 → h'.objs.size = s.heap.objs.size + 3 →
      (∀ c o, s.heap.get? c = some o → h'.get? c = some o) → Q (.ref (s.heap.objs.size + 2)) { s with heap := h' }) :
    wpAny (model prog w) A (PySem.call (.type "map") [f, .ref l]) Q E s := by
  refine callType_new called_map (by decide) (typeCall_map_2 _ _) (newCall_map_2 _ _) (fun obj => PySem.F.args_object_init_3 obj _ _) entry_map_new
    (meets_map_new f l xs) ⟨hl, ?_⟩
  let H1 : Heap := s.heap.push { cls := .type "list_iterator", data := .fields #[.ref l, .int 0 0] }
  let H2 : Heap := H1.push { cls := .type "tuple", data := .seq #[.ref s.heap.objs.size] }
  let H3 : Heap := H2.push { cls := .type "map", data := .fields #[.ref (s.heap.objs.size + 1), f] }
  have e1 : H1.objs.size = s.heap.objs.size + 1 := Heap.size_push ..
  have e2 : H2.objs.size = s.heap.objs.size + 2 := by show (H1.push _).objs.size = _; rw [Heap.size_push, e1]
  have g3 : H3.get? H2.objs.size = some { cls := .type "map", data := .fields #[.ref (s.heap.objs.size + 1), f] } := Heap.get?_push_size _ rfl
  have g2 : H3.get? H1.objs.size = some { cls := .type "tuple", data := .seq #[.ref s.heap.objs.size] } := Heap.get?_push_of_some _ (Heap.get?_push_size _ rfl)
  rw [e2] at g3
  rw [e1] at g2
  refine ⟨⟨_, g3, rfl⟩, h _ g3 g2 ⟨_, Heap.get?_push_of_some _ (Heap.get?_push_of_some _ (Heap.get?_push_size _ rfl)), rfl, rfl⟩ (by rw [Heap.size_push, Heap.size_push, Heap.size_push]) fun c o x => Heap.get?_push_of_some _ (Heap.get?_push_of_some _ (Heap.get?_push_of_some _ x))⟩
theorem map_next_item {M T J l : Addr} {i : Nat} {xs : Array Value} {x f : Value} {Q : Value → Shared → Prop} (hM : IsMapO s.heap M T f) (hT : IsOne s.heap T (.ref J)) (hJ : s.heap.IsListIter J l i) (hl : s.heap.IsList l xs) (hx : xs[i]? = some x) (hne : J ≠ M)
    (h : ∀ h', h'.IsListIter J l (i + 1) → Heap.SameBut J s.heap h' → wpAny (model prog w) A (PySem.call f [x]) Q E { s with heap := h' }) :
    wpAny (model prog w) A (Builtin.«map.__next__» ⟨[.ref M], []⟩) (fun fin s' => ∃ v, fin = .done (.ret v) ∧ Q v s') E s := by
  show wpAny _ _ (field (.ref M) 0 >>= _) _ _ _
  refine wpAny_bind (wpAny_field hM rfl (x := .ref T) rfl ?_)
  refine wpAny_bind (wpAny_seqItems hT rfl ?_)
  show wpAny _ _ (forIn #[Value.ref J] #[] _ >>= _) _ _ _
  rw [show (#[Value.ref J] : Array Value) = [Value.ref J].toArray from rfl, List.forIn_toArray]
  simp only [List.forIn_cons, List.forIn_nil]
  refine wpAny_bind (wpAny_bind (wpAny_bind (wpAny_holding (wpAny_nextOf_list_item hJ hl hx fun h2 hJ2 hs2 => wpAny_pure (wpAny_pure ?_)))))
  refine wpAny_bind (wpAny_field (hs2.extBut _ _ hne.symm hM) rfl (x := f) rfl ?_)
  refine wpAny_bind (wpAny_holding ?_)
  refine wpAny_mono (h h2 hJ2 hs2) (fun v s' hv => ?_) fun _ _ y => y
  exact wpAny_bind (wpAny_letGo (wpAny_pure ⟨v, rfl, hv⟩))
end
end Mine
end
section
theorem Mine.fresh8 : True := by w_top off; trivial
open PySem PySem.W PyProof.Rows PySem.Calls
set_option maxRecDepth 100000
set_option maxHeartbeats 8000000
namespace Mine
section
variable {prog : Program} {w : World} {A : Around} {E : Value → Shared → Prop} {s : Shared}
theorem map_next_end {M T J l : Addr} {i : Nat} {xs : Array Value} {f : Value} {Q : Fin → Shared → Prop} (hh : A.handled = none) (hM : IsMapO s.heap M T f) (hT : IsOne s.heap T (.ref J)) (hJ : s.heap.IsListIter J l i) (hl : s.heap.IsList l xs) (hx : xs[i]? = none)
    (hE : ∀ h' e, Heap.ExtBut J s.heap h' → (∃ o, h'.get? e = some o ∧ o.cls = .type "StopIteration") → E (.ref e) { s with heap := h' }) :
    wpAny (model prog w) A (Builtin.«map.__next__» ⟨[.ref M], []⟩) Q E s := by
  show wpAny _ _ (field (.ref M) 0 >>= _) _ _ _
  refine wpAny_bind (wpAny_field hM rfl (x := .ref T) rfl ?_)
  refine wpAny_bind (wpAny_seqItems hT rfl ?_)
  show wpAny _ _ (forIn #[Value.ref J] #[] _ >>= _) _ _ _
  rw [show (#[Value.ref J] : Array Value) = [Value.ref J].toArray from rfl, List.forIn_toArray]
  simp only [List.forIn_cons, List.forIn_nil]
  exact wpAny_bind (wpAny_bind (wpAny_bind (wpAny_holding (wpAny_nextOf_list_end hh hJ hl hx hE))))
theorem pyNext_map_item {M T J l : Addr} {i : Nat} {xs : Array Value} {x f : Value} {Q : Option Value → Shared → Prop} (hM : IsMapO s.heap M T f) (hT : IsOne s.heap T (.ref J)) (hJ : s.heap.IsListIter J l i) (hl : s.heap.IsList l xs) (hx : xs[i]? = some x) (hne : J ≠ M)
    (h : ∀ h', h'.IsListIter J l (i + 1) → Heap.SameBut J s.heap h' → ∀ E', wpAny (model prog w) A.in1 (PySem.call f [x]) (fun v s' => Q (some v) s') E' { s with heap := h' }) :
    wpAny (model prog w) A (pyNext (.ref M)) Q E s := by
  have hTy : s.TypeIs (.ref M) "map" := ⟨_, hM, rfl⟩
  unfold pyNext
  exact wpAny_bind (wpAny_attempt (wpAny_callSpecial?_slot (name := Str.ofString "__next__") hTy slot_map_next
    (wpAny_call_entry slot_map_next hTy entry_map_next (map_next_item hM hT hJ hl hx hne fun h' a1 a2 => wpAny_mono (h h' a1 a2 _) (fun v s' hv => wpAny_pure hv) fun _ _ y => y) (args_map_next_1 _))))
theorem pyNext_map_end {M T J l : Addr} {i : Nat} {xs : Array Value} {f : Value} {Q : Option Value → Shared → Prop} (hh : A.handled = none) (hM : IsMapO s.heap M T f) (hT : IsOne s.heap T (.ref J)) (hJ : s.heap.IsListIter J l i) (hl : s.heap.IsList l xs) (hx : xs[i]? = none)
    (hQ : ∀ h', Heap.ExtBut J s.heap h' → Q none { s with heap := h' }) : wpAny (model prog w) A (pyNext (.ref M)) Q E s := by
  have hTy : s.TypeIs (.ref M) "map" := ⟨_, hM, rfl⟩
  unfold pyNext
  refine wpAny_bind (wpAny_attempt (wpAny_callSpecial?_slot (name := Str.ofString "__next__") hTy slot_map_next
    (wpAny_call_entry slot_map_next hTy entry_map_next (map_next_end hh hM hT hJ hl hx fun h' e hk he => ?_) (args_map_next_1 _))))
  obtain ⟨o, ho, hc⟩ := he
  refine wpAny_bind (wpAny_isInstance (T := "StopIteration") (b := true) ⟨o, ho, hc⟩ isSubtype_stop ?_)
  exact wpAny_pure (hQ _ hk)
theorem pyIter_map {M T : Addr} {f : Value} {Q : Value → Shared → Prop} (hM : IsMapO s.heap M T f) (h : Q (.ref M) s) : wpAny (model prog w) A (pyIter (.ref M)) Q E s := by
  have hT : s.TypeIs (.ref M) "map" := ⟨_, hM, rfl⟩
  refine wpAny_pyIter_slot hT slot_map_iter (wpAny_call_entry slot_map_iter hT entry_map_iter ?_ (args_map_iter_1 _))
  show wpAny _ _ (ret (.ref M)) _ _ s
  exact wpAny_pure ⟨_, rfl, "map", _, hT, slot_map_next.lookup, h⟩
end
theorem walks_map {prog : Program} {w : World} {A : Around} (hh : A.handled = none) {M T J l : Addr} {xs : Array Value} {f : Value} {P : Nat → Value → Prop} {Inv : Heap → Prop} {own : List Addr} (hJM : J ≠ M) (hTJ : T ≠ J) (hlJ : l ≠ J) (hown : J ∉ own)
    (hinv : ∀ h h', Inv h → (∀ b ∈ own, ∀ o, h.get? b = some o → h'.get? b = some o) → Inv h')
    (hcall : ∀ i x, xs[i]? = some x → ∀ (s : Shared) (Q E : Value → Shared → Prop), Inv s.heap → (∀ v h' tk, P i v → (∀ b o, s.heap.get? b = some o → h'.get? b = some o) → Q v { s with heap := h', toks := tk }) → wpAny (model prog w) A.in1 (PySem.call f [x]) Q E s) :
    Walks prog w A M (M :: T :: J :: l :: own) [J] xs.size P (fun i h => IsMapO h M T f ∧ IsOne h T (.ref J) ∧ h.IsListIter J l i ∧ h.IsList l xs ∧ Inv h) where
  sub := fun b hb => by rw [List.mem_singleton.mp hb]; simp
  frame := fun i h h' ⟨a1, a2, a3, a4, a5⟩ hk => ⟨hk M (by simp) _ a1, hk T (by simp) _ a2, a3.at fun o e => hk J (by simp) o e, a4.at fun o e => hk l (by simp) o e, hinv h h' a5 fun b hb o e => hk b (by simp [hb]) o e⟩
  item := fun i s Q E hi ⟨a1, a2, a3, a4, a5⟩ hQ => by
    have hx : xs[i]? = some xs[i] := Array.getElem?_eq_getElem hi
    refine pyNext_map_item a1 a2 a3 a4 hx hJM fun h2 b3 hs2 E' => ?_
    have hk2 : ∀ b o, b ∉ [J] → s.heap.get? b = some o → h2.get? b = some o := fun b o hb e => hs2.extBut _ _ (fun z => hb (by simp [z])) e
    refine hcall i _ hx _ _ _ (hinv _ _ a5 fun b hb o e => hk2 b o (fun z => hown (by rw [List.mem_singleton.mp z] at hb; exact hb)) e) fun v h3 tk3 hP hk3 => ?_
    refine hQ v h3 tk3 hP ⟨hk3 _ _ (hk2 _ _ (by simp [hJM.symm]) a1), hk3 _ _ (hk2 _ _ (by simp [hTJ]) a2), b3.at fun o e => hk3 _ o e, (a4.at fun o e => hk3 _ o (hk2 _ o (by simp [hlJ]) e)), ?_⟩ fun b o hb e => hk3 _ _ (hk2 b o hb e)
    exact hinv _ _ a5 fun b hb o e => hk3 _ _ (hk2 b o (fun z => hown (by rw [List.mem_singleton.mp z] at hb; exact hb)) e)
  done := fun s Q E ⟨a1, a2, a3, a4, a5⟩ hQ => pyNext_map_end hh a1 a2 a3 a4 (Array.getElem?_eq_none (Nat.le_refl _)) fun h' hk => hQ h' s.toks fun b o hb e => hk b o (fun z => hb (by simp [z])) e
  self := fun i s Q E ⟨a1, _⟩ hQ => pyIter_map a1 hQ
theorem Walks.shift {prog : Program} {w : World} {A : Around} {I : Addr} {fp wr : List Addr} {n : Nat} {P : Nat → Value → Prop} {St : Nat → Heap → Prop} (W : Walks prog w A I fp wr n P St) (its : Array Value) :
    Walks prog w A I fp wr (its.size + n) (fun j v => if j < its.size then its[j]? = some v else P (j - its.size) v) (fun j h => ∃ i, j = its.size + i ∧ St i h) where
  sub := W.sub
  frame := fun i h h' ⟨j, e, st⟩ hk => ⟨j, e, W.frame j h h' st hk⟩
  item := fun i s Q E hi ⟨j, e, st⟩ hQ => W.item j s Q E (by (first | lia | omega)) st fun v h' tk hP st' hk => hQ v h' tk (by rw [if_neg (by (first | lia | omega)), e, Nat.add_sub_cancel_left]; exact hP) ⟨j + 1, by (first | lia | omega), st'⟩ hk
  done := fun s Q E ⟨j, e, st⟩ hQ => W.done s Q E (by obtain rfl : j = n := by (first | lia | omega)
                                                      exact st) hQ
  self := fun i s Q E ⟨j, e, st⟩ hQ => W.self j s Q E st hQ
section
variable {prog : Program} {w : World} {A : Around} {E : Value → Shared → Prop} {s : Shared}
theorem extend_walk {T : String} {D M : Addr} {fp wr : List Addr} {n c₀ : Nat} {its : Array Value} {P : Nat → Value → Prop} {St : Nat → Heap → Prop} {Q : Value → Shared → Prop} (W : Walks prog w A.in1 M fp wr n P St)
    (hTy : s.TypeIs (.ref M) T) (hTl : (Value.type T == Value.type "list") = false) (hTt : (Value.type T == Value.type "tuple") = false) (hlen : typeLookup (.type T) "__len__" = pure none) (hhint : typeLookup (.type T) "__length_hint__" = pure none)
    (hst : St 0 s.heap) (hD : D ∉ fp) (hDM : D ≠ M) (hS : s.heap.get? D = some { cls := .type "list", dict := none, data := .seq its c₀, slots := #[] }) (hsz : its.size + n < 16777216)
    (hQ : ∀ h' tk vs c', (∀ b o, b ≠ D → b ∉ wr → s.heap.get? b = some o → h'.get? b = some o) → h'.get? D = some { cls := .type "list", dict := none, data := .seq (its ++ (vs : List Value).toArray) c', slots := #[] } → vs.length = n → (∀ j v, vs[j]? = some v → P j v) → Q .none { s with heap := h', toks := tk }) :
    wpAny (model prog w) A (PySem.call (.builtin "list.extend") [.ref D, .ref M]) Q E s := by
  have hsl : ∀ k, k ≤ 16777216 → k ≤ sizeLine := fun k hk => by rw [sizeLine_eq]; exact hk
  refine wpAny_call (codeAny_call_builtin PySem.F.slot_list_extend.plain PySem.F.entry_list_extend (PySem.F.slot_list_extend.check _ _ _ _ _ _ _ _ ⟨_, hS, rfl⟩ (PySem.F.args_list_extend_2 _ _) ?_))
  show wpAny _ A.in1 (Builtin.List.listExtendWith (.ref D) (.ref M) .none) _ _ s
  have key : ∀ (h : Heap) (c₁ tk : Nat), St 0 h → (∀ b o, b ≠ D → s.heap.get? b = some o → h.get? b = some o) →
      h.get? D = some { cls := .type "list", dict := none, data := .seq its c₁, slots := #[] } → codeAny (model prog w) A (.builtin "list.extend.loop" ⟨[.ref D, .ref M, .none], []⟩) (wants Q E) { s with heap := h, toks := tk } := by
    intro h c₁ tk hst hk hS₁
    refine codeAny_extend_loopS (Walks.shift W its).toS (hsl _ (Nat.le_of_lt hsz)) D hD .none n its.size _ its c₁ (by (first | lia | omega)) (Nat.le_add_right _ _) ⟨0, rfl, hst⟩ hS₁ ⟨rfl, fun j v e => ?_⟩ fun s' acc' c' hm hS' hacc => ?_
    · show if j < its.size then its[j]? = some v else _
      rw [if_pos (by have := Array.getElem?_eq_some_iff.mp e; exact this.1)]; exact e
    rw [Moved.eq_with hm]
    have hacc1 := hacc.1
    have hpre : ∀ j, j < its.size → acc'[j]? = its[j]? := fun j hj => by
      have hlt : j < acc'.size := by (first | lia | omega)
      have := hacc.2 j acc'[j] (Array.getElem?_eq_getElem hlt)
      dsimp only at this
      rw [if_pos hj] at this
      rw [this, Array.getElem?_eq_getElem hlt]
    have e : acc' = its ++ (acc'.toList.drop its.size).toArray := by
      apply Array.ext_getElem?
      intro j
      rcases Nat.lt_or_ge j its.size with hj | hj
      · rw [Array.getElem?_append_left hj, hpre j hj]
      · rw [Array.getElem?_append_right hj]
        simp only [List.getElem?_toArray, List.getElem?_drop, Array.getElem?_toList]
        congr 1; (first | lia | omega)
    refine hQ s'.heap s'.toks (acc'.toList.drop its.size) c' (fun b o hb hb' e => hm.heap b o (fun hmem => ?_) (hk b o hb e)) (by rw [← e]; exact hS') (by simp; (first | lia | omega)) fun j v hj => ?_
    · rcases List.mem_cons.mp hmem with e' | hmem
      · exact hb e'
      · exact hb' hmem
    · rw [List.getElem?_drop, Array.getElem?_toList] at hj
      have := hacc.2 _ v hj
      dsimp only at this
      rw [if_neg (by (first | lia | omega)), Nat.add_sub_cancel_left] at this
      exact this
  unfold Builtin.List.listExtendWith
  refine wpAny_bind (wpAny_typeOf hTy ?_)
  have h1 : Builtin.List.listSameRef (.ref D) (.ref M) = false := by simp [Builtin.List.listSameRef, hDM]
  simp only [h1, hTl, hTt, Bool.or_false, Bool.false_eq_true, if_false]
  refine wpAny_bind (W.self 0 _ _ _ hst ?_)
  refine wpAny_bind (wpAny_holding ?_)
  unfold Builtin.List.listLengthHint
  refine wpAny_bind (wpAny_specialOf hTy hlen ?_)
  show wpAny _ A.in1 (specialOf (Value.ref M) (Str.ofString "__length_hint__") >>= _) _ _ _
  refine wpAny_bind (wpAny_specialOf hTy hhint ?_)
  refine wpAny_pure ?_
  show wpAny _ A.in1 (rule "list.extend.makes-room" >>= fun _ => Builtin.List.listTouch (.ref D) >>= fun _ =>
    again (.builtin "list.extend.loop" ⟨[.ref D, .ref M, .none], []⟩)) _ _ _
  refine wpAny_bind (wpAny_rule ?_)
  refine wpAny_bind ?_
  show wpAny _ A.in1 (updateSeq D (·.push .none) >>= fun _ => updateSeq D (·.pop)) _ _ _
  refine wpAny_bind (wpAny_updateSeq hS rfl ?_ (hz := hsl _ (by (first | lia | omega))) (_hz' := by rw [Array.size_push, sizeLine_eq]; (first | lia | omega)))
  have hS₂ := PySem.IsL.update hS (·.push Value.none)
  refine wpAny_updateSeq hS₂ rfl ?_ (hz := by rw [Array.size_push, sizeLine_eq]; (first | lia | omega)) (_hz' := by rw [Array.size_pop, Array.size_push, sizeLine_eq]; (first | lia | omega))
  have hS₃ := PySem.IsL.update hS₂ (·.pop)
  rw [Array.pop_push] at hS₃
  refine wpAny_pure ⟨plainId_quiet PySem.F.plain_extend_loop _, key _ _ _ ?_ (fun b o hb e => ?_) hS₃⟩
  · refine W.frame 0 _ _ hst fun b hb o e => ?_
    have hbS : b ≠ D := fun h => hD (h ▸ hb)
    exact (Heap.get?_update_other _ _ (Ne.symm hbS)).trans ((Heap.get?_update_other _ _ (Ne.symm hbS)).trans e)
  · exact (Heap.get?_update_other _ _ (Ne.symm hb)).trans ((Heap.get?_update_other _ _ (Ne.symm hb)).trans e)
end
end Mine
end
section
theorem Mine.fresh9 : True := by w_top off; trivial
open PySem PySem.W PyProof.Rows PySem.Calls
set_option maxRecDepth 100000
set_option maxHeartbeats 4000000
namespace Mine
theorem set_getattr_none : typeLookup (.type "set") "__getattr__" = pure none := by rw [typeLookup_type, builtinLookup_eq_fast]; kernel_rfl
theorem md_get : typeLookup (.type "method_descriptor") "__get__" = pure (some (.builtin "method_descriptor.__get__")) := by rw [typeLookup_type, builtinLookup_eq_fast]; kernel_rfl
theorem md_set : typeLookup (.type "method_descriptor") "__set__" = pure none := by rw [typeLookup_type, builtinLookup_eq_fast]; kernel_rfl
theorem md_del : typeLookup (.type "method_descriptor") "__delete__" = pure none := by rw [typeLookup_type, builtinLookup_eq_fast]; kernel_rfl
theorem owner_md : Manifest.owners.lookup (String.ofList ['r', 'o', 't', 'p', 'i', 'r', 'c', 's', 'e', 'd', '_', 'd', 'o', 'h', 't', 'e', 'm'].reverse) = some Manifest.sig_method_descriptor := by kernel_rfl
theorem slot_md_get : Slot "method_descriptor" "__get__" "method_descriptor.__get__" :=
  .of (owner := "method_descriptor") (n := "__get__") (by rw [typeLookup_type, builtinLookup_eq_fast]; kernel_rfl) (by decide +kernel) (by decide +kernel) (by decide +kernel)
    (by first | exact .inl (by decide +kernel) | exact .inr (by decide +kernel)) (by rw [isSubtype_type]; kernel_rfl)
theorem entry_md_get : entryFor table "method_descriptor.__get__" = some Builtin.«method_descriptor.__get__» := entryFor_of_tree (by kernel_rfl)
theorem args_md_get_3 (a b c : Value) : argsOk "method_descriptor.__get__" ⟨[a, b, c], []⟩ := by
  unfold argsOk; rw [signature?_of (id := "method_descriptor.__get__") (n := ['_', '_', 't', 'e', 'g', '_', '_']) (o := ['r', 'o', 't', 'p', 'i', 'r', 'c', 's', 'e', 'd', '_', 'd', 'o', 'h', 't', 'e', 'm']) (by kernel_rfl) owner_md]; kernel_rfl
noncomputable abbrev boundObj (id : String) (a : Addr) : Obj := { cls := .type "builtin_function_or_method", data := .fields #[.builtin id, .ref a] }
theorem getattribute_set_contains (a : Addr) (dat : Data) (es : Array (Int × Value)) (n : Nat) (t : SetTable) (sl : Array (Option Value)) (u : Tok) (hdat : dat = .set es n t) :
    Meets (Builtin.«object.__getattribute__» ⟨[.ref a, .str (Str.ofString "__contains__") u], []⟩) (fun A R s => s.heap.get? a = some { cls := .type "set", dict := none, data := dat, slots := sl } ∧ R (.ok (.ret (.ref s.heap.objs.size))) { s with heap := s.heap.push (boundObj "set.__contains__" a) }) :=
  Meets.of_wp fun prog w A R s hs => by
    obtain ⟨hp, g, d, tk, os⟩ := s
    obtain ⟨hx, hs⟩ := hs
    subst hdat
    have hT : (⟨hp, g, d, tk, os⟩ : Shared).TypeIs (.ref a) "set" := ⟨_, hx, rfl⟩
    have f1 := PySem.F.slot_set_contains.lookup
    have f2 := md_get
    have f4 := md_set
    have f5 := md_del
    have f3 := PySem.F.type_set_contains
    unfold Builtin.«object.__getattribute__»
    repeat (any_goals (first | assumption | wp_step))
    refine codeAny_call_builtin slot_md_get.plain entry_md_get (slot_md_get.check _ _ _ _ _ _ _ _ f3 (args_md_get_3 _ _ _) ?_)
    unfold Builtin.«method_descriptor.__get__»
    have f6 := PySem.F.isi_self_set
    repeat (any_goals (first | assumption | wp_step))
    rw [show (".".intercalate ("set.__contains__".cutAt '.').dropLast) = "set" from by decide +kernel]
    simp only [newFields, newObj]
    repeat (any_goals (first | assumption | wp_step))
    exact ⟨_, rfl, hs⟩
end Mine
end
section
theorem Mine.fresh10 : True := by w_top off; trivial
open PySem PySem.W PyProof.Rows PySem.Calls
set_option maxRecDepth 100000
set_option maxHeartbeats 4000000
namespace Mine
theorem getAttr_set_contains {prog : Program} {w : World} {A : Around} {E : Value → Shared → Prop} {s : Shared} {a : Addr} {es : Array (Int × Value)} {n : Nat} {t : SetTable} {sl : Array (Option Value)} {Q : Value → Shared → Prop}
    (hx : s.heap.get? a = some { cls := .type "set", dict := none, data := .set es n t, slots := sl })
    (h : ∀ tk', Q (.ref s.heap.objs.size) { s with heap := s.heap.push (boundObj "set.__contains__" a), toks := tk' }) :
    wpAny (model prog w) A (getAttr (.ref a) (Str.ofString "__contains__") true) Q E s := by
  obtain ⟨hp, g, d, tk, os⟩ := s
  have hT : ∀ tk', (⟨hp, g, d, tk', os⟩ : Shared).TypeIs (.ref a) "set" := fun _ => ⟨_, hx, rfl⟩
  have f3 := PySem.F.slot_set_getattribute.lookup
  have f4 := PySem.F.slot_set_getattribute.bind (.ref a)
  have f5 := set_getattr_none
  unfold getAttr getAttrBy
  repeat (any_goals (first | assumption | exact hT _ | ((with_reducible show wpAny _ _ (PySem.call (Value.builtin "set.__getattribute__") _ _) _ _ _); refine call_meets PySem.F.slot_set_getattribute (hT _) PySem.F.entry_set_ga (PySem.F.args_set_getattribute_2 _ _) (getattribute_set_contains a _ es n t sl _ rfl) ⟨hx, ?_⟩) | wp_step))
  exact wpAny_pure (h _)
noncomputable abbrev sigC : Manifest.Signature := ⟨.oneArg, "set.__contains__", "__contains__", .self, [⟨"object", .posOnly, true⟩]⟩
theorem sig_contains : Manifest.signature? "set.__contains__" = some sigC := by
  rw [signature?_of (id := "set.__contains__") (n := ['_', '_', 's', 'n', 'i', 'a', 't', 'n', 'o', 'c', '_', '_']) (o := ['t', 'e', 's']) (by kernel_rfl) PySem.F.owner_set]; kernel_rfl
theorem kind_contains : builtinKind "set.__contains__" = some .method := by decide +kernel
theorem isType_set {M : Model} {A : Around} {E : Value → Shared → Prop} {s : Shared} {a : Addr} {o : Obj} {es : Array (Int × Value)} {n : Nat} {t : SetTable} {Q : Bool → Shared → Prop} (hx : s.heap.get? a = some o) (hd : o.data = .set es n t) (hQ : Q false s) : wpAny M A (isType (.ref a)) Q E s := by
  unfold isType
  dsimp only
  unfold loadHead
  refine wpAny_bind (wpAny_loadPart hx ?_)
  rw [hd]
  exact wpAny_pure hQ
theorem checkBound_contains {M : Model} {A : Around} {E : Value → Shared → Prop} {s : Shared} {x : Addr} {o : Obj} {es : Array (Int × Value)} {n : Nat} {t : SetTable} {a : Value} {Q : Unit → Shared → Prop} (hx : s.heap.get? x = some o) (hc : o.cls = .type "set") (hd : o.data = .set es n t) (hQ : Q () s) :
    wpAny M A (checkBoundCall "set.__contains__" ⟨[.ref x, a], []⟩) Q E s := by
  have hT : s.TypeIs (.ref x) "set" := ⟨o, hx, hc⟩
  unfold checkBoundCall
  have f1 : isSubtype (.type "set") (.type "module") = pure false := by rw [isSubtype_type]; kernel_rfl
  rw [sig_contains, kind_contains]
  dsimp only
  rw [if_neg (by decide)]
  refine wpAny_bind (wpAny_isInstance (T := "set") (b := false) hT f1 ?_)
  rw [show Manifest.varargsMethods.contains "set.__contains__" = false from by decide +kernel]
  rw [if_neg (by decide)]
  refine wpAny_bind (isType_set hx hd ?_)
  rw [if_neg Bool.false_ne_true]
  refine wpAny_bind (wpAny_typeOf hT ?_)
  dsimp only
  have hn : (Bind.lastOf "set" ++ "." ++ Bind.lastOf "set.__contains__") = "set.__contains__" := by decide +kernel
  rw [show (toString (Bind.lastOf "set") ++ toString "." ++ toString (Bind.lastOf "set.__contains__")) = "set.__contains__" from hn]
  unfold Bind.checkArgs
  dsimp only
  refine wpAny_bind (m := Bind.printed "set.__contains__" true _ _) (PyProof.Rows.printed_name (by decide) ?_)
  refine wpAny_bind (m := Bind.printed "__contains__" false _ _) (PyProof.Rows.printed_name (by decide) ?_)
  have hc : Bind.check sigC "set.__contains__" "__contains__" 1 [] = pure () := by kernel_rfl
  show wpAny _ _ ((Bind.check sigC "set.__contains__" "__contains__" 1 []).onRaise _) _ _ _
  rw [hc]
  exact wpAny_pure hQ
theorem call_bound_contains {prog : Program} {w : World} {A : Around} {E : Value → Shared → Prop} {s : Shared} {K : Type} [DecidableEq K] {knd : KeyKind prog w K} {a q : Addr} {k : K} {key : Value} {S : K → Bool} {n : Nat} {Q : Value → Shared → Prop}
    (hq : s.heap.get? q = some (boundObj "set.__contains__" a)) (hkey : knd.is k key = true) (hsc : key.scannable = true) (hS : s.heap.SetOf knd a S n)
    (h : Q (.bool (S k)) { s with toks := s.toks + 1 }) : wpAny (model prog w) A (PySem.call (.ref q) [key]) Q E s := by
  refine wpAny_call (codeAny_of_tree ?_)
  show wpAny _ A.in1 (callAny (.ref q) ⟨[key], []⟩) _ _ _
  unfold callAny
  refine wpAny_bind (wpAny_load hq ?_)
  dsimp only
  rw [if_pos (by decide)]
  show wpAny _ A.in1 (checkBoundCall "set.__contains__" ⟨[.ref a, key], []⟩ >>= fun _ => again (.builtin "set.__contains__" ⟨[.ref a, key], []⟩)) _ _ _
  have hp1 := id hS
  refine p4_4 ?_ hp1
  (try clear hp1)
  intro oS esS epS tS hoS hexS hdS _
  refine wpAny_bind (checkBound_contains hoS hexS.1 hdS (wpAny_pure ⟨plainId_quiet PySem.F.slot_set_contains.plain _, codeAny_builtin entry_set_contains ?_⟩))
  rw [Around.under_plainId PySem.F.slot_set_contains.plain _]
  unfold Builtin.«frozenset.__contains__» Builtin.Frozenset.oneOther
  simp only [List.isEmpty_nil, bind_assoc]
  unfold Builtin.Frozenset.addrOf Builtin.Frozenset.withSetAsKey setContains
  refine wpAny_bind (wpAny_pure ?_)
  try dsimp only
  refine wpAny_bind (wpAny_pure ?_)
  try dsimp only
  refine wpAny_bind (wpAny_tryCatch ?_)
  refine wpAny_holding ?_
  refine wpAny_bind (knd.pyHash hkey ?_)
  refine wpAny_bind (wpAny_setFind_of (s := { s with toks := s.toks + 1 }) hkey hsc hS fun r hr => ?_)
  refine wpAny_pure ?_
  show wpAny _ _ (ret (Value.bool r.isSome)) _ _ _
  rw [hr]
  exact wpAny_pure h
end Mine
end
section
theorem Mine.fresh11 : True := by w_top off; trivial
open PySem PySem.W PyProof.Rows PySem.Calls
set_option maxRecDepth 100000
set_option maxHeartbeats 4000000
namespace Mine
noncomputable def StrSet {w : World} (prog : Program) (h : Heap) (a : Addr) (ss : List Str) (i : Nat) : Prop := ∃ c, c ≤ i ∧ h.SetOf (strKind prog w) a (fun k => ss.contains k) c
section
variable {prog : Program} {w : World} {A : Around} {R : Result → Shared → Prop} {I : Addr} {fp wr : List Addr} {G : Array GenState → Array GenState → Prop} {n : Nat} {P : Nat → Value → Prop} {St : Nat → Shared → Prop}
theorem set_update_strs (W : WalksS prog w A.in1 I fp wr G n P St) (S : Addr) (hSf : S ∉ fp) (ss : List Str) (hsn : ss.length = n)
    (hval : ∀ i v, P i v → ∃ x t, ss[i]? = some x ∧ v = .str x t) (hb : n + 1 < scanBound) :
    ∀ (k i : Nat) (s : Shared), n - i = k → i ≤ n → St i s → StrSet (w := w) prog s.heap S (ss.take i) i →
      (∀ s', Moved (S :: wr) G s s' → StrSet (w := w) prog s'.heap S ss n → R (.ok (.ret .none)) s') →
      codeAny (model prog w) A (.builtin "set.update.loop" ⟨[.ref S, .ref I], []⟩) R s := by
  have hSw : S ∉ wr := fun h => hSf (W.sub _ h)
  have hsub : ∀ b ∈ wr, b ∈ S :: wr := fun b hb => List.mem_cons_of_mem _ hb
  intro k
  induction k with
  | zero =>
    intro i s hk hi hst hS hR
    have hin : i = n := by (first | lia | omega)
    subst hin
    refine codeAny_builtin PyProof.Rows.F.entry_set_update_loop ?_
    rw [Around.under_plainId PyProof.Rows.F.plain_set_update_loop _]
    show wpAny _ A.in1 (pyNext (.ref I) >>= _) _ _ s
    refine wpAny_bind (W.done s _ _ hst fun s' hm => ?_)
    show wpAny _ A.in1 (ret Value.none) _ _ s'
    refine wpAny_pure (hR s' (hm.mono hsub) ?_)
    rw [← hsn, List.take_length, hsn] at hS
    obtain ⟨c, hc, o, es, ep, t, ho, rest⟩ := hS
    exact ⟨c, hc, o, es, ep, t, hm.heap S _ hSw ho, rest⟩
  | succ k ih =>
    intro i s hk hi hst hS hR
    have hlt : i < n := by (first | lia | omega)
    refine codeAny_builtin PyProof.Rows.F.entry_set_update_loop ?_
    rw [Around.under_plainId PyProof.Rows.F.plain_set_update_loop _]
    show wpAny _ A.in1 (pyNext (.ref I) >>= _) _ _ s
    refine wpAny_bind (W.item i s _ _ hlt hst fun v s' hP hst' hm => ?_)
    obtain ⟨x, t, hx, rfl⟩ := hval i v hP
    obtain ⟨c, hc, hS'⟩ : ∃ c, c ≤ i ∧ s'.heap.SetOf (strKind prog w) S (fun k' => (ss.take i).contains k') c := by
      obtain ⟨c, hc, o, es, ep, tb, ho, rest⟩ := hS
      exact ⟨c, hc, o, es, ep, tb, hm.heap S _ hSw ho, rest⟩
    have hkey : (strKind prog w).is x (.str x t) = true := by show Value.isStrOf x (.str x t) = true; simp [Value.isStrOf]
    show wpAny _ A.in1 (holding [Value.str x t] (setAdd S (.str x t)) >>= _) _ _ s'
    refine wpAny_bind (wpAny_holding ?_)
    unfold setAdd
    refine wpAny_holding ?_
    refine wpAny_bind ((strKind prog w).pyHash (k := x) hkey ?_)
    refine wpAny_setAddHashed_of (knd := strKind prog w) (s := { s' with toks := s'.toks + 1 }) hkey rfl hS' (by (first | lia | omega)) fun h' hsb hS2 => ?_
    have hSi : StrSet (w := w) prog h' S (ss.take (i + 1)) (i + 1) := by
      refine ⟨_, ?_, SetOf_congr hS2 (fun k' => ?_) rfl⟩
      · split <;> (first | lia | omega)
      · rw [List.take_add_one, hx]
        simp only [Option.toList_some, List.contains_eq_mem, List.mem_append, List.mem_singleton, Bool.decide_or]
    refine wpAny_pure ⟨plainId_quiet PyProof.Rows.F.plain_set_update_loop _, ih (i + 1) _ (by (first | lia | omega)) hlt (W.frame _ s' _ _ hst' (Nat.le_succ _) fun b hb o e => ?_) hSi fun s'' hm'' hS'' => ?_⟩
    · rw [hsb.2 b (fun h : b = S => hSf (by rw [← h]; exact hb))]; exact e
    · refine hR s'' (Moved.trans W.gtrans ((hm.mono hsub).then_heap (Nat.le_succ _) fun b o hb e => ?_) hm'') hS''
      rw [hsb.2 b (fun h : b = S => hb (by rw [h]; exact List.mem_cons_self))]; exact e
end
section
variable {prog : Program} {w : World} {A : Around} {E : Value → Shared → Prop} {s : Shared}
/-- set.__init__ on a set just made and a list: what is left is to walk over the list -/
theorem set_init_from {S l : Addr} {led : Bool} {xs : Array Value} {Q : Fin → Shared → Prop} (hS : s.heap.get? S = some { cls := .type "set", dict := none, data := .set #[] 0 (.fresh 0 0 led) })
    (hl : s.heap.IsList l xs)
    (h : wpAny (model prog w) A (runValue (.builtin "set.update.loop" ⟨[.ref S, .ref s.heap.objs.size], []⟩)) (fun _ s' => Q (.done (.ret .none)) s') E { s with heap := s.heap.push { cls := .type "list_iterator", data := .fields #[.ref l, .int 0 0] } }) :
    wpAny (model prog w) A (Builtin.«set.__init__» ⟨[.ref S, .ref l], []⟩) Q E s := by
  have hT : s.TypeIs (.ref S) "set" := ⟨_, hS, rfl⟩
  have hU : s.TypeIs (.ref l) "list" := hl.typeIs
  have hfit : SetTable.fits (SetTable.fresh 0 0 led) (#[] : Array (Int × Value)).size = true := rfl
  show wpAny _ _ (typeNameOfCut 200 (.ref S) >>= _) _ _ _
  with_reducible refine wpAny_bind ?_
  unfold typeNameOfCut shownTypeOf
  with_reducible refine wpAny_bind ?_
  with_reducible refine wpAny_bind ?_
  with_reducible refine wpAny_typeOf hT ?_
  simp only [show (Value.type "set" == Value.type "builtin_function_or_method") = false by decide, Bool.false_eq_true, if_false]
  with_reducible refine wpAny_pure ?_
  show wpAny _ _ (pure _) _ _ _
  with_reducible refine wpAny_pure ?_
  show wpAny _ _ (setUsed S >>= _) _ _ _
  with_reducible refine wpAny_bind ?_
  unfold setUsed
  with_reducible refine wpAny_bind ?_
  with_reducible refine wpAny_setState_of hS rfl hfit ?_
  with_reducible refine wpAny_pure ?_
  show wpAny _ _ (Builtin.Frozenset.updateFrom _ S (.ref l) >>= _) _ _ _
  with_reducible refine wpAny_bind ?_
  unfold Builtin.Frozenset.updateFrom
  show wpAny _ _ ((isInstance _ _ >>= _) >>= _) _ _ _
  with_reducible refine wpAny_bind ?_
  with_reducible refine wpAny_bind ?_
  with_reducible refine wpAny_isInstance hU PySem.F.sub_list_set ?_
  show wpAny _ _ (isInstance _ _) _ _ _
  with_reducible refine wpAny_isInstance hU PySem.F.sub_list_frozenset ?_
  show wpAny _ _ (typeOf _ >>= _) _ _ _
  with_reducible refine wpAny_bind ?_
  with_reducible refine wpAny_typeOf hU ?_
  rw [show (Value.type "list" == Value.type "dict") = false by decide]
  show wpAny _ _ (pyIter _ >>= _) _ _ _
  with_reducible refine wpAny_bind ?_
  with_reducible refine wpAny_pyIter_list hl ?_
  with_reducible refine wpAny_bind ?_
  refine wpAny_mono h (fun _ s' q => ?_) fun _ _ e => e
  with_reducible refine wpAny_pure ?_
  exact wpAny_pure q
theorem call_set_strs {l : Addr} {vs : List Value} {ss : List Str} {Q : Value → Shared → Prop}
    (hh : A.handled = none) (hl : s.heap.IsList l vs.toArray) (hi : ∀ (i : Nat) (v : Value), vs[i]? = some v → ∃ x t, ss[i]? = some x ∧ v = .str x t) (hsn : ss.length = vs.length) (hb : vs.length + 1 < 4096)
    (h : ∀ (h' : Heap) (tk : Nat), StrSet (w := w) prog h' s.heap.objs.size ss vs.length →
      (∀ b o, b < s.heap.objs.size → s.heap.get? b = some o → h'.get? b = some o) → Q (.ref s.heap.objs.size) { s with heap := h', toks := tk }) :
    wpAny (model prog w) A (PySem.call (.type "set") [.ref l]) Q E s := by
  have hb : vs.length + 1 < scanBound := hb
  have hsz : vs.toArray.size = vs.length := List.size_toArray
  obtain ⟨c, tl, hmro⟩ := PySem.F.called_set.mro
  have hmade := PySem.F.called_set.made
  have hsub := PySem.F.called_set.sub
  refine wpAny_call (codeAny_of_tree ?_)
  show wpAny _ _ (callAny (.type "set") _) _ _ _
  refine wpAny_pure ⟨Code.quiet_builtin _ (by decide +kernel), codeAny_builtin PySem.F.entry_type_call ?_⟩
  rw [Around.under_plain (weight_type_call_type "set" [.ref l] []) rfl]
  have h1 := PySem.F.called_set.notType
  have h2 := PySem.F.called_set.canCreate
  have hct := PySem.F.typeCall_set_1 (.ref l)
  repeat (any_goals (first | assumption | wp_step))
  refine codeAny_mono (code_set_new_1 (.ref l) (E := E) (Q₁ := fun obj s₁ => ∃ led : Bool, obj = .ref s.heap.objs.size ∧ s₁ = { s with heap := s.heap.push { cls := .type "set", dict := none, data := .set #[] 0 (.fresh 0 0 led) } }) fun led => ⟨led, rfl, rfl⟩) fun r s₁ hr => ?_
  cases r with
  | error e => exact hr
  | ok fl =>
    cases fl with
    | ret obj =>
      obtain ⟨led, rfl, rfl⟩ := hr
      have hS : (s.heap.push { cls := .type "set", dict := none, data := .set #[] 0 (.fresh 0 0 led) }).get? s.heap.objs.size = some { cls := .type "set", dict := none, data := .set #[] 0 (.fresh 0 0 led) } := Heap.get?_push_size _ rfl
      have hT : Shared.TypeIs { s with heap := s.heap.push { cls := .type "set", dict := none, data := .set #[] 0 (.fresh 0 0 led) } } (.ref s.heap.objs.size) "set" := ⟨_, hS, rfl⟩
      have hli := PySem.F.called_set.init.lookup
      have hbi := PySem.F.called_set.init.bind (.ref s.heap.objs.size)
      repeat (any_goals (first | assumption | wp_step))
      refine codeAny_mono (codeAny_call_builtin (R := wants (fun r s₂ => r = .none ∧ ∃ h' tk, s₂ = { s with heap := h', toks := tk } ∧ StrSet (w := w) prog h' s.heap.objs.size ss vs.length ∧
          (∀ b o, b < s.heap.objs.size → s.heap.get? b = some o → h'.get? b = some o)) E) PySem.F.called_set.init.plain PySem.F.entry_set_init (check_set_init_1 hT ?_)) fun r₂ s₂ hr₂ => ?_
      ·
        obtain ⟨ol, hol, hlr⟩ := id hl
        have hl1 : (s.heap.push { cls := .type "set", dict := none, data := .set #[] 0 (.fresh 0 0 led) }).IsList l vs.toArray := ⟨ol, Heap.get?_push_of_some _ hol, hlr⟩
        refine set_init_from hS hl1 ?_
        refine wpAny_runValue ?_
        have hlS : l < s.heap.objs.size := Heap.lt_size hol
        have hh3 : A.in1.in1.in1.handled = none := by simp [hh]
        have hneI : l ≠ (s.heap.push { cls := .type "set", dict := none, data := .set #[] 0 (.fresh 0 0 led) }).objs.size := by
          rw [Heap.size_push]; exact Nat.ne_of_lt (Nat.lt_succ_of_lt hlS)
        have hSf : s.heap.objs.size ∉ [(s.heap.push { cls := .type "set", dict := none, data := .set #[] 0 (.fresh 0 0 led) }).objs.size, l] := by
          rw [Heap.size_push]; simp only [List.mem_cons, List.not_mem_nil, or_false, not_or]
          exact ⟨Nat.ne_of_lt (Nat.lt_succ_self _), Nat.ne_of_gt hlS⟩
        have hval : ∀ (i : Nat) (v : Value), vs.toArray[i]? = some v → ∃ x t, ss[i]? = some x ∧ v = .str x t := fun i v hv => hi i v (by simpa using hv)
        refine set_update_strs (n := vs.toArray.size) ((Walks.list hh3 _ l hneI vs.toArray).toS) s.heap.objs.size
          hSf ss (by rw [hsz]; exact hsn) hval (by rw [hsz]; exact hb) (vs.toArray.size - 0) 0 _ (by (first | lia | omega)) (Nat.zero_le _)
          ⟨⟨_, Heap.get?_push_size _ rfl, rfl, rfl⟩, (hl1.push _)⟩ ?hS0 ?hR
        case hS0 =>
          have hget : ((s.heap.push { cls := .type "set", dict := none, data := .set #[] 0 (.fresh 0 0 led) }).push { cls := .type "list_iterator", data := .fields #[.ref l, .int 0 0] }).get? s.heap.objs.size
              = some { cls := .type "set", dict := none, data := .set #[] 0 (.fresh 0 0 led) } := Heap.get?_push_of_some _ hS
          exact ⟨0, Nat.le_refl _, SetOf_congr ((PyProof.Rows.setObjOf_fresh (knd := strKind prog w) led).setOf hget (by unfold scanBound; (first | lia | omega))) (fun k => by simp) rfl⟩
        case hR =>
          intro s' hm hS'
          obtain ⟨h', g', d', tk', os'⟩ := s'
          have eg : g' = s.gens := hm.gens
          have ed : d' = s.drawn := hm.drawn
          have eo : os' = s.os := hm.os
          subst eg; subst ed; subst eo
          refine ⟨rfl, h', tk', rfl, by rw [hsz] at hS'; exact hS', fun b o hb e => ?_⟩
          have hb1 : b ≠ s.heap.objs.size := Nat.ne_of_lt hb
          have hb2 : b ≠ (s.heap.push { cls := .type "set", dict := none, data := .set #[] 0 (.fresh 0 0 led) }).objs.size := by
            rw [Heap.size_push]; exact Nat.ne_of_lt (Nat.lt_succ_of_lt hb)
          exact hm.heap b o (by simp only [List.mem_cons, List.not_mem_nil, or_false, not_or]; exact ⟨hb1, hb2⟩) (Heap.get?_push_of_some _ (Heap.get?_push_of_some _ e))
      · cases r₂ with
        | error e => exact hr₂
        | ok fl₂ =>
          cases fl₂ with
          | ret r =>
            obtain ⟨rfl, h', tk, rfl, hS', hk'⟩ := hr₂
            repeat (any_goals (first | assumption | wp_step))
            exact h _ _ hS' hk'
          | _ => exact hr₂.elim
    | _ => exact hr.elim
end
end Mine
end
section
theorem Mine.fresh12 : True := by w_top off; trivial
open PySem PySem.W PyProof.Rows PySem.Calls
set_option maxRecDepth 100000
set_option maxHeartbeats 4000000
namespace Mine
noncomputable abbrev IsFiltO (h : Heap) (M J : Addr) (f : Value) : Prop := h.get? M = some { cls := .type "filter", dict := none, data := .fields #[f, .ref J], slots := #[] }
theorem meets_filter_new (f : Value) (l : Addr) (xs : Array Value) :
    Meets (Builtin.«filter.__new__» ⟨[.type "filter", f, .ref l], []⟩) (fun _ R s => s.heap.IsList l xs ∧
      R (.ok (.ret (.ref (s.heap.objs.size + 1)))) { s with heap := (s.heap.push { cls := .type "list_iterator", data := .fields #[.ref l, .int 0 0] }).push { cls := .type "filter", data := .fields #[f, .ref s.heap.objs.size] } }) :=
  .of_wp fun prog w A R s h => by
    obtain ⟨hp, g, d, tk, os⟩ := s; obtain ⟨hl1, h⟩ := h
    have hsub := sub_filter
    have hL1 : Heap.IsList (Shared.heap ⟨hp, g, d, tk, os⟩) l xs := hl1
    wp_walk using wpAny_pyIter_list hL1
    refine ⟨_, rfl, ?_⟩
    simp only [Heap.size_push]
    exact h
section
variable {prog : Program} {w : World} {A : Around} {E : Value → Shared → Prop} {s : Shared}
theorem call_filter {f : Value} {l : Addr} {xs : Array Value} {Q : Value → Shared → Prop} (hl : s.heap.IsList l xs)
    (h : ∀ h', IsFiltO h' (s.heap.objs.size + 1) s.heap.objs.size f → h'.IsListIter s.heap.objs.size l 0 → h'.objs.size = s.heap.objs.size + 2 →
      (∀ c o, s.heap.get? c = some o → h'.get? c = some o) → Q (.ref (s.heap.objs.size + 1)) { s with heap := h' }) :
    wpAny (model prog w) A (PySem.call (.type "filter") [f, .ref l]) Q E s := by
  refine callType_new called_filter (by decide) (typeCall_filter_2 _ _) (newCall_filter_2 _ _) (fun obj => PySem.F.args_object_init_3 obj _ _) entry_filter_new
    (meets_filter_new f l xs) ⟨hl, ?_⟩
  let H1 : Heap := s.heap.push { cls := .type "list_iterator", data := .fields #[.ref l, .int 0 0] }
  let H2 : Heap := H1.push { cls := .type "filter", data := .fields #[f, .ref s.heap.objs.size] }
  have e1 : H1.objs.size = s.heap.objs.size + 1 := Heap.size_push ..
  have g3 : H2.get? H1.objs.size = some { cls := .type "filter", data := .fields #[f, .ref s.heap.objs.size] } := Heap.get?_push_size _ rfl
  rw [e1] at g3
  refine ⟨⟨_, g3, rfl⟩, h _ g3 ⟨_, Heap.get?_push_of_some _ (Heap.get?_push_size _ rfl), rfl, rfl⟩ (by rw [Heap.size_push, Heap.size_push]) fun c o x => Heap.get?_push_of_some _ (Heap.get?_push_of_some _ x)⟩
theorem cs_list_item {it l : Addr} {i : Nat} {items : Array Value} {x : Value} {Q : Option Value → Shared → Prop} (hit : s.heap.IsListIter it l i)
    (hl : s.heap.IsList l items) (hx : items[i]? = some x)
    (hQ : ∀ h', h'.IsListIter it l (i + 1) → Heap.SameBut it s.heap h' → Q (some x) { s with heap := h' }) :
    wpAny (model prog w) A (callSpecial? (.ref it) (Str.ofString "__next__")) Q E s := by
  obtain ⟨o, ho, hc, hd⟩ := id hit
  obtain ⟨ol, hol, _, nl, hdl⟩ := hl
  refine wpAny_callSpecial?_slot (name := Str.ofString "__next__") hit.typeIs slot_listiter_next
    (wpAny_call_entry slot_listiter_next hit.typeIs entry_listiter_next ?_ (args_listiter_next _))
  show wpAny _ _ (field (.ref it) 0 >>= _) _ _ s
  refine wpAny_bind (wpAny_field ho hd (x := .ref l) rfl ?_)
  show wpAny _ _ (if (Value.ref l == Value.none) = true then _ else _) _ _ s
  rw [if_neg (show ¬ ((Value.ref l == Value.none) = true) from Bool.false_ne_true)]
  show wpAny _ _ (field (.ref it) 1 >>= _) _ _ s
  refine wpAny_bind (wpAny_field ho hd (x := .int i 0) rfl ?_)
  show wpAny _ _ (seqItems? (.ref l) >>= _) _ _ s
  refine wpAny_bind (wpAny_seqItems hol hdl ?_)
  simp only [Int.toNat_natCast, hx]
  refine wpAny_bind (wpAny_setField ho hd (by simp) (wpAny_pure ⟨x, rfl, hQ _ ?_ (Heap.SameBut.update ..)⟩))
  exact ⟨_, Heap.get?_update_self _ ho (Obj.isFreed_of_fields (Obj.data_mapFields hd _)), (Obj.cls_mapFields ..).trans hc, by
    rw [Obj.data_mapFields hd]; simp [rawInt]⟩
theorem cs_list_end {it l : Addr} {i : Nat} {items : Array Value} {Q : Option Value → Shared → Prop} (hh : A.handled = none)
    (hit : s.heap.IsListIter it l i) (hl : s.heap.IsList l items) (hx : items[i]? = none)
    (hE : ∀ h' e, Heap.ExtBut it s.heap h' → (∃ o, h'.get? e = some o ∧ o.cls = .type "StopIteration") → E (.ref e) { s with heap := h' }) :
    wpAny (model prog w) A (callSpecial? (.ref it) (Str.ofString "__next__")) Q E s := by
  obtain ⟨o, ho, hc, hd⟩ := id hit
  obtain ⟨ol, hol, _, nl, hdl⟩ := hl
  refine wpAny_callSpecial?_slot (name := Str.ofString "__next__") hit.typeIs slot_listiter_next
    (wpAny_call_entry slot_listiter_next hit.typeIs entry_listiter_next ?_ (args_listiter_next _))
  show wpAny _ _ (field (.ref it) 0 >>= _) _ _ s
  refine wpAny_bind (wpAny_field ho hd (x := .ref l) rfl ?_)
  show wpAny _ _ (if (Value.ref l == Value.none) = true then _ else _) _ _ s
  rw [if_neg (show ¬ ((Value.ref l == Value.none) = true) from Bool.false_ne_true)]
  show wpAny _ _ (field (.ref it) 1 >>= _) _ _ s
  refine wpAny_bind (wpAny_field ho hd (x := .int i 0) rfl ?_)
  show wpAny _ _ (seqItems? (.ref l) >>= _) _ _ s
  refine wpAny_bind (wpAny_seqItems hol hdl ?_)
  simp only [Int.toNat_natCast, hx]
  refine wpAny_bind (wpAny_rule (wpAny_bind (wpAny_setField ho hd (by simp) ?_)))
  show wpAny _ _ (newExc (.type "StopIteration") [] >>= _) _ _ _
  refine wpAny_bind ?_
  simp only [newExc, newTuple]
  refine wpAny_bind (wpAny_newObj_type ?_ (by size_fits))
  refine wpAny_bind (m := firstArgMember _ _) (wpAny_of_eq (a := Value.none) (by first | rfl | (simp only [firstArgMember]; rfl)) ?_)
  refine wpAny_newObj_type ?_ (by size_fits)
  simp only [raiseNew]
  refine wpAny_bind (wpAny_handled ?_)
  first | rw [show A.in1.handled = none from hh] | rw [hh]
  refine wpAny_bind (wpAny_pure (wpAny_throw ?_))
  exact hE _ _ (((Heap.SameBut.update ..).extBut.push _).push _) ⟨_, Heap.get?_push_size _ rfl, rfl⟩
theorem plain_filter_next : plainId "filter.__next__" = true := by decide +kernel
theorem filter_next_code {q FL J l : Addr} {xs : List Value} {keep : Value → Bool} {Inv : Heap → Prop} {own : List Addr} {R : Result → Shared → Prop} {Q : Value → Shared → Prop} (hh : A.handled = none) (hJF : J ≠ FL) (hlJ : l ≠ J) (hown : J ∉ own)
    (hinv : ∀ h h', Inv h → (∀ b ∈ own, ∀ o, h.get? b = some o → h'.get? b = some o) → Inv h')
    (hcall : ∀ x ∈ xs, ∀ (s : Shared) (Q E : Value → Shared → Prop), Inv s.heap → (∀ tk, Q (.bool (keep x)) { s with toks := tk }) → wpAny (model prog w) A.in1 (PySem.call (.ref q) [x]) Q E s) :
    ∀ (k p : Nat) (s : Shared), xs.length - p = k → p ≤ xs.length → IsFiltO s.heap FL J (.ref q) → s.heap.IsListIter J l p → s.heap.IsList l xs.toArray → Inv s.heap →
    (∀ j x h' tk, p ≤ j → xs[j]? = some x → keep x = true → (∀ i y, p ≤ i → i < j → xs[i]? = some y → keep y = false) → h'.IsListIter J l (j + 1) → (∀ b o, b ≠ J → s.heap.get? b = some o → h'.get? b = some o) → R (.ok (.ret x)) { s with heap := h', toks := tk }) →
    ((∀ i y, p ≤ i → xs[i]? = some y → keep y = false) → ∀ h' e tk, Heap.ExtBut J s.heap h' → (∃ o, h'.get? e = some o ∧ o.cls = .type "StopIteration") → R (.error (.ref e)) { s with heap := h', toks := tk }) →
    wpAny (model prog w) A.in1 (Builtin.«filter.__next__» ⟨[.ref FL], []⟩) (fun fin s' => match fin with | .done f => R (.ok f) s' | .again c' => c'.quiet = true ∧ codeAny (model prog w) A c' R s') (fun e s' => R (.error e) s') s := by
  intro k
  induction k with
  | zero =>
    intro p s hk hp hF hJ hl hI hitem hend
    have hx : xs.toArray[p]? = none := by simp; (first | lia | omega)
    show wpAny _ _ (field (.ref FL) 0 >>= _) _ _ _
    refine wpAny_bind (wpAny_field hF rfl (x := .ref q) rfl ?_)
    show wpAny _ _ (field (.ref FL) 1 >>= _) _ _ _
    refine wpAny_bind (wpAny_field hF rfl (x := .ref J) rfl ?_)
    refine wpAny_bind (cs_list_end hh hJ hl hx fun h' e hk he => ?_)
    exact hend (fun i y hi hy => by have := List.getElem?_eq_some_iff.mp hy; have := this.1; (first | lia | omega)) h' e s.toks hk he
  | succ k ih =>
    intro p s hk hp hF hJ hl hI hitem hend
    have hlt : p < xs.length := by (first | lia | omega)
    have hx : xs[p]? = some xs[p] := List.getElem?_eq_getElem hlt
    show wpAny _ _ (field (.ref FL) 0 >>= _) _ _ _
    refine wpAny_bind (wpAny_field hF rfl (x := .ref q) rfl ?_)
    show wpAny _ _ (field (.ref FL) 1 >>= _) _ _ _
    refine wpAny_bind (wpAny_field hF rfl (x := .ref J) rfl ?_)
    refine wpAny_bind (cs_list_item hJ hl (x := xs[p]) (by simpa using hx) fun h2 hJ2 hs2 => ?_)
    have hk2 : ∀ b o, b ≠ J → s.heap.get? b = some o → h2.get? b = some o := fun b o hb e => hs2.extBut _ _ hb e
    have hI2 := hinv _ _ hI fun b hb o e => hk2 b o (fun z => hown (z ▸ hb)) e
    dsimp only
    refine wpAny_bind (wpAny_holding ?_)
    rw [if_neg (show ¬ ((Value.ref q == Value.none || Value.ref q == Value.type "bool") = true) from Bool.false_ne_true)]
    refine wpAny_bind (hcall _ (List.getElem_mem hlt) _ _ _ hI2 fun tk => ?_)
    refine wpAny_holding (wpAny_truthy_bool ?_)
    cases hkx : keep xs[p] with
    | true =>
      rw [if_pos rfl]
      exact wpAny_pure (hitem p _ h2 tk (Nat.le_refl _) hx hkx (fun i y h1 h2 => by (first | lia | omega)) hJ2 hk2)
    | false =>
      rw [if_neg Bool.false_ne_true]
      refine wpAny_pure ⟨plainId_quiet plain_filter_next _, codeAny_builtin entry_filter_next ?_⟩
      rw [Around.under_plainId plain_filter_next _]
      refine ih (p + 1) _ (by (first | lia | omega)) hlt (hk2 _ _ (Ne.symm hJF) hF) hJ2 (hl.at fun o e => hk2 _ o hlJ e) hI2 ?_ ?_
      · intro j x h' tk' hj hxj hkj hbefore hJ' hk'
        refine hitem j x h' tk' (by (first | lia | omega)) hxj hkj (fun i y hi hij hy => ?_) hJ' fun b o hb e => hk' b o hb (hk2 b o hb e)
        rcases Nat.eq_or_lt_of_le hi with rfl | hlt'
        · rw [hx] at hy; rw [← Option.some.inj hy]; exact hkx
        · exact hbefore i y hlt' hij hy
      · intro hall h' e tk' hk' he
        refine hend (fun i y hi hy => ?_) h' e tk' (fun b o hb e => hk' b o hb (hk2 b o hb e)) he
        rcases Nat.eq_or_lt_of_le hi with rfl | hlt'
        · rw [hx] at hy; rw [← Option.some.inj hy]; exact hkx
        · exact hall i y hlt' hy
theorem call_filter_next {q FL J l : Addr} {xs : List Value} {keep : Value → Bool} {Inv : Heap → Prop} {own : List Addr} {Q : Value → Shared → Prop} (hh : A.handled = none) (hJF : J ≠ FL) (hlJ : l ≠ J) (hown : J ∉ own)
    (hinv : ∀ h h', Inv h → (∀ b ∈ own, ∀ o, h.get? b = some o → h'.get? b = some o) → Inv h')
    (hcall : ∀ x ∈ xs, ∀ (s : Shared) (Q E : Value → Shared → Prop), Inv s.heap → (∀ tk, Q (.bool (keep x)) { s with toks := tk }) → wpAny (model prog w) A.in1 (PySem.call (.ref q) [x]) Q E s)
    (p : Nat) (hp : p ≤ xs.length) (a1 : IsFiltO s.heap FL J (.ref q)) (a4 : s.heap.IsListIter J l p) (a2 : s.heap.IsList l xs.toArray) (a3 : Inv s.heap)
    (hitem : ∀ j x h' tk, p ≤ j → xs[j]? = some x → keep x = true → (∀ i y, p ≤ i → i < j → xs[i]? = some y → keep y = false) → h'.IsListIter J l (j + 1) → (∀ b o, b ≠ J → s.heap.get? b = some o → h'.get? b = some o) → Q x { s with heap := h', toks := tk })
    (hend : (∀ i y, p ≤ i → xs[i]? = some y → keep y = false) → ∀ h' e tk, Heap.ExtBut J s.heap h' → (∃ o, h'.get? e = some o ∧ o.cls = .type "StopIteration") → E (.ref e) { s with heap := h', toks := tk }) :
    wpAny (model prog w) A (PySem.call (.builtin "filter.__next__") [.ref FL]) Q E s :=
  wpAny_call (codeAny_call_builtin (R := wants Q E) slot_filter_next.plain entry_filter_next (slot_filter_next.check _ _ _ _ _ _ _ _ ⟨_, a1, rfl⟩ (args_filter_next_1 _)
    (filter_next_code (R := wants Q E) (Q := fun _ _ => True) hh hJF hlJ hown hinv hcall (xs.length - p) p s rfl hp a1 a4 a2 a3 hitem hend)))
theorem filter_cons_split {α : Type} {keep : α → Bool} {xs : List α} {p j : Nat} {x : α} (hpj : p ≤ j) (hx : xs[j]? = some x) (hk : keep x = true) (hb : ∀ i y, p ≤ i → i < j → xs[i]? = some y → keep y = false) :
    (xs.take (j + 1)).filter keep = (xs.take p).filter keep ++ [x] := by
  obtain ⟨d, rfl⟩ : ∃ d, j = p + d := ⟨j - p, by (first | lia | omega)⟩
  have h1 : (xs.take (p + d)).filter keep = (xs.take p).filter keep := by
    have : ∀ d', d' ≤ d → (xs.take (p + d')).filter keep = (xs.take p).filter keep := by
      intro d'
      induction d' with
      | zero => intro _; rfl
      | succ d' ih =>
        intro hd
        rw [show p + (d' + 1) = (p + d') + 1 from rfl, List.take_add_one, List.filter_append, ih (by (first | lia | omega))]
        cases hy : xs[p + d']? with
        | none => simp
        | some y => simp [hb (p + d') y (by (first | lia | omega)) (by (first | lia | omega)) hy]
    exact this d (Nat.le_refl _)
  rw [List.take_add_one, List.filter_append, h1, hx]
  simp [hk]
theorem filter_rest_nil {α : Type} {keep : α → Bool} {xs : List α} {p : Nat} (hb : ∀ i y, p ≤ i → xs[i]? = some y → keep y = false) : xs.filter keep = (xs.take p).filter keep := by
  conv => lhs; rw [← List.take_append_drop p xs]
  rw [List.filter_append]
  have : (xs.drop p).filter keep = [] := by
    rw [List.filter_eq_nil_iff]
    intro a ha
    obtain ⟨i, hi⟩ := List.getElem?_of_mem ha
    rw [List.getElem?_drop] at hi
    rw [hb (p + i) a (by (first | lia | omega)) hi]
    exact Bool.false_ne_true
  rw [this, List.append_nil]
theorem pyIter_filter {M J : Addr} {f : Value} {Q : Value → Shared → Prop} (hM : IsFiltO s.heap M J f) (h : Q (.ref M) s) : wpAny (model prog w) A (pyIter (.ref M)) Q E s := by
  have hT : s.TypeIs (.ref M) "filter" := ⟨_, hM, rfl⟩
  refine wpAny_pyIter_slot hT slot_filter_iter (wpAny_call_entry slot_filter_iter hT entry_filter_iter ?_ (args_filter_iter_1 _))
  show wpAny _ _ (ret (.ref M)) _ _ s
  exact wpAny_pure ⟨_, rfl, "filter", _, hT, slot_filter_next.lookup, h⟩
end
theorem walks_filter {prog : Program} {w : World} {A : Around} (hh : A.handled = none) {q FL J l : Addr} {xs : List Value} {keep : Value → Bool} {Inv : Heap → Prop} {own : List Addr} (hJF : J ≠ FL) (hlJ : l ≠ J) (hown : J ∉ own)
    (hinv : ∀ h h', Inv h → (∀ b ∈ own, ∀ o, h.get? b = some o → h'.get? b = some o) → Inv h')
    (hcall : ∀ x ∈ xs, ∀ (s : Shared) (Q E : Value → Shared → Prop), Inv s.heap → (∀ tk, Q (.bool (keep x)) { s with toks := tk }) → wpAny (model prog w) A.in1 (PySem.call (.ref q) [x]) Q E s) :
    Walks prog w A FL (FL :: J :: l :: own) [J] (xs.filter keep).length (fun i v => (xs.filter keep)[i]? = some v)
      (fun i h => IsFiltO h FL J (.ref q) ∧ h.IsList l xs.toArray ∧ Inv h ∧ ∃ p, p ≤ xs.length ∧ h.IsListIter J l p ∧ ((xs.take p).filter keep).length = i) where
  sub := fun b hb => by rw [List.mem_singleton.mp hb]; simp
  frame := fun i h h' ⟨a1, a2, a3, p, hp, a4, a5⟩ hk => ⟨hk FL (by simp) _ a1, a2.at fun o e => hk l (by simp) o e, hinv h h' a3 fun b hb o e => hk b (by simp [hb]) o e, p, hp, a4.at fun o e => hk J (by simp) o e, a5⟩
  item := fun i s Q E hi ⟨a1, a2, a3, p, hp, a4, a5⟩ hQ => by
    have hTy : s.TypeIs (.ref FL) "filter" := ⟨_, a1, rfl⟩
    unfold pyNext
    refine wpAny_bind (wpAny_attempt (wpAny_callSpecial?_slot (name := Str.ofString "__next__") hTy slot_filter_next (call_filter_next hh hJF hlJ hown hinv hcall p hp a1 a4 a2 a3 ?_ ?_)))
    · intro j x h' tk hj hx hkx hb hJ' hk'
      have hsp := filter_cons_split hj hx hkx hb
      have hj1 : j + 1 ≤ xs.length := (List.getElem?_eq_some_iff.mp hx).1
      refine wpAny_pure (hQ x h' tk ?_ ⟨hk' _ _ (Ne.symm hJF) a1, a2.at fun o e => hk' _ o hlJ e, hinv _ _ a3 fun b hb o e => hk' b o (fun z => hown (z ▸ hb)) e, j + 1, hj1, hJ', by rw [hsp, List.length_append, a5]; rfl⟩ fun b o hb e => hk' b o (fun z => hb (by simp [z])) e)
      have : xs.filter keep = (xs.take (j + 1)).filter keep ++ (xs.drop (j + 1)).filter keep := by rw [← List.filter_append, List.take_append_drop]
      rw [this, hsp, List.append_assoc, List.getElem?_append_right (by (first | lia | omega)), a5, Nat.sub_self]
      rfl
    · intro hall
      have := filter_rest_nil hall
      rw [this] at hi
      (first | lia | omega)
  done := fun s Q E ⟨a1, a2, a3, p, hp, a4, a5⟩ hQ => by
    have hTy : s.TypeIs (.ref FL) "filter" := ⟨_, a1, rfl⟩
    unfold pyNext
    refine wpAny_bind (wpAny_attempt (wpAny_callSpecial?_slot (name := Str.ofString "__next__") hTy slot_filter_next (call_filter_next hh hJF hlJ hown hinv hcall p hp a1 a4 a2 a3 ?_ ?_)))
    · intro j x h' tk hj hx hkx hb hJ' hk'
      have hsp := filter_cons_split hj hx hkx hb
      have : xs.filter keep = (xs.take (j + 1)).filter keep ++ (xs.drop (j + 1)).filter keep := by rw [← List.filter_append, List.take_append_drop]
      have h2 := congrArg List.length this
      rw [hsp] at h2
      simp only [List.length_append, List.length_singleton] at h2
      (first | lia | omega)
    · intro hall h' e tk hk' he
      obtain ⟨o, ho, hc⟩ := he
      refine wpAny_bind (wpAny_isInstance (T := "StopIteration") (b := true) ⟨o, ho, hc⟩ isSubtype_stop ?_)
      exact wpAny_pure (hQ h' tk fun b o hb e => hk' b o (fun z => hb (by simp [z])) e)
  self := fun i s Q E ⟨a1, _⟩ hQ => pyIter_filter a1 hQ
end Mine
end
section
theorem Mine.fresh13 : True := by w_top off; trivial
open PySem PySem.W PyProof.Rows PySem.Calls
set_option maxRecDepth 100000
set_option maxHeartbeats 4000000
namespace Mine
section
variable {prog : Program} {w : World} {A : Around} {E : Value → Shared → Prop} {s : Shared}
theorem extend_with {T : String} {D M : Addr} {fp wr : List Addr} {n c₀ : Nat} {its : Array Value} {P : Nat → Value → Prop} {St : Nat → Heap → Prop} {R : Result → Shared → Prop} {res : Value} (W : Walks prog w A.in1 M fp wr n P St)
    (hTy : s.TypeIs (.ref M) T) (hTl : (Value.type T == Value.type "list") = false) (hTt : (Value.type T == Value.type "tuple") = false) (hlen : typeLookup (.type T) "__len__" = pure none) (hhint : typeLookup (.type T) "__length_hint__" = pure none)
    (hst : St 0 s.heap) (hD : D ∉ fp) (hDM : D ≠ M) (hS : s.heap.get? D = some { cls := .type "list", dict := none, data := .seq its c₀, slots := #[] }) (hsz : its.size + n < 16777216)
    (hQ : ∀ h' tk vs c', (∀ b o, b ≠ D → b ∉ wr → s.heap.get? b = some o → h'.get? b = some o) → h'.get? D = some { cls := .type "list", dict := none, data := .seq (its ++ (vs : List Value).toArray) c', slots := #[] } → vs.length = n → (∀ j v, vs[j]? = some v → P j v) → R (.ok (.ret res)) { s with heap := h', toks := tk }) :
    wpAny (model prog w) A.in1 (Builtin.List.listExtendWith (.ref D) (.ref M) res)
      (fun fin s' => match fin with | .done f => R (.ok f) s' | .again c' => c'.quiet = true ∧ codeAny (model prog w) A c' R s') (fun e s' => R (.error e) s') s := by
  have hsl : ∀ k, k ≤ 16777216 → k ≤ sizeLine := fun k hk => by rw [sizeLine_eq]; exact hk
  have key : ∀ (h : Heap) (c₁ tk : Nat), St 0 h → (∀ b o, b ≠ D → s.heap.get? b = some o → h.get? b = some o) →
      h.get? D = some { cls := .type "list", dict := none, data := .seq its c₁, slots := #[] } → codeAny (model prog w) A (.builtin "list.extend.loop" ⟨[.ref D, .ref M, res], []⟩) R { s with heap := h, toks := tk } := by
    intro h c₁ tk hst hk hS₁
    refine codeAny_extend_loopS (Walks.shift W its).toS (hsl _ (Nat.le_of_lt hsz)) D hD res n its.size _ its c₁ (by (first | lia | omega)) (Nat.le_add_right _ _) ⟨0, rfl, hst⟩ hS₁ ⟨rfl, fun j v e => ?_⟩ fun s' acc' c' hm hS' hacc => ?_
    · show if j < its.size then its[j]? = some v else _
      rw [if_pos (by have := Array.getElem?_eq_some_iff.mp e; exact this.1)]; exact e
    rw [Moved.eq_with hm]
    have hacc1 := hacc.1
    have hpre : ∀ j, j < its.size → acc'[j]? = its[j]? := fun j hj => by
      have hlt : j < acc'.size := by (first | lia | omega)
      have := hacc.2 j acc'[j] (Array.getElem?_eq_getElem hlt)
      dsimp only at this
      rw [if_pos hj] at this
      rw [this, Array.getElem?_eq_getElem hlt]
    have e : acc' = its ++ (acc'.toList.drop its.size).toArray := by
      apply Array.ext_getElem?
      intro j
      rcases Nat.lt_or_ge j its.size with hj | hj
      · rw [Array.getElem?_append_left hj, hpre j hj]
      · rw [Array.getElem?_append_right hj]
        simp only [List.getElem?_toArray, List.getElem?_drop, Array.getElem?_toList]
        congr 1; (first | lia | omega)
    refine hQ s'.heap s'.toks (acc'.toList.drop its.size) c' (fun b o hb hb' e => hm.heap b o (fun hmem => ?_) (hk b o hb e)) (by rw [← e]; exact hS') (by simp; (first | lia | omega)) fun j v hj => ?_
    · rcases List.mem_cons.mp hmem with e' | hmem
      · exact hb e'
      · exact hb' hmem
    · rw [List.getElem?_drop, Array.getElem?_toList] at hj
      have := hacc.2 _ v hj
      dsimp only at this
      rw [if_neg (by (first | lia | omega)), Nat.add_sub_cancel_left] at this
      exact this
  unfold Builtin.List.listExtendWith
  refine wpAny_bind (wpAny_typeOf hTy ?_)
  have h1 : Builtin.List.listSameRef (.ref D) (.ref M) = false := by simp [Builtin.List.listSameRef, hDM]
  simp only [h1, hTl, hTt, Bool.or_false, Bool.false_eq_true, if_false]
  refine wpAny_bind (W.self 0 _ _ _ hst ?_)
  refine wpAny_bind (wpAny_holding ?_)
  unfold Builtin.List.listLengthHint
  refine wpAny_bind (wpAny_specialOf hTy hlen ?_)
  show wpAny _ A.in1 (specialOf (Value.ref M) (Str.ofString "__length_hint__") >>= _) _ _ _
  refine wpAny_bind (wpAny_specialOf hTy hhint ?_)
  refine wpAny_pure ?_
  show wpAny _ A.in1 (rule "list.extend.makes-room" >>= fun _ => Builtin.List.listTouch (.ref D) >>= fun _ =>
    again (.builtin "list.extend.loop" ⟨[.ref D, .ref M, res], []⟩)) _ _ _
  refine wpAny_bind (wpAny_rule ?_)
  refine wpAny_bind ?_
  show wpAny _ A.in1 (updateSeq D (·.push .none) >>= fun _ => updateSeq D (·.pop)) _ _ _
  refine wpAny_bind (wpAny_updateSeq hS rfl ?_ (hz := hsl _ (by (first | lia | omega))) (_hz' := by rw [Array.size_push, sizeLine_eq]; (first | lia | omega)))
  have hS₂ := PySem.IsL.update hS (·.push Value.none)
  refine wpAny_updateSeq hS₂ rfl ?_ (hz := by rw [Array.size_push, sizeLine_eq]; (first | lia | omega)) (_hz' := by rw [Array.size_pop, Array.size_push, sizeLine_eq]; (first | lia | omega))
  have hS₃ := PySem.IsL.update hS₂ (·.pop)
  rw [Array.pop_push] at hS₃
  refine wpAny_pure ⟨plainId_quiet PySem.F.plain_extend_loop _, key _ _ _ ?_ (fun b o hb e => ?_) hS₃⟩
  · refine W.frame 0 _ _ hst fun b hb o e => ?_
    have hbS : b ≠ D := fun h => hD (h ▸ hb)
    exact (Heap.get?_update_other _ _ (Ne.symm hbS)).trans ((Heap.get?_update_other _ _ (Ne.symm hbS)).trans e)
  · exact (Heap.get?_update_other _ _ (Ne.symm hb)).trans ((Heap.get?_update_other _ _ (Ne.symm hb)).trans e)
theorem list_walk {T : String} {M : Addr} {fp wr : List Addr} {n : Nat} {P : Nat → Value → Prop} {St : Nat → Heap → Prop} {Q : Value → Shared → Prop} (W : Walks prog w A.in1.in1 M fp wr n P St)
    (hTy : s.TypeIs (.ref M) T) (hTl : (Value.type T == Value.type "list") = false) (hTt : (Value.type T == Value.type "tuple") = false) (hlen : typeLookup (.type T) "__len__" = pure none) (hhint : typeLookup (.type T) "__length_hint__" = pure none)
    (hst : St 0 s.heap) (hfp : ∀ b ∈ fp, b < s.heap.objs.size) (hMf : M ∈ fp) (hn : n < 16777216)
    (hQ : ∀ h' tk vs c', (∀ b o, b ∉ wr → s.heap.get? b = some o → h'.get? b = some o) → h'.get? s.heap.objs.size = some { cls := .type "list", dict := none, data := .seq (vs : List Value).toArray c', slots := #[] } → vs.length = n → (∀ j v, vs[j]? = some v → P j v) → Q (.ref s.heap.objs.size) { s with heap := h', toks := tk }) :
    wpAny (model prog w) A (PySem.call (.type "list") [.ref M]) Q E s := by
  refine callType_codes (Q₁ := fun obj s₁ => obj = .ref s.heap.objs.size ∧ s₁ = { s with heap := s.heap.push { cls := .type "list", data := .seq #[] } }) PySem.F.called_list (PySem.F.typeCall_list_1 _) PySem.F.entry_list_init
    (code_list_new _ ⟨rfl, rfl⟩) fun obj s₁ h₁ => ?_
  obtain ⟨rfl, rfl⟩ := h₁
  have hS : (s.heap.push { cls := .type "list", data := .seq #[] }).get? s.heap.objs.size = some { cls := .type "list", data := .seq #[] } := Heap.get?_push_size _ rfl
  refine ⟨⟨_, hS, rfl⟩, PySem.F.args_list_init_2 _ _, ?_⟩
  show wpAny _ _ (do let old ← Builtin.List.listItems (.ref s.heap.objs.size); Builtin.List.listUpdate (.ref s.heap.objs.size) (fun _ => #[]); letGo old.toList.reverse; Builtin.List.listExtendWith (.ref s.heap.objs.size) (.ref M) .none) _ _ _
  refine wpAny_bind ?_
  unfold Builtin.List.listItems
  refine wpAny_bind (wpAny_seqItems hS rfl (wpAny_pure ?_))
  show wpAny _ _ (updateSeq s.heap.objs.size (fun _ => #[]) >>= fun _ => letGo (#[] : Array Value).toList.reverse >>= fun _ => Builtin.List.listExtendWith (.ref s.heap.objs.size) (.ref M) .none) _ _ _
  refine wpAny_bind (wpAny_updateSeq hS rfl ?_)
  have hS₂ := Heap.get?_update_self (Obj.mapSeq (fun _ => (#[] : Array Value))) hS rfl
  have oth : ∀ b o, b ≠ s.heap.objs.size → (s.heap.push { cls := .type "list", data := .seq #[] }).get? b = some o → ((s.heap.push { cls := .type "list", data := .seq #[] }).update s.heap.objs.size (Obj.mapSeq (fun _ => (#[] : Array Value)))).get? b = some o :=
    fun b o hb e => (Heap.get?_update_other _ _ (Ne.symm hb)).trans e
  have hne : ∀ b ∈ fp, b ≠ s.heap.objs.size := fun b hb => Nat.ne_of_lt (hfp b hb)
  have k0 : ∀ b ∈ fp, ∀ o, s.heap.get? b = some o → ((s.heap.push { cls := .type "list", data := .seq #[] }).update s.heap.objs.size (Obj.mapSeq (fun _ => (#[] : Array Value)))).get? b = some o := fun b hb o e => oth b o (hne b hb) (Heap.get?_push_of_some _ e)
  refine wpAny_bind (wpAny_letGo ?_)
  refine extend_with (A := A.in1) (R := wants (fun r s₂ => r = .none ∧ Q (.ref s.heap.objs.size) s₂) E) W ?_ hTl hTt hlen hhint (W.frame 0 _ _ hst k0) (fun hm => hne _ hm rfl) (Ne.symm (hne _ hMf)) hS₂ (by simpa using hn) fun h' tk vs c' hk hD hvl hvs => ?_
  · obtain ⟨o, ho, hc⟩ := hTy
    exact ⟨o, k0 _ hMf o ho, hc⟩
  · refine ⟨rfl, hQ h' tk vs c' (fun b o hb e => ?_) (by simpa using hD) hvl hvs⟩
    have hb1 : b ≠ s.heap.objs.size := Nat.ne_of_lt (Heap.lt_size e)
    exact hk b o hb1 hb (oth b o hb1 (Heap.get?_push_of_some _ e))
end
end Mine
end
section
theorem Mine.fresh14 : True := by w_top off; trivial
open PySem PySem.W PyProof.Rows PySem.Calls
set_option maxRecDepth 100000
set_option maxHeartbeats 4000000
namespace Mine
section
variable {prog : Program} {w : World} {A : Around} {E : Value → Shared → Prop} {s : Shared}
theorem extend_withH {T : String} {D M : Addr} {fp wr : List Addr} {n c₀ : Nat} {its : Array Value} {P : Nat → Value → Prop} {St : Nat → Heap → Prop} {R : Result → Shared → Prop} {res : Value} (W : Walks prog w A.in1 M fp wr n P St)
    (hTy : s.TypeIs (.ref M) T) (hTl : (Value.type T == Value.type "list") = false) (hTt : (Value.type T == Value.type "tuple") = false) (hhint : ∀ (s' : Shared) (E' : Value → Shared → Prop) (Q' : Bool → Shared → Prop), St 0 s'.heap → Q' false s' → wpAny (model prog w) A.in1 (Builtin.List.listLengthHint (.ref M)) Q' E' s')
    (hst : St 0 s.heap) (hD : D ∉ fp) (hDM : D ≠ M) (hS : s.heap.get? D = some { cls := .type "list", dict := none, data := .seq its c₀, slots := #[] }) (hsz : its.size + n < 16777216)
    (hQ : ∀ h' tk vs c', (∀ b o, b ≠ D → b ∉ wr → s.heap.get? b = some o → h'.get? b = some o) → h'.get? D = some { cls := .type "list", dict := none, data := .seq (its ++ (vs : List Value).toArray) c', slots := #[] } → vs.length = n → (∀ j v, vs[j]? = some v → P j v) → R (.ok (.ret res)) { s with heap := h', toks := tk }) :
    wpAny (model prog w) A.in1 (Builtin.List.listExtendWith (.ref D) (.ref M) res)
      (fun fin s' => match fin with | .done f => R (.ok f) s' | .again c' => c'.quiet = true ∧ codeAny (model prog w) A c' R s') (fun e s' => R (.error e) s') s := by
  have hsl : ∀ k, k ≤ 16777216 → k ≤ sizeLine := fun k hk => by rw [sizeLine_eq]; exact hk
  have key : ∀ (h : Heap) (c₁ tk : Nat), St 0 h → (∀ b o, b ≠ D → s.heap.get? b = some o → h.get? b = some o) →
      h.get? D = some { cls := .type "list", dict := none, data := .seq its c₁, slots := #[] } → codeAny (model prog w) A (.builtin "list.extend.loop" ⟨[.ref D, .ref M, res], []⟩) R { s with heap := h, toks := tk } := by
    intro h c₁ tk hst hk hS₁
    refine codeAny_extend_loopS (Walks.shift W its).toS (hsl _ (Nat.le_of_lt hsz)) D hD res n its.size _ its c₁ (by (first | lia | omega)) (Nat.le_add_right _ _) ⟨0, rfl, hst⟩ hS₁ ⟨rfl, fun j v e => ?_⟩ fun s' acc' c' hm hS' hacc => ?_
    · show if j < its.size then its[j]? = some v else _
      rw [if_pos (by have := Array.getElem?_eq_some_iff.mp e; exact this.1)]; exact e
    rw [Moved.eq_with hm]
    have hacc1 := hacc.1
    have hpre : ∀ j, j < its.size → acc'[j]? = its[j]? := fun j hj => by
      have hlt : j < acc'.size := by (first | lia | omega)
      have := hacc.2 j acc'[j] (Array.getElem?_eq_getElem hlt)
      dsimp only at this
      rw [if_pos hj] at this
      rw [this, Array.getElem?_eq_getElem hlt]
    have e : acc' = its ++ (acc'.toList.drop its.size).toArray := by
      apply Array.ext_getElem?
      intro j
      rcases Nat.lt_or_ge j its.size with hj | hj
      · rw [Array.getElem?_append_left hj, hpre j hj]
      · rw [Array.getElem?_append_right hj]
        simp only [List.getElem?_toArray, List.getElem?_drop, Array.getElem?_toList]
        congr 1; (first | lia | omega)
    refine hQ s'.heap s'.toks (acc'.toList.drop its.size) c' (fun b o hb hb' e => hm.heap b o (fun hmem => ?_) (hk b o hb e)) (by rw [← e]; exact hS') (by simp; (first | lia | omega)) fun j v hj => ?_
    · rcases List.mem_cons.mp hmem with e' | hmem
      · exact hb e'
      · exact hb' hmem
    · rw [List.getElem?_drop, Array.getElem?_toList] at hj
      have := hacc.2 _ v hj
      dsimp only at this
      rw [if_neg (by (first | lia | omega)), Nat.add_sub_cancel_left] at this
      exact this
  unfold Builtin.List.listExtendWith
  refine wpAny_bind (wpAny_typeOf hTy ?_)
  have h1 : Builtin.List.listSameRef (.ref D) (.ref M) = false := by simp [Builtin.List.listSameRef, hDM]
  simp only [h1, hTl, hTt, Bool.or_false, Bool.false_eq_true, if_false]
  refine wpAny_bind (W.self 0 _ _ _ hst ?_)
  refine wpAny_bind (wpAny_holding (hhint _ _ _ hst ?_))
  refine wpAny_ite_split (fun _ => ?_) (fun _ => wpAny_pure ⟨plainId_quiet PySem.F.plain_extend_loop _, key _ c₀ _ hst (fun b o _ e => e) hS⟩)
  refine wpAny_bind (wpAny_rule ?_)
  refine wpAny_bind ?_
  show wpAny _ A.in1 (updateSeq D (·.push .none) >>= fun _ => updateSeq D (·.pop)) _ _ _
  refine wpAny_bind (wpAny_updateSeq hS rfl ?_ (hz := hsl _ (by (first | lia | omega))) (_hz' := by rw [Array.size_push, sizeLine_eq]; (first | lia | omega)))
  have hS₂ := PySem.IsL.update hS (·.push Value.none)
  refine wpAny_updateSeq hS₂ rfl ?_ (hz := by rw [Array.size_push, sizeLine_eq]; (first | lia | omega)) (_hz' := by rw [Array.size_pop, Array.size_push, sizeLine_eq]; (first | lia | omega))
  have hS₃ := PySem.IsL.update hS₂ (·.pop)
  rw [Array.pop_push] at hS₃
  refine wpAny_pure ⟨plainId_quiet PySem.F.plain_extend_loop _, key _ _ _ ?_ (fun b o hb e => ?_) hS₃⟩
  · refine W.frame 0 _ _ hst fun b hb o e => ?_
    have hbS : b ≠ D := fun h => hD (h ▸ hb)
    exact (Heap.get?_update_other _ _ (Ne.symm hbS)).trans ((Heap.get?_update_other _ _ (Ne.symm hbS)).trans e)
  · exact (Heap.get?_update_other _ _ (Ne.symm hb)).trans ((Heap.get?_update_other _ _ (Ne.symm hb)).trans e)
theorem list_walkH {T : String} {M : Addr} {fp wr : List Addr} {n : Nat} {P : Nat → Value → Prop} {St : Nat → Heap → Prop} {Q : Value → Shared → Prop} (W : Walks prog w A.in1.in1 M fp wr n P St)
    (hTy : s.TypeIs (.ref M) T) (hTl : (Value.type T == Value.type "list") = false) (hTt : (Value.type T == Value.type "tuple") = false) (hhint : ∀ (s' : Shared) (E' : Value → Shared → Prop) (Q' : Bool → Shared → Prop), St 0 s'.heap → Q' false s' → wpAny (model prog w) A.in1.in1 (Builtin.List.listLengthHint (.ref M)) Q' E' s')
    (hst : St 0 s.heap) (hfp : ∀ b ∈ fp, b < s.heap.objs.size) (hMf : M ∈ fp) (hn : n < 16777216)
    (hQ : ∀ h' tk vs c', (∀ b o, b ∉ wr → s.heap.get? b = some o → h'.get? b = some o) → h'.get? s.heap.objs.size = some { cls := .type "list", dict := none, data := .seq (vs : List Value).toArray c', slots := #[] } → vs.length = n → (∀ j v, vs[j]? = some v → P j v) → Q (.ref s.heap.objs.size) { s with heap := h', toks := tk }) :
    wpAny (model prog w) A (PySem.call (.type "list") [.ref M]) Q E s := by
  refine callType_codes (Q₁ := fun obj s₁ => obj = .ref s.heap.objs.size ∧ s₁ = { s with heap := s.heap.push { cls := .type "list", data := .seq #[] } }) PySem.F.called_list (PySem.F.typeCall_list_1 _) PySem.F.entry_list_init
    (code_list_new _ ⟨rfl, rfl⟩) fun obj s₁ h₁ => ?_
  obtain ⟨rfl, rfl⟩ := h₁
  have hS : (s.heap.push { cls := .type "list", data := .seq #[] }).get? s.heap.objs.size = some { cls := .type "list", data := .seq #[] } := Heap.get?_push_size _ rfl
  refine ⟨⟨_, hS, rfl⟩, PySem.F.args_list_init_2 _ _, ?_⟩
  show wpAny _ _ (do let old ← Builtin.List.listItems (.ref s.heap.objs.size); Builtin.List.listUpdate (.ref s.heap.objs.size) (fun _ => #[]); letGo old.toList.reverse; Builtin.List.listExtendWith (.ref s.heap.objs.size) (.ref M) .none) _ _ _
  refine wpAny_bind ?_
  unfold Builtin.List.listItems
  refine wpAny_bind (wpAny_seqItems hS rfl (wpAny_pure ?_))
  show wpAny _ _ (updateSeq s.heap.objs.size (fun _ => #[]) >>= fun _ => letGo (#[] : Array Value).toList.reverse >>= fun _ => Builtin.List.listExtendWith (.ref s.heap.objs.size) (.ref M) .none) _ _ _
  refine wpAny_bind (wpAny_updateSeq hS rfl ?_)
  have hS₂ := Heap.get?_update_self (Obj.mapSeq (fun _ => (#[] : Array Value))) hS rfl
  have oth : ∀ b o, b ≠ s.heap.objs.size → (s.heap.push { cls := .type "list", data := .seq #[] }).get? b = some o → ((s.heap.push { cls := .type "list", data := .seq #[] }).update s.heap.objs.size (Obj.mapSeq (fun _ => (#[] : Array Value)))).get? b = some o :=
    fun b o hb e => (Heap.get?_update_other _ _ (Ne.symm hb)).trans e
  have hne : ∀ b ∈ fp, b ≠ s.heap.objs.size := fun b hb => Nat.ne_of_lt (hfp b hb)
  have k0 : ∀ b ∈ fp, ∀ o, s.heap.get? b = some o → ((s.heap.push { cls := .type "list", data := .seq #[] }).update s.heap.objs.size (Obj.mapSeq (fun _ => (#[] : Array Value)))).get? b = some o := fun b hb o e => oth b o (hne b hb) (Heap.get?_push_of_some _ e)
  refine wpAny_bind (wpAny_letGo ?_)
  refine extend_withH (A := A.in1) (R := wants (fun r s₂ => r = .none ∧ Q (.ref s.heap.objs.size) s₂) E) W ?_ hTl hTt hhint (W.frame 0 _ _ hst k0) (fun hm => hne _ hm rfl) (Ne.symm (hne _ hMf)) hS₂ (by simpa using hn) fun h' tk vs c' hk hD hvl hvs => ?_
  · obtain ⟨o, ho, hc⟩ := hTy
    exact ⟨o, k0 _ hMf o ho, hc⟩
  · refine ⟨rfl, hQ h' tk vs c' (fun b o hb e => ?_) (by simpa using hD) hvl hvs⟩
    have hb1 : b ≠ s.heap.objs.size := Nat.ne_of_lt (Heap.lt_size e)
    exact hk b o hb1 hb (oth b o hb1 (Heap.get?_push_of_some _ e))
theorem hint_rev {a l : Addr} {i : Int} {Q : Bool → Shared → Prop} (hr : s.heap.IsRevIter a l i) (h : Q false s) : wpAny (model prog w) A (Builtin.List.listLengthHint (.ref a)) Q E s := by
  have hT := hr.typeIs
  have f1 : typeLookup (.type "list_reverseiterator") "__len__" = pure none := by rw [typeLookup_type, builtinLookup_eq_fast]; kernel_rfl
  have f2 : typeLookup (.type "list_reverseiterator") "__length_hint__" = pure (some (.builtin "list_reverseiterator.__length_hint__")) := by rw [typeLookup_type, builtinLookup_eq_fast]; kernel_rfl
  unfold Builtin.List.listLengthHint
  refine wpAny_bind (wpAny_specialOf hT f1 ?_)
  show wpAny _ _ (specialOf (Value.ref a) (Str.ofString "__length_hint__") >>= _) _ _ _
  refine wpAny_bind (wpAny_specialOf hT f2 ?_)
  generalize hid : ("list_reverseiterator.__length_hint__" : String) = id0
  wp_delta
  rw [show splitId id0 = some ("list_reverseiterator", "__length_hint__") from by subst hid; decide +kernel]
  subst hid
  refine wpAny_bind (wpAny_isInstance (T := "list_reverseiterator") (b := true) hT (by rw [isSubtype_type]; kernel_rfl) ?_)
  refine wpAny_ite_split (fun hab => absurd hab (by decide)) (fun _ => ?_)
  refine wpAny_ite_split (fun _ => ?_) (fun hab => absurd (by decide +kernel) hab)
  refine wpAny_ite_split (fun hab => absurd hab (by decide)) (fun _ => ?_)
  exact wpAny_pure h
end
end Mine
end
section
open PySem PySem.W PyProof.Rows PySem.Calls Mine
local macro_rules | `(tactic| walk_at "mine mem") => `(tactic| with_reducible first | exact mem_h | (refine mem_t ?_; walk_at "mine mem") | (refine mem_l ?_; walk_at "mine mem") | (refine mem_r ?_; walk_at "mine mem") | assumption)
local macro_rules | `(tactic| walk_at "mine sub") => `(tactic| with_reducible first | walk_at "mine mem" | exact sub_nil | exact sub_refl | (refine sub_cons ?ma ?mb; (case ma => walk_at "mine mem"); (case mb => walk_at "mine sub")) | (refine sub_app ?ma ?mb; (case ma => walk_at "mine sub"); (case mb => walk_at "mine sub")) | (refine sub_tail ?_; walk_at "mine sub") | (refine sub_app_l ?_; walk_at "mine sub") | (refine sub_app_r ?_; walk_at "mine sub"))
local macro_rules | `(tactic| walk_at "mine omega") => `(tactic| first | (with_reducible first | exact nle (by assumption) (by exact rfl) | exact nlt (by assumption) (by exact rfl) | exact nlt' (by assumption) (by exact rfl) | exact nle' (by assumption) (by exact rfl) | exact inn _ | exact ineg _ | exact ipos (by assumption) (by exact rfl) | exact ipose (by assumption) (by exact rfl) | exact i63 (by assumption) (by exact rfl) | exact i63e (by assumption) (by exact rfl)) | lia | omega)
local macro_rules | `(tactic| walk_at "mine for") => `(tactic| (k_here; (rename Fr _ _ _ _ => lF'); (with_unfolding_all refine' For_turns lF' ?_); k_whole))
local macro_rules | `(tactic| walk_at "exec For Name Call cons nil") => `(tactic| walk_at "mine for")
local macro_rules | `(tactic| walk_at "exec For Name Attribute cons nil") => `(tactic| walk_at "mine for")
local macro_rules | `(tactic| walk_at "exec For Name Name cons nil") => `(tactic| walk_at "mine for")
local macro_rules | `(tactic| walk_at "exec For Tuple Call cons nil") => `(tactic| walk_at "mine for")
local macro_rules | `(tactic| k_all) => `(tactic| first | with_reducible assumption | (refine allne_of_lt ?_; with_reducible assumption))
local macro_rules | `(tactic| walk_at "mine steps") => `(tactic| repeat' (first | (k_unfold; (try dsimp only)) | (k_end; wrow_close) | ((try dsimp only); walk1) | (leave1; (try dsimp only)) | fail "no step"))
section
theorem Mine.fresh15 : True := by w_top off; trivial
open PySem PySem.W PyProof.Rows PySem.Calls
set_option maxRecDepth 100000
set_option maxHeartbeats 8000000
namespace Mine
theorem spec_count {w : World} {p : Program} {loose : List Str} {mean : ExcName → Option Value} {mg mb : Str → Option Value} (d : Addr) (τ : Nat → Tok) (tab : List (Nat × Nat)) (ep : Nat) (hlo : (d == sysModules) = false) (hs : cnt tab < 1000) :
    Spec w p loose mean mg mb 59 1 8 [.ref d] (fun h => h.DictAt (intKind PP w) d (kvsOf τ tab) ep) (fun h h' r => ∃ t, r = .int (cnt tab : Int) t) := by
  intro dp un gd cn cs ea ccd cl outer A₀ base h₀ L m s R B F X T hk hpre hdp hu ret
  revert X T; k_fill; intro X T
  refine' code_pure (binds := [(Str.ofString "callers", .ref d)]) ?k1 ?k2 ?k3 ?k5 ?kA ?kF ?kK ?k6 ?k7 ?k8 ?k9 ?kB ?_ ?c2 ?c3 ?c4 ?c5
  case kA => exact rfl
  case kF => exact rfl
  case kK => assumption
  case k2 => k_asm
  case k1 => k_asm
  case k3 => k_asm
  case k5 => k_asm
  case k6 => k_dflt k_is
  case k7 => k_dflt k_is
  case k8 => ktr_room
  case k9 => exact BindsTo.of_eq rfl
  case c5 => decide
  case kB => exact locs rfl
  case c2 => exact rfl
  case c3 => exact rfl
  case c4 => exact rfl
  intro L' h' F' N' B' X' T'
  refine wpAny_mono (Q := fun fl s' => R (.ok (.ret (match fl with | .ret v => v | _ => .none))) s') (E := fun _ _ => False) ?_ (fun _ _ x => x) (fun _ _ x => x.elim)
  clear B F X T
  replace F' := Fr.as F' (m' := fun y => if y = Str.ofString "callers" then some (.ref d) else none) (by first | exact look_rev _ rfl | (funext y; first | rfl | ((try simp only [List.reverse_cons, List.reverse_nil, List.nil_append, List.cons_append, List.lookup]); (repeat' split) <;> first | rfl | (simp_all; done) | (subst_vars; simp_all; done) | (simp_all (decide := true); done))))
  (try dsimp only)
  (try k_fold)
  generalize s.gens = gs0 at ret ⊢
  generalize s.drawn = ds0 at ret ⊢
  generalize s.os = os0 at ret ⊢
  (try generalize s.toks + _ = tk0)
  refine (let AE : Env := _; let AA : Around := Around.deeper _ AE; let QQ : Flow → Shared → Prop := _; (?kL : wpAny _ AA (execs _ AE) QQ _ _))
  repeat ((fail_if_success (with_reducible show wpAny _ _ (getMethod _ _ _) _ _ _)); (first | (k_unfold; (try dsimp only)) | ((try dsimp only); walk1) | (leave1; (try dsimp only))))
  rename Fr _ _ _ _ => F1
  rename News _ _ _ _ => N1
  have hat1 := Heap.DictAt.at' hpre fun o e => F1.keep d o e
  refine getM_dict PySem.F.slot_dict_values PySem.F.type_dict_values hat1 ?_
  repeat ((fail_if_success (with_reducible show wpAny _ _ (PySem.call (Value.builtin "dict.values") _ _) _ _ _)); (first | (k_unfold; (try dsimp only)) | ((try dsimp only); walk1) | (leave1; (try dsimp only))))
  refine call_values hat1 hlo F1 N1 fun vw h2 hv2 hat2 F2 N2 => ?_
  obtain ⟨od, hod⟩ : ∃ o, s.heap.get? d = some o := by obtain ⟨o, _, ho, _⟩ := hpre; exact ⟨o, ho⟩
  refine iter_values [] rfl hv2 hat2 (Stood.base hod) F2 N2 News.nil (fun i m led => led = [] ∧ ∃ u t, m = fun y => if y = Str.ofString "calls" then u else if y = Str.ofString "nc" then some (.int (cnt (tab.take i) : Int) t) else if y = Str.ofString "callers" then some (Value.ref d) else none) ⟨rfl, none, _, by (funext y; first | rfl | ((try simp only [List.reverse_cons, List.reverse_nil, List.nil_append, List.cons_append, List.lookup]); (repeat' split) <;> first | rfl | (simp_all; done) | (subst_vars; simp_all; done) | (simp_all (decide := true); done)))⟩ ?_ ?_
  · rintro i v m₁ led₁ h tk I oI hI hi hj1 hj2 hn F3 N3 gs ds oss Qt hQt
    (try refine opg fun gG hgG => ?_); (obtain ⟨k, hk⟩ := hj1); (try (refine hgG ?_; clear hgG gG))
    (try refine opg fun gG hgG => ?_); (obtain ⟨rfl, u, t, rfl⟩ := hj2); (try (refine hgG ?_; clear hgG gG))
    (try replace F3 : Fr _ L' _ _ := F3); (try replace N3 : News _ L' _ _ := N3)
    (try (refine (let mm : Str → Option Value := _; have Fx : Fr _ L' _ mm := F3; ?_); clear F3; rename Fr _ _ _ _ => F3))
    (try refine opg fun gG hgG => ?_); (obtain ⟨q, hq, rfl, rfl⟩ := kvs_get hk); (try (refine hgG ?_; clear hgG gG))
    have hle := cnt_take_le tab i
    have hle1 := cnt_take_le tab (i + 1)
    have hsucc := cnt_take_succ hq
    (try clear F1); (try clear N1); (try clear F2); (try clear N2)
    walk_at "mine steps"
    rename Fr _ _ _ _ => Fe
    rename News _ _ _ _ => Ne
    have e : (cnt (tab.take i) : Int) + (q.2 : Int) = (cnt (tab.take (i + 1)) : Int) := by rw [hsucc]; walk_at "mine omega"
    rw [e] at Fe
    refine hQt _ _ ?_
    exact TurnEnd.next Fe (news_sub Ne (by first | walk_at "mine sub" | simp)) News.nil (by first | walk_at "mine sub" | simp) ⟨rfl, _, _, by (first | (refine map2 (Str.ofString "calls") (Str.ofString "nc") rfl rfl ?_; intro y h0 h1; ((repeat (first | with_reducible rfl | refine Eq.trans (if_neg (by assumption)) ?_ | refine Eq.trans ?_ (if_neg (by assumption)).symm)); done)) | (funext y; by_cases h0 : y = Str.ofString "calls"; (subst h0; rfl); by_cases h1 : y = Str.ofString "nc"; (subst h1; rfl); simp only [if_neg h0, if_neg h1]))⟩
  · rintro h5 tk5 m5 led5 F5 N5 hj3
    (try refine opg fun gG hgG => ?_); (obtain ⟨rfl, u, t, rfl⟩ := hj3); (try (refine hgG ?_; clear hgG gG))
    (try replace F5 : Fr _ L' _ _ := F5); (try replace N5 : News _ L' _ _ := N5)
    (try (refine (let mm : Str → Option Value := _; have Fx : Fr _ L' _ mm := F5; ?_); clear F5; rename Fr _ _ _ _ => F5))
    (try clear F1); (try clear N1); (try clear F2); (try clear N2)
    dsimp only
    walk_at "mine steps"
    rename Fr _ _ _ _ => Fe
    refine ret _ _ _ Fe.keep ⟨t, ?_⟩
    unfold kvsOf
    rw [List.length_map, List.take_length]
end Mine
end
section
theorem Mine.fresh16 : True := by w_top off; trivial
open PySem PySem.W PyProof.Rows PySem.Calls
set_option maxRecDepth 100000
set_option maxHeartbeats 8000000
namespace Mine
theorem spec_add {w : World} {p : Program} {loose : List Str} {mean : ExcName → Option Value} {mg mb : Str → Option Value} (d1 d2 : Addr) (τ1 τ2 : Nat → Tok) (t1 t2 : List (Nat × Nat)) (lo1 : (d1 == sysModules) = false) (lo2 : (d2 == sysModules) = false) (hs1 : t1.length < 1000) (hs2 : t2.length < 1000) (hn1 : (t1.map (·.1)).Nodup)  :
    Spec w p loose mean mg mb 52 1 8 [.ref d1, .ref d2] (fun h => h.DictOf (intKind PP w) d1 (kvsOf τ1 t1) ∧ h.DictOf (intKind PP w) d2 (kvsOf τ2 t2))
      (fun h h' r => ∃ d o τ, r = .ref d ∧ (d == sysModules) = false ∧ h.get? d = none ∧ h'.get? d = some o ∧ o.IsDictOf (intKind PP w) (kvsOf τ (addTab t1 t2))) := by
  intro dp un gd cn cs ea ccd cl outer A₀ base h₀ L m s R B F X T hk hpre hdp hu ret
  (try refine opg fun gG hgG => ?_); (obtain ⟨hD1, hD2⟩ := hpre); (try (refine hgG ?_; clear hgG gG))
  revert X T; k_fill; intro X T
  refine' code_pure (binds := [(Str.ofString "target", .ref d1), (Str.ofString "source", .ref d2)]) ?k1 ?k2 ?k3 ?k5 ?kA ?kF ?kK ?k6 ?k7 ?k8 ?k9 ?kB ?_ ?c2 ?c3 ?c4 ?c5
  case kA => exact rfl
  case kF => exact rfl
  case kK => assumption
  case k2 => k_asm
  case k1 => k_asm
  case k3 => k_asm
  case k5 => k_asm
  case k6 => k_dflt k_is
  case k7 => k_dflt k_is
  case k8 => ktr_room
  case k9 => exact BindsTo.of_eq rfl
  case c5 => decide
  case kB => exact locs rfl
  case c2 => exact rfl
  case c3 => exact rfl
  case c4 => exact rfl
  intro L' h' F' N' B' X' T'
  refine wpAny_mono (Q := fun fl s' => R (.ok (.ret (match fl with | .ret v => v | _ => .none))) s') (E := fun _ _ => False) ?_ (fun _ _ x => x) (fun _ _ x => x.elim)
  clear B F X T
  replace F' := Fr.as F' (m' := fun y => if y = Str.ofString "target" then some (.ref d1) else if y = Str.ofString "source" then some (.ref d2) else none) (by first | exact look_rev _ rfl | (funext y; first | rfl | ((try simp only [List.reverse_cons, List.reverse_nil, List.nil_append, List.cons_append, List.lookup]); (repeat' split) <;> first | rfl | (simp_all; done) | (subst_vars; simp_all; done) | (simp_all (decide := true); done))))
  (try dsimp only)
  (try k_fold)
  generalize s.gens = gs0 at ret ⊢
  generalize s.drawn = ds0 at ret ⊢
  generalize s.os = os0 at ret ⊢
  (try generalize s.toks + _ = tk0)
  refine (let AE : Env := _; let AA : Around := Around.deeper _ AE; let QQ : Flow → Shared → Prop := _; (?kL : wpAny _ AA (execs _ AE) QQ _ _))
  repeat ((fail_if_success (with_reducible show wpAny _ _ (getMethod _ _ _) _ _ _)); (first | (k_unfold; (try dsimp only)) | ((try dsimp only); walk1) | (leave1; (try dsimp only))))
  rename Fr _ _ _ _ => F1
  rename News _ _ _ _ => N1
  refine getM_dictO PySem.F.slot_dict_items PySem.F.type_dict_items (dictOf_keep F1.keep hD1) ?_
  repeat ((fail_if_success (with_reducible show wpAny _ _ (PySem.call (Value.builtin "dict.items") _ _) _ _ _)); (first | (k_unfold; (try dsimp only)) | ((try dsimp only); walk1) | (leave1; (try dsimp only))))
  refine call_items (dictOf_keep F1.keep hD1) lo1 F1 N1 fun vw h2 hv2 hat2 F2 N2 => ?_
  rename Obj.IsDictOf (intKind _ _) _ [] => hi1
  have hp1 : ∃ d od, News s.heap L' h2 [(d, od)] ∧ Fr s.heap L' h2 (fun y => if y = Str.ofString "new_callers" then some (.ref d) else if y = Str.ofString "target" then some (Value.ref d1) else if y = Str.ofString "source" then some (Value.ref d2) else none) ∧ od.IsDictOf (intKind PP w) [] ∧ (d == sysModules) = false := ⟨_, _, N2, F2, hi1, by assumption⟩
  refine p2_4 ?_ hp1
  (try clear hp1)
  intro d od N3 F3 hi3 hdlo
  clear hi1
  (try refine opg fun gG hgG => ?_); (obtain ⟨ep1, hat3⟩ := hat2.dictAt); (try (refine hgG ?_; clear hgG gG))
  (try refine opg fun gG hgG => ?_); (obtain ⟨od1, hod1, _⟩ := Heap.dictOf_iff.mp hD1); (try (refine hgG ?_; clear hgG gG))
  refine iter_items [] rfl hv2 hat3 (Stood.base hod1) F3 N3 News.nil (fun i m led => ∃ od u v, led = [(d, od)] ∧ od.IsDictOf (intKind PP w) (kvsOf τ1 (t1.take i)) ∧ m = fun y => if y = Str.ofString "caller" then u else if y = Str.ofString "func" then v else if y = Str.ofString "new_callers" then some (.ref d) else if y = Str.ofString "target" then some (Value.ref d1) else if y = Str.ofString "source" then some (Value.ref d2) else none)
    ⟨od, none, none, rfl, by simpa [kvsOf] using hi3, by (first | (refine map2 (Str.ofString "caller") (Str.ofString "func") rfl rfl ?_; intro y h0 h1; ((repeat (first | with_reducible rfl | refine Eq.trans (if_neg (by assumption)) ?_ | refine Eq.trans ?_ (if_neg (by assumption)).symm)); done)) | (funext y; by_cases h0 : y = Str.ofString "caller"; (subst h0; rfl); by_cases h1 : y = Str.ofString "func"; (subst h1; rfl); simp only [if_neg h0, if_neg h1]))⟩ ?_ ?_
  · rintro i v m₁ led₁ h tk I oI hI hi hj2 hj3 hn F5 N5 gs ds oss Qt hQt
    refine p4_4 ?_ hj2
    (try clear hj2)
    intro T key x kk hq4 hk hkey hT
    subst hq4
    refine p3_3 ?_ hj3
    (try clear hj3)
    intro od5 u v hq5 hod5 hq6
    subst hq5
    subst hq6
    (try replace F5 : Fr _ L' _ _ := F5); (try replace N5 : News _ L' _ _ := N5)
    (try (refine (let mm : Str → Option Value := _; have Fx : Fr _ L' _ mm := F5; ?_); clear F5; rename Fr _ _ _ _ => F5))
    (try refine opg fun gG hgG => ?_); (obtain ⟨q, hq, rfl, rfl⟩ := kvs_get hk); (try (refine hgG ?_; clear hgG gG))
    (try refine opg fun gG hgG => ?_); (obtain ⟨tq, rfl⟩ := Value.isInt_shape hkey); (try (refine hgG ?_; clear hgG gG))
    (try clear F1); (try clear N1); (try clear F2); (try clear N2); (try clear F3); (try clear N3)
    repeat ((fail_if_success (with_reducible show wpAny _ _ (setItem _ _ _) _ _ _)); (first | (k_unfold; (try dsimp only)) | ((try dsimp only); walk1) | (leave1; (try dsimp only))))
    rename Fr _ _ _ _ => F6
    rename News _ _ _ _ => N6
    refine setItem_led (led := [(I, oI)]) F6 (news_sub N6 (by first | walk_at "mine sub" | simp)) (by simpa using fun e => hn (d, od5) (.head _) e.symm) hod5 hkey (by rw [kvsOf_length, List.length_take, sizeLine_eq]; walk_at "mine omega") fun h7 od7 hod7 F7 N7 => ?_
    rw [stored_new hn1 hq] at hod7
    dsimp only
    walk_at "mine steps"
    refine hQt _ _ ?_
    exact TurnEnd.next F7 (news_sub N7 (by first | walk_at "mine sub" | simp)) (news_sub (l' := [(d, od7)]) N7 (by first | walk_at "mine sub" | simp)) (by simpa using hn (d, od5) (.head _)) ⟨od7, _, _, rfl, hod7, by (first | (refine map2 (Str.ofString "caller") (Str.ofString "func") rfl rfl ?_; intro y h0 h1; ((repeat (first | with_reducible rfl | refine Eq.trans (if_neg (by assumption)) ?_ | refine Eq.trans ?_ (if_neg (by assumption)).symm)); done)) | (funext y; by_cases h0 : y = Str.ofString "caller"; (subst h0; rfl); by_cases h1 : y = Str.ofString "func"; (subst h1; rfl); simp only [if_neg h0, if_neg h1]))⟩
  · rintro h5 tk5 m5 led5 F5 N5 hj7
    refine p3_3 ?_ hj7
    (try clear hj7)
    intro od5 u v hq8 hod5 hq9
    subst hq8
    subst hq9
    (try replace F5 : Fr _ L' _ _ := F5); (try replace N5 : News _ L' _ _ := N5)
    (try (refine (let mm : Str → Option Value := _; have Fx : Fr _ L' _ mm := F5; ?_); clear F5; rename Fr _ _ _ _ => F5))
    rw [kvsOf_length, List.take_length] at hod5
    rw [List.nil_append] at N5
    (try clear F1); (try clear N1); (try clear F2); (try clear N2); (try clear F3); (try clear N3)
    dsimp only
    repeat ((fail_if_success (with_reducible show wpAny _ _ (getMethod _ _ _) _ _ _)); (first | (k_unfold; (try dsimp only)) | ((try dsimp only); walk1) | (leave1; (try dsimp only))))
    rename Fr _ _ _ _ => F1
    rename News _ _ _ _ => N1
    refine getM_dictO PySem.F.slot_dict_items PySem.F.type_dict_items (dictOf_keep F1.keep hD2) ?_
    repeat ((fail_if_success (with_reducible show wpAny _ _ (PySem.call (Value.builtin "dict.items") _ _) _ _ _)); (first | (k_unfold; (try dsimp only)) | ((try dsimp only); walk1) | (leave1; (try dsimp only))))
    refine call_items (dictOf_keep F1.keep hD2) lo2 F1 N1 fun vw h2 hv2 hat2 F2 N2 => ?_
    (try refine opg fun gG hgG => ?_); (obtain ⟨ep2, hat3⟩ := hat2.dictAt); (try (refine hgG ?_; clear hgG gG))
    (try refine opg fun gG hgG => ?_); (obtain ⟨od2, hod2, _⟩ := Heap.dictOf_iff.mp hD2); (try (refine hgG ?_; clear hgG gG))
    refine iter_items [] rfl hv2 hat3 (Stood.base hod2) F2 N2 News.nil (fun i m led => ∃ od τ u v, led = [(d, od)] ∧ od.IsDictOf (intKind PP w) (kvsOf τ (addTab t1 (t2.take i))) ∧ m = fun y => if y = Str.ofString "caller" then u else if y = Str.ofString "func" then v else if y = Str.ofString "new_callers" then some (.ref d) else if y = Str.ofString "target" then some (Value.ref d1) else if y = Str.ofString "source" then some (Value.ref d2) else none)
      ⟨od5, τ1, u, v, rfl, by simpa [addTab] using hod5, rfl⟩ ?_ ?_
    · rintro i v m₁ led₁ h tk I oI hI hi hj10 hj11 hn F5 N5 gs ds oss Qt hQt
      refine p4_4 ?_ hj10
      (try clear hj10)
      intro T key x kk hq12 hk hkey hT
      subst hq12
      refine p4_3 ?_ hj11
      (try clear hj11)
      intro od5 τ u v hq13 hod5 hq14
      subst hq13
      subst hq14
      (try replace F5 : Fr _ L' _ _ := F5); (try replace N5 : News _ L' _ _ := N5)
      (try (refine (let mm : Str → Option Value := _; have Fx : Fr _ L' _ mm := F5; ?_); clear F5; rename Fr _ _ _ _ => F5))
      (try refine opg fun gG hgG => ?_); (obtain ⟨q, hq, rfl, rfl⟩ := kvs_get hk); (try (refine hgG ?_; clear hgG gG))
      (try refine opg fun gG hgG => ?_); (obtain ⟨tq, rfl⟩ := Value.isInt_shape hkey); (try (refine hgG ?_; clear hgG gG))
      have hlen := addTab_length t1 (t2.take i)
      rw [List.length_take] at hlen
      have hkeys := addTab_keys hn1 (t2.take i)
      (try clear F1); (try clear N1); (try clear F2); (try clear N2)
      repeat ((fail_if_success (with_reducible show wpAny _ _ (compareOp _ _ _) _ _ _)); (first | (k_unfold; (try dsimp only)) | ((try dsimp only); walk1) | (leave1; (try dsimp only))))
      rename Fr _ _ _ _ => F6
      rename News _ _ _ _ => N6
      refine in_dict (dictOf_led N6 (.tail _ (.head _)) hod5) hdlo hkey ?_
      rw [valueAt_kvs]
      cases hf : (addTab t1 (t2.take i)).find? fun r => r.1 == q.1 with
      | none =>
        dsimp only [Option.map_none, Option.isSome_none]
        repeat ((fail_if_success (with_reducible show wpAny _ _ (setItem _ _ _) _ _ _)); (first | (k_unfold; (try dsimp only)) | ((try dsimp only); walk1) | (leave1; (try dsimp only))))
        refine setItem_led (led := [(I, oI)]) F6 (news_sub N6 (by first | walk_at "mine sub" | simp)) (by simpa using fun e => hn (d, od5) (.head _) e.symm) hod5 hkey (by rw [kvsOf_length, sizeLine_eq]; walk_at "mine omega") fun h7 od7 hod7 F7 N7 => ?_
        rw [putTab_new hf, ← addTab_succ t1 hq] at hod7
        dsimp only
        walk_at "mine steps"
        refine hQt _ _ ?_
        exact TurnEnd.next F7 (news_sub N7 (by first | walk_at "mine sub" | simp)) (news_sub (l' := [(d, od7)]) N7 (by first | walk_at "mine sub" | simp)) (by simpa using hn (d, od5) (.head _)) ⟨od7, _, _, _, rfl, hod7, by (first | (refine map2 (Str.ofString "caller") (Str.ofString "func") rfl rfl ?_; intro y h0 h1; ((repeat (first | with_reducible rfl | refine Eq.trans (if_neg (by assumption)) ?_ | refine Eq.trans ?_ (if_neg (by assumption)).symm)); done)) | (funext y; by_cases h0 : y = Str.ofString "caller"; (subst h0; rfl); by_cases h1 : y = Str.ofString "func"; (subst h1; rfl); simp only [if_neg h0, if_neg h1]))⟩
      | some r =>
        dsimp only [Option.map_some, Option.isSome_some]
        repeat ((fail_if_success (with_reducible show wpAny _ _ (getItem _ _) _ _ _)); (first | (k_unfold; (try dsimp only)) | ((try dsimp only); walk1) | (leave1; (try dsimp only))))
        refine getItem_dict (dictOf_led N6 (.tail _ (.head _)) hod5) hkey (by rw [valueAt_kvs, hf]; rfl) ?_
        dsimp only
        repeat ((fail_if_success (with_reducible show wpAny _ _ (setItem _ _ _) _ _ _)); (first | (k_unfold; (try dsimp only)) | ((try dsimp only); walk1) | (leave1; (try dsimp only))))
        refine setItem_led (led := [(I, oI)]) F6 (news_sub N6 (by first | walk_at "mine sub" | simp)) (by simpa using fun e => hn (d, od5) (.head _) e.symm) hod5 hkey (by rw [kvsOf_length, sizeLine_eq]; walk_at "mine omega") fun h7 od7 hod7 F7 N7 => ?_
        rw [putTab_old hkeys hf, ← addTab_succ t1 hq] at hod7
        dsimp only
        walk_at "mine steps"
        refine hQt _ _ ?_
        exact TurnEnd.next F7 (news_sub N7 (by first | walk_at "mine sub" | simp)) (news_sub (l' := [(d, od7)]) N7 (by first | walk_at "mine sub" | simp)) (by simpa using hn (d, od5) (.head _)) ⟨od7, _, _, _, rfl, hod7, by (first | (refine map2 (Str.ofString "caller") (Str.ofString "func") rfl rfl ?_; intro y h0 h1; ((repeat (first | with_reducible rfl | refine Eq.trans (if_neg (by assumption)) ?_ | refine Eq.trans ?_ (if_neg (by assumption)).symm)); done)) | (funext y; by_cases h0 : y = Str.ofString "caller"; (subst h0; rfl); by_cases h1 : y = Str.ofString "func"; (subst h1; rfl); simp only [if_neg h0, if_neg h1]))⟩
    · rintro h5 tk5 m5 led5 F5 N5 hj15
      refine p4_3 ?_ hj15
      (try clear hj15)
      intro od5 τ u v hq16 hod5 hq17
      subst hq16
      subst hq17
      (try replace F5 : Fr _ L' _ _ := F5); (try replace N5 : News _ L' _ _ := N5)
      (try (refine (let mm : Str → Option Value := _; have Fx : Fr _ L' _ mm := F5; ?_); clear F5; rename Fr _ _ _ _ => F5))
      rw [kvsOf_length, List.take_length] at hod5
      rw [List.nil_append] at N5
      (try clear F1); (try clear N1); (try clear F2); (try clear N2)
      dsimp only
      walk_at "mine steps"
      exact ret _ _ _ F5.keep ⟨d, od5, τ, rfl, hdlo, (N5 _ (.head _)).2.2, (N5 _ (.head _)).1, hod5⟩
end Mine
end
section
theorem Mine.fresh17 : True := by w_top off; trivial
open PySem PySem.W PyProof.Rows PySem.Calls
set_option maxRecDepth 100000
set_option maxHeartbeats 8000000
namespace Mine
noncomputable def primesI : List Int := [2, 3, 5, 7, 11, 13, 17, 19, 23, 29, 31, 37, 41, 43, 47, 53, 59, 61, 67, 71, 73, 79, 83, 89, 97, 101, 103, 107, 109, 113, 127]
theorem spec_primes {w : World} {p : Program} {loose : List Str} {mean : ExcName → Option Value} {mg mb : Str → Option Value} :
    Spec w p loose mean mg mb 142 1 8 [] (fun _ => True)
      (fun h h' r => ∃ a vs, r = .ref a ∧ h.get? a = none ∧ h'.get? a = some (W.listOf vs.toArray 0) ∧ IntsAre vs primesI) := by
  intro dp un gd cn cs ea ccd cl outer A₀ base h₀ L m s R B F X T hk hpre hdp hu ret
  revert X T; k_fill; intro X T
  refine' code_pure (binds := []) ?k1 ?k2 ?k3 ?k5 ?kA ?kF ?kK ?k6 ?k7 ?k8 ?k9 ?kB ?_ ?c2 ?c3 ?c4 ?c5
  case kA => exact rfl
  case kF => exact rfl
  case kK => assumption
  case k2 => k_asm
  case k1 => k_asm
  case k3 => k_asm
  case k5 => k_asm
  case k6 => k_dflt k_is
  case k7 => k_dflt k_is
  case k8 => ktr_room
  case k9 => exact BindsTo.of_eq rfl
  case c5 => decide
  case kB => exact locs rfl
  case c2 => exact rfl
  case c3 => exact rfl
  case c4 => exact rfl
  intro L' h' F' N' B' X' T'
  skip
  clear B F X T
  replace F' := Fr.as F' (m' := fun y => none) (by first | exact look_rev _ rfl | (funext y; first | rfl | ((try simp only [List.reverse_cons, List.reverse_nil, List.nil_append, List.cons_append, List.lookup]); (repeat' split) <;> first | rfl | (simp_all; done) | (subst_vars; simp_all; done) | (simp_all (decide := true); done))))
  (try dsimp only)
  (try k_fold)
  generalize s.gens = gs0 at ret ⊢
  generalize s.drawn = ds0 at ret ⊢
  generalize s.os = os0 at ret ⊢
  (try generalize s.toks + _ = tk0)
  refine (let AE : Env := _; let AA : Around := Around.deeper _ AE; let QQ : Flow → Shared → Prop := _; (?kL : wpAny _ AA (execs _ AE) QQ _ _))
  walk_at "mine steps"
  rename Fr _ _ _ _ => F1
  rename News _ _ _ _ => N1
  refine ret _ _ _ F1.keep ⟨_, _, rfl, (N1 _ (.head _)).2.2, (N1 _ (.head _)).1, ?_⟩
  unfold primesI
  repeat' constructor
end Mine
end
section
theorem Mine.fresh18 : True := by w_top off; trivial
open PySem PySem.W PyProof.Rows PySem.Calls
set_option maxRecDepth 100000
set_option maxHeartbeats 8000000
namespace Mine
section
variable {prog : Program} {w : World} {A : Around} {E : Value → Shared → Prop} {s : Shared} {h₀ : Heap} {L : Addr} {m : Str → Option Value} {led : List (Addr × Obj)}
theorem sliceApplied_two {sl : Addr} {u : Tok} {Q : Int × Int × Nat → Shared → Prop} (hs : s.heap.IsSliceOf sl .none (.int 2 u) .none) (h : Q (0, 1, 2) s) :
    wpAny (model prog w) A (Builtin.Slice.sliceApplied (.ref sl) (pure (3 : Int))) Q E s := by
  (try refine opg fun gG hgG => ?_); (obtain ⟨os, hos, hcs, hds⟩ := id hs); (try (refine hgG ?_; clear hgG gG))
  unfold Builtin.Slice.sliceApplied Builtin.Slice.sliceFields
  refine wpAny_bind (wpAny_bind (wpAny_field hos hds (x := .none) rfl (wpAny_bind (wpAny_field hos hds (x := .int 2 u) rfl (wpAny_bind (wpAny_field hos hds (x := .none) rfl (wpAny_pure ?_)))))))
  refine wpAny_bind (slicePart_none ?_)
  show wpAny _ _ (if ((1 : Int) == 0) = true then _ else _) _ _ s
  rw [if_neg (by decide)]
  refine wpAny_bind (slicePart_none (wpAny_bind (slicePart_int (wpAny_bind (wpAny_pure ?_)))))
  exact wpAny_pure h
theorem getItem_two {t sl : Addr} {a b c : Value} {u : Tok} {Q : Value → Shared → Prop} (ht : IsTup s.heap t #[a, b, c]) (hs : s.heap.IsSliceOf sl .none (.int 2 u) .none)
    (h : Q (.ref s.heap.objs.size) { s with heap := s.heap.push { cls := .type "tuple", data := .seq #[a, b] } }) : wpAny (model prog w) A (getItem (.ref t) (.ref sl)) Q E s := by
  (try refine opg fun gG hgG => ?_); (obtain ⟨os, hos, hcs, hds⟩ := id hs); (try (refine hgG ?_; clear hgG gG))
  have hTs : s.TypeIs (.ref sl) "slice" := ⟨os, hos, hcs⟩
  have hsz : sizeOk (.seq #[a, b]) := by show 2 ≤ sizeLine; rw [sizeLine_eq]; walk_at "mine omega"
  unfold getItem
  try with_reducible refine wpAny_holding ?_
  first | refine wpAny_bind (wpAny_pure ?_) | skip
  refine wpAny_bind (wpAny_sequenceKey ht.typeIs (by decide) ?_)
  refine wpAny_bind (wpAny_callSpecial?_slot (name := Str.ofString "__getitem__") ht.typeIs slot_tuple_getitem
    (wpAny_call_entry slot_tuple_getitem ht.typeIs entry_tuple_getitem ?_ (args_tuple_getitem _ _)))
  show wpAny _ _ (Builtin.Tuple.tupleItemsOf (.ref t) >>= _) _ _ s
  refine wpAny_bind (tupleItemsOf_ ht ?_)
  refine wpAny_bind (wpAny_typeOf hTs ?_)
  rw [if_pos (by decide)]
  refine wpAny_bind (sliceApplied_two hs ?_)
  show wpAny _ _ (if ((0 : Int) == 0 && (1 : Int) == 1 && (2 : Nat) == 3) = true then _ else _) _ _ s
  rw [if_neg (by decide)]
  first
    | exact wpAny_bind (m := Builtin.Tuple.tupleExact _) (wpAny_newObj_type (wpAny_pure ⟨_, rfl, wpAny_pure h⟩) hsz)
    | exact wpAny_bind (m := Builtin.Tuple.tupleExact _) (wpAny_newObj_type (wpAny_bind (wpAny_pure (wpAny_pure ⟨_, rfl, wpAny_pure h⟩))) hsz)
    | exact wpAny_bind (wpAny_bind (m := Builtin.Tuple.tupleExact _) (wpAny_newObj_type (wpAny_pure (wpAny_pure ⟨_, rfl, wpAny_pure h⟩)) hsz))
    | exact wpAny_bind (wpAny_bind (m := Builtin.Tuple.tupleExact _) (wpAny_newObj_type (wpAny_pure ⟨_, rfl, wpAny_pure h⟩) hsz))
theorem slice_two {value slice : Expr} {t : Addr} {a b c : Value} {u : Tok} {Q : Value → Shared → Prop}
    (F : Fr h₀ L s.heap m) (N : News h₀ L s.heap led) (ht : IsTup s.heap t #[a, b, c])
    (h : ∀ T h', Fr h₀ L h' m → News h₀ L h' ((T, { cls := .type "tuple", data := .seq #[a, b] }) :: led) → Q (.ref T) { s with heap := h' })
    (hs : subscripted slice false (.ref t) (.ref s.heap.objs.size) = operate [.ref s.heap.objs.size, .ref t] (getItem (.ref t) (.ref s.heap.objs.size)) := by with_unfolding_all rfl)
    (hg : ∀ r, letTemporaryGo value (.ref t) r = pure () := by intro _; with_unfolding_all rfl) :
    wpAny (model prog w) A (subscriptTail value slice (.ref t) (.ref s.heap.objs.size)) Q E { s with heap := s.heap.push { cls := .type "slice", data := .fields #[.none, .int 2 u, .none] } } := by
  have ht' : IsTup (s.heap.push { cls := .type "slice", data := .fields #[.none, .int 2 u, .none] }) t #[a, b, c] := ht.keeps fun _ _ e => Heap.get?_push_of_some _ e
  refine subscriptTail_ops (s := { s with heap := s.heap.push { cls := .type "slice", data := .fields #[.none, .int 2 u, .none] } }) ht'.typeIs slot_tuple_getitem.lookup
    (getItem_two ht' (Heap.IsSliceOf.new ..) ?_) hs hg
  have N1 := News.push (F.push { cls := .type "slice", data := .fields #[.none, .int 2 u, .none] }) (pushN N { cls := .type "slice", data := .fields #[.none, .int 2 u, .none] }) { cls := .type "tuple", data := .seq #[a, b] }
  exact h _ _ ((F.push _).push _) N1
theorem eq_pair {a b : Addr} {x y : Str} {i j : Int} {t1 t2 t3 t4 : Tok} {Q : Value → Shared → Prop} (ha : IsTup s.heap a #[.str x t1, .int i t2]) (hb : IsTup s.heap b #[.str y t3, .int j t4]) (hx : PyData.strOk x = true) (hy : PyData.strOk y = true) (hu : A.units + 64 < cLine)
    (h : Q (.bool (x == y && i == j)) s) : wpAny (model prog w) A (compareOp .Eq (.ref a) (.ref b)) Q E s := by
  (try refine opg fun gG hgG => ?_); (obtain ⟨oa, ha1, ha2, na, ha3⟩ := ha); (try (refine hgG ?_; clear hgG gG))
  (try refine opg fun gG hgG => ?_); (obtain ⟨ob, hb1, hb2, nb, hb3⟩ := hb); (try (refine hgG ?_; clear hgG gG))
  refine eq_dataH (Reads.tuple ha1 ha2 ha3 (ReadsAll.cons (.str x t1) (.cons (.int i t2) .nil))) (Reads.tuple hb1 hb2 hb3 (ReadsAll.cons (.str y t3) (.cons (.int j t4) .nil))) ?_ ?_ hu ?_
  · simp [SeqAt.shaped, PyData.canLay0, PyData.canLayAll0, PyData.depth, PyData.depthAll, hx]
  · simp [SeqAt.shaped, PyData.canLay0, PyData.canLayAll0, PyData.depth, PyData.depthAll, hy]
  · simpa [PyData.eqv, PyData.eqvAll] using h
end
theorem hdN {c : Nat} (hc : c < 1000) : (c : Int).natAbs.log2 < 1920 := Nat.lt_of_le_of_lt (Nat.log2_le_self c) (Nat.lt_trans hc (by decide))
theorem mod3 {prog : Program} {w : World} {A : Around} {E : Value → Shared → Prop} {s : Shared} {a : Addr} {x y : Str} {c : Nat} {t t1 t2 t3 : Tok} {Q : Value → Shared → Prop} (hx : x.length ≤ 5) (hy : y.length ≤ 5) (hc : c < 1000)
    (ha : s.heap.get? a = some { cls := .type "tuple", data := .seq #[.str x t1, .int (c : Int) t2, .str y t3] 0 })
    (h : ∀ t' k, Q (.str (x ++ Str.ofString ":" ++ Str.ofString (toString (c : Int)) ++ Str.ofString "(" ++ y ++ Str.ofString ")") t') { s with toks := k }) :
    wpAny (model prog w) A (binaryOp .Mod (.str (Str.ofString "%s:%d(%s)") t) (.ref a)) Q E s := by
  have NF : News ({} : Heap) (a + 1) s.heap [(a, { cls := .type "tuple", data := .seq #[.str x t1, .int (c : Int) t2, .str y t3] 0 })] := by
    intro p hp; rw [List.mem_singleton.mp hp]; exact ⟨ha, Nat.ne_of_lt (Nat.lt_succ_self a), rfl⟩
  k_dflt (refine' KPt.mod_tuple NF (.head _) ?kptF ?kptm ?_)
  case kptF => kpt_eq
  case kptm =>
    apply KPt.meets_tup
    intro _ _ _ _ _ _ kptH _
    (try refine opg fun gG hgG => ?_); (obtain ⟨kptO, kptG, kptC, kptN, kptD⟩ := kptH); (try (refine hgG ?_; clear hgG gG))
    rw [KPt.entry_is_r]
    unfold Builtin.Str.percentFormat
    refine wpAny_bind (wpAny_isInstance (T := "tuple") ⟨kptO, kptG, kptC⟩ KPt.sub_tt ?_)
    refine wpAny_bind (KPt.asStr_ref kptG kptD ?_)
    refine wpAny_bind (KPt.fills_ref ⟨kptO, kptG, kptC⟩ ?_)
    intro _
    kpc_if
    refine wpAny_bind (wpAny_seqItems kptG kptD ?_)
    refine wpAny_bind (wpAny_pure ?_)
    refine wpAny_bind ?_
    rw [KPc.range_list]
    refine KPc.start ?_
    intro _ _
    refine KPc.turn ?_; kpc_check; (repeat kpc_if); refine wpAny_pure ?_; refine KPc.after_str0 (by kpc_g) (Nat.le_trans hx (by decide : 5 ≤ 100000)) (by kpc_obj) ?_; intro _ _
    refine KPc.turn ?_; kpc_check; (repeat kpc_if); refine wpAny_pure ?_; refine KPc.after_add (by kpc_g) (by kpc_text) (by kpc_obj) ?_; intro _ _
    refine KPc.turn ?_; kpc_check; (repeat kpc_if); refine wpAny_bind ?_; refine wpAny_holding ?_; (repeat kpc_if)
    refine wpAny_bind (wpAny_of_eq (a := _) rfl ?_); (repeat kpc_if)
    refine wpAny_bind (wpAny_mkInt ?_)
    refine wpAny_bind (call_gives F.slot_int_repr (typeIs_int _ _ _) F.entry_int_repr (F.args_int_repr_1 _) (gives_int_repr _ _ (KPt.hd2 (hdN hc))) ⟨int_text_fits (KPt.hd2 (hdN hc)), ?_⟩)
    with_reducible refine wpAny_bind ?_
    with_reducible refine wpAny_of_eq (a := some ?b0) ?e1 ?_
    case e1 => rfl
    refine wpAny_pure ?_
    refine wpAny_pure ?_
    with_reducible show wpAny _ _ (forIn _ (_, PySem.Builtin.Str.Writer.add _ _ _, _) _) _ _ _
    with_reducible refine KPc.after_int (by kpc_g) ?q1 ?q2 ?q3 ?q4 ?q5 ?q6 ?q7 ?q8
    case q1 => rfl
    case q2 => kpc_kind
    case q3 => rfl
    case q4 => exact Int.natCast_nonneg c
    case q5 => exact Int.lt_trans (Int.ofNat_lt.mpr hc) (by decide)
    case q6 => rfl
    case q7 => kpc_none
    intro _ _
    refine KPc.turn ?_; kpc_check; (repeat kpc_if); refine wpAny_pure ?_; refine KPc.after_add (by kpc_g) (by kpc_text) (by kpc_obj) ?_; intro _ _
    refine KPc.turn ?_; kpc_check; (repeat kpc_if); refine wpAny_pure ?_; refine KPc.after_str (by kpc_g) (Nat.le_trans hy (by decide : 5 ≤ 100000)) (by kpc_obj) ?_; intro _ _
    refine KPc.turn ?_; kpc_check; (repeat kpc_if); refine wpAny_pure ?_; refine KPc.after_add (by kpc_g) (by kpc_text) (by kpc_obj) ?_; intro _ _
    refine KPc.turn ?_; kpc_check; (repeat kpc_if); kpc_close
  exact h
noncomputable def fssS (wh nm : Str) (c : Nat) : Str := if wh == Str.ofString "~" && (c : Int) == 0 then (if nm == Str.ofString "<<tt>" then Str.ofString "{<tt}" else nm) else wh ++ Str.ofString ":" ++ Str.ofString (toString (c : Int)) ++ Str.ofString "(" ++ nm ++ Str.ofString ")"
theorem fss_f {w : World} {p : Program} {loose : List Str} {mean : ExcName → Option Value} {mg mb : Str → Option Value} (a : Addr) (wh nm : Str) (c : Nat) (t1 t2 t3 : Tok) (hwh : wh.length ≤ 5) (hok : PyData.strOk wh = true) (hnm : nm.length ≤ 5) (hc : c < 1000) (hf : (wh == Str.ofString "~" && (c : Int) == 0) = false) :
    Spec w p loose mean mg mb 45 1 80 [.ref a] (fun h => h.get? a = some { cls := .type "tuple", data := .seq #[.str wh t1, .int (c : Int) t2, .str nm t3] 0 })
      (fun h h' r => ∃ t, r = .str (fssS wh nm c) t) := by
  intro dp un gd cn cs ea ccd cl outer A₀ base h₀ L m s R B F X T hk hpre hdp hu ret
  revert X T; k_fill; intro X T
  refine' code_pure (binds := [(Str.ofString "func_name", .ref a)]) ?k1 ?k2 ?k3 ?k5 ?kA ?kF ?kK ?k6 ?k7 ?k8 ?k9 ?kB ?_ ?c2 ?c3 ?c4 ?c5
  case kA => exact rfl
  case kF => exact rfl
  case kK => assumption
  case k2 => k_asm
  case k1 => k_asm
  case k3 => k_asm
  case k5 => k_asm
  case k6 => k_dflt k_is
  case k7 => k_dflt k_is
  case k8 => ktr_room
  case k9 => exact BindsTo.of_eq rfl
  case c5 => decide
  case kB => exact locs rfl
  case c2 => exact rfl
  case c3 => exact rfl
  case c4 => exact rfl
  intro L' h' F' N' B' X' T'
  refine wpAny_mono (Q := fun fl s' => R (.ok (.ret (match fl with | .ret v => v | _ => .none))) s') (E := fun _ _ => False) ?_ (fun _ _ x => x) (fun _ _ x => x.elim)
  clear B F X T
  replace F' := Fr.as F' (m' := fun y => if y = Str.ofString "func_name" then some (.ref a) else none) (by first | exact look_rev _ rfl | (funext y; first | rfl | ((try simp only [List.reverse_cons, List.reverse_nil, List.nil_append, List.cons_append, List.lookup]); (repeat' split) <;> first | rfl | (simp_all; done) | (subst_vars; simp_all; done) | (simp_all (decide := true); done))))
  (try dsimp only)
  (try k_fold)
  generalize s.gens = gs0 at ret ⊢
  generalize s.drawn = ds0 at ret ⊢
  generalize s.os = os0 at ret ⊢
  (try generalize s.toks + _ = tk0)
  refine (let AE : Env := _; let AA : Around := Around.deeper _ AE; let QQ : Flow → Shared → Prop := _; (?kL : wpAny _ AA (execs _ AE) QQ _ _))
  iterate 10 (first | (k_unfold; (try dsimp only)) | walk1 | (dsimp only; walk1) | (leave1; (try dsimp only)))
  refine slice_two F' N' ⟨_, F'.keep _ _ hpre, rfl, 0, rfl⟩ fun T h2 F2 N2 => ?_
  dsimp only
  clear F' N'
  iterate 7 (first | (k_unfold; (try dsimp only)) | walk1 | (dsimp only; walk1) | (leave1; (try dsimp only)))
  rename Fr _ _ _ _ => F1
  rename News _ _ _ _ => N1
  have hA := (N1 _ (.tail _ (.head _))).1
  have hB := (N1 _ (.head _)).1
  refine eq_pair ⟨_, hA, rfl, 0, rfl⟩ ⟨_, hB, rfl, 0, rfl⟩ ?u1 ?u2 ?u3 ?_
  case u1 => exact hok
  case u2 => decide +kernel
  case u3 => show un + 3 + 64 < cLine; walk_at "mine omega"
  rw [hf]
  clear hA hB
  iterate 8 (first | (k_unfold; (try dsimp only)) | walk1 | (dsimp only; walk1) | (leave1; (try dsimp only)))
  refine mod3 hwh hnm hc (F1.keep _ _ hpre) fun tt kk => ?_
  dsimp only
  refine ret _ _ _ F1.keep ⟨tt, ?_⟩
  unfold fssS
  rw [hf, if_neg Bool.false_ne_true]
theorem fss_0 {w : World} {p : Program} {loose : List Str} {mean : ExcName → Option Value} {mg mb : Str → Option Value} (a : Addr) (nm : Str) (t1 t2 t3 : Tok) (hnm : nm = Str.ofString "<<tt>" ∨ nm = Str.ofString "tt" ∨ nm = Str.ofString "<tt" ∨ nm = Str.ofString "tt>") :
    Spec w p loose mean mg mb 45 1 80 [.ref a] (fun h => h.get? a = some { cls := .type "tuple", data := .seq #[.str (Str.ofString "~") t1, .int 0 t2, .str nm t3] 0 })
      (fun h h' r => ∃ t, r = .str (fssS (Str.ofString "~") nm 0) t) := by
  intro dp un gd cn cs ea ccd cl outer A₀ base h₀ L m s R B F X T hk hpre hdp hu ret
  revert X T; k_fill; intro X T
  refine' code_pure (binds := [(Str.ofString "func_name", .ref a)]) ?k1 ?k2 ?k3 ?k5 ?kA ?kF ?kK ?k6 ?k7 ?k8 ?k9 ?kB ?_ ?c2 ?c3 ?c4 ?c5
  case kA => exact rfl
  case kF => exact rfl
  case kK => assumption
  case k2 => k_asm
  case k1 => k_asm
  case k3 => k_asm
  case k5 => k_asm
  case k6 => k_dflt k_is
  case k7 => k_dflt k_is
  case k8 => ktr_room
  case k9 => exact BindsTo.of_eq rfl
  case c5 => decide
  case kB => exact locs rfl
  case c2 => exact rfl
  case c3 => exact rfl
  case c4 => exact rfl
  intro L' h' F' N' B' X' T'
  refine wpAny_mono (Q := fun fl s' => R (.ok (.ret (match fl with | .ret v => v | _ => .none))) s') (E := fun _ _ => False) ?_ (fun _ _ x => x) (fun _ _ x => x.elim)
  clear B F X T
  replace F' := Fr.as F' (m' := fun y => if y = Str.ofString "func_name" then some (.ref a) else none) (by first | exact look_rev _ rfl | (funext y; first | rfl | ((try simp only [List.reverse_cons, List.reverse_nil, List.nil_append, List.cons_append, List.lookup]); (repeat' split) <;> first | rfl | (simp_all; done) | (subst_vars; simp_all; done) | (simp_all (decide := true); done))))
  (try dsimp only)
  (try k_fold)
  generalize s.gens = gs0 at ret ⊢
  generalize s.drawn = ds0 at ret ⊢
  generalize s.os = os0 at ret ⊢
  (try generalize s.toks + _ = tk0)
  refine (let AE : Env := _; let AA : Around := Around.deeper _ AE; let QQ : Flow → Shared → Prop := _; (?kL : wpAny _ AA (execs _ AE) QQ _ _))
  iterate 10 (first | (k_unfold; (try dsimp only)) | walk1 | (dsimp only; walk1) | (leave1; (try dsimp only)))
  refine slice_two F' N' ⟨_, F'.keep _ _ hpre, rfl, 0, rfl⟩ fun T h2 F2 N2 => ?_
  dsimp only
  clear F' N'
  iterate 7 (first | (k_unfold; (try dsimp only)) | walk1 | (dsimp only; walk1) | (leave1; (try dsimp only)))
  rename Fr _ _ _ _ => F1
  rename News _ _ _ _ => N1
  have hA := (N1 _ (.tail _ (.head _))).1
  have hB := (N1 _ (.head _)).1
  refine eq_pair ⟨_, hA, rfl, 0, rfl⟩ ⟨_, hB, rfl, 0, rfl⟩ ?u1 ?u2 ?u3 ?_
  case u1 => decide +kernel
  case u2 => decide +kernel
  case u3 => show un + 3 + 64 < cLine; walk_at "mine omega"
  rw [show (Str.ofString "~" == Str.ofString "~" && (0 : Int) == 0) = true from by decide +kernel]
  clear hA hB
  have hT : IsTup s.heap a #[.str (Str.ofString "~") t1, .int 0 t2, .str nm t3] := ⟨_, hpre, rfl, 0, rfl⟩
  repeat ((fail_if_success (with_reducible show wpAny _ _ (execs (Stmt.If _ _ _ _ :: _) _) _ _ _)); (first | (k_unfold; (try dsimp only)) | ((try dsimp only); walk1) | (leave1; (try dsimp only))))
  rcases hnm with rfl | rfl | rfl | rfl
  all_goals (walk_at "mine steps")
  all_goals (rename Fr _ _ _ _ => F3)
  all_goals (apply ret)
  all_goals (first | exact F3.keep | (refine ⟨_, congrFun (congrArg Value.str ?_) _⟩; decide +kernel))
end Mine
end
section
theorem Mine.fresh19 : True := by w_top off; trivial
open PySem PySem.W PyProof.Rows PySem.Calls
set_option maxRecDepth 100000
set_option maxHeartbeats 8000000
namespace Mine
noncomputable def whereS (look : Nat) : Str := if look % 2 = 0 then Str.ofString "~" else Str.ofString "t"
noncomputable def nameS (look : Nat) : Str := if look / 2 % 4 = 0 then Str.ofString "<<tt>" else if look / 2 % 4 = 1 then Str.ofString "tt" else if look / 2 % 4 = 2 then Str.ofString "<tt" else Str.ofString "tt>"
theorem whereS_eq (look : Nat) : Txt.item (Str.ofString "~t") (Int.fmod (look : Int) 2) = whereS look := by
  rw [show (2 : Int) = ((2 : Nat) : Int) from rfl, fmod_nat]
  unfold whereS
  rcases Nat.mod_two_eq_zero_or_one look with h | h <;> rw [h] <;> decide +kernel
theorem nameS_at {look j : Nat} (h : Int.fmod (Int.fdiv (look : Int) 2) 4 = (j : Int)) : look / 2 % 4 = j := by
  rw [show (2 : Int) = ((2 : Nat) : Int) from rfl, show (4 : Int) = ((4 : Nat) : Int) from rfl, fdiv_nat, fmod_nat] at h
  exact Int.ofNat.inj h
theorem spec_function {w : World} {p : Program} {loose : List Str} {mean : ExcName → Option Value} {mg mb : Str → Option Value} (count look : Nat) (t1 t2 : Tok) (hl1 : look < 8) (hc1 : count < 1000) :
    Spec w p loose mean mg mb 156 1 8 [.int (count : Int) t1, .int (look : Int) t2] (fun _ => True)
      (fun h h' r => ∃ a t3 t4 t5, r = .ref a ∧ h.get? a = none ∧ h'.get? a = some { cls := .type "tuple", data := .seq #[.str (whereS look) t3, .int ((11 * count : Nat) : Int) t4, .str (nameS look) t5] 0 }) := by
  intro dp un gd cn cs ea ccd cl outer A₀ base h₀ L m s R B F X T hk hpre hdp hu ret
  revert X T; k_fill; intro X T
  refine' code_pure (binds := [(Str.ofString "count", .int (count : Int) t1), (Str.ofString "look", .int (look : Int) t2)]) ?k1 ?k2 ?k3 ?k5 ?kA ?kF ?kK ?k6 ?k7 ?k8 ?k9 ?kB ?_ ?c2 ?c3 ?c4 ?c5
  case kA => exact rfl
  case kF => exact rfl
  case kK => assumption
  case k2 => k_asm
  case k1 => k_asm
  case k3 => k_asm
  case k5 => k_asm
  case k6 => k_dflt k_is
  case k7 => k_dflt k_is
  case k8 => ktr_room
  case k9 => exact BindsTo.of_eq rfl
  case c5 => decide
  case kB => exact locs rfl
  case c2 => exact rfl
  case c3 => exact rfl
  case c4 => exact rfl
  intro L' h' F' N' B' X' T'
  refine wpAny_mono (Q := fun fl s' => R (.ok (.ret (match fl with | .ret v => v | _ => .none))) s') (E := fun _ _ => False) ?_ (fun _ _ x => x) (fun _ _ x => x.elim)
  clear B F X T
  replace F' := Fr.as F' (m' := fun y => if y = Str.ofString "count" then some (.int (count : Int) t1) else if y = Str.ofString "look" then some (.int (look : Int) t2) else none) (by first | exact look_rev _ rfl | (funext y; first | rfl | ((try simp only [List.reverse_cons, List.reverse_nil, List.nil_append, List.cons_append, List.lookup]); (repeat' split) <;> first | rfl | (simp_all; done) | (subst_vars; simp_all; done) | (simp_all (decide := true); done))))
  (try dsimp only)
  (try k_fold)
  generalize s.gens = gs0 at ret ⊢
  generalize s.drawn = ds0 at ret ⊢
  generalize s.os = os0 at ret ⊢
  (try generalize s.toks + _ = tk0)
  refine (let AE : Env := _; let AA : Around := Around.deeper _ AE; let QQ : Flow → Shared → Prop := _; (?kL : wpAny _ AA (execs _ AE) QQ _ _))
  walk_at "mine steps"
  all_goals (rename Fr _ _ _ _ => F1)
  all_goals (rename News _ _ _ _ => N1)
  all_goals (rename Int.fmod (Int.fdiv _ _) _ = _ => hj)
  all_goals (rw [whereS_eq] at N1)
  · have hn := nameS_at (j := 0) hj
    have hN := N1 _ (.head _)
    rw [show Str.ofString "<<tt>" = nameS look from by unfold nameS; rw [hn]; rfl] at hN
    exact ret _ _ _ F1.keep ⟨_, _, _, _, rfl, hN.2.2, hN.1⟩
  · have hn := nameS_at (j := 1) hj
    have hN := N1 _ (.head _)
    rw [show Str.ofString "tt" = nameS look from by unfold nameS; rw [hn]; rfl] at hN
    exact ret _ _ _ F1.keep ⟨_, _, _, _, rfl, hN.2.2, hN.1⟩
  · have hn := nameS_at (j := 2) hj
    have hN := N1 _ (.head _)
    rw [show Str.ofString "<tt" = nameS look from by unfold nameS; rw [hn]; rfl] at hN
    exact ret _ _ _ F1.keep ⟨_, _, _, _, rfl, hN.2.2, hN.1⟩
  · have hn := nameS_at (j := 3) hj
    have hN := N1 _ (.head _)
    rw [show Str.ofString "tt>" = nameS look from by unfold nameS; rw [hn]; rfl] at hN
    exact ret _ _ _ F1.keep ⟨_, _, _, _, rfl, hN.2.2, hN.1⟩
end Mine
end
section
theorem Mine.fresh20 : True := by w_top off; trivial
open PySem PySem.W PyProof.Rows PySem.Calls
set_option maxRecDepth 100000
set_option maxHeartbeats 8000000
namespace Mine
noncomputable def primesN : List Nat := [2, 3, 5, 7, 11, 13, 17, 19, 23, 29, 31, 37, 41, 43, 47, 53, 59, 61, 67, 71, 73, 79, 83, 89, 97, 101, 103, 107, 109, 113, 127]
noncomputable def runT : Nat → Nat → Nat → List (Nat × Nat) → Option (List (Nat × Nat))
  | 0, _, _, _ => none
  | f + 1, n, place, tab => if n ≤ 1 then some tab else match primesN[place]? with
    | none => none
    | some p => if n % p = 0 then runT f (n / p) place (addTab tab [(place + 1, 1)]) else runT f n (place + 1) tab
theorem primesI_get {i : Nat} {p : Nat} (h : primesN[i]? = some p) : primesI[i]? = some (p : Int) := by
  have e : primesI = primesN.map Int.ofNat := by decide
  rw [e, List.getElem?_map, h]; rfl
theorem spec_table {w : World} {p : Program} {loose : List Str} {mean : ExcName → Option Value} {mg mb : Str → Option Value} (n : Nat) (t0 : Tok) (T : List (Nat × Nat)) (hn : n < 100000) (hT : runT 200 n 0 [] = some T) :
    Spec w p loose mean mg mb 149 2 100 [.int (n : Int) t0] (fun _ => True)
      (fun h h' r => ∃ d o τ, r = .ref d ∧ (d == sysModules) = false ∧ h.get? d = none ∧ h'.get? d = some o ∧ o.IsDictOf (intKind PP w) (kvsOf τ T)) := by
  intro dp un gd cn cs ea ccd cl outer A₀ base h₀ L m s R B F X T hk hpre hdp hu ret
  revert X T; k_fill; intro X T
  refine' code_pure (binds := [(Str.ofString "number", .int (n : Int) t0)]) ?k1 ?k2 ?k3 ?k5 ?kA ?kF ?kK ?k6 ?k7 ?k8 ?k9 ?kB ?_ ?c2 ?c3 ?c4 ?c5
  case kA => exact rfl
  case kF => exact rfl
  case kK => assumption
  case k2 => k_asm
  case k1 => k_asm
  case k3 => k_asm
  case k5 => k_asm
  case k6 => k_dflt k_is
  case k7 => k_dflt k_is
  case k8 => ktr_room
  case k9 => exact BindsTo.of_eq rfl
  case c5 => decide
  case kB => exact locs rfl
  case c2 => exact rfl
  case c3 => exact rfl
  case c4 => exact rfl
  intro L' h' F' N' B' X' T'
  refine wpAny_mono (Q := fun fl s' => R (.ok (.ret (match fl with | .ret v => v | _ => .none))) s') (E := fun _ _ => False) ?_ (fun _ _ x => x) (fun _ _ x => x.elim)
  clear B F X T
  replace F' := Fr.as F' (m' := fun y => if y = Str.ofString "number" then some (.int (n : Int) t0) else none) (by first | exact look_rev _ rfl | (funext y; first | rfl | ((try simp only [List.reverse_cons, List.reverse_nil, List.nil_append, List.cons_append, List.lookup]); (repeat' split) <;> first | rfl | (simp_all; done) | (subst_vars; simp_all; done) | (simp_all (decide := true); done))))
  (try dsimp only)
  (try k_fold)
  generalize s.gens = gs0 at ret ⊢
  generalize s.drawn = ds0 at ret ⊢
  generalize s.os = os0 at ret ⊢
  (try generalize s.toks + _ = tk0)
  refine (let AE : Env := _; let AA : Around := Around.deeper _ AE; let QQ : Flow → Shared → Prop := _; (?kL : wpAny _ AA (execs _ AE) QQ _ _))
  iterate 5 (first | (k_unfold; (try dsimp only)) | walk1 | (dsimp only; walk1) | (leave1; (try dsimp only)))
  refine Spec.call spec_primes B' F' X' N' T' rfl trivial (by first | exact dlt (a := 1) (b := 1) hdp rfl | (show dp + 1 + 1 < recursionLimit; walk_at "mine omega")) (by first | exact dlt (a := 3) (b := 8) hu rfl | (show un + 3 + 8 < cLine; walk_at "mine omega")) fun r h2 tk2 F2 N2 k2 post => ?_
  refine p2_4 ?_ post
  (try clear post)
  intro lp vs hq1 hlp0 hlp hvs
  subst hq1
  (try clear N2)
  have N2 := (NewCells.one hlp0 hlp).news F'
  dsimp only
  clear F' N'
  iterate 11 (first | (k_unfold; (try dsimp only)) | walk1 | (dsimp only; walk1) | (leave1; (try dsimp only)))
  rename Fr _ _ _ _ => F3
  rename News _ _ _ _ => N3
  rename Obj.IsDictOf (intKind _ _) _ [] => hi1
  have hp2 : ∃ d od, News s.heap L' _ [(d, od), (lp, W.listOf vs.toArray 0)] ∧ Fr s.heap L' _ (fun y => if y = Str.ofString "place" then some (Value.int 0 _) else if y = Str.ofString "table" then some (Value.ref d) else if y = Str.ofString "primes" then some (Value.ref lp) else if y = Str.ofString "number" then some (Value.int (n : Int) t0) else none) ∧ od.IsDictOf (intKind PP w) [] ∧ (d == sysModules) = false := ⟨_, _, N3, F3, hi1, by assumption⟩
  refine p2_4 ?_ hp2
  (try clear hp2)
  intro d od N4 F4 hi4 hdlo
  clear hi1; (try clear F3); (try clear N3)
  refine while_my (fun f m led => ∃ (n place : Nat) (tab : List (Nat × Nat)) (d : Addr) (od : Obj) (τ : Nat → Tok) (t1 t2 : Tok), runT f n place tab = some T ∧ n < 100000 ∧ place + f ≤ 200 ∧ tab.length + f ≤ 200 ∧ (tab.map (·.1)).Nodup ∧ led = [(d, od), (lp, W.listOf vs.toArray 0)] ∧ od.IsDictOf (intKind PP w) (kvsOf τ tab) ∧ (d == sysModules) = false ∧
    m = fun y => if y = Str.ofString "place" then some (Value.int (place : Int) t2) else if y = Str.ofString "table" then some (Value.ref d) else if y = Str.ofString "primes" then some (Value.ref lp) else if y = Str.ofString "number" then some (Value.int (n : Int) t1) else none)
    F4 N4 ⟨n, 0, [], d, od, fun _ => 0, t0, _, hT, hn, by decide, by decide, by simp, rfl, by simpa [kvsOf] using hi4, hdlo, rfl⟩ ?_
  clear hi4 hdlo; (try clear F4); (try clear N4)
  rintro f m5 led5 h5 tk5 F5 N5 hj3 gs ds oss Qt Qd hQt hQd
  refine p8_9 ?_ hj3
  (try clear hj3)
  intro n place tab d od τ t1 t2 hrun hn hpl htl hnd hq4 hod hdlo hq5
  subst hq4
  subst hq5
  (try replace F5 : Fr _ L' _ _ := F5); (try replace N5 : News _ L' _ _ := N5)
  (try (refine (let mm : Str → Option Value := _; have Fx : Fr _ L' _ mm := F5; ?_); clear F5; rename Fr _ _ _ _ => F5))
  cases f with
  | zero => cases hrun
  | succ f =>
  unfold runT at hrun
  by_cases h1 : n ≤ 1
  · rw [if_pos h1] at hrun
    obtain rfl := Option.some.inj hrun
    walk_at "mine steps"
    refine hQd _ _ ?_
    walk_at "mine steps"
    exact ret _ _ _ F5.keep ⟨d, od, τ, rfl, hdlo, (N5 _ (.head _)).2.2, (N5 _ (.head _)).1, hod⟩
  · rw [if_neg h1] at hrun
    cases hp : primesN[place]? with
    | none => rw [hp] at hrun; cases hrun
    | some q =>
    rw [hp] at hrun
    dsimp only at hrun
    have hq2 : 2 ≤ q ∧ q ≤ 127 := by
      have hm := List.mem_of_getElem? hp
      have : ∀ x ∈ primesN, 2 ≤ x ∧ x ≤ 127 := by decide
      exact this q hm
    (try refine opg fun gG hgG => ?_); (obtain ⟨tq, hvq⟩ := hvs.get place (q : Int) (primesI_get hp)); (try (refine hgG ?_; clear hgG gG))
    repeat ((fail_if_success (with_reducible show wpAny _ _ (subscriptTail _ _ _ _) _ _ _)); (first | (k_unfold; (try dsimp only)) | ((try dsimp only); walk1) | (leave1; (try dsimp only))))
    refine item_list (list_led N5 (.tail _ (.head _))) (by walk_at "mine omega") hvq ?_
    repeat ((fail_if_success (with_reducible show wpAny _ _ (execs _ _) _ _ _)); (first | (k_unfold; (try dsimp only)) | ((try dsimp only); walk1) | (leave1; (try dsimp only))))
    iterate 1 (first | (k_unfold; (try dsimp only)) | walk1 | (dsimp only; walk1) | (leave1; (try dsimp only)))
    repeat ((fail_if_success (with_reducible show wpAny _ _ (execs _ _) _ _ _)); (first | (k_unfold; (try dsimp only)) | ((try dsimp only); walk1) | (leave1; (try dsimp only))))
    rotate_left
    · rename Int.fmod _ _ ≠ 0 => hne
      rw [fmod_nat] at hne
      have hz : ¬ n % q = 0 := by walk_at "mine omega"
      rw [if_neg hz] at hrun
      walk_at "mine steps"
      rename Fr _ _ _ _ => F6
      rename News _ _ _ _ => N6
      rw [show ((place : Int) + 1) = ((place + 1 : Nat) : Int) from rfl] at F6
      refine hQt _ _ ?_
      exact WhEnd.next F6 N6 (Nat.lt_succ_self f) ⟨n, place + 1, tab, d, od, τ, _, _, hrun, hn, by walk_at "mine omega", by walk_at "mine omega", hnd, rfl, hod, hdlo, by (first | (refine map4 (Str.ofString "place") (Str.ofString "table") (Str.ofString "primes") (Str.ofString "number") rfl rfl rfl rfl ?_; intro y h0 h1 h2 h3; ((repeat (first | with_reducible rfl | refine Eq.trans (if_neg (by assumption)) ?_ | refine Eq.trans ?_ (if_neg (by assumption)).symm)); done)) | (funext y; by_cases h0 : y = Str.ofString "place"; (subst h0; rfl); by_cases h1 : y = Str.ofString "table"; (subst h1; rfl); by_cases h2 : y = Str.ofString "primes"; (subst h2; rfl); by_cases h3 : y = Str.ofString "number"; (subst h3; rfl); simp only [if_neg h0, if_neg h1, if_neg h2, if_neg h3]))⟩
    · rename Int.fmod _ _ = 0 => heq
      rw [fmod_nat] at heq
      have hz : n % q = 0 := by walk_at "mine omega"
      rw [if_pos hz] at hrun
      repeat ((fail_if_success (with_reducible show wpAny _ _ (subscriptTail _ _ _ _) _ _ _)); (first | (k_unfold; (try dsimp only)) | ((try dsimp only); walk1) | (leave1; (try dsimp only))))
      refine item_list (list_led N5 (.tail _ (.head _))) (by walk_at "mine omega") hvq ?_
      refine ifloordiv_int (by walk_at "mine omega") ?_ (Or.inl (PyProof.noPylong_small (by rw [Int.natAbs_natCast]; walk_at "mine omega")))
      rw [fdiv_nat]
      repeat ((fail_if_success (with_reducible show wpAny _ _ (eval (PySem.Expr.Dict _ _ _) _) _ _ _)); (first | (k_unfold; (try dsimp only)) | ((try dsimp only); walk1) | (leave1; (try dsimp only))))
      rename Fr _ _ _ _ => F6
      rename News _ _ _ _ => N6
      refine kdn_eval (knd := intKind PP w) F6 N6 T'.nolimit rfl rfl (by first | walk_at "mine sub" | simp) (by decide) fun d2 h7 o7 F7 N7 l7 hdlo2 hi7 => ?_
      refine evalPairs_cons ?_
      (try clear F6); (try clear N6)
      walk_at "mine steps"
      refine wpAny_bind ?_
      walk_at "mine steps"
      refine wpAny_bind (wpAny_standAt (wpAny_pure ?_))
      refine evalPairs_nil ?_
      refine kdn_made_int F7 N7 (.head fun p hp => Nat.ne_of_lt (l7 p hp)) hi7 rfl (by simp [intKeyPairs]) fun h8 o8 F8 N8 hi8 => ?_
      dsimp only
      (try refine opg fun gG hgG => ?_); (obtain ⟨tt, hi8⟩ : ∃ tt, o8.IsDictOf (intKind PP w) (kvsOf (fun _ => tt) [(place + 1, 1)]) := ⟨_, hi8⟩); (try (refine hgG ?_; clear hgG gG))
      (try clear F7); (try clear N7)
      repeat ((fail_if_success (with_reducible show wpAny _ _ (PySem.call (Value.ref 52) _ _) _ _ _)); (first | (k_unfold; (try dsimp only)) | ((try dsimp only); walk1) | (leave1; (try dsimp only))))
      refine Spec.call (spec_add d d2 τ (fun _ => tt) tab [(place + 1, 1)] hdlo hdlo2 (by walk_at "mine omega") (by first | walk_at "mine sub" | simp) hnd) B' F8 X' N8 T' rfl ⟨dictOf_led N8 (.tail _ (.head _)) hod, dictOf_led N8 (.head _) hi8⟩ (by first | exact dlt (a := 1) (b := 1) hdp rfl | (show dp + 1 + 1 < recursionLimit; walk_at "mine omega")) (by first | exact dlt (a := 3) (b := 8) hu rfl | (show un + 3 + 8 < cLine; walk_at "mine omega")) fun r h9 tk9 F9 N9 k9 post => ?_
      refine p3_5 ?_ post
      (try clear post)
      intro d3 o3 τ3 hq6 hdlo3 h30 h31 hi3
      subst hq6
      have N10 := (NewCells.one h30 h31).news F8
      have hkeys := addTab_keys hnd [(place + 1, 1)]
      have hlen := addTab_length tab [(place + 1, 1)]
      simp only [List.length_cons, List.length_nil] at hlen
      have N11 := news_app N10 (news_sub (l' := [(lp, W.listOf vs.toArray 0)]) N9 (by first | walk_at "mine sub" | simp))
      (try clear F8); (try clear N8); (try clear N9); (try clear N10)
      dsimp only
      walk_at "mine steps"
      rename Fr _ _ _ _ => F12
      rename News _ _ _ _ => N12
      refine hQt _ _ ?_
      exact WhEnd.next F12 N12 (Nat.lt_succ_self f) ⟨n / q, place, _, d3, o3, τ3, _, _, hrun, by have := Nat.div_le_self n q; walk_at "mine omega", by walk_at "mine omega", by walk_at "mine omega", hkeys, rfl, hi3, hdlo3, by (first | (refine map4 (Str.ofString "place") (Str.ofString "table") (Str.ofString "primes") (Str.ofString "number") rfl rfl rfl rfl ?_; intro y h0 h1 h2 h3; ((repeat (first | with_reducible rfl | refine Eq.trans (if_neg (by assumption)) ?_ | refine Eq.trans ?_ (if_neg (by assumption)).symm)); done)) | (funext y; by_cases h0 : y = Str.ofString "place"; (subst h0; rfl); by_cases h1 : y = Str.ofString "table"; (subst h1; rfl); by_cases h2 : y = Str.ofString "primes"; (subst h2; rfl); by_cases h3 : y = Str.ofString "number"; (subst h3; rfl); simp only [if_neg h0, if_neg h1, if_neg h2, if_neg h3]))⟩
end Mine
end
section
theorem Mine.fresh21 : True := by w_top off; trivial
open PySem PySem.W PyProof.Rows PySem.Calls
set_option maxRecDepth 100000
set_option maxHeartbeats 8000000
namespace Mine
noncomputable abbrev entD (w : World) (t1 t2 t3 t4 : Tok) (lu lr : Addr) (dv : Value) : List DictEntry :=
  [⟨PyData.keyHash w.params (Str.ofString "useragents"), .str (Str.ofString "useragents") t1, .ref lu⟩, ⟨PyData.keyHash w.params (Str.ofString "rulelines"), .str (Str.ofString "rulelines") t2, .ref lr⟩,
   ⟨PyData.keyHash w.params (Str.ofString "delay"), .str (Str.ofString "delay") t3, dv⟩, ⟨PyData.keyHash w.params (Str.ofString "req_rate"), .str (Str.ofString "req_rate") t4, .none⟩]
theorem entry_new {w : World} {p : Program} {loose : List Str} {mean : ExcName → Option Value} {mg mb : Str → Option Value}
    {dp un : Nat} {gd : Option (List Code)} {cn : Str} {cs : Scope} {ea : Addr} {ccd : Value} {cl : List (Str × Addr)} {outer : List Env} {A₀ : Around} {base h₀ : Heap} {L : Addr} {m : Str → Option Value} {led : List (Addr × Obj)} {s : Shared} {Q E : Value → Shared → Prop}
    (B : Below A₀ base outer h₀) (F : Fr h₀ L s.heap m) (X : (hd.heap_1 w.params).In h₀) (N : News h₀ L s.heap led) (T : Top p loose mean mg mb h₀) (hk : cs.kind = .function) (hdp : dp + 5 < recursionLimit) (hu : un + 50 < cLine)
    (ret : ∀ x dx lu lr t1 t2 t3 t4 h' tk', Fr h₀ L h' m → News h₀ L h' ((lr, W.listOf #[] 0) :: (lu, W.listOf #[] 0) :: (x, instObj 110 dx) :: (dx, dictOf (entD w t1 t2 t3 t4 lu lr .none) 4) :: led) → (∀ p ∈ led, p.1 < dx) →
      @LT.lt Nat _ dx x → @LT.lt Nat _ x lu → @LT.lt Nat _ lu lr → Q (.ref x) { s with heap := h', toks := tk' }) :
    wpAny (model PySem.Challenge.rw_jc0012_01.row.prog w) (ktrTop dp un gd cn cs L ea ccd cl outer) (PySem.call (.ref 110) []) Q E s := by
  revert X N T; k_fill; intro X N T
  refine call_cls (fI := 86) F X N ?hm ?hi ?hf ?_
  case hm => k_dflt k_is
  case hi => k_dflt k_is
  case hf => k_dflt k_is
  intro x dx h2 F2 N2 l1 l2
  replace l2 := ltN l2
  k_dflt ktr_enter
  clear F N; (try clear F2); (try clear N2)
  walk_at "mine steps"
  rename Fr h₀ _ _ _ => F9
  rename News h₀ _ _ _ => N9
  rename _ ∧ _ ∧ _ ∧ AllLt _ _ => hl
  rename _ ∧ _ ∧ AllLt _ _ => hl'
  exact ret _ _ _ _ _ _ _ _ _ _ F9 N9 l1 l2 hl'.1 hl.1
end Mine
end
section
theorem Mine.fresh22 : True := by w_top off; trivial
open PySem PySem.W PyProof.Rows PySem.Calls
set_option maxRecDepth 100000
set_option maxHeartbeats 8000000
namespace Mine
inductive NatL : List Value → List Nat → Prop
  | nil : NatL [] []
  | cons (x : Nat) (t : Tok) {vs : List Value} {xs : List Nat} : NatL vs xs → NatL (.int (x : Int) t :: vs) (x :: xs)
theorem NatL.length {vs : List Value} {xs : List Nat} (h : NatL vs xs) : vs.length = xs.length := by
  induction h with
  | nil => rfl
  | cons x t h ih => rw [List.length_cons, List.length_cons, ih]
theorem NatL.snoc {vs : List Value} {xs : List Nat} (h : NatL vs xs) (x : Nat) (t : Tok) : NatL (vs ++ [.int (x : Int) t]) (xs ++ [x]) := by
  induction h with
  | nil => exact .cons _ _ .nil
  | cons y u h ih => exact .cons y u ih
theorem NatL.reverse {vs : List Value} {xs : List Nat} (h : NatL vs xs) : NatL vs.reverse xs.reverse := by
  induction h with
  | nil => exact .nil
  | cons y u h ih => rw [List.reverse_cons, List.reverse_cons]; exact ih.snoc _ _
theorem NatL.unsnoc {vs : List Value} {xs : List Nat} {x : Nat} (h : NatL vs (xs ++ [x])) : ∃ us t, vs = us ++ [.int (x : Int) t] ∧ NatL us xs := by
  induction xs generalizing vs with
  | nil => cases h with | cons _ t h => cases h; exact ⟨[], t, rfl, .nil⟩
  | cons y ys ih => cases h with | cons _ t h =>
                    (try refine opg fun gG hgG => ?_); (obtain ⟨us, t', rfl, hu⟩ := ih h); (try (refine hgG ?_; clear hgG gG))
                    exact ⟨_, t', rfl, .cons y t hu⟩
theorem kl_last_snoc (l : List Value) (y : Value) : kl_last (l ++ [y]) = some (l, y) := by
  induction l with
  | nil => rfl
  | cons x xs ih => show kl_last (x :: (xs ++ [y])) = _; unfold kl_last; rw [ih]
theorem append_ledP {prog : Program} {w : World} {A : Around} {E : Value → Shared → Prop} {s : Shared} {h₀ : Heap} {L D : Addr} {m : Str → Option Value} {led : List (Addr × Obj)} {vs : List Value} {n : Nat} {v : Value} {Q : Value → Shared → Prop}
    (F : Fr h₀ L s.heap m) (N : News h₀ L s.heap ((D, W.listOf vs.toArray n) :: led)) (hne : ∀ p ∈ led, p.1 ≠ D) (hsz : vs.length ≤ 1000000)
    (h : ∀ h', Fr h₀ L h' m → News h₀ L h' ((D, W.listOf (vs ++ [v]).toArray (n + 1)) :: led) → Q .none { s with heap := h' }) : wpAny (model prog w) A (PySem.call (.builtin "list.append") [.ref D, v]) Q E s := by
  refine append_K F N (.head hne) (fun h' F' N' => h h' F' ?_) (by rw [List.size_toArray, sizeLine_eq]; walk_at "mine omega")
  simpa using N'
theorem pop_led {prog : Program} {w : World} {A : Around} {E : Value → Shared → Prop} {s : Shared} {h₀ : Heap} {L D : Addr} {m : Str → Option Value} {led : List (Addr × Obj)} {vs : List Value} {n : Nat} {v : Value} {Q : Value → Shared → Prop}
    (F : Fr h₀ L s.heap m) (N : News h₀ L s.heap ((D, W.listOf (vs ++ [v]).toArray n) :: led)) (hne : ∀ p ∈ led, p.1 ≠ D) (hsz : vs.length ≤ 1000000)
    (h : ∀ h', Fr h₀ L h' m → News h₀ L h' ((D, W.listOf vs.toArray (n + 1)) :: led) → Q v { s with heap := h' }) : wpAny (model prog w) A (PySem.call (.builtin "list.pop") [.ref D]) Q E s :=
  kl_pop F N (by rw [List.toList_toArray]; exact kl_last_snoc vs v) (.head hne) (by rw [List.toList_toArray, List.length_append, sizeLine_eq]; simp only [List.length_cons, List.length_nil]; walk_at "mine omega") h
/-- one number of the line: takes c places off the stack (its top ahead) -/
noncomputable def popP : Nat → List Nat → Nat → Option (Nat × List Nat)
  | 0, st, num => some (num, st)
  | _ + 1, [], _ => none
  | c + 1, k :: st, num => if k = 0 then none else match primesN[k - 1]? with
    | none => none
    | some p => if num * p < 1000000 then popP c st (num * p) else none
noncomputable def runP : List Nat → List Nat → Option (List Nat)
  | [], st => some st
  | c :: cs, st => match popP c st 1 with
    | none => none
    | some (num, st') => if st'.length < 1000 then runP cs (num :: st') else none
theorem spec_pile {w : World} {p : Program} {loose : List Str} {mean : ExcName → Option Value} {mg mb : Str → Option Value} (b : Array UInt8) (t0 : Tok) (out : List Nat) (hb : b.size < 1000) (hrun : runP (b.toList.map UInt8.toNat) [] = some out) :
    Spec w p loose mean mg mb 187 2 100 [.bytes b t0] (fun _ => True)
      (fun h h' r => ∃ a vs n, r = .ref a ∧ h.get? a = none ∧ h'.get? a = some (W.listOf vs.toArray n) ∧ NatL vs out) := by
  intro dp un gd cn cs ea ccd cl outer A₀ base h₀ L m s R B F X T hk hpre hdp hu ret
  revert X T; k_fill; intro X T
  refine' code_pure (binds := [(Str.ofString "octets", .bytes b t0)]) ?k1 ?k2 ?k3 ?k5 ?kA ?kF ?kK ?k6 ?k7 ?k8 ?k9 ?kB ?_ ?c2 ?c3 ?c4 ?c5
  case kA => exact rfl
  case kF => exact rfl
  case kK => assumption
  case k2 => k_asm
  case k1 => k_asm
  case k3 => k_asm
  case k5 => k_asm
  case k6 => k_dflt k_is
  case k7 => k_dflt k_is
  case k8 => ktr_room
  case k9 => exact BindsTo.of_eq rfl
  case c5 => decide
  case kB => exact locs rfl
  case c2 => exact rfl
  case c3 => exact rfl
  case c4 => exact rfl
  intro L' h' F' N' B' X' T'
  refine wpAny_mono (Q := fun fl s' => R (.ok (.ret (match fl with | .ret v => v | _ => .none))) s') (E := fun _ _ => False) ?_ (fun _ _ x => x) (fun _ _ x => x.elim)
  clear B F X T
  replace F' := Fr.as F' (m' := fun y => if y = Str.ofString "octets" then some (.bytes b t0) else none) (by first | exact look_rev _ rfl | (funext y; first | rfl | ((try simp only [List.reverse_cons, List.reverse_nil, List.nil_append, List.cons_append, List.lookup]); (repeat' split) <;> first | rfl | (simp_all; done) | (subst_vars; simp_all; done) | (simp_all (decide := true); done))))
  (try dsimp only)
  (try k_fold)
  generalize s.gens = gs0 at ret ⊢
  generalize s.drawn = ds0 at ret ⊢
  generalize s.os = os0 at ret ⊢
  (try generalize s.toks + _ = tk0)
  refine (let AE : Env := _; let AA : Around := Around.deeper _ AE; let QQ : Flow → Shared → Prop := _; (?kL : wpAny _ AA (execs _ AE) QQ _ _))
  iterate 5 (first | (k_unfold; (try dsimp only)) | walk1 | (dsimp only; walk1) | (leave1; (try dsimp only)))
  refine Spec.call spec_primes B' F' X' N' T' rfl trivial (by first | exact dlt (a := 1) (b := 1) hdp rfl | (show dp + 1 + 1 < recursionLimit; walk_at "mine omega")) (by first | exact dlt (a := 3) (b := 8) hu rfl | (show un + 3 + 8 < cLine; walk_at "mine omega")) fun r h2 tk2 F2 N2 k2 post => ?_
  refine p2_4 ?_ post
  (try clear post)
  intro lp vs hq1 hlp0 hlp hvs
  subst hq1
  (try clear N2)
  have N2 := (NewCells.one hlp0 hlp).news F'
  dsimp only
  clear F' N'
  walk_at "mine steps"
  rename Fr _ _ _ _ => F3
  rename News _ _ _ _ => N3
  (try refine opg fun gG hgG => ?_); (obtain ⟨pl, F4, N4⟩ : ∃ pl, Fr s.heap L' _ (fun y => if y = Str.ofString "pile" then some (Value.ref pl) else if y = Str.ofString "primes" then some (Value.ref lp) else if y = Str.ofString "octets" then some (Value.bytes b t0) else none) ∧ News s.heap L' _ [(pl, W.listOf #[] 0), (lp, W.listOf vs.toArray 0)] := ⟨_, F3, N3⟩); (try (refine hgG ?_; clear hgG gG))
  have hpl : lp ≠ pl := by
    intro e
    have h1 := (N4 _ (.head _)).1
    have h2 := (N4 _ (.tail _ (.head _))).1
    rw [e, h1] at h2
    have h3 := hvs.length
    injection h2 with h2
    injection h2 with _ _ h2
    injection h2 with h2
    have h4 := congrArg Array.size h2
    simp only [List.size_toArray, List.length_nil] at h4
    rw [← h4] at h3
    revert h3; decide
  refine iter_bytes rfl F4 N4 (fun i m led => ∃ (ps : List Value) (st : List Nat) (n : Nat) (u1 u2 u3 : Option Value), led = [(pl, W.listOf ps.toArray n), (lp, W.listOf vs.toArray 0)] ∧ NatL ps st.reverse ∧ runP ((b.toList.map UInt8.toNat).drop i) st = some out ∧ st.length ≤ 1000 ∧
      m = fun y => if y = Str.ofString "turn" then u1 else if y = Str.ofString "number" then u2 else if y = Str.ofString "count" then u3 else if y = Str.ofString "pile" then some (Value.ref pl) else if y = Str.ofString "primes" then some (Value.ref lp) else if y = Str.ofString "octets" then some (Value.bytes b t0) else none)
    ⟨[], [], 0, none, none, none, rfl, .nil, hrun, Nat.zero_le _, by (first | (refine map3 (Str.ofString "turn") (Str.ofString "number") (Str.ofString "count") rfl rfl rfl ?_; intro y h0 h1 h2; ((repeat (first | with_reducible rfl | refine Eq.trans (if_neg (by assumption)) ?_ | refine Eq.trans ?_ (if_neg (by assumption)).symm)); done)) | (funext y; by_cases h0 : y = Str.ofString "turn"; (subst h0; rfl); by_cases h1 : y = Str.ofString "number"; (subst h1; rfl); by_cases h2 : y = Str.ofString "count"; (subst h2; rfl); simp only [if_neg h0, if_neg h1, if_neg h2]))⟩ ?_ ?_
  · rintro i v m₁ led₁ h tk I oI hI hi hj2 hj3 hn' F6 N6 gs ds oss Qt hQt
    (try refine opg fun gG hgG => ?_); (obtain ⟨c, uc, hc, rfl⟩ := hj2); (try (refine hgG ?_; clear hgG gG))
    refine p6_5 ?_ hj3
    (try clear hj3)
    intro ps₀ st₀ n₀ u1 u2 u3 hq4 hps₀ hr hstl₀ hq5
    subst hq4
    subst hq5
    (try replace F6 : Fr _ L' _ _ := F6); (try replace N6 : News _ L' _ _ := N6)
    (try (refine (let mm : Str → Option Value := _; have Fx : Fr _ L' _ mm := F6; ?_); clear F6; rename Fr _ _ _ _ => F6))
    have hcl : (b.toList.map UInt8.toNat)[i]? = some c.toNat := by rw [List.getElem?_map, Array.getElem?_toList, hc]; rfl
    have hcd : (b.toList.map UInt8.toNat).drop i = c.toNat :: (b.toList.map UInt8.toNat).drop (i + 1) := by
      have hlt := (List.getElem?_eq_some_iff.mp hcl).1
      rw [List.drop_eq_getElem_cons hlt, (List.getElem?_eq_some_iff.mp hcl).2]
    rw [hcd] at hr
    unfold runP at hr
    cases hp : popP c.toNat st₀ 1 with
    | none => rw [hp] at hr; cases hr
    | some z =>
    (try refine opg fun gG hgG => ?_); (obtain ⟨numF, stF⟩ := z); (try (refine hgG ?_; clear hgG gG))
    rw [hp] at hr
    dsimp only at hr
    split at hr
    · rename_i hstF
      (try clear F3); (try clear N3); (try clear F4); (try clear N4)
      walk_at "mine steps"
      rename IsRange _ _ _ _ _ _ _ _ => hR
      rename Fr _ _ _ _ => F8
      rename News _ _ _ _ => N8
      have hsm : ∀ k, k < 256 → Builtin.Range.small 0 ((k : Nat) : Int) 1 = true ∧ Builtin.Range.rangeSize 0 ((k : Nat) : Int) 1 = (k : Int) := by decide +kernel
      have hc256 : c.toNat < 256 := c.toNat_lt
      rw [List.nil_append] at N8
      (try refine opg fun gG hgG => ?_); (obtain ⟨tq1, F8⟩ : ∃ tq1, Fr s.heap L' _ (fun y => if y = Str.ofString "number" then some (Value.int ((1 : Nat) : Int) tq1) else if y = Str.ofString "count" then some (Value.int (↑c.toNat) uc) else if y = Str.ofString "turn" then u1 else if y = Str.ofString "number" then u2 else if y = Str.ofString "count" then u3 else if y = Str.ofString "pile" then some (Value.ref pl) else if y = Str.ofString "primes" then some (Value.ref lp) else if y = Str.ofString "octets" then some (Value.bytes b t0) else none) := ⟨_, F8⟩); (try (refine hgG ?_; clear hgG gG))
      refine iter_range rfl hR (hsm _ hc256).1 (hsm _ hc256).2 F8 N8 (fun j m led => ∃ (ps : List Value) (st : List Nat) (n num : Nat) (tn : Tok) (u1 : Option Value), led = [(I, oI), (pl, W.listOf ps.toArray n), (lp, W.listOf vs.toArray 0)] ∧ NatL ps st.reverse ∧ popP (c.toNat - j) st num = some (numF, stF) ∧ num < 1000000 ∧ st.length ≤ 1000 ∧
        m = fun y => if y = Str.ofString "turn" then u1 else if y = Str.ofString "number" then some (Value.int (num : Int) tn) else if y = Str.ofString "count" then some (Value.int (↑c.toNat) uc) else if y = Str.ofString "pile" then some (Value.ref pl) else if y = Str.ofString "primes" then some (Value.ref lp) else if y = Str.ofString "octets" then some (Value.bytes b t0) else none)
        ⟨ps₀, st₀, n₀, 1, tq1, u1, rfl, hps₀, hp, by decide, hstl₀, by (first | (refine map3 (Str.ofString "turn") (Str.ofString "number") (Str.ofString "count") rfl rfl rfl ?_; intro y h0 h1 h2; ((repeat (first | with_reducible rfl | refine Eq.trans (if_neg (by assumption)) ?_ | refine Eq.trans ?_ (if_neg (by assumption)).symm)); done)) | (funext y; by_cases h0 : y = Str.ofString "turn"; (subst h0; rfl); by_cases h1 : y = Str.ofString "number"; (subst h1; rfl); by_cases h2 : y = Str.ofString "count"; (subst h2; rfl); simp only [if_neg h0, if_neg h1, if_neg h2]))⟩ ?_ ?_
      · rintro j v m₁ led₁ h tk I2 oI2 hI2 hj hj6 hj7 hn2 F9 N9 gs ds oss Qt hQt
        (try refine opg fun gG hgG => ?_); (obtain ⟨tv, rfl⟩ := hj6); (try (refine hgG ?_; clear hgG gG))
        refine p6_6 ?_ hj7
        (try clear hj7)
        intro ps st n num tn u1 hq8 hps hpp hnum hstl hq9
        subst hq8
        subst hq9
        (try replace F9 : Fr _ L' _ _ := F9); (try replace N9 : News _ L' _ _ := N9)
        (try (refine (let mm : Str → Option Value := _; have Fx : Fr _ L' _ mm := F9; ?_); clear F9; rename Fr _ _ _ _ => F9))
        obtain ⟨d, hd⟩ : ∃ d, c.toNat - j = d + 1 := ⟨c.toNat - j - 1, by have : j < c.toNat := hj; walk_at "mine omega"⟩
        rw [hd] at hpp
        cases st with
        | nil => unfold popP at hpp; cases hpp
        | cons k st =>
        unfold popP at hpp
        split at hpp
        · cases hpp
        rename_i hk0
        cases hq : primesN[k - 1]? with
        | none => rw [hq] at hpp; cases hpp
        | some q =>
        rw [hq] at hpp
        dsimp only at hpp
        split at hpp
        · rename_i hnq
          rw [List.reverse_cons] at hps
          (try refine opg fun gG hgG => ?_); (obtain ⟨us, tk0, rfl, hus⟩ := hps.unsnoc); (try (refine hgG ?_; clear hgG gG))
          rw [List.nil_append] at N9
          repeat ((fail_if_success (with_reducible show wpAny _ _ (PySem.call (Value.builtin "list.pop") _ _) _ _ _)); (first | (k_unfold; (try dsimp only)) | ((try dsimp only); walk1) | (leave1; (try dsimp only))))
          rename Fr _ _ _ _ => F10
          rename News _ _ _ _ => N10
          have N11 := news_sub (l' := [(pl, W.listOf (us ++ [Value.int (↑k) tk0]).toArray n), (I2, oI2), (I, oI), (lp, W.listOf vs.toArray 0)]) N10 (by first | walk_at "mine sub" | (intro p hp; simp only [List.mem_cons, List.not_mem_nil, or_false] at hp ⊢; rcases hp with e | e | e | e <;> simp [e]))
          have hus1 : us.length ≤ 1000000 := by rw [hus.length, List.length_reverse]; simp only [List.length_cons] at hstl; walk_at "mine omega"
          refine pop_led F10 N11 ?hne1 hus1 fun h12 F12 N12 => ?_
          case hne1 =>
            intro p hp
            simp only [List.mem_cons, List.not_mem_nil, or_false] at hp
            rcases hp with e | e | e <;> rw [e]
            · exact fun z => hn2 (pl, W.listOf (us ++ [Value.int (↑k) tk0]).toArray n) (.tail _ (.head _)) z.symm
            · exact fun z => hn' (pl, W.listOf ps₀.toArray n₀) (.head _) z.symm
            · exact hpl
          dsimp only
          repeat ((fail_if_success (with_reducible show wpAny _ _ (subscriptTail _ _ _ _) _ _ _)); (first | (k_unfold; (try dsimp only)) | ((try dsimp only); walk1) | (leave1; (try dsimp only))))
          rw [show ((k : Int) - 1) = ((k - 1 : Nat) : Int) from by walk_at "mine omega"]
          have hk31 : k - 1 < 31 := (List.getElem?_eq_some_iff.mp hq).1
          (try refine opg fun gG hgG => ?_); (obtain ⟨tqq, hvq⟩ := hvs.get (k - 1) (q : Int) (primesI_get hq)); (try (refine hgG ?_; clear hgG gG))
          refine item_list (vs := vs) ?hlp (by walk_at "mine omega") hvq ?_
          case hlp => exact list_led N12 (.tail _ (.tail _ (.tail _ (.head _))))
          dsimp only
          walk_at "mine steps"
          rename Fr _ _ _ _ => F13
          rename News _ _ _ _ => N13
          rw [show ((num : Int) * (q : Int)) = ((num * q : Nat) : Int) from (Int.natCast_mul num q).symm] at F13
          refine hQt _ _ ?_
          refine TurnEnd.next F13 (news_sub N13 (by first | walk_at "mine sub" | simp)) (news_sub (l' := [(I, oI), (pl, W.listOf us.toArray (n + 1)), (lp, W.listOf vs.toArray 0)]) N13 (by first | walk_at "mine sub" | (intro p hp; simp only [List.mem_cons, List.not_mem_nil, or_false] at hp ⊢; rcases hp with e | e | e <;> simp [e]))) ?hnI ⟨us, st, n + 1, num * q, _, _, rfl, hus, ?hpp, hnq, ?hstl, by (first | (refine map2 (Str.ofString "turn") (Str.ofString "number") rfl rfl ?_; intro y h0 h1; ((repeat (first | with_reducible rfl | refine Eq.trans (if_neg (by assumption)) ?_ | refine Eq.trans ?_ (if_neg (by assumption)).symm)); done)) | (funext y; by_cases h0 : y = Str.ofString "turn"; (subst h0; rfl); by_cases h1 : y = Str.ofString "number"; (subst h1; rfl); simp only [if_neg h0, if_neg h1]))⟩
          case hnI =>
            intro p hp
            simp only [List.mem_cons, List.not_mem_nil, or_false] at hp
            rcases hp with e | e | e <;> rw [e]
            · exact hn2 (I, oI) (.head _)
            · exact hn2 (pl, W.listOf (us ++ [Value.int (↑k) tk0]).toArray n) (.tail _ (.head _))
            · exact hn2 (lp, W.listOf vs.toArray 0) (.tail _ (.tail _ (.head _)))
          case hpp => rw [show c.toNat - (j + 1) = d from by walk_at "mine omega"]; exact hpp
          case hstl => simp only [List.length_cons] at hstl; walk_at "mine omega"
        · cases hpp
      · rintro h5 tk5 m5 led5 F15 N15 hj10
        refine p6_6 ?_ hj10
        (try clear hj10)
        intro ps st n num tn u1 hq11 hps hpp hnum hstl hq12
        subst hq11
        subst hq12
        (try replace F15 : Fr _ L' _ _ := F15); (try replace N15 : News _ L' _ _ := N15)
        (try (refine (let mm : Str → Option Value := _; have Fx : Fr _ L' _ mm := F15; ?_); clear F15; rename Fr _ _ _ _ => F15))
        rw [Nat.sub_self] at hpp
        unfold popP at hpp
        (try refine opg fun gG hgG => ?_); (obtain ⟨rfl, rfl⟩ := Prod.mk.inj (Option.some.inj hpp)); (try (refine hgG ?_; clear hgG gG))
        rw [List.nil_append] at N15
        dsimp only
        repeat ((fail_if_success (with_reducible show wpAny _ _ (PySem.call (Value.builtin "list.append") _ _) _ _ _)); (first | (k_unfold; (try dsimp only)) | ((try dsimp only); walk1) | (leave1; (try dsimp only))))
        rename Fr _ _ _ _ => F16
        rename News _ _ _ _ => N16
        have N17 := news_sub (l' := [(pl, W.listOf ps.toArray n), (I, oI), (lp, W.listOf vs.toArray 0)]) N16 (by first | walk_at "mine sub" | (intro p hp; simp only [List.mem_cons, List.not_mem_nil, or_false] at hp ⊢; rcases hp with e | e | e <;> simp [e]))
        refine append_ledP F16 N17 ?hne2 (by rw [hps.length, List.length_reverse]; walk_at "mine omega") fun h18 F18 N18 => ?_
        case hne2 =>
          intro p hp
          simp only [List.mem_cons, List.not_mem_nil, or_false] at hp
          rcases hp with e | e <;> rw [e]
          · exact fun z => hn' (pl, W.listOf ps₀.toArray n₀) (.head _) z.symm
          · exact hpl
        dsimp only
        walk_at "mine steps"
        refine hQt _ _ ?_
        refine TurnEnd.next F18 (news_sub N18 (by first | walk_at "mine sub" | simp)) (news_sub (l' := [(pl, W.listOf (ps ++ [Value.int (num : Int) tn]).toArray (n + 1)), (lp, W.listOf vs.toArray 0)]) N18 (by first | walk_at "mine sub" | (intro p hp; simp only [List.mem_cons, List.not_mem_nil, or_false] at hp ⊢; rcases hp with e | e <;> simp [e]))) ?hnI2 ⟨_, num :: st, n + 1, _, _, _, rfl, ?hps2, hr, ?hstl2, by (first | (refine map3 (Str.ofString "turn") (Str.ofString "number") (Str.ofString "count") rfl rfl rfl ?_; intro y h0 h1 h2; ((repeat (first | with_reducible rfl | refine Eq.trans (if_neg (by assumption)) ?_ | refine Eq.trans ?_ (if_neg (by assumption)).symm)); done)) | (funext y; by_cases h0 : y = Str.ofString "turn"; (subst h0; rfl); by_cases h1 : y = Str.ofString "number"; (subst h1; rfl); by_cases h2 : y = Str.ofString "count"; (subst h2; rfl); simp only [if_neg h0, if_neg h1, if_neg h2]))⟩
        case hnI2 =>
          intro p hp
          simp only [List.mem_cons, List.not_mem_nil, or_false] at hp
          rcases hp with e | e <;> rw [e]
          · exact hn' (pl, W.listOf ps₀.toArray n₀) (.head _)
          · exact hn' (lp, W.listOf vs.toArray 0) (.tail _ (.head _))
        case hps2 => rw [List.reverse_cons]; exact hps.snoc _ _
        case hstl2 => simp only [List.length_cons]; walk_at "mine omega"
    · cases hr
  · rintro h5 tk5 m5 led5 F15 N15 hj13
    refine p6_5 ?_ hj13
    (try clear hj13)
    intro ps st n u1 u2 u3 hq14 hps hr hstl hq15
    subst hq14
    subst hq15
    (try replace F15 : Fr _ L' _ _ := F15); (try replace N15 : News _ L' _ _ := N15)
    (try (refine (let mm : Str → Option Value := _; have Fx : Fr _ L' _ mm := F15; ?_); clear F15; rename Fr _ _ _ _ => F15))
    rw [List.drop_of_length_le (by first | walk_at "mine sub" | simp)] at hr
    unfold runP at hr
    obtain rfl := Option.some.inj hr
    rw [List.nil_append] at N15
    dsimp only
    walk_at "mine steps"
    rename Fr _ _ _ _ => F20
    rename News _ _ _ _ => N20
    (try refine opg fun gG hgG => ?_); (obtain ⟨D, N20, hgoal⟩ : ∃ D, News s.heap L' _ [(D, revObj pl ((ps.length : Int) - 1)), (pl, W.listOf ps.toArray n), (lp, W.listOf vs.toArray 0)] ∧ D = _ := ⟨_, N20, rfl⟩); (try (refine hgG ?_; clear hgG gG))
    rw [← hgoal]
    have hplD : pl ≠ D := by
      intro e
      have h1 := (N20 _ (.head _)).1
      have h2 := (N20 _ (.tail _ (.head _))).1
      rw [e, h1] at h2
      injection h2 with h2
      injection h2 with h3
      revert h3; decide
    have hps2 := hps.length
    rw [List.length_reverse] at hps2
    have hnD := N20 _ (.head _)
    have hnP := N20 _ (.tail _ (.head _))
    refine list_walkH (T := "list_reverseiterator") (Walks.listRev rfl D pl hplD ps.toArray) ⟨_, hnD.1, rfl⟩ (by decide) (by decide) (fun s' E' Q' st h => hint_rev st.2.1 h) ⟨Nat.zero_le _, ⟨_, hnD.1, rfl, by rw [List.size_toArray]; simp [revObj]⟩, ⟨_, hnP.1, rfl, n, rfl⟩⟩ ?hfp (.head _) (by rw [List.size_toArray]; walk_at "mine omega") fun h' tk us c' hk hD hul hus => ?_
    case hfp =>
      intro b hb
      simp only [List.mem_cons, List.not_mem_nil, or_false] at hb
      rcases hb with e | e <;> rw [e]
      · exact Heap.lt_size hnD.1
      · exact Heap.lt_size hnP.1
    have hlist : us = ps.reverse := by
      apply List.ext_getElem?
      intro j
      rcases Nat.lt_or_ge j us.length with hj | hj
      · have h1 := hus j us[j] (List.getElem?_eq_getElem hj)
        rw [List.getElem?_eq_getElem hj, ← h1, List.getElem?_reverse (by simpa [hul] using hj)]
        simp
      · rw [List.getElem?_eq_none hj, List.getElem?_eq_none (by rw [List.length_reverse]; rw [hul, List.size_toArray] at hj; exact hj)]
    refine ret _ _ _ (fun b o e => hk b o (by
      intro hm
      rw [List.mem_singleton.mp hm, hnD.2.2] at e; cases e) (F20.keep _ _ e)) ⟨_, us, c', rfl, ?_, hD, ?_⟩
    · cases e0 : s.heap.get? _ with
      | none => rfl
      | some o => exact absurd (Heap.lt_size (F20.keep _ _ e0)) (Nat.lt_irrefl _)
    · rw [hlist]
      have := hps.reverse
      rw [List.reverse_reverse] at this
      exact this
end Mine
end
section
theorem Mine.fresh23 : True := by w_top off; trivial
open PySem PySem.W PyProof.Rows PySem.Calls
set_option maxRecDepth 100000
set_option maxHeartbeats 8000000
namespace Mine
theorem spec_cells {w : World} {p : Program} {loose : List Str} {mean : ExcName → Option Value} {mg mb : Str → Option Value} (a : Addr) (vs : List Value) (ns : List Int) (hi : IntsAre vs ns) (hlen : vs.length ≤ 63) :
    Spec w p loose mean mg mb 135 1 50 [.ref a] (fun h => h.IsList a vs.toArray)
      (fun h h' r => ∃ d cs ns3 n, r = .ref d ∧ h.get? d = none ∧ h'.get? d = some (W.listOf (cs : List Value).toArray n) ∧ IntsAre cs ns3 ∧ ns3.length = 3) := by
  intro dp un gd cn cs ea ccd cl outer A₀ base h₀ L m s R B F X T hk hpre hdp hu ret
  have hnl : True → vs.length = ns.length := fun _ => IntsAre.length hi
  revert X T; k_fill; intro X T
  refine' code_pure (binds := [(Str.ofString "script", .ref a)]) ?k1 ?k2 ?k3 ?k5 ?kA ?kF ?kK ?k6 ?k7 ?k8 ?k9 ?kB ?_ ?c2 ?c3 ?c4 ?c5
  case kA => exact rfl
  case kF => exact rfl
  case kK => assumption
  case k2 => k_asm
  case k1 => k_asm
  case k3 => k_asm
  case k5 => k_asm
  case k6 => k_dflt k_is
  case k7 => k_dflt k_is
  case k8 => ktr_room
  case k9 => exact BindsTo.of_eq rfl
  case c5 => decide
  case kB => exact locs rfl
  case c2 => exact rfl
  case c3 => exact rfl
  case c4 => exact rfl
  intro L' h' F' N' B' X' T'
  refine wpAny_mono (Q := fun fl s' => R (.ok (.ret (match fl with | .ret v => v | _ => .none))) s') (E := fun _ _ => False) ?_ (fun _ _ x => x) (fun _ _ x => x.elim)
  clear B F X T
  replace F' := Fr.as F' (m' := fun y => if y = Str.ofString "script" then some (.ref a) else none) (by first | exact look_rev _ rfl | (funext y; first | rfl | ((try simp only [List.reverse_cons, List.reverse_nil, List.nil_append, List.cons_append, List.lookup]); (repeat' split) <;> first | rfl | (simp_all; done) | (subst_vars; simp_all; done) | (simp_all (decide := true); done))))
  (try dsimp only)
  (try k_fold)
  generalize s.gens = gs0 at ret ⊢
  generalize s.drawn = ds0 at ret ⊢
  generalize s.os = os0 at ret ⊢
  (try generalize s.toks + _ = tk0)
  refine (let AE : Env := _; let AA : Around := Around.deeper _ AE; let QQ : Flow → Shared → Prop := _; (?kL : wpAny _ AA (execs _ AE) QQ _ _))
  repeat ((fail_if_success (with_reducible show wpAny _ _ (TurnsAt _ _ _ _ _ _ _ _ _ _ _) _ _ _)); (first | (k_unfold; (try dsimp only)) | ((try dsimp only); walk1) | (leave1; (try dsimp only))))
  repeat ((fail_if_success (with_reducible show wpAny _ _ (PySem.call (Value.builtin "len") _ _) _ _ _)); (first | (k_unfold; (try dsimp only)) | ((try dsimp only); walk1) | (leave1; (try dsimp only))))
  rename Fr _ _ _ _ => F2
  rename News _ _ _ _ => N2
  refine call_len_list (items := vs.toArray) ?hl (by rw [List.size_toArray]; walk_at "mine omega") ?_
  case hl => exact (let ⟨o, e, r⟩ := hpre; ⟨o, F2.keep _ _ e, r⟩)
  rw [List.size_toArray]
  have hp1 : ∃ lc t0 t1 t2, Fr s.heap L' _ (fun y => if y = Str.ofString "cells" then some (Value.ref lc) else if y = Str.ofString "script" then some (Value.ref a) else none) ∧ News s.heap L' _ [(lc, W.listOf #[Value.int 40 t0, Value.int 53 t1, Value.int 8 t2] 0)] := ⟨_, _, _, _, F2, N2⟩
  refine p4_2 ?_ hp1
  (try clear hp1)
  intro lc t0 t1 t2 F3 N3
  (try clear F2); (try clear N2)
  dsimp only
  walk_at "mine steps"
  rename IsRange _ _ _ _ _ _ _ _ => hR
  rename Fr _ _ _ _ => F4
  rename News _ _ _ _ => N4
  have hsm : ∀ k, k < 64 → Builtin.Range.small 0 ((k : Nat) : Int) 1 = true ∧ Builtin.Range.rangeSize 0 ((k : Nat) : Int) 1 = (k : Int) := by decide +kernel
  refine iter_range rfl hR (hsm _ (by walk_at "mine omega")).1 (hsm _ (by walk_at "mine omega")).2 F4 N4 (fun j m led => ∃ (cs : List Value) (ns3 : List Int) (n : Nat) (u : Option Value), led = [(lc, W.listOf cs.toArray n)] ∧ IntsAre cs ns3 ∧ ns3.length = 3 ∧
    m = fun y => if y = Str.ofString "place" then u else if y = Str.ofString "cells" then some (Value.ref lc) else if y = Str.ofString "script" then some (Value.ref a) else none)
    ⟨[Value.int 40 t0, Value.int 53 t1, Value.int 8 t2], [40, 53, 8], 0, none, rfl, by repeat' constructor, rfl, by (first | (refine map1 (Str.ofString "place") rfl ?_; intro y h0; ((repeat (first | with_reducible rfl | refine Eq.trans (if_neg (by assumption)) ?_ | refine Eq.trans ?_ (if_neg (by assumption)).symm)); done)) | (funext y; by_cases h0 : y = Str.ofString "place"; (subst h0; rfl); simp only [if_neg h0]))⟩ ?_ ?_
  · rintro j v m₁ led₁ h tk I oI hI hj hj2 hj3 hn F5 N5 gs ds oss Qt hQt
    (try refine opg fun gG hgG => ?_); (obtain ⟨tv, rfl⟩ := hj2); (try (refine hgG ?_; clear hgG gG))
    refine p4_4 ?_ hj3
    (try clear hj3)
    intro cs ns3 n u hq4 hcs h3 hq5
    subst hq4
    subst hq5
    (try replace F5 : Fr _ L' _ _ := F5); (try replace N5 : News _ L' _ _ := N5)
    (try (refine (let mm : Str → Option Value := _; have Fx : Fr _ L' _ mm := F5; ?_); clear F5; rename Fr _ _ _ _ => F5))
    have hk0 : 0 ≤ Int.fmod (0 + (j : Int) * 1) 3 := Int.fmod_nonneg_of_pos _ (by decide)
    have hk3 : Int.fmod (0 + (j : Int) * 1) 3 < 3 := Int.fmod_lt_of_pos _ (by decide)
    have hj2 : j < ns.length := hj
    have hnl2 := hnl trivial
    walk_at "mine steps"
    rename Fr _ _ _ _ => F7
    rename News _ _ _ _ => N7
    have N8 := news_sub (l' := [(lc, W.listOf cs.toArray n), (I, oI)]) N7 (by first | walk_at "mine sub" | simp)
    refine' ksa_set ?hF ?hN (.head ?hne) ?hi3 hk0 ?hk1 (Int.lt_trans hk3 (by decide)) fun h9 F9 N9 i9 l9 _ => ?_
    case hF => exact F7
    case hN => exact N8
    case hne => simpa using fun e : I = lc => hn (lc, W.listOf cs.toArray n) (.head _) e.symm
    case hi3 => exact hcs
    case hk1 => rw [h3]; exact hk3
    dsimp only
    walk_at "mine steps"
    refine hQt _ _ ?_
    exact TurnEnd.next F9 (news_sub N9 (by first | walk_at "mine sub" | simp)) (news_sub (l' := [(lc, _)]) N9 (by first | walk_at "mine sub" | simp)) (by simpa using hn (lc, W.listOf cs.toArray n) (.head _)) ⟨_, _, n, _, rfl, i9, l9.trans h3, by (first | (refine map1 (Str.ofString "place") rfl ?_; intro y h0; ((repeat (first | with_reducible rfl | refine Eq.trans (if_neg (by assumption)) ?_ | refine Eq.trans ?_ (if_neg (by assumption)).symm)); done)) | (funext y; by_cases h0 : y = Str.ofString "place"; (subst h0; rfl); simp only [if_neg h0]))⟩
  · rintro h5 tk5 m5 led5 F5 N5 hj6
    refine p4_4 ?_ hj6
    (try clear hj6)
    intro cs ns3 n u hq7 hcs h3 hq8
    subst hq7
    subst hq8
    (try replace F5 : Fr _ L' _ _ := F5); (try replace N5 : News _ L' _ _ := N5)
    (try (refine (let mm : Str → Option Value := _; have Fx : Fr _ L' _ mm := F5; ?_); clear F5; rename Fr _ _ _ _ => F5))
    rw [List.nil_append] at N5
    dsimp only
    walk_at "mine steps"
    rename Fr _ _ _ _ => F6
    rename News _ _ _ _ => N6
    exact ret _ _ _ F6.keep ⟨lc, cs, ns3, n, rfl, (N6 _ (.head _)).2.2, (N6 _ (.head _)).1, hcs, h3⟩
end Mine
end
section
theorem Mine.fresh24 : True := by w_top off; trivial
open PySem PySem.W PyProof.Rows PySem.Calls
set_option maxRecDepth 100000
set_option maxHeartbeats 8000000
namespace Mine
/-- a record as data: its agents, its delay, its rules -/
inductive Rec where
  | mk (agents : List Str) (delay : Option Nat) (rules : List Rec)
inductive StrL : List Value → List Str → Prop
  | nil : StrL [] []
  | cons (x : Str) (t : Tok) {vs : List Value} {xs : List Str} : StrL vs xs → StrL (.str x t :: vs) (x :: xs)
noncomputable def DelV : Value → Option Nat → Prop
  | .none, none => True
  | .int i _, some n => i = (n : Int)
  | _, _ => False
mutual
inductive RecIn (w : World) (C : Addr → Obj → Prop) : Value → Rec → Prop
  | mk {x dx lu lr : Addr} {t1 t2 t3 t4 : Tok} {dv : Value} {us rs : List Value} {n1 n2 : Nat} {ags : List Str} {dl : Option Nat} {rules : List Rec} :
    C x (instObj 110 dx) → C dx (dictOf (entD w t1 t2 t3 t4 lu lr dv) 4) → C lu (W.listOf us.toArray n1) → C lr (W.listOf rs.toArray n2) → StrL us ags → DelV dv dl → RecsIn w C rs rules → RecIn w C (.ref x) (.mk ags dl rules)
inductive RecsIn (w : World) (C : Addr → Obj → Prop) : List Value → List Rec → Prop
  | nil : RecsIn w C [] []
  | cons {v : Value} {r : Rec} {vs : List Value} {rs : List Rec} : RecIn w C v r → RecsIn w C vs rs → RecsIn w C (v :: vs) (r :: rs)
end
mutual
theorem RecIn.mono {w : World} {C C' : Addr → Obj → Prop} (hc : ∀ a o, C a o → C' a o) : ∀ {v : Value} {r : Rec}, RecIn w C v r → RecIn w C' v r
  | _, _, .mk a b c d e f g => .mk (hc _ _ a) (hc _ _ b) (hc _ _ c) (hc _ _ d) e f (g.mono hc)
theorem RecsIn.mono {w : World} {C C' : Addr → Obj → Prop} (hc : ∀ a o, C a o → C' a o) : ∀ {v : List Value} {r : List Rec}, RecsIn w C v r → RecsIn w C' v r
  | _, _, .nil => .nil
  | _, _, .cons a b => .cons (a.mono hc) (b.mono hc)
end
theorem RecsIn.snoc {w : World} {C : Addr → Obj → Prop} {vs : List Value} {rs : List Rec} {v : Value} {r : Rec} (h : RecsIn w C vs rs) (h' : RecIn w C v r) : RecsIn w C (vs ++ [v]) (rs ++ [r]) := by
  induction vs generalizing rs with
  | nil => cases h; exact .cons h' .nil
  | cons u us ih => cases h with | cons a b => exact .cons a (ih b)
theorem RecsIn.length {w : World} {C : Addr → Obj → Prop} {vs : List Value} {rs : List Rec} (h : RecsIn w C vs rs) : vs.length = rs.length := by
  induction vs generalizing rs with
  | nil => cases h; rfl
  | cons u us ih => cases h with | cons a b => rw [List.length_cons, List.length_cons, ih b]
noncomputable def tabOf (n : Nat) : List (Nat × Nat) := (runT 200 n 0 []).getD []
noncomputable def nameOf (k look : Nat) : Str := fssS (whereS look) (nameS look) (11 * cnt (tabOf k))
noncomputable def rep (tab : List (Nat × Nat)) : List Nat := tab.flatMap fun q => List.replicate q.2 q.1
noncomputable def recOf : Nat → Nat → List Str → Nat → Rec
  | 0, _, ags, _ => .mk ags none []
  | f + 1, n, ags, look => .mk ags none ((rep (tabOf n)).map fun k => recOf f k [nameOf k look] look)
noncomputable abbrev InL (l : List (Addr × Obj)) : Addr → Obj → Prop := fun a o => (a, o) ∈ l
/-- facts of the numbers below 128 -/
noncomputable def numOk (n : Nat) : Bool := (runT 200 n 0 []).isSome && (tabOf n).all (fun q => q.1 < n && q.2 ≤ 6 && 1 ≤ q.1) && cnt (tabOf n) ≤ 6 && (tabOf n).length ≤ 3 && ((tabOf n).map (·.1)).Nodup
theorem numOk_all : ∀ n, n < 128 → numOk n = true := by decide +kernel
theorem numOk_spec {n : Nat} (h : n < 128) : runT 200 n 0 [] = some (tabOf n) ∧ (∀ q ∈ tabOf n, q.1 < n ∧ q.2 ≤ 6 ∧ 1 ≤ q.1) ∧ cnt (tabOf n) ≤ 6 ∧ (tabOf n).length ≤ 3 ∧ ((tabOf n).map (·.1)).Nodup := by
  have h := numOk_all n h
  unfold numOk at h
  simp only [Bool.and_eq_true, decide_eq_true_eq, List.all_eq_true] at h
  (try refine opg fun gG hgG => ?_); (obtain ⟨⟨⟨⟨h1, h2⟩, h3⟩, h4⟩, h5⟩ := h); (try (refine hgG ?_; clear hgG gG))
  refine ⟨?_, fun q hq => ⟨(h2 q hq).1.1, (h2 q hq).1.2, (h2 q hq).2⟩, h3, h4, h5⟩
  unfold tabOf
  cases e : runT 200 n 0 [] with
  | none => rw [e] at h1; cases h1
  | some T => rfl
section
variable {prog : Program} {w : World} {A : Around} {E : Value → Shared → Prop} {s : Shared} {h₀ : Heap} {L D b : Addr} {m : Str → Option Value} {news news' : List (Addr × Obj)}
theorem extend_K {ags : List Value} {n n2 : Nat} {Q : Value → Shared → Prop} (F : Fr h₀ L s.heap m) (N : News h₀ L s.heap news) (hb : s.heap.get? b = some (W.listOf ags.toArray n2))
    (U : Upd D (W.listOf #[] n) (W.listOf ags.toArray (if ags.length = 0 then n else n + 1)) news news') (hz : ags.length ≤ 1000)
    (h : ∀ h', Fr h₀ L h' m → News h₀ L h' news' → Q .none { s with heap := h' }) : wpAny (model prog w) A (PySem.call (.builtin "list.extend") [.ref D, .ref b]) Q E s := by
  have hp3 := U.split
  refine p2_4 ?_ hp3
  (try clear hp3)
  intro pre post hq1 hq2 a c
  subst hq1
  subst hq2
  have z := N (D, _) (List.mem_append.mpr (.inr (.head _)))
  have hk : 1000 ≤ sizeLine := by decide
  have hsz : (#[] : Array Value).size + ags.toArray.size ≤ sizeLine + 1 := by
    simp only [List.size_toArray, List.length_nil]
    walk_at "mine omega"
  refine call_meets PySem.F.slot_list_extend ⟨_, z.1, rfl⟩ PySem.F.entry_list_extend (PySem.F.args_list_extend_2 _ _) (PySem.AutoSeq1.list_extend_list_list_0 D #[] n b ags.toArray n2 (by first | walk_at "mine sub" | simp) (Nat.zero_le _) hsz) ⟨z.1, hb, h _ (F.change (Heap.SameBut.update ..) z.2.1 z.2.2) (news_set N a c (Heap.SameBut.update ..) ?_)⟩
  have q := PySem.IsL.update z.1 (fun x => x ++ ags.toArray)
  cases ags with
  | nil => exact q
  | cons x xs =>
    rw [if_neg (by first | walk_at "mine sub" | simp)] at q
    rw [if_neg (by first | walk_at "mine sub" | simp)]
    rw [show (#[] : Array Value) ++ (x :: xs).toArray = (x :: xs).toArray from by simp] at q
    exact q
end
theorem fss_all {w : World} {p : Program} {loose : List Str} {mean : ExcName → Option Value} {mg mb : Str → Option Value} (a : Addr) (look c : Nat) (t1 t2 t3 : Tok) (hc : c < 80) :
    Spec w p loose mean mg mb 45 1 80 [.ref a] (fun h => h.get? a = some { cls := .type "tuple", data := .seq #[.str (whereS look) t1, .int ((11 * c : Nat) : Int) t2, .str (nameS look) t3] 0 })
      (fun h h' r => ∃ t, r = .str (fssS (whereS look) (nameS look) (11 * c)) t) := by
  have hn : nameS look = Str.ofString "<<tt>" ∨ nameS look = Str.ofString "tt" ∨ nameS look = Str.ofString "<tt" ∨ nameS look = Str.ofString "tt>" := by
    unfold nameS; split
    · exact .inl rfl
    · split
      · exact .inr (.inl rfl)
      · split
        · exact .inr (.inr (.inl rfl))
        · exact .inr (.inr (.inr rfl))
  have hl : (nameS look).length ≤ 5 := by rcases hn with e | e | e | e <;> rw [e] <;> decide +kernel
  by_cases h : (whereS look == Str.ofString "~" && ((11 * c : Nat) : Int) == 0) = true
  · (try refine opg fun gG hgG => ?_); (obtain ⟨h1, h2⟩ := Bool.and_eq_true_iff.mp h); (try (refine hgG ?_; clear hgG gG))
    have h2 : c = 0 := by have := eq_of_beq h2; walk_at "mine omega"
    rw [eq_of_beq h1, h2]
    exact fss_0 a _ t1 t2 t3 hn
  · refine fss_f a _ _ _ t1 t2 t3 ?_ ?_ hl (by walk_at "mine omega") (by simpa using h)
    · unfold whereS; split <;> decide +kernel
    · unfold whereS; split <;> decide +kernel
theorem rep_length (tab : List (Nat × Nat)) : (rep tab).length = cnt tab := by
  unfold rep cnt; rw [List.length_flatMap]; congr 1; apply List.map_congr_left; intro q _; simp
theorem rep_succ {tab : List (Nat × Nat)} {i : Nat} {q : Nat × Nat} (h : tab[i]? = some q) : rep (tab.take (i + 1)) = rep (tab.take i) ++ List.replicate q.2 q.1 := by
  unfold rep; rw [List.take_add_one, h]; simp
theorem find_nodup {tab : List (Nat × Nat)} (hn : (tab.map (·.1)).Nodup) {i : Nat} {q : Nat × Nat} (h : tab[i]? = some q) : (tab.find? fun r => r.1 == q.1) = some q := by
  induction tab generalizing i with
  | nil => cases h
  | cons r rs ih =>
    rw [List.map_cons, List.nodup_cons] at hn
    cases i with
    | zero => obtain rfl := Option.some.inj h; simp
    | succ i =>
      have hm : q ∈ rs := List.mem_of_getElem? h
      rw [List.find?_cons, beq_false_of_ne (fun e : r.1 = q.1 => hn.1 (by rw [e]; exact List.mem_map.mpr ⟨q, hm, rfl⟩))]
      exact ih hn.2 h
section
variable {prog : Program} {w : World} {A : Around} {E : Value → Shared → Prop} {s : Shared} {knd : PySem.KeyKind prog w Int} {kvs : List (Int × Value)} {d : Addr}
theorem item_dictI {value slice : Expr} {k : Int} {u : Tok} {v : Value} {Q : Value → Shared → Prop} (hd : s.heap.DictOf knd d kvs) (hkey : knd.is k (.int k u) = true) (hv : valueAt kvs k = some v) (h : Q v { s with toks := s.toks + 1 })
    (hs : subscripted slice false (.ref d) (.int k u) = operate [.ref d, .int k u] (getItem (.ref d) (.int k u)) := by with_unfolding_all rfl) :
    wpAny (model prog w) A (subscriptTail value slice (.ref d) (.int k u)) Q E s :=
  tail_any hd.typeIs slot_dict_getitem.lookup (getItem_dict hd hkey hv h) hs
end
noncomputable def RecTop (w : World) (tl : List (Addr × Obj)) (r : Value) (agents : List Str) (rules : List Rec) : Prop := ∃ x dx lu lr t1 t2 t3 t4 us rs n1 n2 fz, r = .ref x ∧ tl = (lr, W.listOf (rs : List Value).toArray n2) :: (lu, W.listOf (us : List Value).toArray n1) :: (x, instObj 110 dx) :: (dx, dictOf (entD w t1 t2 t3 t4 lu lr .none) 4) :: fz ∧ RecsIn w (InL fz) rs rules ∧ StrL us agents ∧ (∀ p ∈ fz, p.1 ≠ dx) ∧ @LT.lt Nat _ dx x ∧ @LT.lt Nat _ x lu ∧ @LT.lt Nat _ lu lr
noncomputable abbrev RecP (w : World) (p : Program) (loose : List Str) (mean : ExcName → Option Value) (mg mb : Str → Option Value) (look f : Nat) : Prop :=
  ∀ (n : Nat), n < 128 → n ≤ f → ∀ (d la : Addr) (t0 : Tok) (ags : List Value) (agents : List Str) (τ : Nat → Tok) (na : Nat), (d == sysModules) = false → StrL ags agents → ags.length < 1000 →
    Spec w p loose mean mg mb 163 (f + 10) (8 * f + 200) [.ref d, .ref la, .int (look : Int) t0] (fun h => h.DictOf (intKind PP w) d (kvsOf τ (tabOf n)) ∧ h.get? la = some (W.listOf ags.toArray na))
      (fun h h' r => ∃ tl, NewCells h h' tl ∧ RecIn w (InL tl) r (recOf (f + 1) n agents look) ∧ RecTop w tl r agents ((rep (tabOf n)).map fun k => recOf f k [nameOf k look] look))
theorem record_step {w : World} {p : Program} {loose : List Str} {mean : ExcName → Option Value} {mg mb : Str → Option Value} (look : Nat) (hlook : look < 8) (f : Nat) (ih : ∀ f', f' + 1 = f → RecP w p loose mean mg mb look f') : RecP w p loose mean mg mb look f := by
  intro n hn hnf d la t0 ags agents τ na hdlo hags halen
  have hp5 := numOk_spec hn
  refine p0_5 ?_ hp5
  (try clear hp5)
  intro hq4 hT2 hT3 hT4 hT5
  clear hq4
  intro dp un gd cn cs ea ccd cl outer A₀ base h₀ L m s R B F X T hk hpre hdp hu ret
  (try refine opg fun gG hgG => ?_); (obtain ⟨hD, hA⟩ := hpre); (try (refine hgG ?_; clear hgG gG))
  revert X T; k_fill; intro X T
  refine' code_pure (binds := [(Str.ofString "table", .ref d), (Str.ofString "agents", .ref la), (Str.ofString "look", .int (look : Int) t0)]) ?k1 ?k2 ?k3 ?k5 ?kA ?kF ?kK ?k6 ?k7 ?k8 ?k9 ?kB ?_ ?c2 ?c3 ?c4 ?c5
  case kA => exact rfl
  case kF => exact rfl
  case kK => assumption
  case k2 => k_asm
  case k1 => k_asm
  case k3 => k_asm
  case k5 => k_asm
  case k6 => k_dflt k_is
  case k7 => k_dflt k_is
  case k8 => ktr_room
  case k9 => exact BindsTo.of_eq rfl
  case c5 => decide
  case kB => exact locs rfl
  case c2 => exact rfl
  case c3 => exact rfl
  case c4 => exact rfl
  intro L' h' F' N' B' X' T'
  refine wpAny_mono (Q := fun fl s' => R (.ok (.ret (match fl with | .ret v => v | _ => .none))) s') (E := fun _ _ => False) ?_ (fun _ _ x => x) (fun _ _ x => x.elim)
  clear B F X T
  replace F' := Fr.as F' (m' := fun y => if y = Str.ofString "table" then some (.ref d) else if y = Str.ofString "agents" then some (.ref la) else if y = Str.ofString "look" then some (.int (look : Int) t0) else none) (by first | exact look_rev _ rfl | (funext y; first | rfl | ((try simp only [List.reverse_cons, List.reverse_nil, List.nil_append, List.cons_append, List.lookup]); (repeat' split) <;> first | rfl | (simp_all; done) | (subst_vars; simp_all; done) | (simp_all (decide := true); done))))
  (try dsimp only)
  (try k_fold)
  generalize s.gens = gs0 at ret ⊢
  generalize s.drawn = ds0 at ret ⊢
  generalize s.os = os0 at ret ⊢
  (try generalize s.toks + _ = tk0)
  refine (let AE : Env := _; let AA : Around := Around.deeper _ AE; let QQ : Flow → Shared → Prop := _; (?kL : wpAny _ AA (execs _ AE) QQ _ _))
  iterate 5 (first | (k_unfold; (try dsimp only)) | walk1 | (dsimp only; walk1) | (leave1; (try dsimp only)))
  refine entry_new B' F' X' N' T' rfl (by first | exact dlt (a := 1) (b := 5) hdp rfl | (show dp + 1 + 5 < recursionLimit; walk_at "mine omega")) (by first | exact dlt (a := 3) (b := 50) hu rfl | (show un + 3 + 50 < cLine; walk_at "mine omega")) fun x dx lu lr t1 t2 t3 t4 h2 tk2 F2 N2 l1 l2 l3 l4 => ?_
  clear F' N' l1
  dsimp only
  walk_at "mine steps"
  rename Fr _ _ _ _ => F3
  rename News _ _ _ _ => N3
  refine extend_K F3 N3 (F3.keep _ _ hA) (.tail (by show lr ≠ lu; exact Nat.ne_of_gt l4) (.head (by intro p hp; rcases List.mem_cons.mp hp with rfl | hp; exact Nat.ne_of_lt l3; rw [List.mem_singleton.mp hp]; exact Nat.ne_of_lt (Nat.lt_trans l2 l3)))) (by walk_at "mine omega") fun h4 F4 N4 => ?_
  (try clear F3); (try clear N3)
  dsimp only
  generalize (if ags.length = 0 then 0 else 0 + 1) = nu at N4
  walk_at "mine steps"
  rename Fr _ _ _ _ => F5
  rename News _ _ _ _ => N5
  have hDk := dictOf_keep F5.keep hD
  (try refine opg fun gG hgG => ?_); (obtain ⟨ep, hat⟩ := hDk.dictAt); (try (refine hgG ?_; clear hgG gG))
  (try refine opg fun gG hgG => ?_); (obtain ⟨od, hod, _⟩ := Heap.dictOf_iff.mp hD); (try (refine hgG ?_; clear hgG gG))
  have lux : @LT.lt Nat _ x lu := l3
  have lrl : @LT.lt Nat _ lu lr := l4
  have ldx : @LT.lt Nat _ dx x := l2
  refine iter_keys [] rfl hdlo hat (Stood.base hod) F5 N5 News.nil (fun i m led => ∃ (rs : List Value) (fz : List (Addr × Obj)) (nr : Nat) (u1 u2 u3 u4 : Option Value), led = (lr, W.listOf rs.toArray nr) :: (lu, W.listOf ags.toArray nu) :: (x, instObj 110 dx) :: (dx, dictOf (entD w t1 t2 t3 t4 lu lr .none) 4) :: fz ∧ RecsIn w (InL fz) rs ((rep ((tabOf n).take i)).map fun k => recOf f k [nameOf k look] look) ∧ (∀ p ∈ fz, p.1 ≠ lr) ∧ (∀ p ∈ fz, p.1 ≠ dx) ∧
      m = fun y => if y = Str.ofString "turn" then u1 else if y = Str.ofString "name" then u2 else if y = Str.ofString "below" then u3 else if y = Str.ofString "number" then u4 else if y = Str.ofString "record" then some (.ref x) else if y = Str.ofString "table" then some (.ref d) else if y = Str.ofString "agents" then some (.ref la) else if y = Str.ofString "look" then some (.int (look : Int) t0) else none)
    ⟨[], [], 0, none, none, none, none, rfl, .nil, (fun p hp => nomatch hp), (fun p hp => nomatch hp), by (first | (refine map4 (Str.ofString "turn") (Str.ofString "name") (Str.ofString "below") (Str.ofString "number") rfl rfl rfl rfl ?_; intro y h0 h1 h2 h3; ((repeat (first | with_reducible rfl | refine Eq.trans (if_neg (by assumption)) ?_ | refine Eq.trans ?_ (if_neg (by assumption)).symm)); done)) | (funext y; by_cases h0 : y = Str.ofString "turn"; (subst h0; rfl); by_cases h1 : y = Str.ofString "name"; (subst h1; rfl); by_cases h2 : y = Str.ofString "below"; (subst h2; rfl); by_cases h3 : y = Str.ofString "number"; (subst h3; rfl); simp only [if_neg h0, if_neg h1, if_neg h2, if_neg h3]))⟩ ?_ ?_
  · rintro i v m₁ led₁ h tk I oI hI hi hj6 hj7 hn' F6 N6 gs ds oss Qt hQt
    (try refine opg fun gG hgG => ?_); (obtain ⟨kk, xv, hk, hkey⟩ := hj6); (try (refine hgG ?_; clear hgG gG))
    refine p7_5 ?_ hj7
    (try clear hj7)
    intro rs₀ fz₀ nr₀ u1 u2 u3 u4 hq8 hrs₀ hfz₀ hfd₀ hq9
    subst hq8
    subst hq9
    (try replace F6 : Fr _ L' _ _ := F6); (try replace N6 : News _ L' _ _ := N6)
    (try (refine (let mm : Str → Option Value := _; have Fx : Fr _ L' _ mm := F6; ?_); clear F6; rename Fr _ _ _ _ => F6))
    (try refine opg fun gG hgG => ?_); (obtain ⟨q, hq, rfl, rfl⟩ := kvs_get hk); (try (refine hgG ?_; clear hgG gG))
    (try refine opg fun gG hgG => ?_); (obtain ⟨tq, rfl⟩ := Value.isInt_shape hkey); (try (refine hgG ?_; clear hgG gG))
    have hqm := hT2 q (List.mem_of_getElem? hq)
    have hp10 := numOk_spec (Nat.lt_trans hqm.1 hn)
    refine p0_5 ?_ hp10
    (try clear hp10)
    intro hU1 hU2 hU3 hU4 hU5
    (try refine opg fun gG hgG => ?_); (obtain ⟨f', hf'⟩ : ∃ f', f' + 1 = f := ⟨f - 1, by walk_at "mine omega"⟩); (try (refine hgG ?_; clear hgG gG))
    (try clear F5); (try clear N5)
    repeat ((fail_if_success (with_reducible show wpAny _ _ (PySem.call (Value.ref 149) _ _) _ _ _)); (first | (k_unfold; (try dsimp only)) | ((try dsimp only); walk1) | (leave1; (try dsimp only))))
    rename Fr _ _ _ _ => F7
    rename News _ _ _ _ => N7
    refine Spec.call (spec_table q.1 tq (tabOf q.1) (by walk_at "mine omega") hU1) B' F7 X' N7 T' rfl trivial (by first | exact dlt (a := 1) (b := 2) hdp rfl | (show dp + 1 + 2 < recursionLimit; walk_at "mine omega")) (by first | exact dlt (a := 3) (b := 100) hu rfl | (show un + 3 + 100 < cLine; walk_at "mine omega")) fun r h8 tk8 F8 N8 k8 post => ?_
    refine p3_5 ?_ post
    (try clear post)
    intro d2 o2 τ2 hq11 hlo2 hd20 hd21 hi2
    subst hq11
    have C8 := NewCells.one hd20 hd21
    have e8 := C8.ne N7
    replace N8 := news_app (C8.news F7) N8
    simp only [List.cons_append, List.nil_append] at N8
    (try clear F7); (try clear N7)
    dsimp only
    repeat ((fail_if_success (with_reducible show wpAny _ _ (PySem.call (Value.ref 59) _ _) _ _ _)); (first | (k_unfold; (try dsimp only)) | ((try dsimp only); walk1) | (leave1; (try dsimp only))))
    rename Fr _ _ _ _ => F9
    rename News _ _ _ _ => N9
    (try refine opg fun gG hgG => ?_); (obtain ⟨ep2, hat2⟩ := (Heap.dictOf_iff.mpr ⟨o2, (N9 _ (.head _)).1, hi2⟩).dictAt); (try (refine hgG ?_; clear hgG gG))
    refine Spec.call (spec_count d2 τ2 (tabOf q.1) ep2 hlo2 (by walk_at "mine omega")) B' F9 X' N9 T' rfl hat2 (by first | exact dlt (a := 1) (b := 1) hdp rfl | (show dp + 1 + 1 < recursionLimit; walk_at "mine omega")) (by first | exact dlt (a := 3) (b := 8) hu rfl | (show un + 3 + 8 < cLine; walk_at "mine omega")) fun r h10 tk10 F10 N10 k10 post => ?_
    (try refine opg fun gG hgG => ?_); (obtain ⟨tc, rfl⟩ := post); (try (refine hgG ?_; clear hgG gG))
    (try clear F9); (try clear N9)
    dsimp only
    repeat ((fail_if_success (with_reducible show wpAny _ _ (PySem.call (Value.ref 156) _ _) _ _ _)); (first | (k_unfold; (try dsimp only)) | ((try dsimp only); walk1) | (leave1; (try dsimp only))))
    rename Fr _ _ _ _ => F11
    rename News _ _ _ _ => N11
    refine Spec.call (spec_function (cnt (tabOf q.1)) look tc t0 hlook (by walk_at "mine omega")) B' F11 X' N11 T' rfl trivial (by first | exact dlt (a := 1) (b := 1) hdp rfl | (show dp + 1 + 1 < recursionLimit; walk_at "mine omega")) (by first | exact dlt (a := 3) (b := 8) hu rfl | (show un + 3 + 8 < cLine; walk_at "mine omega")) fun r h12 tk12 F12 N12 k12 post => ?_
    refine p4_3 ?_ post
    (try clear post)
    intro aT t13 t14 t15 hq12 haT0 haT1
    subst hq12
    (try clear F11); (try clear N11)
    dsimp only
    repeat ((fail_if_success (with_reducible show wpAny _ _ (PySem.call (Value.ref 45) _ _) _ _ _)); (first | (k_unfold; (try dsimp only)) | ((try dsimp only); walk1) | (leave1; (try dsimp only))))
    rename Fr _ _ _ _ => F13
    rename News _ _ _ _ => N13
    refine Spec.call (fss_all aT look (cnt (tabOf q.1)) t13 t14 t15 (by walk_at "mine omega")) B' F13 X' N13 T' rfl haT1 (by first | exact dlt (a := 1) (b := 1) hdp rfl | (show dp + 1 + 1 < recursionLimit; walk_at "mine omega")) (by first | exact dlt (a := 3) (b := 80) hu rfl | (show un + 3 + 80 < cLine; walk_at "mine omega")) fun r h14 tk14 F14 N14 k14 post => ?_
    (try refine opg fun gG hgG => ?_); (obtain ⟨tn, rfl⟩ := post); (try (refine hgG ?_; clear hgG gG))
    (try clear F13); (try clear N13)
    dsimp only
    repeat ((fail_if_success (with_reducible show wpAny _ _ (subscriptTail _ _ _ _) _ _ _)); (first | (k_unfold; (try dsimp only)) | ((try dsimp only); walk1) | (leave1; (try dsimp only))))
    rename Fr _ _ _ _ => F15
    rename News _ _ _ _ => N15
    have hD15 := dictOf_keep F15.keep hD
    refine item_dictI (v := .int (q.2 : Int) (τ q.1)) ?hd hkey (by rw [valueAt_kvs, find_nodup hT5 hq]; rfl) ?_
    case hd => exact hD15
    dsimp only
    walk_at "mine steps"
    rename IsRange _ _ _ _ _ _ _ _ => hR
    rename Fr _ _ _ _ => F16
    rename News _ _ _ _ => N16
    have hsm : ∀ k, k ≤ 6 → Builtin.Range.small 0 ((k : Nat) : Int) 1 = true ∧ Builtin.Range.rangeSize 0 ((k : Nat) : Int) 1 = (k : Int) := by decide +kernel
    refine iter_range rfl hR (hsm _ hqm.2.1).1 (hsm _ hqm.2.1).2 F16 N16 (fun j m led => ∃ (rs : List Value) (fz : List (Addr × Obj)) (nr : Nat) (u1 : Option Value), led = (d2, o2) :: (I, oI) :: (lr, W.listOf rs.toArray nr) :: (lu, W.listOf ags.toArray nu) :: (x, instObj 110 dx) :: (dx, dictOf (entD w t1 t2 t3 t4 lu lr .none) 4) :: fz ∧ RecsIn w (InL fz) rs ((rep ((tabOf n).take i) ++ List.replicate j q.1).map fun k => recOf f k [nameOf k look] look) ∧ (∀ p ∈ fz, p.1 ≠ lr) ∧ (∀ p ∈ fz, p.1 ≠ dx) ∧ (∀ p ∈ fz, p.1 ≠ I) ∧
      m = fun y => if y = Str.ofString "turn" then u1 else if y = Str.ofString "name" then some (Value.str (fssS (whereS look) (nameS look) (11 * cnt (tabOf q.fst))) tn) else if y = Str.ofString "below" then some (Value.ref d2) else if y = Str.ofString "number" then some (Value.int (↑q.fst) tq) else if y = Str.ofString "record" then some (.ref x) else if y = Str.ofString "table" then some (.ref d) else if y = Str.ofString "agents" then some (.ref la) else if y = Str.ofString "look" then some (.int (look : Int) t0) else none)
      ⟨rs₀, fz₀, nr₀, u1, rfl, by simpa using hrs₀, hfz₀, hfd₀, fun p hp => hn' p (by simp [hp]), by (first | (refine map4 (Str.ofString "turn") (Str.ofString "name") (Str.ofString "below") (Str.ofString "number") rfl rfl rfl rfl ?_; intro y h0 h1 h2 h3; ((repeat (first | with_reducible rfl | refine Eq.trans (if_neg (by assumption)) ?_ | refine Eq.trans ?_ (if_neg (by assumption)).symm)); done)) | (funext y; by_cases h0 : y = Str.ofString "turn"; (subst h0; rfl); by_cases h1 : y = Str.ofString "name"; (subst h1; rfl); by_cases h2 : y = Str.ofString "below"; (subst h2; rfl); by_cases h3 : y = Str.ofString "number"; (subst h3; rfl); simp only [if_neg h0, if_neg h1, if_neg h2, if_neg h3]))⟩ ?_ ?_
    · rintro j v m₁ led₁ h tk I2 oI2 hI2 hj hj13 hj14 hn2 F17 N17 gs ds oss Qt hQt
      (try refine opg fun gG hgG => ?_); (obtain ⟨tv, rfl⟩ := hj13); (try (refine hgG ?_; clear hgG gG))
      refine p4_6 ?_ hj14
      (try clear hj14)
      intro rs fz nr u1 hq15 hrs hfz hfd hfI hq16
      subst hq15
      subst hq16
      (try replace F17 : Fr _ L' _ _ := F17); (try replace N17 : News _ L' _ _ := N17)
      (try (refine (let mm : Str → Option Value := _; have Fx : Fr _ L' _ mm := F17; ?_); clear F17; rename Fr _ _ _ _ => F17))
      (try clear F16); (try clear N16)
      rw [List.nil_append] at N17
      repeat ((fail_if_success (with_reducible show wpAny _ _ (PySem.call (Value.ref 163) _ _) _ _ _)); (first | (k_unfold; (try dsimp only)) | ((try dsimp only); walk1) | (leave1; (try dsimp only))))
      rename Fr _ _ _ _ => F18
      rename News _ _ _ _ => N18
      refine Spec.call (ih f' hf' q.1 (Nat.lt_trans hqm.1 hn) (by walk_at "mine omega") d2 _ t0 [.str (nameOf q.1 look) tn] [nameOf q.1 look] τ2 0 hlo2 (.cons _ _ .nil) (by show 1 < 1000; decide)) B' F18 X' N18 T' rfl ⟨Heap.dictOf_iff.mpr ⟨o2, (N18 _ (.tail _ (.tail _ (.head _)))).1, hi2⟩, (N18 _ (.head _)).1⟩ (by show dp + 1 + (f' + 10) < recursionLimit; walk_at "mine omega") (by show un + 3 + (8 * f' + 200) < cLine; walk_at "mine omega") fun r h19 tk19 F19 N19 k19 post => ?_
      (try refine opg fun gG hgG => ?_); (obtain ⟨tl, C19, hr19, -⟩ := post); (try (refine hgG ?_; clear hgG gG))
      rw [show f' + 1 = f from hf'] at hr19
      have e19 := C19.ne N18
      have N20 := news_app (C19.news F18) N19
      have hj6 : j < 6 := by have h1 := hqm.2.1; have h2 : j < q.2 := hj; exact Nat.lt_of_lt_of_le h2 h1
      have hlrs : rs.toArray.size ≤ sizeLine := by
        have h1 := hrs.length
        rw [List.length_map, List.length_append, List.length_replicate, rep_length] at h1
        have h2 := cnt_take_le (tabOf n) i
        rw [List.size_toArray, sizeLine_eq]
        walk_at "mine omega"
      have N21 := news_sub (l' := (lr, W.listOf rs.toArray nr) :: ((I2, oI2) :: (d2, o2) :: (I, oI) :: (lu, W.listOf ags.toArray nu) :: (x, instObj 110 dx) :: (dx, dictOf (entD w t1 t2 t3 t4 lu lr .none) 4) :: (tl ++ fz))) N20 (by walk_at "mine sub")
      dsimp only
      repeat ((fail_if_success (with_reducible show wpAny _ _ (PySem.call (Value.builtin "list.append") _ _) _ _ _)); (first | (k_unfold; (try dsimp only)) | ((try dsimp only); walk1) | (leave1; (try dsimp only))))
      refine' append_K (its := rs.toArray) (n := nr) (D := lr) ?hF ?hN (.head ?hne) (fun h22 F22 N22 => ?_) hlrs
      case hF => exact F19
      case hN => exact N21
      case hne =>
        exact fa_cons (fun z => hn2 (lr, _) (.tail _ (.tail _ (.head _))) z.symm) <| fa_cons (fun z => e8 (d2, o2) (.head _) (lr, W.listOf rs₀.toArray nr₀) (by first | walk_at "mine sub" | simp) z.symm) <| fa_cons (fun z => hn' (lr, _) (.head _) z.symm) <| fa_cons (Nat.ne_of_lt lrl) <|
          fa_cons (Nat.ne_of_lt (Nat.lt_trans lux lrl)) <| fa_cons (Nat.ne_of_lt (Nat.lt_trans ldx (Nat.lt_trans lux lrl))) <| fa_app (fun p e z => e19 p e (lr, W.listOf rs.toArray nr) (by first | walk_at "mine sub" | simp) z.symm) hfz
      (try clear F19); (try clear F18); (try clear N18); (try clear N19); (try clear N20); (try clear N21)
      dsimp only
      walk_at "mine steps"
      rename Fr _ _ _ _ => F23
      rename News _ _ _ _ => N23
      rw [List.push_toArray] at N23
      have N24 := news_sub (l' := (d2, o2) :: (I, oI) :: (lr, W.listOf (rs ++ [r]).toArray (nr + 1)) :: (lu, W.listOf ags.toArray nu) :: (x, instObj 110 dx) :: (dx, dictOf (entD w t1 t2 t3 t4 lu lr .none) 4) :: (tl ++ fz)) N23 (by walk_at "mine sub")
      refine hQt _ _ ?_
      refine TurnEnd.next F23 (news_sub N23 (by first | walk_at "mine sub" | simp)) N24 ?hI2 ⟨rs ++ [r], tl ++ fz, nr + 1, _, rfl, ?hrec, ?hlr, ?hdx, ?hI, by (first | (refine map1 (Str.ofString "turn") rfl ?_; intro y h0; ((repeat (first | with_reducible rfl | refine Eq.trans (if_neg (by assumption)) ?_ | refine Eq.trans ?_ (if_neg (by assumption)).symm)); done)) | (funext y; by_cases h0 : y = Str.ofString "turn"; (subst h0; rfl); simp only [if_neg h0]))⟩
      case hI2 =>
        exact fa_cons (hn2 (d2, o2) (.head _)) <| fa_cons (hn2 (I, oI) (.tail _ (.head _))) <| fa_cons (hn2 (lr, W.listOf rs.toArray nr) (.tail _ (.tail _ (.head _)))) <| fa_cons (hn2 (lu, _) (.tail _ (.tail _ (.tail _ (.head _))))) <|
          fa_cons (hn2 (x, _) (.tail _ (.tail _ (.tail _ (.tail _ (.head _)))))) <| fa_cons (hn2 (dx, _) (.tail _ (.tail _ (.tail _ (.tail _ (.tail _ (.head _))))))) <|
          fa_app (fun p e z => e19 p e (I2, oI2) (by first | walk_at "mine sub" | simp) z.symm) (fun p e => hn2 p (.tail _ (.tail _ (.tail _ (.tail _ (.tail _ (.tail _ e)))))))
      case hrec =>
        rw [List.replicate_succ', ← List.append_assoc, List.map_append]
        exact (hrs.mono fun a o ha => List.mem_append.mpr (.inr ha)).snoc (hr19.mono fun a o ha => List.mem_append.mpr (.inl ha))
      case hlr => exact fa_app (fun p e z => e19 p e (lr, W.listOf rs.toArray nr) (by first | walk_at "mine sub" | simp) z.symm) hfz
      case hdx => exact fa_app (fun p e z => e19 p e (dx, dictOf (entD w t1 t2 t3 t4 lu lr .none) 4) (by first | walk_at "mine sub" | simp) z.symm) hfd
      case hI => exact fa_app (fun p e z => e19 p e (I, oI) (by first | walk_at "mine sub" | simp) z.symm) hfI
    · rintro h5 tk5 m5 led5 F25 N25 hj17
      refine p4_6 ?_ hj17
      (try clear hj17)
      intro rs fz nr u1 hq18 hrs hfz hfd hfI hq19
      subst hq18
      subst hq19
      (try replace F25 : Fr _ L' _ _ := F25); (try replace N25 : News _ L' _ _ := N25)
      (try (refine (let mm : Str → Option Value := _; have Fx : Fr _ L' _ mm := F25; ?_); clear F25; rename Fr _ _ _ _ => F25))
      rw [List.nil_append] at N25
      (try clear F16); (try clear N16)
      dsimp only
      walk_at "mine steps"
      rename Fr _ _ _ _ => F26
      rename News _ _ _ _ => N26
      refine hQt _ _ ?_
      refine TurnEnd.next F26 (news_sub N26 (by first | walk_at "mine sub" | simp)) (news_sub (l' := (lr, W.listOf rs.toArray nr) :: (lu, W.listOf ags.toArray nu) :: (x, instObj 110 dx) :: (dx, dictOf (entD w t1 t2 t3 t4 lu lr .none) 4) :: fz) N26 (by intro p hp; exact .tail _ (.tail _ hp))) ?hI ⟨rs, fz, nr, u1, _, _, _, rfl, ?hrec, hfz, hfd, by (first | (refine map4 (Str.ofString "turn") (Str.ofString "name") (Str.ofString "below") (Str.ofString "number") rfl rfl rfl rfl ?_; intro y h0 h1 h2 h3; ((repeat (first | with_reducible rfl | refine Eq.trans (if_neg (by assumption)) ?_ | refine Eq.trans ?_ (if_neg (by assumption)).symm)); done)) | (funext y; by_cases h0 : y = Str.ofString "turn"; (subst h0; rfl); by_cases h1 : y = Str.ofString "name"; (subst h1; rfl); by_cases h2 : y = Str.ofString "below"; (subst h2; rfl); by_cases h3 : y = Str.ofString "number"; (subst h3; rfl); simp only [if_neg h0, if_neg h1, if_neg h2, if_neg h3]))⟩
      case hI =>
        exact fa_cons (hn' (lr, W.listOf rs₀.toArray nr₀) (.head _)) <| fa_cons (hn' (lu, _) (.tail _ (.head _))) <| fa_cons (hn' (x, _) (.tail _ (.tail _ (.head _)))) <| fa_cons (hn' (dx, _) (.tail _ (.tail _ (.tail _ (.head _))))) hfI
      case hrec =>
        rw [rep_succ hq]
        exact hrs
  · rintro h5 tk5 m5 led5 F25 N25 hj20
    refine p7_5 ?_ hj20
    (try clear hj20)
    intro rs fz nr u1 u2 u3 u4 hq21 hrs hfz hfd hq22
    subst hq21
    subst hq22
    (try replace F25 : Fr _ L' _ _ := F25); (try replace N25 : News _ L' _ _ := N25)
    (try (refine (let mm : Str → Option Value := _; have Fx : Fr _ L' _ mm := F25; ?_); clear F25; rename Fr _ _ _ _ => F25))
    rw [kvsOf_length, List.take_length] at hrs
    rw [List.nil_append] at N25
    (try clear F5); (try clear N5)
    dsimp only
    walk_at "mine steps"
    rename Fr _ _ _ _ => F26
    rename News _ _ _ _ => N26
    refine ret _ _ _ F26.keep ⟨_, fun p hp => ⟨(N26 p hp).2.2, (N26 p hp).1⟩, ?_, x, dx, lu, lr, t1, t2, t3, t4, ags, rs, nu, nr, fz, rfl, rfl, hrs, hags, hfd, ldx, lux, lrl⟩
    exact .mk (.tail _ (.tail _ (.head _))) (.tail _ (.tail _ (.tail _ (.head _)))) (.tail _ (.head _)) (.head _) hags trivial (hrs.mono fun a o ha => .tail _ (.tail _ (.tail _ (.tail _ ha))))
theorem spec_record {w : World} {p : Program} {loose : List Str} {mean : ExcName → Option Value} {mg mb : Str → Option Value} (look : Nat) (hlook : look < 8) (f : Nat) : RecP w p loose mean mg mb look f := by
  induction f with
  | zero => exact record_step look hlook 0 fun f' h => by walk_at "mine omega"
  | succ f ih =>
    refine record_step look hlook (f + 1) fun f' h => ?_
    obtain rfl : f' = f := Nat.succ.inj h
    exact ih
end Mine
end
section
theorem Mine.fresh25 : True := by w_top off; trivial
open PySem PySem.W PyProof.Rows PySem.Calls
set_option maxRecDepth 100000
set_option maxHeartbeats 8000000
namespace Mine
section
variable {h₀ h : Heap} {L x dx C : Addr} {m : Str → Option Value} {es : List DictEntry} {n : Nat}
theorem InstAt.of_fr (F : Fr h₀ L h m) (h1 : h₀.get? x = some (instObj C dx)) (h2 : h₀.get? dx = some (dictOf es n)) : PySem.W.InstAt h x (instObj C dx) C (some (dictOf es n)) := by
  exact ⟨F.keep _ _ h1, rfl, rfl, F.keep _ _ h2⟩
end
local macro_rules | `(tactic| k_inst) => `(tactic| (refine' InstAt.of_fr ?F ?h1 ?h2; (case F => k_asm); (case h1 => with_reducible assumption); (case h2 => with_reducible assumption)))
local macro_rules | `(tactic| walk_at "execs cons Assign cons") => `(tactic| ((with_reducible refine wpAny_execs_cons ?_); (try dsimp only)))
theorem StrL.length {vs : List Value} {xs : List Str} (h : StrL vs xs) : vs.length = xs.length := by
  induction h with
  | nil => rfl
  | cons x t h ih => rw [List.length_cons, List.length_cons, ih]
theorem StrL.get {vs : List Value} {xs : List Str} (h : StrL vs xs) {i : Nat} {v : Value} (hv : vs[i]? = some v) : ∃ x t, xs[i]? = some x ∧ v = .str x t := by
  induction h generalizing i with
  | nil => cases hv
  | cons x t h ih => cases i with
    | zero => exact ⟨x, t, rfl, (Option.some.inj hv).symm⟩
    | succ i => exact ih hv
theorem StrL.snoc {vs : List Value} {xs : List Str} (h : StrL vs xs) (x : Str) (t : Tok) : StrL (vs ++ [.str x t]) (xs ++ [x]) := by
  induction h with
  | nil => exact .cons _ _ .nil
  | cons y u h ih => exact .cons y u ih
theorem isList_keep {h₀ h : Heap} {L l : Addr} {m : Str → Option Value} {vs : Array Value} (F : Fr h₀ L h m) (hl : Heap.IsList h₀ l vs) : Heap.IsList h l vs := by
  obtain ⟨o, e, r⟩ := hl; exact ⟨o, F.keep _ _ e, r⟩
theorem append_led {prog : Program} {w : World} {A : Around} {E : Value → Shared → Prop} {s : Shared} {h₀ : Heap} {L D : Addr} {m : Str → Option Value} {led : List (Addr × Obj)} {vs : List Value} {n : Nat} {v : Value} {Q : Value → Shared → Prop}
    (F : Fr h₀ L s.heap m) (N : News h₀ L s.heap ((D, W.listOf vs.toArray n) :: led)) (hne : ∀ p ∈ led, p.1 ≠ D) (hsz : vs.length ≤ 1000000)
    (h : ∀ h', Fr h₀ L h' m → News h₀ L h' ((D, W.listOf (vs ++ [v]).toArray (n + 1)) :: led) → Q .none { s with heap := h' }) : wpAny (model prog w) A (PySem.call (.builtin "list.append") [.ref D, v]) Q E s := by
  refine append_K F N (.head hne) (fun h' F' N' => h h' F' ?_) (by rw [List.size_toArray, sizeLine_eq]; walk_at "mine omega")
  simpa using N'
noncomputable def delRows : Option Nat → List Str
  | none => []
  | some d => [Str.ofString "Crawl-delay: " ++ Str.ofString (toString (d : Int))]
mutual
noncomputable def strR : Rec → Str
  | .mk ags dl rules => if ags.isEmpty then Str.ofString "" else PySem.Builtin.Str.glued (Str.ofString "\n") (ags.map (fun a => Str.ofString "User-agent: " ++ a) ++ delRows dl ++ (if rules.isEmpty then [Str.ofString "Allow:"] else strRs rules))
noncomputable def strRs : List Rec → List Str
  | [] => []
  | r :: rs => strR r :: strRs rs
end
mutual
noncomputable def hR : Rec → Nat
  | .mk _ _ rules => 1 + hRs rules
noncomputable def hRs : List Rec → Nat
  | [] => 0
  | r :: rs => max (hR r) (hRs rs)
end
mutual
noncomputable def okR : Rec → Bool
  | .mk ags dl rules => ags.all (fun a => a.length ≤ 30) && ags.length ≤ 100 && (match dl with | none => true | some d => decide (d < 1000)) && rules.length ≤ 100 && okRs rules
noncomputable def okRs : List Rec → Bool
  | [] => true
  | r :: rs => okR r && okRs rs
end
mutual
noncomputable def wtR : Rec → Nat
  | .mk ags _ rules => (ags.map fun a => a.length + 14).sum + 40 + wtRs rules
noncomputable def wtRs : List Rec → Nat
  | [] => 0
  | r :: rs => wtR r + 1 + wtRs rs
end
noncomputable abbrev At (h : Heap) : Addr → Obj → Prop := fun a o => h.get? a = some o
theorem strl_values {vs : List Value} {xs : List Str} (h : StrL vs xs) : ∃ l : List (Str × Tok), vs = strValues l ∧ xs = l.map (·.1) := by
  induction h with
  | nil => exact ⟨[], rfl, rfl⟩
  | cons x t h ih => obtain ⟨l, e1, e2⟩ := ih; exact ⟨(x, t) :: l, by rw [e1]; rfl, by rw [e2]; rfl⟩
theorem fold_len (k : Nat) (l : List Str) : ∀ n, l.toArray.foldl (fun a x => a + x.length + k) n = n + (l.map fun x => x.length + k).sum := by
  induction l with
  | nil => intro n; rfl
  | cons x xs ih =>
    intro n
    have := ih (n + x.length + k)
    simp only [List.foldl_toArray] at this ⊢
    rw [List.foldl_cons, this, List.map_cons, List.sum_cons]
    walk_at "mine omega"
theorem glued_fold (sep : Str) (l : List Str) : ∀ acc : Array Nat, (l.foldl (fun acc (p : Str) => acc ++ sep.cps ++ p.cps) acc).size = acc.size + (l.map fun x => x.length + sep.length).sum := by
  induction l with
  | nil => intro acc; rfl
  | cons x xs ih =>
    intro acc
    rw [List.foldl_cons, ih, List.map_cons, List.sum_cons, Array.size_append, Array.size_append]
    show acc.size + sep.cps.size + x.cps.size + _ = acc.size + (x.cps.size + sep.cps.size + _)
    walk_at "mine omega"
theorem glued_length (sep : Str) (l : List Str) : (PySem.Builtin.Str.glued sep l).length ≤ (l.map fun x => x.length + sep.length).sum := by
  cases l with
  | nil => exact Nat.le_refl 0
  | cons x xs =>
    have := glued_fold sep xs x.cps
    show (xs.foldl (fun acc (p : Str) => acc ++ sep.cps ++ p.cps) x.cps).size ≤ _
    rw [this, List.map_cons, List.sum_cons]
    show x.cps.size + _ ≤ x.cps.size + _ + _
    walk_at "mine omega"
theorem join_strl {prog : Program} {w : World} {A : Around} {E : Value → Shared → Prop} {s : Shared} {a : Addr} {vs : List Value} {xs : List Str} {sep : Str} {t0 : Tok} {Q : Value → Shared → Prop} (hv : StrL vs xs) (hl : s.heap.IsList a vs.toArray) (hlen : (xs.map fun x => x.length + sep.length).sum ≤ 16777216)
    (h : ∀ t tk', Q (.str (PySem.Builtin.Str.glued sep xs) t) { s with toks := tk' }) : wpAny (model prog w) A (PySem.call (.builtin "str.join") [.str sep t0, .ref a]) Q E s := by
  (try refine opg fun gG hgG => ?_); (obtain ⟨l, rfl, rfl⟩ := strl_values hv); (try (refine hgG ?_; clear hgG gG))
  refine call_meets PySem.F.slot_str_join (typeIs_str _ _ _) PySem.F.entry_str_join (PySem.F.args_str_join_2 _ _) (meets_str_join_list sep t0 a l ?_) ⟨hl, ?_⟩
  · rw [fold_len, Nat.zero_add]
    unfold PySem.Builtin.Str.tooLong
    rw [sizeLine_eq]
    exact decide_eq_false (by walk_at "mine omega")
  · match l with
    | [] => exact ⟨by rw [sizeLine_eq]; exact Nat.le_trans (glued_length sep []) hlen, h _ _⟩
    | [p] => exact h _ _
    | p :: q :: r => exact ⟨by rw [sizeLine_eq]; exact Nat.le_trans (glued_length sep _) hlen, h _ _⟩
theorem RecsIn.get {w : World} {C : Addr → Obj → Prop} {vs : List Value} {rs : List Rec} (h : RecsIn w C vs rs) {i : Nat} {v : Value} (hv : vs[i]? = some v) : ∃ r, rs[i]? = some r ∧ RecIn w C v r := by
  induction vs generalizing rs i with
  | nil => cases hv
  | cons u us ih => cases h with | cons a b => cases i with
    | zero => exact ⟨_, rfl, (Option.some.inj hv) ▸ a⟩
    | succ i => exact ih b hv
theorem strRs_get {rs : List Rec} {i : Nat} {r : Rec} (h : rs[i]? = some r) : (strRs rs)[i]? = some (strR r) := by
  induction rs generalizing i with
  | nil => cases h
  | cons a as ih => unfold strRs; cases i with
    | zero => rw [Option.some.inj h]; rfl
    | succ i => exact ih h
theorem strRs_length (rs : List Rec) : (strRs rs).length = rs.length := by
  induction rs with
  | nil => rfl
  | cons a as ih => unfold strRs; rw [List.length_cons, List.length_cons, ih]
theorem strl_of {vs : List Value} : ∀ {xs : List Str}, vs.length = xs.length → (∀ (j : Nat) (v : Value), vs[j]? = some v → ∃ x t, xs[j]? = some x ∧ v = .str x t) → StrL vs xs := by
  induction vs with
  | nil => intro xs h1 h2; cases xs with
    | nil => exact .nil
    | cons x xs => cases h1
  | cons v vs ih => intro xs h1 h2; cases xs with
    | nil => cases h1
    | cons x xs =>
      (try refine opg fun gG hgG => ?_); (obtain ⟨x', t, e1, rfl⟩ := h2 0 v rfl); (try (refine hgG ?_; clear hgG gG))
      obtain rfl := Option.some.inj e1
      exact .cons _ _ (ih (Nat.succ.inj h1) fun j v hv => h2 (j + 1) v hv)
theorem StrL.app {vs us : List Value} {xs ys : List Str} (h : StrL vs xs) (h' : StrL us ys) : StrL (vs ++ us) (xs ++ ys) := by
  induction h with
  | nil => exact h'
  | cons y u h ih => exact .cons y u ih
theorem RecIn.inst {w : World} {C : Addr → Obj → Prop} {v : Value} {r : Rec} (h : RecIn w C v r) : ∃ y dx es n, v = .ref y ∧ C y (instObj 110 dx) ∧ C dx (dictOf es n) := by
  cases h with
  | mk a b _ _ _ _ _ => exact ⟨_, _, _, _, rfl, a, b⟩
theorem hRs_le {rs : List Rec} {r : Rec} (h : r ∈ rs) : hR r ≤ hRs rs := by
  induction rs with
  | nil => cases h
  | cons a as ih => unfold hRs; rcases List.mem_cons.mp h with rfl | h
                    · exact Nat.le_max_left _ _
                    · exact Nat.le_trans (ih h) (Nat.le_max_right _ _)
theorem okRs_of {rs : List Rec} (ho : okRs rs = true) {r : Rec} (h : r ∈ rs) : okR r = true := by
  induction rs with
  | nil => cases h
  | cons a as ih => unfold okRs at ho; rcases List.mem_cons.mp h with rfl | h
                    · exact (Bool.and_eq_true_iff.mp ho).1
                    · exact ih (Bool.and_eq_true_iff.mp ho).2 h
theorem wtRs_le {rs : List Rec} {r : Rec} (h : r ∈ rs) : wtR r ≤ wtRs rs := by
  induction rs with
  | nil => cases h
  | cons a as ih => unfold wtRs; rcases List.mem_cons.mp h with rfl | h
                    · walk_at "mine omega"
                    · have := ih h; walk_at "mine omega"
theorem len_ofNat (d : Nat) (h : d < 1000) : (Str.ofString (toString (d : Int))).length ≤ 3 := by
  have : ∀ d, d < 1000 → (Str.ofString (toString ((d : Nat) : Int))).length ≤ 3 := by decide +kernel
  exact this d h
theorem str_append_len (a b : Str) : (a ++ b).length = a.length + b.length := Array.size_append ..
theorem delRows_len {dl : Option Nat} (h : ∀ d, dl = some d → d < 1000) : ((delRows dl).map fun x => x.length + 1).sum ≤ 20 := by
  cases dl with
  | none => decide
  | some d =>
    have := len_ofNat d (h d rfl)
    unfold delRows
    rw [List.map_cons, List.map_nil, List.sum_cons, List.sum_nil, str_append_len]
    have e : (Str.ofString "Crawl-delay: ").length = 13 := by decide +kernel
    walk_at "mine omega"
theorem agRows_len (ags : List Str) : ((ags.map (fun a => Str.ofString "User-agent: " ++ a)).map fun x => x.length + 1).sum ≤ (ags.map fun a => a.length + 14).sum := by
  induction ags with
  | nil => exact Nat.le_refl _
  | cons a as ih =>
    simp only [List.map_cons, List.sum_cons, str_append_len] at ih ⊢
    have e : (Str.ofString "User-agent: ").length = 12 := by decide +kernel
    walk_at "mine omega"
theorem nl_len : (Str.ofString "\n").length = 1 := by decide +kernel
mutual
theorem strR_len : ∀ (r : Rec), okR r = true → (strR r).length ≤ wtR r
  | .mk ags dl rules, hok => by
    unfold okR at hok
    simp only [Bool.and_eq_true, List.all_eq_true, decide_eq_true_eq] at hok
    have h1 := strRs_len rules hok.2
    have h2 := delRows_len (dl := dl) fun d e => by have := hok.1.1.2; rw [e] at this; exact of_decide_eq_true this
    have h3 := agRows_len ags
    unfold strR wtR
    split
    · have : (Str.ofString "").length = 0 := by decide +kernel
      walk_at "mine omega"
    · refine Nat.le_trans (glued_length _ _) ?_
      rw [nl_len, List.map_append, List.map_append, List.sum_append, List.sum_append]
      split
      · have : (List.map (fun x => x.length + 1) [Str.ofString "Allow:"]).sum = 7 := by decide +kernel
        walk_at "mine omega"
      · walk_at "mine omega"
theorem strRs_len : ∀ (rs : List Rec), okRs rs = true → ((strRs rs).map fun x => x.length + 1).sum ≤ wtRs rs
  | [], _ => by unfold strRs wtRs; exact Nat.le_refl _
  | r :: rs, hok => by
    unfold okRs at hok
    have h1 := strR_len r (Bool.and_eq_true_iff.mp hok).1
    have h2 := strRs_len rs (Bool.and_eq_true_iff.mp hok).2
    unfold strRs wtRs
    rw [List.map_cons, List.sum_cons]
    walk_at "mine omega"
end
theorem extend_strs {w : World} {p : Program} {loose : List Str} {mean : ExcName → Option Value} {mg mb : Str → Option Value} {c u : Nat}
    {dp un : Nat} {gd : Option (List Code)} {cn : Str} {cs : Scope} {ea : Addr} {ccd : Value} {cl : List (Str × Addr)} {outer : List Env} {A₀ : Around} {base h₀ : Heap} {L : Addr} {m : Str → Option Value} {s : Shared} {Q E : Value → Shared → Prop}
    {M T J lt lr : Addr} {rs rows : List Value} {rules : List Rec} {n n2 : Nat}
    (B : Below A₀ base outer h₀) (F : Fr h₀ L s.heap m) (X : (hd.heap_1 w.params).In h₀) (Tp : Top p loose mean mg mb h₀) (hk : cs.kind = .function) (N : News h₀ L s.heap [(lt, W.listOf rows.toArray n)])
    (hM : IsMapO s.heap M T (.type "str")) (hT : IsOne s.heap T (.ref J)) (hJ : s.heap.IsListIter J lr 0) (hlr : h₀.get? lr = some (W.listOf rs.toArray n2)) (hrs : RecsIn w (At h₀) rs rules)
    (hMJ : J ≠ M) (hTJ : T ≠ J) (hM0 : h₀.objs.size ≤ M) (hT0 : h₀.objs.size ≤ T) (hJ0 : h₀.objs.size ≤ J) (hLM : L ≠ M) (hLT : L ≠ T) (hLJ : L ≠ J) (hlM : lt ≠ M) (hlT : lt ≠ T) (hlJ : lt ≠ J)
    (hih : ∀ r ∈ rules, ∀ x, Spec w p loose mean mg mb 93 c u [.ref x] (fun h => RecIn w (At h) (.ref x) r) (fun h h' v => ∃ t, v = .str (strR r) t))
    (hdc : dp + c < recursionLimit) (hu : un + 10 + u < cLine) (hrl : rows.length ≤ 10000) (hrs2 : rs.length ≤ 10000)
    (ret : ∀ h' tk vs n', Fr h₀ L h' m → News h₀ L h' [(lt, W.listOf (rows ++ vs).toArray n')] → StrL vs (strRs rules) → Q .none { s with heap := h', toks := tk }) :
    wpAny (model PySem.Challenge.rw_jc0012_01.row.prog w) (ktrTop dp un gd cn cs L ea ccd cl outer) (PySem.call (.builtin "list.extend") [.ref lt, .ref M]) Q E s := by
  revert X N Tp; k_fill; intro X Tp N
  have hstr : findIn (hd.heap_1 w.params) (.ref 110) (Str.ofString "__str__") = some (some (.ref 93)) := by k_dflt k_is
  have hfn : isFn (hd.heap_1 w.params) (.ref 93) = true := by k_dflt k_is
  have hlt := N (lt, _) (.head _)
  have hnot : ∀ {a : Addr}, h₀.objs.size ≤ a → h₀.get? a = none := fun {a} h => by
    cases e : h₀.get? a with
    | none => rfl
    | some o => exact absurd (Heap.lt_size e) (Nat.not_lt.mpr h)
  have hlr0 : lr < h₀.objs.size := Heap.lt_size hlr
  have W := walks_map (prog := PySem.Challenge.rw_jc0012_01.row.prog) (w := w) (A := (ktrTop dp un gd cn cs L ea ccd cl outer).in1) rfl (M := M) (T := T) (J := J) (l := lr) (xs := rs.toArray) (f := .type "str") (P := fun i v => ∃ r t, rules[i]? = some r ∧ v = .str (strR r) t)
    (Inv := fun h => Fr h₀ L h m) (own := L :: (List.range h₀.objs.size).filter fun a => (h₀.get? a).isSome) hMJ hTJ (fun e => Nat.not_lt.mpr hJ0 (e ▸ hlr0)) (by
      intro hm
      rcases List.mem_cons.mp hm with e | e
      · exact hLJ e.symm
      · exact Nat.not_lt.mpr hJ0 (List.mem_range.mp (List.mem_filter.mp e).1))
    (fun h h' F hkp => ⟨F.ns.at' fun o e => hkp L (.head _) o e, fun b o e => hkp b (.tail _ (List.mem_filter.mpr ⟨List.mem_range.mpr (Heap.lt_size e), by rw [e]; rfl⟩)) o (F.keep b o e), F.above⟩)
    (by
      intro i x hx s' Q' E' F' hQ
      (try refine opg fun gG hgG => ?_); (obtain ⟨r, hr, hin⟩ := hrs.get (by simpa using hx)); (try (refine hgG ?_; clear hgG gG))
      have hmr := List.mem_of_getElem? hr
      have hp2 := hin.inst
      refine p4_3 ?_ hp2
      (try clear hp2)
      intro y dy es ne hq1 hx' hdx'
      subst hq1
      refine kso_call (K := hd.heap_1 w.params) (f := 93) (by show un + 1 + 1 + 1 + 1 < cLine; walk_at "mine omega") (X.keeps F'.keep) (InstAt.of_fr F' hx' hdx') hstr hfn ?_
      refine Spec.call (un := un + 1 + 1 + 1 + 1) (hih r hmr y) B F' X News.nil Tp hk (hin.mono fun a o e => F'.keep a o e) hdc (by walk_at "mine omega") fun v h2 tk2 F2 _ k2 post => ?_
      (try refine opg fun gG hgG => ?_); (obtain ⟨t, rfl⟩ := post); (try (refine hgG ?_; clear hgG gG))
      exact hQ _ h2 tk2 ⟨r, t, hr, rfl⟩ k2)
  refine extend_walk (T := "map") (its := rows.toArray) W ⟨_, hM, rfl⟩ (by decide) (by decide) map_no_len map_no_hint ⟨hM, hT, hJ, ⟨_, F.keep _ _ hlr, rfl, n2, rfl⟩, F⟩ ?_ hlM hlt.1 (by simp only [List.size_toArray]; walk_at "mine omega") fun h' tk vs c' hkp hD hvl hvs => ?_
  · intro hm
    simp only [List.mem_cons, List.mem_filter] at hm
    rcases hm with e | e | e | e | e | e
    · exact hlM e
    · exact hlT e
    · exact hlJ e
    · have := hlt.2.2; rw [e, hlr] at this; cases this
    · exact hlt.2.1 e
    · have := e.2; rw [hlt.2.2] at this; cases this
  · refine ret h' tk vs c' ⟨F.ns.at' fun o e => hkp _ _ (Ne.symm hlt.2.1) (by simp [hLJ]) e, fun b o e => hkp _ _ ?_ ?_ (F.keep _ _ e), F.above⟩ ?_ ?_
    · intro q; rw [q, hlt.2.2] at e; cases e
    · intro q; rw [List.mem_singleton.mp q, hnot hJ0] at e; cases e
    · intro p hp
      rw [List.mem_singleton.mp hp]
      exact ⟨by simpa using hD, hlt.2⟩
    · refine strl_of (by rw [hvl, strRs_length, List.size_toArray, hrs.length]) fun j v hv => ?_
      (try refine opg fun gG hgG => ?_); (obtain ⟨r, t, hr, rfl⟩ := hvs j v hv); (try (refine hgG ?_; clear hgG gG))
      exact ⟨_, t, strRs_get hr, rfl⟩
theorem extend_strsK {w : World} {p : Program} {loose : List Str} {mean : ExcName → Option Value} {mg mb : Str → Option Value} {c u : Nat}
    {dp un : Nat} {gd : Option (List Code)} {cn : Str} {cs : Scope} {ea : Addr} {ccd : Value} {cl : List (Str × Addr)} {outer : List Env} {A₀ : Around} {base h₀ h9 : Heap} {L : Addr} {m : Str → Option Value} {s : Shared} {Q E : Value → Shared → Prop}
    {k : Nat} {lt lr : Addr} {rs rows : List Value} {rules : List Rec} {n n2 : Nat}
    (B : Below A₀ base outer h₀) (F : Fr h₀ L s.heap m) (X : (hd.heap_1 w.params).In h₀) (Tp : Top p loose mean mg mb h₀) (hk : cs.kind = .function) (N : News h₀ L s.heap [(lt, W.listOf rows.toArray n)])
    (F9 : Fr h₀ L h9 m) (N9 : News h₀ L h9 [(lt, W.listOf rows.toArray n)]) (hk9 : k = h9.objs.size)
    (hM : IsMapO s.heap (k + 2) (k + 1) (.type "str")) (hT : IsOne s.heap (k + 1) (.ref k)) (hJ : s.heap.IsListIter k lr 0) (hlr : h₀.get? lr = some (W.listOf rs.toArray n2)) (hrs : RecsIn w (At h₀) rs rules)
    (hih : ∀ r ∈ rules, ∀ x, Spec w p loose mean mg mb 93 c u [.ref x] (fun h => RecIn w (At h) (.ref x) r) (fun h h' v => ∃ t, v = .str (strR r) t))
    (hdc : dp + c < recursionLimit) (hu : un + 10 + u < cLine) (hrl : rows.length ≤ 10000) (hrs2 : rs.length ≤ 10000)
    (ret : ∀ h' tk vs n', Fr h₀ L h' m → News h₀ L h' [(lt, W.listOf (rows ++ vs).toArray n')] → StrL vs (strRs rules) → Q .none { s with heap := h', toks := tk }) :
    wpAny (model PySem.Challenge.rw_jc0012_01.row.prog w) (ktrTop dp un gd cn cs L ea ccd cl outer) (PySem.call (.builtin "list.extend") [.ref lt, .ref (k + 2 : Nat)]) Q E s := by
  have a1 : @LE.le Nat _ h₀.objs.size L := F9.above
  have a2 : @LT.lt Nat _ L k := by rw [hk9]; exact F9.ns.lt
  have a3 : @LT.lt Nat _ lt k := by rw [hk9]; exact Heap.lt_size (N9 _ (.head _)).1
  have ne : ∀ {a b : Nat}, a < b → (a : Addr) ≠ b := fun h => Nat.ne_of_lt h
  exact extend_strs B F X Tp hk N hM hT hJ hlr hrs (ne (by walk_at "mine omega")) (Nat.ne_of_gt (by walk_at "mine omega")) (by show @LE.le Nat _ _ _; walk_at "mine omega") (by show @LE.le Nat _ _ _; walk_at "mine omega") (by show @LE.le Nat _ _ _; walk_at "mine omega") (ne (by walk_at "mine omega")) (ne (by walk_at "mine omega")) (ne a2) (ne (by walk_at "mine omega")) (ne (by walk_at "mine omega")) (ne a3) hih hdc hu hrl hrs2 ret
theorem spec_str {w : World} {p : Program} {loose : List Str} {mean : ExcName → Option Value} {mg mb : Str → Option Value} :
  ∀ (f : Nat) (rec : Rec), hR rec ≤ f → okR rec = true → wtR rec ≤ 1000000 → ∀ (x : Addr),
    Spec w p loose mean mg mb 93 (f + 2) (20 * f + 80) [.ref x] (fun h => RecIn w (At h) (.ref x) rec)
      (fun h h' r => ∃ t, r = .str (strR rec) t) := by
  intro f
  induction f with
  | zero => intro rec h; cases rec; unfold hR at h; walk_at "mine omega"
  | succ f ih =>
  intro rec hrec hok hwt x
  intro dp un gd cn cs ea ccd cl outer A₀ base h₀ L m s R B F X T hk hpre hdp hu ret
  cases hpre with
  | @mk _ dx lu lr t1 t2 t3 t4 dv us rs n1 n2 ags dl rules hx hdx hlu hlr hus hdl hrs =>
  dsimp only [At] at hx hdx hlu hlr
  revert X T; k_fill; intro X T
  refine' code_pure (binds := [(Str.ofString "self", .ref x)]) ?k1 ?k2 ?k3 ?k5 ?kA ?kF ?kK ?k6 ?k7 ?k8 ?k9 ?kB ?_ ?c2 ?c3 ?c4 ?c5
  case kA => exact rfl
  case kF => exact rfl
  case kK => assumption
  case k2 => k_asm
  case k1 => k_asm
  case k3 => k_asm
  case k5 => k_asm
  case k6 => k_dflt k_is
  case k7 => k_dflt k_is
  case k8 => ktr_room
  case k9 => exact BindsTo.of_eq rfl
  case c5 => decide
  case kB => exact locs rfl
  case c2 => exact rfl
  case c3 => exact rfl
  case c4 => exact rfl
  intro L' h' F' N' B' X' T'
  refine wpAny_mono (Q := fun fl s' => R (.ok (.ret (match fl with | .ret v => v | _ => .none))) s') (E := fun _ _ => False) ?_ (fun _ _ x => x) (fun _ _ x => x.elim)
  clear B F X T
  replace F' := Fr.as F' (m' := fun y => if y = Str.ofString "self" then some (.ref x) else none) (by first | exact look_rev _ rfl | (funext y; first | rfl | ((try simp only [List.reverse_cons, List.reverse_nil, List.nil_append, List.cons_append, List.lookup]); (repeat' split) <;> first | rfl | (simp_all; done) | (subst_vars; simp_all; done) | (simp_all (decide := true); done))))
  (try dsimp only)
  (try k_fold)
  generalize s.gens = gs0 at ret ⊢
  generalize s.drawn = ds0 at ret ⊢
  generalize s.os = os0 at ret ⊢
  (try generalize s.toks + _ = tk0)
  refine (let AE : Env := _; let AA : Around := Around.deeper _ AE; let QQ : Flow → Shared → Prop := _; (?kL : wpAny _ AA (execs _ AE) QQ _ _))
  obtain ⟨ho1, ho2, ho3, ho4, ho5⟩ : (∀ a ∈ ags, a.length ≤ 30) ∧ ags.length ≤ 100 ∧ (∀ d, dl = some d → d < 1000) ∧ rules.length ≤ 100 ∧ okRs rules = true := by
    unfold okR at hok
    simp only [Bool.and_eq_true, List.all_eq_true, decide_eq_true_eq] at hok
    refine ⟨hok.1.1.1.1, hok.1.1.1.2, fun d e => ?_, hok.1.2, hok.2⟩
    have := hok.1.1.2
    rw [e] at this
    exact of_decide_eq_true this
  have husl := StrL.length hus
  have hrsl := hrs.length
  have hLu : Heap.IsList s.heap lu us.toArray := ⟨_, hlu, rfl, n1, rfl⟩
  have hLr : Heap.IsList s.heap lr rs.toArray := ⟨_, hlr, rfl, n2, rfl⟩
  have hneR : rs.toArray.isEmpty = rules.isEmpty := by cases hrs <;> rfl
  have hne : us.toArray.isEmpty = ags.isEmpty := by cases hus <;> rfl
  repeat ((fail_if_success (with_reducible show wpAny _ _ (truthy _) _ _ _)); (first | (k_unfold; (try dsimp only)) | ((try dsimp only); walk1) | (leave1; (try dsimp only))))
  rename Fr _ _ _ _ => F1
  rename News _ _ _ _ => N1
  have hLu1 := isList_keep F1 hLu
  refine wpAny_truthy_list (items := us.toArray) ?hl ?hz ?_
  case hl => exact hLu1
  case hz => rw [List.size_toArray, husl]; walk_at "mine omega"
  rw [hne]
  cases hag : ags.isEmpty with
  | true =>
    dsimp only [Bool.not_true, Bool.not_false]
    walk_at "mine steps"
    rename Fr _ _ _ _ => F2
    exact ret _ _ _ F2.keep ⟨_, by unfold strR; rw [hag]; rfl⟩
  | false =>
  dsimp only [Bool.not_true, Bool.not_false]
  walk_at "mine steps"
  rename Fr _ _ _ _ => F2
  rename News _ _ _ _ => N2
  (try refine opg fun gG hgG => ?_); (obtain ⟨lt, F3, N3⟩ : ∃ lt, Fr s.heap L' _ (fun y => if y = Str.ofString "ret" then some (Value.ref lt) else if y = Str.ofString "self" then some (Value.ref x) else none) ∧ News s.heap L' _ [(lt, W.listOf #[] 0)] := ⟨_, F2, N2⟩); (try (refine hgG ?_; clear hgG gG))
  have hLu2 := isList_keep F3 hLu
  (try clear F2); (try clear N2)
  refine iter_list [] rfl hLu2 (Stood.base hlu) F3 N3 News.nil (fun i m led => ∃ (rows : List Value) (n : Nat) (u : Option Value), led = [(lt, W.listOf rows.toArray n)] ∧ StrL rows ((ags.take i).map fun a => Str.ofString "User-agent: " ++ a) ∧ m = fun y => if y = Str.ofString "agent" then u else if y = Str.ofString "ret" then some (Value.ref lt) else if y = Str.ofString "self" then some (Value.ref x) else none)
    ⟨[], 0, none, rfl, .nil, by (first | (refine map1 (Str.ofString "agent") rfl ?_; intro y h0; ((repeat (first | with_reducible rfl | refine Eq.trans (if_neg (by assumption)) ?_ | refine Eq.trans ?_ (if_neg (by assumption)).symm)); done)) | (funext y; by_cases h0 : y = Str.ofString "agent"; (subst h0; rfl); simp only [if_neg h0]))⟩ ?_ ?_
  · rintro i v m₁ led₁ h tk I oI hI hi hv hj3 hn' F6 N6 gs ds oss Qt hQt
    refine p3_3 ?_ hj3
    (try clear hj3)
    intro rows n u hq4 hrows hq5
    subst hq4
    subst hq5
    (try replace F6 : Fr _ L' _ _ := F6); (try replace N6 : News _ L' _ _ := N6)
    (try (refine (let mm : Str → Option Value := _; have Fx : Fr _ L' _ mm := F6; ?_); clear F6; rename Fr _ _ _ _ => F6))
    (try refine opg fun gG hgG => ?_); (obtain ⟨a, ta, ha, rfl⟩ := hus.get hv); (try (refine hgG ?_; clear hgG gG))
    have hal := ho1 a (List.mem_of_getElem? ha)
    have hrl : rows.length ≤ 100 := by rw [hrows.length, List.length_map, List.length_take]; walk_at "mine omega"
    (try clear F3); (try clear N3)
    walk_at "mine steps"
    rename Fr _ _ _ _ => F7
    rename News _ _ _ _ => N7
    have N8 := news_sub (l' := [(lt, W.listOf rows.toArray n), (I, oI)]) N7 (by first | walk_at "mine sub" | simp)
    refine append_led F7 N8 (by simpa using fun e : I = lt => hn' (lt, _) (.head _) e.symm) (by walk_at "mine omega") fun h9 F9 N9 => ?_
    dsimp only
    walk_at "mine steps"
    (try refine opg fun gG hgG => ?_); (obtain ⟨tq, N9⟩ : ∃ tq, News s.heap L' h9 ((lt, W.listOf (rows ++ [Value.str (Str.ofString "User-agent: " ++ a) tq]).toArray (n + 1)) :: [(I, oI)]) := ⟨_, N9⟩); (try (refine hgG ?_; clear hgG gG))
    refine hQt _ _ ?_
    refine TurnEnd.next F9 (news_sub N9 (by first | walk_at "mine sub" | simp)) (news_sub (l' := [(lt, W.listOf (rows ++ [Value.str (Str.ofString "User-agent: " ++ a) tq]).toArray (n + 1))]) N9 (by first | walk_at "mine sub" | simp)) (by simpa using hn' (lt, _) (.head _)) ⟨_, _, _, rfl, ?_, by (first | (refine map1 (Str.ofString "agent") rfl ?_; intro y h0; ((repeat (first | with_reducible rfl | refine Eq.trans (if_neg (by assumption)) ?_ | refine Eq.trans ?_ (if_neg (by assumption)).symm)); done)) | (funext y; by_cases h0 : y = Str.ofString "agent"; (subst h0; rfl); simp only [if_neg h0]))⟩
    rw [List.take_add_one, ha, List.map_append]
    exact hrows.snoc _ _
  · rintro h5 tk5 m5 led5 F5 N5 hj6
    refine p3_3 ?_ hj6
    (try clear hj6)
    intro rows n u hq7 hrows hq8
    subst hq7
    subst hq8
    (try replace F5 : Fr _ L' _ _ := F5); (try replace N5 : News _ L' _ _ := N5)
    (try (refine (let mm : Str → Option Value := _; have Fx : Fr _ L' _ mm := F5; ?_); clear F5; rename Fr _ _ _ _ => F5))
    rw [husl, List.take_length] at hrows
    rw [List.nil_append] at N5
    have hrl : rows.length ≤ 100 := by rw [hrows.length, List.length_map]; walk_at "mine omega"
    (try clear F3); (try clear N3)
    dsimp only
    repeat ((fail_if_success (with_reducible show wpAny _ _ (getAttr _ _ _) _ _ _)); (first | (k_unfold; (try dsimp only)) | ((try dsimp only); walk1) | (leave1; (try dsimp only))))
    cases dl with
    | none =>
      cases dv <;> first | exact hdl.elim | skip
      repeat ((fail_if_success (with_reducible show wpAny _ _ (truthy (Value.ref _)) _ _ _)); (first | (k_unfold; (try dsimp only)) | ((try dsimp only); walk1) | (leave1; (try dsimp only))))
      rename Fr _ _ _ _ => F10
      rename News _ _ _ _ => N10
      obtain ⟨rows2, nn, N11, hrows2⟩ : ∃ rows2 nn, News s.heap L' _ [(lt, W.listOf rows2.toArray nn)] ∧ StrL rows2 (ags.map (fun a => Str.ofString "User-agent: " ++ a) ++ delRows none) := ⟨rows, n, N10, by unfold delRows; rw [List.append_nil]; exact hrows⟩
      have hl2 : rows2.length ≤ 101 := by
        rw [hrows2.length, List.length_append, List.length_map]
        have : (delRows none).length ≤ 1 := by first | exact Nat.le_refl 1 | exact Nat.zero_le _
        walk_at "mine omega"
      refine wpAny_truthy_list (items := rs.toArray) ?hlt1 ?hz1 ?_
      case hlt1 => exact isList_keep F10 hLr
      case hz1 => rw [List.size_toArray, hrsl]; walk_at "mine omega"
      rw [hneR]
      cases hru : rules.isEmpty with
      | true =>
        dsimp only [Bool.not_true, Bool.not_false]
        repeat ((fail_if_success (with_reducible show wpAny _ _ (PySem.call (Value.builtin "list.append") _ _) _ _ _)); (first | (k_unfold; (try dsimp only)) | ((try dsimp only); walk1) | (leave1; (try dsimp only))))
        refine append_led F10 N11 (fun p hp => nomatch hp) (by walk_at "mine omega") fun h12 F12 N12 => ?_
        dsimp only
        repeat ((fail_if_success (with_reducible show wpAny _ _ (PySem.call (Value.builtin "str.join") _ _) _ _ _)); (first | (k_unfold; (try dsimp only)) | ((try dsimp only); walk1) | (leave1; (try dsimp only))))
        (try refine opg fun gG hgG => ?_); (obtain ⟨tA, N12⟩ : ∃ tA, News s.heap L' h12 [(lt, W.listOf (rows2 ++ [Value.str (Str.ofString "Allow:") tA]).toArray (nn + 1))] := ⟨_, N12⟩); (try (refine hgG ?_; clear hgG gG))
        refine join_strl (xs := ags.map (fun a => Str.ofString "User-agent: " ++ a) ++ delRows none ++ [Str.ofString "Allow:"]) (hrows2.snoc (Str.ofString "Allow:") tA) ?hlj1 ?hlen1 fun t tk' => ?_
        case hlj1 => exact ⟨_, (N12 _ (.head _)).1, rfl, _, rfl⟩
        case hlen1 =>
          have h1 := agRows_len ags
          have h2 := delRows_len ho3
          have h3 : (List.map (fun x => x.length + 1) [Str.ofString "Allow:"]).sum = 7 := by decide +kernel
          unfold wtR at hwt
          rw [nl_len, List.map_append, List.map_append, List.sum_append, List.sum_append]
          walk_at "mine omega"
        refine ret _ _ _ F12.keep ⟨t, ?_⟩
        unfold strR
        rw [hag, hru]
        rfl
      | false =>
        dsimp only [Bool.not_true, Bool.not_false]
        repeat ((fail_if_success (with_reducible show wpAny _ _ (PySem.call (Value.type "map") _ _) _ _ _)); (first | (k_unfold; (try dsimp only)) | ((try dsimp only); walk1) | (leave1; (try dsimp only))))
        refine call_map (xs := rs.toArray) ?hlm1 fun h13 hM hT hJ hsz hk13 => ?_
        case hlm1 => exact isList_keep F10 hLr
        have F13 := F10.keeps hk13
        have N13 := News.keepsAll N11 hk13
        dsimp only
        repeat ((fail_if_success (with_reducible show wpAny _ _ (PySem.call (Value.builtin "list.extend") _ _) _ _ _)); (first | (k_unfold; (try dsimp only)) | ((try dsimp only); walk1) | (leave1; (try dsimp only))))
        refine extend_strsK (c := f + 2) (u := 20 * f + 80) B' F13 X' T' rfl N13 F10 N11 rfl hM hT hJ hlr hrs (fun r hr y => ih r ?hr11 (okRs_of ho5 hr) ?hr21 y) ?hdp1 ?hu1 (by walk_at "mine omega") (by walk_at "mine omega") fun h14 tk14 vs n14 F14 N14 hvs => ?_
        case hr11 => have h1 := hRs_le hr; unfold hR at hrec; walk_at "mine omega"
        case hr21 => have h1 := wtRs_le hr; unfold wtR at hwt; walk_at "mine omega"
        case hdp1 => show dp + 1 + (f + 2) < recursionLimit; walk_at "mine omega"
        case hu1 => show un + 3 + 10 + (20 * f + 80) < cLine; walk_at "mine omega"
        dsimp only
        repeat ((fail_if_success (with_reducible show wpAny _ _ (PySem.call (Value.builtin "str.join") _ _) _ _ _)); (first | (k_unfold; (try dsimp only)) | ((try dsimp only); walk1) | (leave1; (try dsimp only))))
        refine join_strl (xs := ags.map (fun a => Str.ofString "User-agent: " ++ a) ++ delRows none ++ strRs rules) (hrows2.app hvs) ?hlk1 ?hlem1 fun t tk' => ?_
        case hlk1 => exact ⟨_, (N14 _ (.head _)).1, rfl, _, rfl⟩
        case hlem1 =>
          have h1 := agRows_len ags
          have h2 := delRows_len ho3
          have h3 := strRs_len rules ho5
          unfold wtR at hwt
          rw [nl_len, List.map_append, List.map_append, List.sum_append, List.sum_append]
          walk_at "mine omega"
        refine ret _ _ _ F14.keep ⟨t, ?_⟩
        unfold strR
        rw [hag, hru]
        rfl
    | some dn =>
      cases dv <;> first | exact hdl.elim | skip
      rename_i iv tv
      have hiv : iv = (dn : Int) := hdl
      subst hiv
      have hdn := ho3 dn rfl
      repeat ((fail_if_success (with_reducible show wpAny _ _ (PySem.call (Value.builtin "list.append") _ _) _ _ _)); (first | (k_unfold; (try dsimp only)) | ((try dsimp only); walk1) | (leave1; (try dsimp only))))
      rename Fr _ _ _ _ => F8
      rename News _ _ _ _ => N8
      refine append_led F8 N8 (fun p hp => nomatch hp) (by walk_at "mine omega") fun h9 F9 N9 => ?_
      dsimp only
      repeat ((fail_if_success (with_reducible show wpAny _ _ (truthy (Value.ref _)) _ _ _)); (first | (k_unfold; (try dsimp only)) | ((try dsimp only); walk1) | (leave1; (try dsimp only))))
      rename Fr _ _ _ _ => F10
      rename News _ _ _ _ => N10
      (try refine opg fun gG hgG => ?_); (obtain ⟨rows2, nn, N11, hrows2⟩ : ∃ rows2 nn, News s.heap L' _ [(lt, W.listOf rows2.toArray nn)] ∧ StrL rows2 (ags.map (fun a => Str.ofString "User-agent: " ++ a) ++ delRows (some dn)) := ⟨_, _, N10, hrows.snoc _ _⟩); (try (refine hgG ?_; clear hgG gG))
      have hl2 : rows2.length ≤ 101 := by
        rw [hrows2.length, List.length_append, List.length_map]
        have : (delRows (some dn)).length ≤ 1 := by first | exact Nat.le_refl 1 | exact Nat.zero_le _
        walk_at "mine omega"
      refine wpAny_truthy_list (items := rs.toArray) ?hlt2 ?hz2 ?_
      case hlt2 => exact isList_keep F10 hLr
      case hz2 => rw [List.size_toArray, hrsl]; walk_at "mine omega"
      rw [hneR]
      cases hru : rules.isEmpty with
      | true =>
        dsimp only [Bool.not_true, Bool.not_false]
        repeat ((fail_if_success (with_reducible show wpAny _ _ (PySem.call (Value.builtin "list.append") _ _) _ _ _)); (first | (k_unfold; (try dsimp only)) | ((try dsimp only); walk1) | (leave1; (try dsimp only))))
        refine append_led F10 N11 (fun p hp => nomatch hp) (by walk_at "mine omega") fun h12 F12 N12 => ?_
        dsimp only
        repeat ((fail_if_success (with_reducible show wpAny _ _ (PySem.call (Value.builtin "str.join") _ _) _ _ _)); (first | (k_unfold; (try dsimp only)) | ((try dsimp only); walk1) | (leave1; (try dsimp only))))
        (try refine opg fun gG hgG => ?_); (obtain ⟨tA, N12⟩ : ∃ tA, News s.heap L' h12 [(lt, W.listOf (rows2 ++ [Value.str (Str.ofString "Allow:") tA]).toArray (nn + 1))] := ⟨_, N12⟩); (try (refine hgG ?_; clear hgG gG))
        refine join_strl (xs := ags.map (fun a => Str.ofString "User-agent: " ++ a) ++ delRows (some dn) ++ [Str.ofString "Allow:"]) (hrows2.snoc (Str.ofString "Allow:") tA) ?hlj2 ?hlen2 fun t tk' => ?_
        case hlj2 => exact ⟨_, (N12 _ (.head _)).1, rfl, _, rfl⟩
        case hlen2 =>
          have h1 := agRows_len ags
          have h2 := delRows_len ho3
          have h3 : (List.map (fun x => x.length + 1) [Str.ofString "Allow:"]).sum = 7 := by decide +kernel
          unfold wtR at hwt
          rw [nl_len, List.map_append, List.map_append, List.sum_append, List.sum_append]
          walk_at "mine omega"
        refine ret _ _ _ F12.keep ⟨t, ?_⟩
        unfold strR
        rw [hag, hru]
        rfl
      | false =>
        dsimp only [Bool.not_true, Bool.not_false]
        repeat ((fail_if_success (with_reducible show wpAny _ _ (PySem.call (Value.type "map") _ _) _ _ _)); (first | (k_unfold; (try dsimp only)) | ((try dsimp only); walk1) | (leave1; (try dsimp only))))
        refine call_map (xs := rs.toArray) ?hlm2 fun h13 hM hT hJ hsz hk13 => ?_
        case hlm2 => exact isList_keep F10 hLr
        have F13 := F10.keeps hk13
        have N13 := News.keepsAll N11 hk13
        dsimp only
        repeat ((fail_if_success (with_reducible show wpAny _ _ (PySem.call (Value.builtin "list.extend") _ _) _ _ _)); (first | (k_unfold; (try dsimp only)) | ((try dsimp only); walk1) | (leave1; (try dsimp only))))
        refine extend_strsK (c := f + 2) (u := 20 * f + 80) B' F13 X' T' rfl N13 F10 N11 rfl hM hT hJ hlr hrs (fun r hr y => ih r ?hr12 (okRs_of ho5 hr) ?hr22 y) ?hdp2 ?hu2 (by walk_at "mine omega") (by walk_at "mine omega") fun h14 tk14 vs n14 F14 N14 hvs => ?_
        case hr12 => have h1 := hRs_le hr; unfold hR at hrec; walk_at "mine omega"
        case hr22 => have h1 := wtRs_le hr; unfold wtR at hwt; walk_at "mine omega"
        case hdp2 => show dp + 1 + (f + 2) < recursionLimit; walk_at "mine omega"
        case hu2 => show un + 3 + 10 + (20 * f + 80) < cLine; walk_at "mine omega"
        dsimp only
        repeat ((fail_if_success (with_reducible show wpAny _ _ (PySem.call (Value.builtin "str.join") _ _) _ _ _)); (first | (k_unfold; (try dsimp only)) | ((try dsimp only); walk1) | (leave1; (try dsimp only))))
        refine join_strl (xs := ags.map (fun a => Str.ofString "User-agent: " ++ a) ++ delRows (some dn) ++ strRs rules) (hrows2.app hvs) ?hlk2 ?hlem2 fun t tk' => ?_
        case hlk2 => exact ⟨_, (N14 _ (.head _)).1, rfl, _, rfl⟩
        case hlem2 =>
          have h1 := agRows_len ags
          have h2 := delRows_len ho3
          have h3 := strRs_len rules ho5
          unfold wtR at hwt
          rw [nl_len, List.map_append, List.map_append, List.sum_append, List.sum_append]
          walk_at "mine omega"
        refine ret _ _ _ F14.keep ⟨t, ?_⟩
        unfold strR
        rw [hag, hru]
        rfl
end Mine
end
section
theorem Mine.fresh26 : True := by w_top off; trivial
open PySem PySem.W PyProof.Rows PySem.Calls
set_option maxRecDepth 100000
set_option maxHeartbeats 8000000
namespace Mine
noncomputable def topOf (n : Nat) (ags : List Str) (dl : Option Nat) (look : Nat) : Rec := .mk ags dl ((rep (tabOf n)).map fun k => recOf 127 k [nameOf k look] look)
theorem spec_top {w : World} {p : Program} {loose : List Str} {mean : ExcName → Option Value} {mg mb : Str → Option Value} (look n : Nat) (hlook : look < 8) (hn : n < 128) (la : Addr) (t0 t1 : Tok) (ags : List Value) (agents : List Str) (na : Nat) (dv : Value) (dl : Option Nat) (hags : StrL ags agents) (halen : ags.length < 1000) (hdl : DelV dv dl) :
    Spec w p loose mean mg mb 170 140 1300 [.int (n : Int) t0, .ref la, dv, .int (look : Int) t1] (fun h => h.get? la = some (W.listOf ags.toArray na))
      (fun h h' r => ∃ x, r = .ref x ∧ h.get? x = none ∧ RecIn w (fun a o => h.get? a = none ∧ h'.get? a = some o) (.ref x) (topOf n agents dl look)) := by
  intro dp un gd cn cs ea ccd cl outer A₀ base h₀ L m s R B F X T hk hpre hdp hu ret
  revert X T; k_fill; intro X T
  refine' code_pure (binds := [(Str.ofString "number", .int (n : Int) t0), (Str.ofString "agents", .ref la), (Str.ofString "delay", dv), (Str.ofString "look", .int (look : Int) t1)]) ?k1 ?k2 ?k3 ?k5 ?kA ?kF ?kK ?k6 ?k7 ?k8 ?k9 ?kB ?_ ?c2 ?c3 ?c4 ?c5
  case kA => exact rfl
  case kF => exact rfl
  case kK => assumption
  case k2 => k_asm
  case k1 => k_asm
  case k3 => k_asm
  case k5 => k_asm
  case k6 => k_dflt k_is
  case k7 => k_dflt k_is
  case k8 => ktr_room
  case k9 => exact BindsTo.of_eq rfl
  case c5 => decide
  case kB => exact locs rfl
  case c2 => exact rfl
  case c3 => exact rfl
  case c4 => exact rfl
  intro L' h' F' N' B' X' T'
  refine wpAny_mono (Q := fun fl s' => R (.ok (.ret (match fl with | .ret v => v | _ => .none))) s') (E := fun _ _ => False) ?_ (fun _ _ x => x) (fun _ _ x => x.elim)
  clear B F X T
  replace F' := Fr.as F' (m' := fun y => if y = Str.ofString "number" then some (.int (n : Int) t0) else if y = Str.ofString "agents" then some (.ref la) else if y = Str.ofString "delay" then some (dv) else if y = Str.ofString "look" then some (.int (look : Int) t1) else none) (by first | exact look_rev _ rfl | (funext y; first | rfl | ((try simp only [List.reverse_cons, List.reverse_nil, List.nil_append, List.cons_append, List.lookup]); (repeat' split) <;> first | rfl | (simp_all; done) | (subst_vars; simp_all; done) | (simp_all (decide := true); done))))
  (try dsimp only)
  (try k_fold)
  generalize s.gens = gs0 at ret ⊢
  generalize s.drawn = ds0 at ret ⊢
  generalize s.os = os0 at ret ⊢
  (try generalize s.toks + _ = tk0)
  refine (let AE : Env := _; let AA : Around := Around.deeper _ AE; let QQ : Flow → Shared → Prop := _; (?kL : wpAny _ AA (execs _ AE) QQ _ _))
  have hp1 := numOk_spec hn
  refine p0_5 ?_ hp1
  (try clear hp1)
  intro hU1 hU2 hU3 hU4 hU5
  repeat ((fail_if_success (with_reducible show wpAny _ _ (PySem.call (Value.ref 149) _ _) _ _ _)); (first | (k_unfold; (try dsimp only)) | ((try dsimp only); walk1) | (leave1; (try dsimp only))))
  rename Fr _ _ _ _ => F2
  rename News _ _ _ _ => N2
  refine Spec.call (spec_table n t0 (tabOf n) (by walk_at "mine omega") hU1) B' F2 X' N2 T' rfl trivial (by first | exact dlt (a := 1) (b := 2) hdp rfl | (show dp + 1 + 2 < recursionLimit; walk_at "mine omega")) (by first | exact dlt (a := 3) (b := 100) hu rfl | (show un + 3 + 100 < cLine; walk_at "mine omega")) fun r h3 tk3 F3 N3 k3 post => ?_
  refine p3_5 ?_ post
  (try clear post)
  intro d2 o2 τ2 hq2 hlo2 hd20 hd21 hi2
  subst hq2
  have N4 := (NewCells.one hd20 hd21).news F2
  dsimp only
  repeat ((fail_if_success (with_reducible show wpAny _ _ (PySem.call (Value.ref 163) _ _) _ _ _)); (first | (k_unfold; (try dsimp only)) | ((try dsimp only); walk1) | (leave1; (try dsimp only))))
  rename Fr _ _ _ _ => F5
  refine Spec.call (spec_record look hlook 127 n hn (by walk_at "mine omega") d2 la t1 ags agents τ2 na hlo2 hags halen) B' F5 X' N4 T' rfl ⟨Heap.dictOf_iff.mpr ⟨o2, (N4 _ (.head _)).1, hi2⟩, F5.keep _ _ hpre⟩ (by show dp + 1 + (127 + 10) < recursionLimit; walk_at "mine omega") (by show un + 3 + (8 * 127 + 200) < cLine; walk_at "mine omega") fun r h6 tk6 F6 N6 k6 post => ?_
  (try refine opg fun gG hgG => ?_); (obtain ⟨tl, C6, -, x, dx, lu, lr, t11, t12, t13, t14, us, rs, n1, n2, fz, rfl, rfl, hrs, hus, hfd, ldx, lux, lrl⟩ := post); (try (refine hgG ?_; clear hgG gG))
  have N7 := C6.news F5
  have hfda : ∀ p ∈ fz, p.1 ≠ dx := hfd
  dsimp only
  walk_at "mine steps"
  rename Fr _ _ _ _ => F8
  rename News _ _ _ _ => N8
  have hN := fun (q : Addr × Obj) hq => And.intro (N8 q hq).2.2 (N8 q hq).1
  refine ret _ _ _ F8.keep ⟨x, rfl, (hN (x, _) (.tail _ (.tail _ (.head _)))).1, ?_⟩
  exact .mk (hN (x, _) (.tail _ (.tail _ (.head _)))) (hN (dx, _) (.tail _ (.tail _ (.tail _ (.head _))))) (hN (lu, _) (.tail _ (.head _))) (hN (lr, _) (.head _)) hus hdl (hrs.mono fun a o ha => hN (a, o) (.tail _ (.tail _ (.tail _ (.tail _ ha)))))
end Mine
end
section
theorem Mine.fresh27 : True := by w_top off; trivial
open PySem PySem.W PyProof.Rows PySem.Calls
set_option maxRecDepth 100000
set_option maxHeartbeats 8000000
namespace Mine
local macro_rules | `(tactic| k_inst) => `(tactic| (refine' InstAt.of_fr ?F ?h1 ?h2; (case F => k_asm); (case h1 => with_reducible assumption); (case h2 => with_reducible assumption)))
section
variable {prog : Program} {w : World} {A : Around} {E : Value → Shared → Prop} {s : Shared}
theorem call_set_strs' {l : Addr} {vs : List Value} {ss : List Str} {Q : Value → Shared → Prop}
    (hh : A.handled = none) (hl : s.heap.IsList l vs.toArray) (hi : StrL vs ss) (hb : vs.length + 1 < 4096)
    (h : ∀ (sa : Addr) (h' : Heap) (tk : Nat), s.heap.objs.size ≤ sa → StrSet (w := w) prog h' sa ss vs.length → (∀ b o, s.heap.get? b = some o → h'.get? b = some o) → Q (.ref sa) { s with heap := h', toks := tk }) :
    wpAny (model prog w) A (PySem.call (.type "set") [.ref l]) Q E s :=
  call_set_strs hh hl (fun i v hv => hi.get hv) hi.length.symm hb fun h' tk hS hk => h _ h' tk (Nat.le_refl _) hS fun b o e => hk b o (Heap.lt_size e) e
theorem getAttr_contains' {a : Addr} {ss : List Str} {i : Nat} {Q : Value → Shared → Prop} (hS : StrSet (w := w) prog s.heap a ss i)
    (h : ∀ (q : Addr) (h' : Heap) tk', s.heap.objs.size ≤ q → h'.get? q = some (boundObj "set.__contains__" a) → (∀ b o, s.heap.get? b = some o → h'.get? b = some o) → Q (.ref q) { s with heap := h', toks := tk' }) :
    wpAny (model prog w) A (getAttr (.ref a) (Str.ofString "__contains__") true) Q E s := by
  (try refine opg fun gG hgG => ?_); (obtain ⟨c, hc, o, es, ep, t, ho, hex, hd, _⟩ := hS); (try (refine hgG ?_; clear hgG gG))
  (try refine opg fun gG hgG => ?_); (obtain ⟨c1, c2, c3⟩ := hex); (try (refine hgG ?_; clear hgG gG))
  (try refine opg fun gG hgG => ?_); (obtain ⟨ocls, odict, odata, oslots⟩ := o); (try (refine hgG ?_; clear hgG gG))
  simp only at c1 c2 c3 hd
  subst c1 c2 c3 hd
  exact getAttr_set_contains ho fun tk' => h _ _ tk' (Nat.le_refl _) (Heap.get?_push_size _ rfl) fun b o e => Heap.get?_push_of_some _ e
theorem call_filter' {f : Value} {l : Addr} {xs : Array Value} {Q : Value → Shared → Prop} (hl : s.heap.IsList l xs)
    (h : ∀ (FL J : Addr) h', s.heap.objs.size ≤ FL → s.heap.objs.size ≤ J → J ≠ FL → FL < h'.objs.size → J < h'.objs.size → IsFiltO h' FL J f → h'.IsListIter J l 0 → (∀ c o, s.heap.get? c = some o → h'.get? c = some o) → Q (.ref FL) { s with heap := h' }) :
    wpAny (model prog w) A (PySem.call (.type "filter") [f, .ref l]) Q E s :=
  call_filter hl fun h' h1 h2 h3 h4 => h _ _ h' (Nat.le_succ _) (Nat.le_refl _) (Nat.ne_of_lt (Nat.lt_succ_self _)) (by rw [h3]; exact Nat.lt_succ_self _) (by rw [h3]; exact Nat.lt_add_of_pos_right (by decide)) h1 h2 h4
theorem add_lists' {h₀ : Heap} {L : Addr} {m : Str → Option Value} {news : List (Addr × Obj)} {l b : Addr} {vs ws : List Value} {Q : Value → Shared → Prop} (F : Fr h₀ L s.heap m) (N : News h₀ L s.heap news) (hl : s.heap.IsList l vs.toArray) (hb : s.heap.IsList b ws.toArray) (hsz : vs.length + ws.length ≤ 1000000)
    (h : ∀ (D : Addr) h', (∀ p ∈ news, p.1 < D) → Fr h₀ L h' m → News h₀ L h' ((D, W.listOf (vs ++ ws).toArray 0) :: news) → Q (.ref D) { s with heap := h' }) :
    wpAny (model prog w) A (binaryOp .Add (.ref l) (.ref b)) Q E s :=
  add_lists F N hl hb (fun h' F' N' => h _ h' (fun p hp => Heap.lt_size (N p hp).1) F' N') (by rw [sizeLine_eq]; walk_at "mine omega")
theorem strSet_keep {h h' : Heap} {a : Addr} {ss : List Str} {i : Nat} (hS : StrSet (w := w) prog h a ss i) (hk : ∀ o, h.get? a = some o → h'.get? a = some o) : StrSet (w := w) prog h' a ss i := by
  (try refine opg fun gG hgG => ?_); (obtain ⟨c, hc, o, es, ep, t, ho, rest⟩ := hS); (try (refine hgG ?_; clear hgG gG))
  exact ⟨c, hc, o, es, ep, t, hk o ho, rest⟩
theorem strSet_at {h : Heap} {a : Addr} {ss : List Str} {i : Nat} (hS : StrSet (w := w) prog h a ss i) : ∃ o, h.get? a = some o := by
  (try refine opg fun gG hgG => ?_); (obtain ⟨c, hc, o, es, ep, t, ho, rest⟩ := hS); (try (refine hgG ?_; clear hgG gG))
  exact ⟨o, ho⟩
noncomputable def keepS (ss : List Str) : Value → Bool
  | .str x _ => ss.contains x
  | _ => false
theorem filter_strs {vs : List Value} {xs ss : List Str} (h : StrL vs xs) : StrL (vs.filter (keepS ss)) (xs.filter fun a => ss.contains a) := by
  induction h with
  | nil => exact .nil
  | cons x t h ih =>
    rw [List.filter_cons, List.filter_cons]
    show StrL (if ss.contains x = true then _ else _) (if ss.contains x = true then _ else _)
    split
    · exact .cons _ _ ih
    · exact ih
/-- list(filter(set.__contains__, strs)) -/
theorem list_filter_strs {h₀ : Heap} {L : Addr} {m : Str → Option Value} {led : List (Addr × Obj)} {sa q FL J l : Addr} {vs : List Value} {xs ss : List Str} {i n : Nat} {Q : Value → Shared → Prop} (hh : A.handled = none)
    (F : Fr h₀ L s.heap m) (N : News h₀ L s.heap led) (hl0 : h₀.get? l = some (W.listOf vs.toArray n)) (hv : StrL vs xs) (hvl : vs.length < 10000)
    (hS : StrSet (w := w) prog s.heap sa ss i) (hi : i < 2000) (hq : s.heap.get? q = some (boundObj "set.__contains__" sa)) (hF : IsFiltO s.heap FL J (.ref q)) (hJ : s.heap.IsListIter J l 0)
    (hJF : J ≠ FL) (hJ0 : h₀.get? J = none) (hJL : J ≠ L) (hJs : J ≠ sa) (hJq : J ≠ q) (hJN : ∀ p ∈ led, p.1 ≠ J)
    (h : ∀ (D : Addr) h' tk us c, Fr h₀ L h' m → News h₀ L h' ((D, W.listOf us.toArray c) :: led) → (∀ p ∈ led, p.1 < D) → StrL us (xs.filter fun a => ss.contains a) → Q (.ref D) { s with heap := h', toks := tk }) :
    wpAny (model prog w) A (PySem.call (.type "list") [.ref FL]) Q E s := by
  have hlJ : l ≠ J := fun e => by rw [e, hJ0] at hl0; cases hl0
  have hl := F.keep _ _ hl0
  have hp1 := F.ns
  refine p3_2 ?_ hp1
  (try clear hp1)
  intro oL _ _ hoL _
  (try refine opg fun gG hgG => ?_); (obtain ⟨oS, hoS⟩ := strSet_at hS); (try (refine hgG ?_; clear hgG gG))
  (try refine opg fun gG hgG => ?_); (obtain ⟨oJ, hoJ, hJr⟩ := id hJ); (try (refine hgG ?_; clear hgG gG))
  have W := walks_filter (prog := prog) (w := w) (A := A.in1.in1) hh (q := q) (FL := FL) (J := J) (l := l) (xs := vs) (keep := keepS ss) (Inv := fun h => StrSet (w := w) prog h sa ss i ∧ h.get? q = some (boundObj "set.__contains__" sa)) (own := [sa, q]) hJF hlJ
    (by simp [hJs, hJq]) (fun h h' hI hk => ⟨strSet_keep hI.1 fun o e => hk sa (by first | walk_at "mine sub" | simp) o e, hk q (by first | walk_at "mine sub" | simp) _ hI.2⟩)
    (fun x hx s' Q' E' hI hQ' => by
      (try refine opg fun gG hgG => ?_); (obtain ⟨j, hj⟩ := List.getElem?_of_mem hx); (try (refine hgG ?_; clear hgG gG))
      (try refine opg fun gG hgG => ?_); (obtain ⟨y, t, _, rfl⟩ := hv.get hj); (try (refine hgG ?_; clear hgG gG))
      (try refine opg fun gG hgG => ?_); (obtain ⟨c, hc, hS'⟩ := hI.1); (try (refine hgG ?_; clear hgG gG))
      exact call_bound_contains hI.2 (knd := strKind prog w) (k := y) (by show Value.isStrOf y (.str y t) = true; simp [Value.isStrOf]) rfl hS' (hQ' _))
  refine list_walk W ⟨_, hF, rfl⟩ (by decide) (by decide) filter_no_len filter_no_hint ⟨hF, ⟨_, hl, rfl, n, rfl⟩, ⟨hS, hq⟩, 0, Nat.zero_le _, hJ, rfl⟩ ?_ (.head _) (Nat.lt_of_le_of_lt (List.length_filter_le _ _) (by walk_at "mine omega")) fun h' tk us c hk hD hul hus => ?_
  · intro b hb
    simp only [List.mem_cons, List.not_mem_nil, or_false] at hb
    rcases hb with e | e | e | e | e <;> rw [e]
    · exact Heap.lt_size hF
    · exact Heap.lt_size hoJ
    · exact Heap.lt_size hl
    · exact Heap.lt_size hoS
    · exact Heap.lt_size hq
  · have e : us = vs.filter (keepS ss) := by
      apply List.ext_getElem?
      intro j
      rcases Nat.lt_or_ge j us.length with hj | hj
      · rw [hus j _ (List.getElem?_eq_getElem hj), List.getElem?_eq_getElem hj]
      · rw [List.getElem?_eq_none hj, List.getElem?_eq_none (by walk_at "mine omega")]
    have hnew : ∀ {a : Addr} {o : Obj}, s.heap.get? a = some o → a < s.heap.objs.size := fun e => Heap.lt_size e
    refine h _ h' tk us c ⟨F.ns.at' fun o e => hk _ o (by simpa using Ne.symm hJL) e, fun b o e => hk b o (by simp; intro z; rw [z, hJ0] at e; cases e) (F.keep b o e), F.above⟩ ?_ (fun p hp => Heap.lt_size (N p hp).1) (by rw [e]; exact filter_strs hv)
    intro p hp
    rcases List.mem_cons.mp hp with rfl | hp
    · refine ⟨hD, Nat.ne_of_gt (Heap.lt_size hoL), ?_⟩
      cases e0 : h₀.get? s.heap.objs.size with
      | none => rfl
      | some o => exact absurd (Heap.lt_size (F.keep _ _ e0)) (Nat.lt_irrefl _)
    · exact ⟨hk _ _ (by simpa using hJN p hp) (N p hp).1, (N p hp).2⟩
end
theorem RecsIn.app {w : World} {C : Addr → Obj → Prop} {vs us : List Value} {rs ts : List Rec} (h : RecsIn w C vs rs) (h' : RecsIn w C us ts) : RecsIn w C (vs ++ us) (rs ++ ts) := by
  induction vs generalizing rs with
  | nil => cases h; exact h'
  | cons v vs ih => cases h with | cons a b => exact .cons a (ih b)
noncomputable def agsOf : Rec → List Str | .mk a _ _ => a
noncomputable def delOf : Rec → Option Nat | .mk _ d _ => d
noncomputable def rulesOf : Rec → List Rec | .mk _ _ r => r
noncomputable def mergeR (r1 r2 : Rec) : Rec := .mk ((agsOf r1).filter fun a => (agsOf r2).contains a) (match delOf r2 with | none => delOf r1 | some d => some d) (rulesOf r1 ++ rulesOf r2)
theorem spec_merge {w : World} {p : Program} {loose : List Str} {mean : ExcName → Option Value} {mg mb : Str → Option Value} (x1 x2 : Addr) (r1 r2 : Rec) (ha1 : (agsOf r1).length < 1000) (ha2 : (agsOf r2).length < 1000) (hr1 : (rulesOf r1).length < 1000) (hr2 : (rulesOf r2).length < 1000) :
    Spec w p loose mean mg mb 121 8 200 [.ref x1, .ref x2] (fun h => RecIn w (At h) (.ref x1) r1 ∧ RecIn w (At h) (.ref x2) r2)
      (fun h h' r => ∃ x, r = .ref x ∧ RecIn w (At h') (.ref x) (mergeR r1 r2)) := by
  intro dp un gd cn cs ea ccd cl outer A₀ base h₀ L m s R B F X T hk hpre hdp hu ret
  (try refine opg fun gG hgG => ?_); (obtain ⟨hp1, hp2⟩ := hpre); (try (refine hgG ?_; clear hgG gG))
  cases hp1 with
  | @mk _ dx1 lu1 lr1 t11 t12 t13 t14 dv1 us1 rs1 n11 n12 ags1 dl1 rules1 hx1 hdx1 hlu1 hlr1 hus1 hdl1 hrs1 =>
  cases hp2 with
  | @mk _ dx2 lu2 lr2 t21 t22 t23 t24 dv2 us2 rs2 n21 n22 ags2 dl2 rules2 hx2 hdx2 hlu2 hlr2 hus2 hdl2 hrs2 =>
  dsimp only [At, agsOf, rulesOf] at hx1 hdx1 hlu1 hlr1 hx2 hdx2 hlu2 hlr2 ha1 ha2 hr1 hr2
  have hul1 := hus1.length
  have hul2 := hus2.length
  have hrl1 := hrs1.length
  have hrl2 := hrs2.length
  revert X T; k_fill; intro X T
  refine' code_pure (binds := [(Str.ofString "e1", .ref x1), (Str.ofString "e2", .ref x2)]) ?k1 ?k2 ?k3 ?k5 ?kA ?kF ?kK ?k6 ?k7 ?k8 ?k9 ?kB ?_ ?c2 ?c3 ?c4 ?c5
  case kA => exact rfl
  case kF => exact rfl
  case kK => assumption
  case k2 => k_asm
  case k1 => k_asm
  case k3 => k_asm
  case k5 => k_asm
  case k6 => k_dflt k_is
  case k7 => k_dflt k_is
  case k8 => ktr_room
  case k9 => exact BindsTo.of_eq rfl
  case c5 => decide
  case kB => exact locs rfl
  case c2 => exact rfl
  case c3 => exact rfl
  case c4 => exact rfl
  intro L' h' F' N' B' X' T'
  refine wpAny_mono (Q := fun fl s' => R (.ok (.ret (match fl with | .ret v => v | _ => .none))) s') (E := fun _ _ => False) ?_ (fun _ _ x => x) (fun _ _ x => x.elim)
  clear B F X T
  replace F' := Fr.as F' (m' := fun y => if y = Str.ofString "e1" then some (.ref x1) else if y = Str.ofString "e2" then some (.ref x2) else none) (by first | exact look_rev _ rfl | (funext y; first | rfl | ((try simp only [List.reverse_cons, List.reverse_nil, List.nil_append, List.cons_append, List.lookup]); (repeat' split) <;> first | rfl | (simp_all; done) | (subst_vars; simp_all; done) | (simp_all (decide := true); done))))
  (try dsimp only)
  (try k_fold)
  generalize s.gens = gs0 at ret ⊢
  generalize s.drawn = ds0 at ret ⊢
  generalize s.os = os0 at ret ⊢
  (try generalize s.toks + _ = tk0)
  refine (let AE : Env := _; let AA : Around := Around.deeper _ AE; let QQ : Flow → Shared → Prop := _; (?kL : wpAny _ AA (execs _ AE) QQ _ _))
  iterate 5 (first | (k_unfold; (try dsimp only)) | walk1 | (dsimp only; walk1) | (leave1; (try dsimp only)))
  refine entry_new B' F' X' N' T' rfl (by first | exact dlt (a := 1) (b := 5) hdp rfl | (show dp + 1 + 5 < recursionLimit; walk_at "mine omega")) (by first | exact dlt (a := 3) (b := 50) hu rfl | (show un + 3 + 50 < cLine; walk_at "mine omega")) fun x dx lu lr t1 t2 t3 t4 h2 tk2 F2 N2 l1 l2 l3 l4 => ?_
  clear F' N' l1
  dsimp only
  repeat ((fail_if_success (with_reducible show wpAny _ _ (PySem.call (Value.type "set") _ _) _ _ _)); (first | (k_unfold; (try dsimp only)) | ((try dsimp only); walk1) | (leave1; (try dsimp only))))
  rename Fr _ _ _ _ => F3
  rename News _ _ _ _ => N3
  refine call_set_strs' (l := lu2) (vs := us2) (ss := ags2) rfl ?hl1 hus2 (by walk_at "mine omega") fun sa h4 tk4 lsa hset4 hk4 => ?_
  case hl1 => exact ⟨_, F3.keep _ _ hlu2, rfl, n21, rfl⟩
  have F4 := F3.keeps hk4
  have N4 := News.keepsAll N3 hk4
  dsimp only
  repeat ((fail_if_success (with_reducible show wpAny _ _ (getAttr _ (Str.ofString "__contains__") _) _ _ _)); (first | (k_unfold; (try dsimp only)) | ((try dsimp only); walk1) | (leave1; (try dsimp only))))
  refine getAttr_contains' hset4 fun q h5 tk5 lq hq5 hk5 => ?_
  have F5 := F4.keeps hk5
  have N5 := News.keepsAll N4 hk5
  dsimp only
  repeat ((fail_if_success (with_reducible show wpAny _ _ (PySem.call (Value.type "filter") _ _) _ _ _)); (first | (k_unfold; (try dsimp only)) | ((try dsimp only); walk1) | (leave1; (try dsimp only))))
  refine call_filter' (l := lu1) (xs := us1.toArray) ?hl2 fun FL J h6 lF lJ hJF lF6 lJ6 hF6 hJ6 hk6 => ?_
  case hl2 => exact ⟨_, F5.keep _ _ hlu1, rfl, n11, rfl⟩
  have F6 := F5.keeps hk6
  have N6 := News.keepsAll N5 hk6
  dsimp only
  repeat ((fail_if_success (with_reducible show wpAny _ _ (PySem.call (Value.type "list") _ _) _ _ _)); (first | (k_unfold; (try dsimp only)) | ((try dsimp only); walk1) | (leave1; (try dsimp only))))
  have hset5 := strSet_keep hset4 fun o e => hk5 _ o e
  have hltJ : ∀ (a : Addr) (o : Obj), h5.get? a = some o → J ≠ a := fun a o e => Nat.ne_of_gt (Nat.lt_of_lt_of_le (Heap.lt_size e) lJ)
  (try refine opg fun gG hgG => ?_); (obtain ⟨oS, hoS⟩ := strSet_at hset5); (try (refine hgG ?_; clear hgG gG))
  refine list_filter_strs (l := lu1) (vs := us1) (xs := ags1) (n := n11) (ss := ags2) (i := us2.length) (sa := sa) (q := q) (J := J) rfl F6 N6 hlu1 hus1 (by walk_at "mine omega") (strSet_keep hset5 fun o e => hk6 _ o e) (by walk_at "mine omega") (hk6 _ _ hq5) hF6 hJ6 hJF ?hJ0 ?hJL (hltJ _ _ hoS) (hltJ _ _ hq5) (fun p hp => (hltJ _ _ (N5 p hp).1).symm) fun D h7 tk7 us c7 F7 N7 lD hus7 => ?_
  case hJ0 =>
    cases e0 : s.heap.get? J with
    | none => rfl
    | some o => exact absurd rfl (hltJ _ _ (F5.keep _ _ e0))
  case hJL =>
    have hp2 := F5.ns
    refine p3_2 ?_ hp2
    (try clear hp2)
    intro oL _ _ hoL _
    exact hltJ _ _ hoL
  (try clear N3); (try clear F3); (try clear F4); (try clear N4); (try clear F5); (try clear N5); (try clear F6); (try clear N6)
  dsimp only
  k_lt lD
  walk_at "mine steps"
  rename Fr _ _ _ _ => F8
  rename News _ _ _ _ => N8
  refine add_lists' F8 N8 (vs := rs1) (ws := rs2) ?hla ?hlb (by walk_at "mine omega") fun D2 h9 lE F9 N9 => ?_
  case hla => exact ⟨_, F8.keep _ _ hlr1, rfl, n12, rfl⟩
  case hlb => exact ⟨_, F8.keep _ _ hlr2, rfl, n22, rfl⟩
  k_lt lE
  dsimp only
  cases dl2 with
  | none =>
    cases dv2 <;> first | exact hdl2.elim | skip
    cases dl1 <;> cases dv1 <;> first | exact hdl1.elim | skip
    all_goals (
      walk_at "mine steps"
      rename Fr _ _ _ _ => F10
      rename News _ _ _ _ => N10
      refine ret _ _ _ F10.keep ⟨x, rfl, ?_⟩
      exact .mk (N10 _ (.tail _ (.tail _ (.tail _ (.tail _ (.head _)))))).1 (N10 _ (.tail _ (.tail _ (.tail _ (.tail _ (.tail _ (.head _))))))).1 (N10 _ (.tail _ (.head _))).1 (N10 _ (.head _)).1 hus7 hdl1 ((hrs1.mono fun a o e => F10.keep a o e).app (hrs2.mono fun a o e => F10.keep a o e)))
  | some d2 =>
    cases dv2 <;> first | exact hdl2.elim | skip
    walk_at "mine steps"
    rename Fr _ _ _ _ => F10
    rename News _ _ _ _ => N10
    refine ret _ _ _ F10.keep ⟨x, rfl, ?_⟩
    exact .mk (N10 _ (.tail _ (.tail _ (.tail _ (.tail _ (.head _)))))).1 (N10 _ (.tail _ (.tail _ (.tail _ (.tail _ (.tail _ (.head _))))))).1 (N10 _ (.tail _ (.head _))).1 (N10 _ (.head _)).1 hus7 hdl2 ((hrs1.mono fun a o e => F10.keep a o e).app (hrs2.mono fun a o e => F10.keep a o e))
end Mine
end
section
theorem Mine.fresh28 : True := by w_top off; trivial
open PySem PySem.W PyProof.Rows PySem.Calls
set_option maxRecDepth 100000
set_option maxHeartbeats 8000000
namespace Mine
theorem cell_led {h₀ h : Heap} {L : Addr} {m : Str → Option Value} {a : Addr} {o : Obj} (F : Fr h₀ L h m) (hm : m (Str.ofString "script") ≠ none) (ha : h.get? a = some o) (hno : ∀ es ep, o.data = .dict es ep → nsFind es (Str.ofString "script") = none) :
    ∃ tl : List (Addr × Obj), News h₀ L h tl ∧ (h₀.get? a = some o ∨ (a, o) ∈ tl) := by
  have hL : a ≠ L := by
    intro e
    have hp1 := F.ns
    refine p3_4 ?_ hp1
    (try clear hp1)
    intro oL es ep hL hd2 hk hf
    rw [e, hL] at ha
    obtain rfl := Option.some.inj ha
    exact hm ((hf _).symm.trans (hno es ep hd2))
  cases q : h₀.get? a with
  | none => exact ⟨[(a, o)], fun p hp => by rw [List.mem_singleton.mp hp]; exact ⟨ha, hL, q⟩, .inr (.head _)⟩
  | some o' =>
    have := F.keep _ _ q
    rw [ha] at this
    exact ⟨[], News.nil, .inl (by rw [Option.some.inj this])⟩
noncomputable abbrev InB (h₀ : Heap) (tl : List (Addr × Obj)) : Addr → Obj → Prop := fun a o => h₀.get? a = some o ∨ (a, o) ∈ tl
section
variable {w : World} {h₀ h : Heap} {L : Addr} {m : Str → Option Value}
mutual
theorem RecIn.led (F : Fr h₀ L h m) (hm : m (Str.ofString "script") ≠ none) : ∀ {v : Value} {r : Rec}, RecIn w (At h) v r → ∃ tl, News h₀ L h tl ∧ RecIn w (InB h₀ tl) v r
  | _, _, .mk (x := x) (dx := dx) (lu := lu) (lr := lr) a b c d e f g => by
    (try refine opg fun gG hgG => ?_); (obtain ⟨t1, n1, i1⟩ := cell_led F hm a (fun es ep q => by cases q)); (try (refine hgG ?_; clear hgG gG))
    obtain ⟨t2, n2, i2⟩ := cell_led F hm b (fun es ep q => by injection q with q1 q2; subst q1; rfl)
    (try refine opg fun gG hgG => ?_); (obtain ⟨t3, n3, i3⟩ := cell_led F hm c (fun es ep q => by cases q)); (try (refine hgG ?_; clear hgG gG))
    (try refine opg fun gG hgG => ?_); (obtain ⟨t4, n4, i4⟩ := cell_led F hm d (fun es ep q => by cases q)); (try (refine hgG ?_; clear hgG gG))
    (try refine opg fun gG hgG => ?_); (obtain ⟨t5, n5, i5⟩ := RecsIn.led F hm g); (try (refine hgG ?_; clear hgG gG))
    refine ⟨t1 ++ (t2 ++ (t3 ++ (t4 ++ t5))), news_app n1 (news_app n2 (news_app n3 (news_app n4 n5))), ?_⟩
    refine .mk (i1.imp id fun q => List.mem_append_left _ q) (i2.imp id fun q => List.mem_append_right _ (List.mem_append_left _ q)) (i3.imp id fun q => List.mem_append_right _ (List.mem_append_right _ (List.mem_append_left _ q)))
      (i4.imp id fun q => List.mem_append_right _ (List.mem_append_right _ (List.mem_append_right _ (List.mem_append_left _ q)))) e f (RecsIn.mono (fun a o q => q.imp id fun q => List.mem_append_right _ (List.mem_append_right _ (List.mem_append_right _ (List.mem_append_right _ q)))) i5)
theorem RecsIn.led (F : Fr h₀ L h m) (hm : m (Str.ofString "script") ≠ none) : ∀ {v : List Value} {r : List Rec}, RecsIn w (At h) v r → ∃ tl, News h₀ L h tl ∧ RecsIn w (InB h₀ tl) v r
  | _, _, .nil => ⟨[], News.nil, .nil⟩
  | _, _, .cons a b => by
    (try refine opg fun gG hgG => ?_); (obtain ⟨t1, n1, i1⟩ := RecIn.led F hm a); (try (refine hgG ?_; clear hgG gG))
    (try refine opg fun gG hgG => ?_); (obtain ⟨t2, n2, i2⟩ := RecsIn.led F hm b); (try (refine hgG ?_; clear hgG gG))
    exact ⟨t1 ++ t2, news_app n1 n2, .cons (RecIn.mono (fun a o q => q.imp id fun q => List.mem_append_left _ q) i1) (RecsIn.mono (fun a o q => q.imp id fun q => List.mem_append_right _ q) i2)⟩
end
theorem RecIn.at {tl : List (Addr × Obj)} (F : Fr h₀ L h m) (N : News h₀ L h tl) {v : Value} {r : Rec} (x : RecIn w (InB h₀ tl) v r) : RecIn w (At h) v r :=
  RecIn.mono (fun a o q => q.elim (fun q => F.keep _ _ q) fun q => (N _ q).1) x
end
end Mine
end
section
theorem Mine.fresh29 : True := by w_top off; trivial
open PySem PySem.W PyProof.Rows PySem.Calls
set_option maxRecDepth 100000
set_option maxHeartbeats 8000000
namespace Mine
section
open PySem.Sre (ops Op inSet accepts M Wait)
noncomputable def verCode : Array Nat := #[14, 4, 0, 1, 4294967295, 17, 0, 7, 14, 24, 10, 1, 4294967295, 13, 5, 22, 48, 57, 0, 1, 15, 17, 15, 13, 11, 9, 0, 26624, 2147483648, 0, 0, 0, 0, 0, 0, 15, 2, 0, 17, 1, 1]
noncomputable def sepB (c : Nat) : Bool := c < 256 && (verCode.getD (26 + c / 32) 0).testBit (c % 32)
noncomputable def digB (c : Nat) : Bool := 48 ≤ c && c ≤ 57
noncomputable abbrev tokB (c : Nat) : Bool := digB c || sepB c
theorem acc_dig (c : Nat) (seen : Sre.Seen) : ∃ seen', accepts verCode 13 c seen = .ok (digB c, seen') := by
  unfold digB
  by_cases h : (48 ≤ c && c ≤ 57) = true
  · refine ⟨(seen.add 22), ?_⟩
    show inSet verCode c (40 + 1) 15 true seen = _
    show (if (48 ≤ c && c ≤ 57) = true then _ else _) = _
    rw [if_pos h, h]
    rfl
  · refine ⟨(seen.add 22).add 0, ?_⟩
    show inSet verCode c (40 + 1) 15 true seen = _
    show (if (48 ≤ c && c ≤ 57) = true then _ else _) = _
    rw [if_neg h, Bool.eq_false_iff.mpr h]
    rfl
theorem acc_sep (c : Nat) (seen : Sre.Seen) : ∃ seen', accepts verCode 23 c seen = .ok (sepB c, seen') := by
  unfold sepB
  by_cases h : (decide (c < 256) && (verCode.getD (26 + c / 32) 0).testBit (c % 32)) = true
  · refine ⟨(seen.add 9), ?_⟩
    show inSet verCode c (40 + 1) 25 true seen = _
    show (if (decide (c < 256) && (verCode.getD (25 + (1 + c / 32)) 0).testBit (c % 32)) = true then _ else _) = _
    rw [show 25 + (1 + c / 32) = 26 + c / 32 from by (first | lia | omega), if_pos h, h]
    rfl
  · refine ⟨(seen.add 9).add 0, ?_⟩
    show inSet verCode c (40 + 1) 25 true seen = _
    show (if (decide (c < 256) && (verCode.getD (25 + (1 + c / 32)) 0).testBit (c % 32)) = true then _ else _) = _
    rw [show 25 + (1 + c / 32) = 26 + c / 32 from by (first | lia | omega), if_neg h, Bool.eq_false_iff.mpr h]
    rfl
theorem run_dig (text : Array Nat) : ∀ (n p found : Nat) (seen : Sre.Seen), n ≤ text.size - p → ∃ seen', Sre.run verCode text 13 n p found seen = .ok (found + ((text.toList.drop p).take n |>.takeWhile digB).length, seen')
  | 0, p, found, seen, _ => ⟨seen, by simp [Sre.run]⟩
  | n + 1, p, found, seen, hn => by
    have hp : p < text.toList.length := by rw [Array.length_toList]; (first | lia | omega)
    have hd : (text.toList.drop p) = text.getD p 0 :: text.toList.drop (p + 1) := by
      rw [List.drop_eq_getElem_cons hp]
      congr 1
      have hp' : p < text.size := by simpa using hp
      simp [Array.getD, hp']
    obtain ⟨s1, h1⟩ := acc_dig (text.getD p 0) seen
    rw [hd, List.take_succ_cons]
    unfold Sre.run
    rw [h1]
    cases hc : digB (text.getD p 0) with
    | true =>
      obtain ⟨s2, h2⟩ := run_dig text n (p + 1) (found + 1) s1 (by (first | lia | omega))
      refine ⟨s2, ?_⟩
      show Sre.run verCode text 13 n (p + 1) (found + 1) s1 = _
      rw [h2, List.takeWhile_cons_of_pos hc, List.length_cons]
      congr 2
      (first | lia | omega)
    | false =>
      refine ⟨s1, ?_⟩
      rw [List.takeWhile_cons_of_neg (by rw [hc]; decide)]
      rfl
noncomputable abbrev St (text : Array Nat) (start pc pos handed : Nat) (om : Bool) (marks : Array (Option Nat)) (lm li : Int) (frames : List Sre.Frame) (weight : Nat) (answer : Option Bool) (seen : Sre.Seen) : M :=
  { code := verCode, text, lim := text.size, start, lastStart := text.size, wholeText := false, mustAdvance := false, pc, pos, handed, outermost := om, marks, lastmark := lm, lastindex := li, loops := #[], inner := none, frames, weight, answer, seen, outcome := none }
noncomputable def Goes (b : Nat) (m m' : M) : Prop := ∃ n, n ≤ b ∧ ∀ k, M.runFor (n + k) m = M.runFor k m'
theorem Goes.step {m : M} (h : m.outcome.isSome = false) : Goes 1 m m.step := ⟨1, Nat.le_refl _, fun k => by rw [Nat.add_comm]; show (if m.outcome.isSome = true then m else M.runFor k m.step) = _; rw [h]; rfl⟩
theorem Goes.refl {m : M} : Goes 0 m m := ⟨0, Nat.le_refl _, fun k => by rw [Nat.zero_add]⟩
theorem Goes.trans {a b : Nat} {m m' m'' : M} (h : Goes a m m') (h' : Goes b m' m'') : Goes (a + b) m m'' := by
  obtain ⟨n, hn, e⟩ := h
  obtain ⟨n', hn', e'⟩ := h'
  exact ⟨n + n', by (first | lia | omega), fun k => by rw [Nat.add_assoc, e, e']⟩
theorem Goes.mono {a b : Nat} {m m' : M} (h : Goes a m m') (hab : a ≤ b) : Goes b m m' := by
  obtain ⟨n, hn, e⟩ := h; exact ⟨n, Nat.le_trans hn hab, e⟩
theorem Goes.next {b : Nat} {m m' m'' : M} (hs : m.step = m') (h : m.outcome.isSome = false) (g : Goes b m' m'') : Goes (b + 1) m m'' := by
  subst hs
  have := (Goes.step h).trans g
  exact this.mono (by (first | lia | omega))
noncomputable abbrev fNS (s : Nat) (om : Bool) : Sre.Frame := { wait := .nextStart, pc := 5, pos := s, outermost := om }
noncomputable abbrev kp (lm li : Int) : Sre.Kept := { lastmark := lm, lastindex := li, whole := false, marks := #[] }
noncomputable abbrev fNB (pc s : Nat) (om : Bool) : Sre.Frame := { wait := .nextBranch, pc := pc, pos := s, outermost := om, kept := kp 0 (-1) }
noncomputable abbrev Start (text : Array Nat) (s : Nat) (om : Bool) (marks : Array (Option Nat)) (seen : Sre.Seen) : M := St text s 5 s s om marks (-1) (-1) [fNS s om] 1 none seen
noncomputable abbrev fGB (s p : Nat) (om : Bool) (n : Nat) : Sre.Frame := { wait := .giveBack, pc := 9, pos := p, outermost := om, count := (n : Int), kept := kp 0 (-1) }
theorem g_open (text : Array Nat) (s : Nat) (om : Bool) (a b : Option Nat) (seen : Sre.Seen) : ∃ seen', Goes 2 (Start text s om #[a, b] seen) (St text s 9 s s om #[some s, b] 0 (-1) [fNB 8 s om, fNS s om] 2 none seen') :=
  ⟨_, Goes.next (m' := St text s 7 s s om #[some s, b] 0 (-1) [fNS s om] 1 none (seen.add 17)) rfl rfl (Goes.next (b := 0) (m' := St text s 9 s s om #[some s, b] 0 (-1) [fNB 8 s om, fNS s om] 2 none ((seen.add 17).add 7)) rfl rfl Goes.refl)⟩
/-- the digits at place s -/
noncomputable def dgt (text : Array Nat) (s : Nat) : Nat := ((text.toList.drop s).takeWhile digB).length
theorem dgt_le (text : Array Nat) (s : Nat) : dgt text s ≤ text.size - s := by
  unfold dgt
  refine Nat.le_trans (List.takeWhile_sublist _).length_le ?_
  rw [List.length_drop, Array.length_toList]; exact Nat.le_refl _
theorem run_rep (text : Array Nat) (s : Nat) (seen : Sre.Seen) (hs : text.size ≤ 4294967295) : ∃ seen', Sre.run verCode text 13 (min 4294967295 ((text.size : Int) - s).toNat) s 0 seen = .ok (dgt text s, seen') := by
  have e : min 4294967295 ((text.size : Int) - s).toNat = text.size - s := by (first | lia | omega)
  obtain ⟨s1, h1⟩ := run_dig text (text.size - s) s 0 seen (Nat.le_refl _)
  refine ⟨s1, ?_⟩
  rw [e, h1]
  unfold dgt
  rw [List.take_of_length_le (by rw [List.length_drop, Array.length_toList]; exact Nat.le_refl _), Nat.zero_add]
theorem g_rep (text : Array Nat) (s : Nat) (om : Bool) (b : Option Nat) (seen : Sre.Seen) (hs : text.size ≤ 4294967295) : ∃ seen', Goes 1 (St text s 9 s s om #[some s, b] 0 (-1) [fNB 8 s om, fNS s om] 2 none seen)
    (if dgt text s = 0 then St text s 9 s s om #[some s, b] 0 (-1) [fNB 8 s om, fNS s om] 2 (some false) seen'
     else St text s 20 (s + dgt text s) (s + dgt text s) om #[some s, b] 0 (-1) [fGB s (s + dgt text s) om (dgt text s), fNB 8 s om, fNS s om] 3 none seen') := by
  obtain ⟨s1, h1⟩ := run_rep text s ((seen.add 24).add 13) hs
  have key : (St text s 9 s s om #[some s, b] 0 (-1) [fNB 8 s om, fNS s om] 2 none seen).step =
      (if (1 : Int) > (text.size : Int) - s then St text s 9 s s om #[some s, b] 0 (-1) [fNB 8 s om, fNS s om] 2 (some false) (seen.add 24) else
       match Sre.run verCode text 13 (min 4294967295 ((text.size : Int) - s).toNat) s 0 ((seen.add 24).add 13) with
       | .error why => ({ (St text s 9 s s om #[some s, b] 0 (-1) [fNB 8 s om, fNS s om] 2 none (seen.add 24)) with outcome := some (.stuck why) } : M)
       | .ok (n, seen) => if n < 1 then St text s 9 s s om #[some s, b] 0 (-1) [fNB 8 s om, fNS s om] 2 (some false) seen else
          St text s 20 (s + n) (s + n) om #[some s, b] 0 (-1) [fGB s (s + n) om n, fNB 8 s om, fNS s om] 3 none seen) := rfl
  rw [h1] at key
  by_cases hr : (1 : Int) > (text.size : Int) - s
  · have hz : dgt text s = 0 := by have := dgt_le text s; (first | lia | omega)
    rw [if_pos hr] at key
    refine ⟨seen.add 24, ?_⟩
    rw [if_pos hz]
    exact Goes.next (b := 0) key rfl Goes.refl
  · rw [if_neg hr] at key
    refine ⟨s1, Goes.next (b := 0) key rfl ?_⟩
    dsimp only
    by_cases hz : dgt text s = 0
    · rw [if_pos hz, if_pos (by (first | lia | omega))]; exact Goes.refl
    · rw [if_neg hz, if_neg (by (first | lia | omega))]; exact Goes.refl
noncomputable def Found (s e : Nat) (m : M) : Prop := m.outcome = some .matched ∧ m.start = s ∧ m.handed = e ∧ m.marks = #[some s, some e] ∧ m.lastmark = 1
theorem g_hit (text : Array Nat) (s e n : Nat) (om : Bool) (b : Option Nat) (seen : Sre.Seen) : ∃ m, Found s e m ∧ Goes 8 (St text s 20 e e om #[some s, b] 0 (-1) [fGB s e om n, fNB 8 s om, fNS s om] 3 none seen) m := by
  refine ⟨({ St text s 5 s e om #[some s, some e] 1 1 [] 0 (some true) (((seen.add 15).add 17).add 1) with outcome := some .matched } : M), ⟨rfl, rfl, rfl, rfl, rfl⟩, Goes.next (m' := St text s 38 e e om #[some s, b] 0 (-1) [fGB s e om n, fNB 8 s om, fNS s om] 3 none (seen.add 15)) rfl rfl ?_⟩
  refine Goes.next (m' := St text s 40 e e om #[some s, some e] 1 1 [fGB s e om n, fNB 8 s om, fNS s om] 3 none ((seen.add 15).add 17)) (by kernel_rfl) rfl ?_
  refine Goes.next (m' := St text s 40 e e om #[some s, some e] 1 1 [fGB s e om n, fNB 8 s om, fNS s om] 3 (some true) (((seen.add 15).add 17).add 1)) (by cases om <;> rfl) rfl ?_
  refine Goes.next (m' := St text s 9 e e om #[some s, some e] 1 1 [fNB 8 s om, fNS s om] 2 (some true) (((seen.add 15).add 17).add 1)) rfl rfl ?_
  refine Goes.next (m' := St text s 8 s e om #[some s, some e] 1 1 [fNS s om] 1 (some true) (((seen.add 15).add 17).add 1)) rfl rfl ?_
  refine Goes.next (m' := St text s 5 s e om #[some s, some e] 1 1 [] 0 (some true) (((seen.add 15).add 17).add 1)) rfl rfl ?_
  exact Goes.next (b := 1) rfl rfl (Goes.refl.mono (by (first | lia | omega)))
theorem g_alt (text : Array Nat) (s : Nat) (om : Bool) (b : Option Nat) (seen : Sre.Seen) : Goes 1 (St text s 9 s s om #[some s, b] 0 (-1) [fNB 8 s om, fNS s om] 2 (some false) seen) (St text s 23 s s om #[some s, b] 0 (-1) [fNB 22 s om, fNS s om] 2 none seen) :=
  Goes.next (b := 0) rfl rfl Goes.refl
theorem g_in (text : Array Nat) (s : Nat) (om : Bool) (b : Option Nat) (seen : Sre.Seen) : ∃ seen', Goes 1 (St text s 23 s s om #[some s, b] 0 (-1) [fNB 22 s om, fNS s om] 2 none seen)
    (if s < text.size ∧ sepB (text.getD s 0) = true then St text s 35 (s + 1) s om #[some s, b] 0 (-1) [fNB 22 s om, fNS s om] 2 none seen'
     else St text s 23 s s om #[some s, b] 0 (-1) [fNB 22 s om, fNS s om] 2 (some false) seen') := by
  obtain ⟨s1, h1⟩ := acc_sep (text.getD s 0) (seen.add 13)
  have key : (St text s 23 s s om #[some s, b] 0 (-1) [fNB 22 s om, fNS s om] 2 none seen).step =
      (if s ≥ text.size then St text s 23 s s om #[some s, b] 0 (-1) [fNB 22 s om, fNS s om] 2 (some false) (seen.add 13) else
       match accepts verCode 23 (text.getD s 0) (seen.add 13) with
       | .error why => ({ (St text s 23 s s om #[some s, b] 0 (-1) [fNB 22 s om, fNS s om] 2 none (seen.add 13)) with outcome := some (.stuck why) } : M)
       | .ok (false, seen) => St text s 23 s s om #[some s, b] 0 (-1) [fNB 22 s om, fNS s om] 2 (some false) seen
       | .ok (true, seen) => St text s 35 (s + 1) s om #[some s, b] 0 (-1) [fNB 22 s om, fNS s om] 2 none seen) := rfl
  rw [h1] at key
  by_cases hr : s ≥ text.size
  · rw [if_pos hr] at key
    refine ⟨seen.add 13, ?_⟩
    rw [if_neg (fun h => by (first | lia | omega))]
    exact Goes.next (b := 0) key rfl Goes.refl
  · rw [if_neg hr] at key
    refine ⟨s1, Goes.next (b := 0) key rfl ?_⟩
    cases hc : sepB (text.getD s 0) with
    | true => rw [if_pos ⟨by (first | lia | omega), rfl⟩]; exact Goes.refl
    | false => rw [if_neg (fun h => Bool.noConfusion h.2)]; exact Goes.refl
theorem g_hit2 (text : Array Nat) (s : Nat) (om : Bool) (b : Option Nat) (seen : Sre.Seen) : ∃ m, Found s (s + 1) m ∧ Goes 8 (St text s 35 (s + 1) s om #[some s, b] 0 (-1) [fNB 22 s om, fNS s om] 2 none seen) m := by
  refine ⟨({ St text s 5 s (s + 1) om #[some s, some (s + 1)] 1 1 [] 0 (some true) (((seen.add 15).add 17).add 1) with outcome := some .matched } : M), ⟨rfl, rfl, rfl, rfl, rfl⟩, Goes.next (m' := St text s 38 (s + 1) s om #[some s, b] 0 (-1) [fNB 22 s om, fNS s om] 2 none (seen.add 15)) rfl rfl ?_⟩
  refine Goes.next (m' := St text s 40 (s + 1) s om #[some s, some (s + 1)] 1 1 [fNB 22 s om, fNS s om] 2 none ((seen.add 15).add 17)) (by kernel_rfl) rfl ?_
  refine Goes.next (m' := St text s 40 (s + 1) (s + 1) om #[some s, some (s + 1)] 1 1 [fNB 22 s om, fNS s om] 2 (some true) (((seen.add 15).add 17).add 1)) (by cases om <;> rfl) rfl ?_
  refine Goes.next (m' := St text s 22 s (s + 1) om #[some s, some (s + 1)] 1 1 [fNS s om] 1 (some true) (((seen.add 15).add 17).add 1)) rfl rfl ?_
  refine Goes.next (m' := St text s 5 s (s + 1) om #[some s, some (s + 1)] 1 1 [] 0 (some true) (((seen.add 15).add 17).add 1)) rfl rfl ?_
  exact Goes.next (b := 2) rfl rfl (Goes.refl.mono (by (first | lia | omega)))
theorem g_miss (text : Array Nat) (s : Nat) (om : Bool) (b : Option Nat) (seen : Sre.Seen) : Goes 2 (St text s 23 s s om #[some s, b] 0 (-1) [fNB 22 s om, fNS s om] 2 (some false) seen)
    (if s < text.size then Start text (s + 1) false #[some s, b] seen else St text s 5 s s om #[some s, b] 0 (-1) [] 0 (some false) seen) := by
  refine Goes.next (m' := St text s 22 s s om #[some s, b] 0 (-1) [fNS s om] 1 (some false) seen) rfl rfl ?_
  refine Goes.next (b := 0) (m' := if s < text.size then Start text (s + 1) false #[some s, b] seen else St text s 5 s s om #[some s, b] 0 (-1) [] 0 (some false) seen) ?_ rfl Goes.refl
  rfl
/-- a place with a token -/
theorem at_tok (text : Array Nat) (s : Nat) (om : Bool) (a b : Option Nat) (seen : Sre.Seen) (hz : text.size ≤ 4294967295) (hd : dgt text s ≠ 0 ∨ (s < text.size ∧ sepB (text.getD s 0) = true)) :
    ∃ m, Found s (if dgt text s = 0 then s + 1 else s + dgt text s) m ∧ Goes 14 (Start text s om #[a, b] seen) m := by
  obtain ⟨s1, g1⟩ := g_open text s om a b seen
  obtain ⟨s2, g2⟩ := g_rep text s om b s1 hz
  by_cases h0 : dgt text s = 0
  · rw [if_pos h0] at g2 ⊢
    have hd : s < text.size ∧ sepB (text.getD s 0) = true := hd.resolve_left (fun h => h h0)
    obtain ⟨s3, g3⟩ := g_in text s om b s2
    rw [if_pos hd] at g3
    obtain ⟨m, hm, g4⟩ := g_hit2 text s om b s3
    exact ⟨m, hm, ((((g1.trans g2).trans (g_alt text s om b s2)).trans g3).trans g4).mono (by (first | lia | omega))⟩
  · rw [if_neg h0] at g2 ⊢
    obtain ⟨m, hm, g4⟩ := g_hit text s (s + dgt text s) (dgt text s) om b s2
    exact ⟨m, hm, ((g1.trans g2).trans g4).mono (by (first | lia | omega))⟩
theorem at_none (text : Array Nat) (s : Nat) (om : Bool) (a b : Option Nat) (seen : Sre.Seen) (hz : text.size ≤ 4294967295) (hd : dgt text s = 0) (hc : ¬ (s < text.size ∧ sepB (text.getD s 0) = true)) :
    ∃ seen', Goes 7 (Start text s om #[a, b] seen) (if s < text.size then Start text (s + 1) false #[some s, b] seen' else St text s 5 s s om #[some s, b] 0 (-1) [] 0 (some false) seen') := by
  obtain ⟨s1, g1⟩ := g_open text s om a b seen
  obtain ⟨s2, g2⟩ := g_rep text s om b s1 hz
  rw [if_pos hd] at g2
  obtain ⟨s3, g3⟩ := g_in text s om b s2
  rw [if_neg hc] at g3
  exact ⟨s3, ((((g1.trans g2).trans (g_alt text s om b s2)).trans g3).trans (g_miss text s om b s3)).mono (by (first | lia | omega))⟩
end
end Mine
end
section
theorem Mine.fresh30 : True := by w_top off; trivial
open PySem PySem.W PyProof.Rows PySem.Calls
set_option maxRecDepth 100000
set_option maxHeartbeats 8000000
namespace Mine
theorem runFor_done {m : Sre.M} (h : m.outcome.isSome = true) : ∀ k, Sre.M.runFor k m = m
  | 0 => rfl
  | k + 1 => by show (if m.outcome.isSome = true then m else _) = m; rw [if_pos h]
theorem runFor_add : ∀ (a b : Nat) (m : Sre.M), Sre.M.runFor (a + b) m = Sre.M.runFor b (Sre.M.runFor a m)
  | 0, b, m => by rw [Nat.zero_add]; rfl
  | a + 1, b, m => by
    rw [Nat.add_right_comm]
    show (if m.outcome.isSome = true then m else Sre.M.runFor (a + b) m.step) = Sre.M.runFor b (if m.outcome.isSome = true then m else Sre.M.runFor a m.step)
    by_cases h : m.outcome.isSome = true
    · rw [if_pos h, if_pos h, runFor_done h]
    · rw [if_neg h, if_neg h]; exact runFor_add a b m.step
section
variable {M : Model} {A : Around} {E : Value → Shared → Prop} {s : Shared}
theorem wpAny_drive {m' : Sre.M} (ho : m'.outcome.isSome = true) {Q : Sre.M → Shared → Prop} (hQ : Q m' s) : ∀ (turns b : Nat) (m : Sre.M), Goes b m m' → b < 4 * turns → wpAny M A (Builtin.Re.reDrive turns m) Q E s
  | 0, b, m, _, hb => by (first | lia | omega)
  | turns + 1, b, m, ⟨n, hn, e⟩, hb => by
    show wpAny M A (if (Sre.M.runFor 4 m).outcome.isSome = true then pure (Sre.M.runFor 4 m) else (do rule "sre.turn"; Builtin.Re.reDrive turns (Sre.M.runFor 4 m))) Q E s
    by_cases h4 : n ≤ 4
    · have := e (4 - n)
      rw [show n + (4 - n) = 4 from by (first | lia | omega), runFor_done ho] at this
      rw [this, if_pos ho]
      exact wpAny_pure hQ
    · by_cases h : (Sre.M.runFor 4 m).outcome.isSome = true
      · have h2 := e 0
        rw [show n + 0 = 4 + (n - 4) from by (first | lia | omega), runFor_add, runFor_done h] at h2
        rw [if_pos h, h2]
        exact wpAny_pure hQ
      · rw [if_neg h]
        refine wpAny_bind (wpAny_rule ?_)
        refine wpAny_drive ho hQ turns (n - 4) _ ⟨n - 4, Nat.le_refl _, fun k => ?_⟩ (by (first | lia | omega))
        rw [← e k, ← runFor_add]
        congr 1
        (first | lia | omega)
theorem wpAny_runToEnd {m m' : Sre.M} {b : Nat} (g : Goes b m m') (hb : b < 1000000000) {Q : Option Sre.M → Shared → Prop} (ho : m'.outcome = some .matched ∧ Q (some m') s ∨ m'.outcome = some .failed ∧ Q none s) : wpAny M A (Builtin.Re.reRunToEnd m) Q E s := by
  unfold Builtin.Re.reRunToEnd
  refine wpAny_bind (wpAny_drive (m' := m') (by rcases ho with h | h <;> rw [h.1] <;> rfl) ?_ _ b m g (Nat.lt_trans hb (by decide)))
  refine wpAny_bind (wpAny_forIn_list _ (fun _ _ s' => s' = s) _ (fun x rest u s' e => ?_) (fun u s' e => ?_) _ _ rfl)
  · subst e
    by_cases hs : m'.seen.has x = true
    · rw [if_pos hs]; exact wpAny_bind (wpAny_rule (wpAny_pure rfl))
    · rw [if_neg hs]; exact wpAny_pure rfl
  · subst e
    rcases ho with ⟨h, q⟩ | ⟨h, q⟩
    · rw [h]; exact wpAny_pure q
    · rw [h]; exact wpAny_pure q
end
theorem search_start (text : Array Nat) (start : Nat) : Sre.forSearch verCode text 1 start text.size false =
    if start > text.size ∨ text.size - start < 1 then ({ St text start 5 start start true #[none, none] (-1) (-1) [] 0 (some false) (({} : Sre.Seen).add 14) with lastStart := 0 } : Sre.M) else Start text start true #[none, none] (({} : Sre.Seen).add 14) := by
  have key : Sre.forSearch verCode text 1 start text.size false =
      if (decide (start > text.size) || decide (text.size - start < 1)) = true then ({ St text start 5 start start true #[none, none] (-1) (-1) [] 0 (some false) (({} : Sre.Seen).add 14) with lastStart := 0 } : Sre.M) else Start text start true #[none, none] (({} : Sre.Seen).add 14) := by kernel_rfl
  rw [key]
  simp only [Bool.or_eq_true, decide_eq_true_eq]
theorem sep_not_dig {c : Nat} (h : sepB c = true) : digB c = false := by
  have hc : c < 256 := by unfold sepB at h; simp only [Bool.and_eq_true, decide_eq_true_eq] at h; exact h.1
  have : ∀ c, c < 256 → sepB c = true → digB c = false := by decide +kernel
  exact this c hc h
/-- a token at the head of what is left -/
noncomputable def IsTk (tk rest : List Nat) : Prop := (tk ≠ [] ∧ (∀ c ∈ tk, digB c = true) ∧ ∀ c, rest.head? = some c → digB c = false) ∨ ∃ c, tk = [c] ∧ sepB c = true
theorem getD_drop {text : Array Nat} {s c : Nat} {r : List Nat} (h : text.toList.drop s = c :: r) : s < text.size ∧ text.getD s 0 = c ∧ text.toList.drop (s + 1) = r := by
  have hlt : s < text.toList.length := by
    rcases Nat.lt_or_ge s text.toList.length with q | q
    · exact q
    · rw [List.drop_of_length_le q] at h; cases h
  rw [List.drop_eq_getElem_cons hlt] at h
  injection h with h1 h2
  rw [Array.length_toList] at hlt
  refine ⟨hlt, ?_, h2⟩
  simp only [Array.getElem_toList] at h1
  simp [Array.getD, hlt, h1]
theorem takeWhile_tk {tk rest : List Nat} (h1 : ∀ c ∈ tk, digB c = true) (h2 : ∀ c, rest.head? = some c → digB c = false) : (tk ++ rest).takeWhile digB = tk := by
  induction tk with
  | nil =>
    cases rest with
    | nil => rfl
    | cons c r => rw [List.nil_append, List.takeWhile_cons_of_neg (by rw [h2 c rfl]; decide)]
  | cons c r ih => rw [List.cons_append, List.takeWhile_cons_of_pos (h1 c (.head _)), ih fun x hx => h1 x (.tail _ hx)]
theorem tk_at {text : Array Nat} {s : Nat} {tk rest : List Nat} (h : text.toList.drop s = tk ++ rest) (ht : IsTk tk rest) (om : Bool) (a b : Option Nat) (seen : Sre.Seen) (hz : text.size ≤ 4294967295) :
    ∃ m, Found s (s + tk.length) m ∧ Goes 14 (Start text s om #[a, b] seen) m := by
  rcases ht with ⟨h0, h1, h2⟩ | ⟨c, rfl, hc⟩
  · have hd : dgt text s = tk.length := by unfold dgt; rw [h, takeWhile_tk h1 h2]
    have hn : dgt text s ≠ 0 := by rw [hd]; exact fun z => h0 (List.length_eq_zero_iff.mp z)
    have := at_tok text s om a b seen hz (.inl hn)
    rw [if_neg hn, hd] at this
    exact this
  · obtain ⟨p1, p2, p3⟩ := getD_drop (r := rest) h
    have hd : dgt text s = 0 := by unfold dgt; rw [h, List.singleton_append, List.takeWhile_cons_of_neg (by rw [sep_not_dig hc]; decide)]; rfl
    have := at_tok text s om a b seen hz (.inr ⟨p1, by rw [p2]; exact hc⟩)
    rw [if_pos hd] at this
    exact this
theorem no_tk {text : Array Nat} {s c : Nat} {r : List Nat} (h : text.toList.drop s = c :: r) (hc : tokB c = false) (om : Bool) (a b : Option Nat) (seen : Sre.Seen) (hz : text.size ≤ 4294967295) :
    ∃ seen', Goes 7 (Start text s om #[a, b] seen) (Start text (s + 1) false #[some s, b] seen') := by
  obtain ⟨p1, p2, p3⟩ := getD_drop h
  obtain ⟨q1, q2⟩ := Bool.or_eq_false_iff.mp hc
  have hd : dgt text s = 0 := by unfold dgt; rw [h, List.takeWhile_cons_of_neg (by rw [q1]; decide)]; rfl
  obtain ⟨s', g⟩ := at_none text s om a b seen hz hd (by rw [p2, q2]; exact fun z => Bool.noConfusion z.2)
  rw [if_pos p1] at g
  exact ⟨s', g⟩
theorem search_hit {text : Array Nat} {tk rest : List Nat} (ht : IsTk tk rest) (hz : text.size ≤ 4294967295) : ∀ (pre : List Nat) (s : Nat) (om : Bool) (a b : Option Nat) (seen : Sre.Seen), text.toList.drop s = pre ++ (tk ++ rest) → (∀ c ∈ pre, tokB c = false) →
    ∃ m, Found (s + pre.length) (s + pre.length + tk.length) m ∧ Goes (7 * pre.length + 14) (Start text s om #[a, b] seen) m
  | [], s, om, a, b, seen, h, _ => by
    rw [List.nil_append] at h
    obtain ⟨m, hm, g⟩ := tk_at h ht om a b seen hz
    exact ⟨m, hm, g.mono (by simp)⟩
  | c :: pre, s, om, a, b, seen, h, hp => by
    obtain ⟨s1, g1⟩ := no_tk h (hp c (.head _)) om a b seen hz
    obtain ⟨m, hm, g2⟩ := search_hit ht hz pre (s + 1) false (some s) b s1 (getD_drop h).2.2 fun x hx => hp x (.tail _ hx)
    refine ⟨m, ?_, (g1.trans g2).mono (by rw [List.length_cons]; (first | lia | omega))⟩
    rw [List.length_cons, show s + (pre.length + 1) = s + 1 + pre.length from by (first | lia | omega)]
    exact hm
theorem search_miss {text : Array Nat} (hz : text.size ≤ 4294967295) : ∀ (pre : List Nat) (s : Nat) (om : Bool) (a b : Option Nat) (seen : Sre.Seen), text.toList.drop s = pre → (∀ c ∈ pre, tokB c = false) →
    ∃ m : Sre.M, m.outcome = some .failed ∧ Goes (7 * pre.length + 8) (Start text s om #[a, b] seen) m
  | [], s, om, a, b, seen, h, _ => by
    have hd : dgt text s = 0 := by unfold dgt; rw [h]; rfl
    have hs : ¬ s < text.size := fun q => by
      have := congrArg List.length h
      rw [List.length_drop, Array.length_toList, List.length_nil] at this
      (first | lia | omega)
    obtain ⟨s', g⟩ := at_none text s om a b seen hz hd fun z => hs z.1
    rw [if_neg hs] at g
    exact ⟨_, rfl, (g.trans (Goes.next (b := 0) (m' := ({ St text s 5 s s om #[some s, b] 0 (-1) [] 0 (some false) s' with outcome := some .failed } : Sre.M)) rfl rfl Goes.refl)).mono (by simp)⟩
  | c :: pre, s, om, a, b, seen, h, hp => by
    obtain ⟨s1, g1⟩ := no_tk h (hp c (.head _)) om a b seen hz
    obtain ⟨m, hm, g2⟩ := search_miss hz pre (s + 1) false (some s) b s1 (getD_drop h).2.2 fun x hx => hp x (.tail _ hx)
    exact ⟨m, hm, (g1.trans g2).mono (by rw [List.length_cons]; (first | lia | omega))⟩
section
variable {M : Model} {A : Around} {E : Value → Shared → Prop} {s : Shared}
theorem find_hit {t : Builtin.Re.ReTarget} {start : Nat} {pre tk rest : List Nat} {Q : Option Sre.M → Shared → Prop} (hc : t.code = verCode) (hg : t.groups = 1) (hl : t.lim = t.text.size) (hz : t.text.size ≤ 100000000) (ht : IsTk tk rest) (hd : t.text.toList.drop start = pre ++ (tk ++ rest)) (hp : ∀ c ∈ pre, tokB c = false)
    (h : ∀ m, Found (start + pre.length) (start + pre.length + tk.length) m → Q (some m) s) : wpAny M A (Builtin.Re.reNextFound t start false) Q E s := by
  unfold Builtin.Re.reNextFound
  rw [hc, hg, hl, search_start]
  have hne : tk ≠ [] := by rcases ht with q | ⟨c, rfl, _⟩; exact q.1; exact List.cons_ne_nil _ _
  have hlen := congrArg List.length hd
  rw [List.length_drop, Array.length_toList, List.length_append, List.length_append] at hlen
  have : tk.length ≠ 0 := fun z => hne (List.length_eq_zero_iff.mp z)
  rw [if_neg (by (first | lia | omega))]
  obtain ⟨m, hm, g⟩ := search_hit ht (by (first | lia | omega)) pre start true none none (({} : Sre.Seen).add 14) hd hp
  have hb : 7 * pre.length + 14 < 1000000000 := by (first | lia | omega)
  have hq : m.outcome = some Sre.Outcome.matched ∧ Q (some m) s ∨ m.outcome = some Sre.Outcome.failed ∧ Q none s := .inl ⟨hm.1, h m hm⟩
  with_reducible exact wpAny_runToEnd g hb hq
theorem find_miss {t : Builtin.Re.ReTarget} {start : Nat} {pre : List Nat} {Q : Option Sre.M → Shared → Prop} (hc : t.code = verCode) (hg : t.groups = 1) (hl : t.lim = t.text.size) (hz : t.text.size ≤ 100000000) (hd : t.text.toList.drop start = pre) (hp : ∀ c ∈ pre, tokB c = false)
    (h : Q none s) : wpAny M A (Builtin.Re.reNextFound t start false) Q E s := by
  unfold Builtin.Re.reNextFound
  rw [hc, hg, hl, search_start]
  have hlen := congrArg List.length hd
  rw [List.length_drop, Array.length_toList] at hlen
  split
  · refine wpAny_runToEnd (b := 1) (m' := ({ St t.text start 5 start start true #[none, none] (-1) (-1) [] 0 (some false) (({} : Sre.Seen).add 14) with lastStart := 0, outcome := some .failed } : Sre.M)) (Goes.next (b := 0) rfl rfl Goes.refl) (by decide) (.inr ⟨rfl, h⟩)
  · obtain ⟨m, hm, g⟩ := search_miss (by (first | lia | omega)) pre start true none none (({} : Sre.Seen).add 14) hd hp
    have hb : 7 * pre.length + 8 < 1000000000 := by (first | lia | omega)
    with_reducible exact wpAny_runToEnd g hb (.inr ⟨hm, h⟩)
end
end Mine
end
section
theorem Mine.fresh31 : True := by w_top off; trivial
open PySem PySem.W PyProof.Rows PySem.Calls
set_option maxRecDepth 100000
set_option maxHeartbeats 8000000
namespace Mine
noncomputable def ren (items : List (List Nat × List Nat)) (last : List Nat) : List Nat := items.flatMap (fun q => q.1 ++ q.2) ++ last
noncomputable def okIt : List (List Nat × List Nat) → List Nat → Prop
  | [], last => ∀ c ∈ last, tokB c = false
  | q :: r, last => (∀ c ∈ q.1, tokB c = false) ∧ IsTk q.2 (ren r last) ∧ okIt r last
noncomputable def stN (l : List Nat) : Str := ⟨l.toArray⟩
noncomputable def partsOf (items : List (List Nat × List Nat)) (last : List Nat) : List Str := items.flatMap (fun q => [stN q.1, stN q.2]) ++ [stN last]
theorem extract_stN {a r : List Nat} {x : Array Nat} {p : Nat} (h : x.toList.drop p = a ++ r) : (⟨x.extract p (p + a.length)⟩ : Str) = stN a := by
  unfold stN
  congr 1
  apply Array.toList_inj.mp
  rw [Array.toList_extract, List.extract_eq_take_drop, h, Nat.add_sub_cancel_left, List.take_left]
theorem drop_more {a r : List Nat} {x : List Nat} {p : Nat} (h : x.drop p = a ++ r) : x.drop (p + a.length) = r := by
  rw [← List.drop_drop, h, List.drop_left]
theorem tk_ne {tk rest : List Nat} (h : IsTk tk rest) : tk ≠ [] := by
  rcases h with q | ⟨c, rfl, _⟩
  · exact q.1
  · exact List.cons_ne_nil _ _
theorem items_le {last : List Nat} : ∀ {items : List (List Nat × List Nat)}, okIt items last → items.length ≤ (ren items last).length
  | [], _ => Nat.zero_le _
  | q :: r, h => by
    have ih := items_le h.2.2
    have h1 : q.2.length ≠ 0 := fun z => tk_ne h.2.1 (List.length_eq_zero_iff.mp z)
    show r.length + 1 ≤ (q.1 ++ q.2 ++ r.flatMap (fun q => q.1 ++ q.2) ++ last).length
    have e : (ren r last).length = (r.flatMap (fun q => q.1 ++ q.2) ++ last).length := rfl
    simp only [List.length_append] at e ⊢
    (first | lia | omega)
theorem ren_cons (q : List Nat × List Nat) (r : List (List Nat × List Nat)) (last : List Nat) : ren (q :: r) last = q.1 ++ (q.2 ++ ren r last) := by
  unfold ren; simp [List.append_assoc]
theorem slice_stN {M : Model} {A : Around} {E : Value → Shared → Prop} {s : Shared} {a r : List Nat} {x : Array Nat} {p e : Nat} {Q : Value → Shared → Prop} (h : x.toList.drop p = a ++ r) (he : e = p + a.length) (hl : a.length ≤ 1000000)
    (hQ : Q (.str (stN a) s.toks) { s with toks := s.toks + 1 }) : wpAny M A (Builtin.Re.reSlice x 0 p e) Q E s := by
  subst he
  show wpAny M A (mkStr ⟨x.extract p (p + a.length)⟩) Q E s
  rw [extract_stN h]
  refine wpAny_mkStr hQ ?_
  show (stN a).length ≤ sizeLine
  have : (stN a).length = a.length := by show (a.toArray).size = _; simp
  rw [this, sizeLine_eq]; (first | lia | omega)
theorem two_len : ∀ items : List (List Nat × List Nat), (items.flatMap fun q => [stN q.1, stN q.2]).length = 2 * items.length
  | [] => rfl
  | q :: r => by rw [List.flatMap_cons, List.length_append, two_len r, List.length_cons]; simp only [List.length_cons, List.length_nil]; (first | lia | omega)
theorem owner_rePattern : Manifest.owners.lookup (String.ofList ['n', 'r', 'e', 't', 't', 'a', 'P', '.', 'e', 'r'].reverse) = some Manifest.sig_re_Pattern := by kernel_rfl
theorem plainAttrs_rePattern : PlainAttrs "re.Pattern" :=
  ⟨⟨"object.__getattribute__", by rw [typeLookup_type, builtinLookup_eq_fast]; kernel_rfl, by decide +kernel⟩, by rw [typeLookup_type, builtinLookup_eq_fast]; kernel_rfl⟩
theorem slot_rePattern_split : Slot "re.Pattern" "split" "re.Pattern.split" :=
  .of (owner := "re.Pattern") (n := "split") (by rw [typeLookup_type, builtinLookup_eq_fast]; kernel_rfl) (by decide +kernel) (by decide +kernel) (by decide +kernel)
    (by first | exact .inl (by decide +kernel) | exact .inr (by decide +kernel)) (by rw [isSubtype_type]; kernel_rfl)
theorem ty_rePattern_split : typeOf (.builtin "re.Pattern.split") = pure (.type "method_descriptor") := by kernel_rfl
theorem entry_rePattern_split : entryFor table "re.Pattern.split" = some Builtin.«re.Pattern.split» := entryFor_of_tree (by kernel_rfl)
theorem reNamed_split (x : Str) (u : Tok) : Builtin.Re.reNamed "re.Pattern.split" "split" ["string", "maxsplit"] 1 [.str x u] [] = pure [some (.str x u), none] := by kernel_rfl
theorem split_wp {M : Model} {A : Around} {E : Value → Shared → Prop} {s : Shared} {P C : Addr} {oP oC : Obj} {fs cs : Array Value} {n : Nat} {x : Str} {u : Tok} {items : List (List Nat × List Nat)} {last : List Nat} {Q : Fin → Shared → Prop}
    (hP : s.heap.get? P = some oP) (hPd : oP.data = .fields fs) (h2 : Builtin.Re.reRawNat (fs.getD 2 .none) = 1) (h5 : fs.getD 5 .none = .ref C) (h6 : Builtin.Re.reRawNat (fs.getD 6 .none) = 0)
    (hC : s.heap.get? C = some oC) (hCd : oC.data = .seq cs n) (hcode : (cs.map Builtin.Re.reRawOf).map (·.toNat) = verCode)
    (hx : x.cps.toList = ren items last) (hok : okIt items last) (hlen : x.length ≤ 1000000)
    (h : ∀ vs tk, StrL vs (partsOf items last) → Q (.done (.ret (.ref s.heap.objs.size))) { s with heap := s.heap.push { cls := .type "list", data := .seq vs.toArray }, toks := tk }) :
    wpAny M A (Builtin.«re.Pattern.split» ⟨[.ref P, .str x u], []⟩) Q E s := by
  unfold Builtin.«re.Pattern.split»
  dsimp only
  rw [reNamed_split]
  refine wpAny_bind (wpAny_pure ?_)
  dsimp only
  refine wpAny_bind (wpAny_pure ?_)
  have hT : wpAny M A (Builtin.Re.reWholeTarget (.ref P) (.str x u)) (fun t s' => t = { pattern := .ref P, string := .str x u, code := verCode, text := x.cps, kind := 0, groups := 1, pos := 0, lim := x.cps.size } ∧ s' = s) E s := by
    unfold Builtin.Re.reWholeTarget
    refine wpAny_bind (wpAny_fieldsOf hP hPd ?_)
    refine wpAny_bind (show wpAny M A (pure (x.cps, 0)) _ E s from wpAny_pure ?_)
    dsimp only
    rw [h6]
    refine wpAny_bind (wpAny_pure ?_)
    rw [h5]
    unfold Builtin.Re.reRawItems
    refine wpAny_bind (wpAny_bind (wpAny_seqItems hC hCd (wpAny_pure ?_)))
    refine wpAny_pure ⟨?_, rfl⟩
    rw [h2]
    show _ = _
    rw [← hcode]
    rfl
  refine wpAny_bind (wpAny_mono hT (fun t s' ht => ?_) fun _ _ y => y)
  obtain ⟨rfl, rfl⟩ := ht
  dsimp only
  refine wpAny_bind (wpAny_forIn_list _ (fun rest b s1 => ∃ (dn left : List (List Nat × List Nat)) (vs : List Value) (tk p : Nat) (n : Int) (over : Bool), b = (vs.toArray, p, p, false, n, over) ∧ s1 = { s' with toks := tk } ∧ StrL vs (dn.flatMap fun q => [stN q.1, stN q.2]) ∧ items = dn ++ left ∧
    x.cps.toList.drop p = ren left last ∧ okIt left last ∧ (over = false → left.length < rest.length) ∧ (over = true → left = [])) _ (fun i rest b s1 hI => ?_) (fun b s1 hI => ?_) _ _ ?_)
  · refine p7_8 ?_ hI
    (try clear hI)
    intro dn left vs tk p n over hq1 hq2 hvs hit hdr hokl ho1 ho2
    subst hq1
    subst hq2
    dsimp only
    cases over with
    | true => exact wpAny_pure ⟨dn, left, vs, tk, p, n, true, rfl, rfl, hvs, hit, hdr, hokl, fun z => Bool.noConfusion z, ho2⟩
    | false =>
      rw [if_pos (show (!false) = true from rfl), if_neg (show ¬ ((0 : Int) != 0 && decide (n ≥ 0)) = true from by simp)]
      cases left with
      | nil =>
        refine wpAny_bind (find_miss rfl rfl rfl (Nat.le_trans hlen (by decide)) (pre := last) hdr hokl ?_)
        exact wpAny_pure ⟨dn, [], vs, tk, p, n, true, rfl, rfl, hvs, hit, hdr, hokl, fun z => Bool.noConfusion z, fun _ => rfl⟩
      | cons q r =>
        obtain ⟨ho3, ho4, ho5⟩ := hokl
        rw [ren_cons] at hdr
        have hl1 := congrArg List.length hdr
        rw [List.length_drop, Array.length_toList, List.length_append, List.length_append] at hl1
        have hl2 : x.cps.size ≤ 1000000 := hlen
        refine wpAny_bind (find_hit rfl rfl rfl (Nat.le_trans hlen (by decide)) ho4 hdr ho3 fun m hm => ?_)
        refine p0_5 ?_ hm
        (try clear hm)
        intro m1 m2 m3 m4 m5
        dsimp only
        rw [m2, m3]
        refine wpAny_bind (slice_stN hdr rfl (by (first | lia | omega)) ?_)
        simp only [List.range_one, List.forIn_cons, List.forIn_nil]
        have hdr2 := drop_more hdr
        have hg : ∀ {Q : Value → Shared → Prop} {s : Shared}, Q (.str (stN q.2) s.toks) { s with toks := s.toks + 1 } → wpAny M A (Builtin.Re.reMachineGroup { pattern := .ref P, string := .str x u, code := verCode, text := x.cps, kind := 0, groups := 1, pos := 0, lim := x.cps.size } m (0 + 1) (pure .none)) Q E s := by
          intro Q s hQ
          unfold Builtin.Re.reMachineGroup
          rw [m4, m5, if_neg (by decide)]
          show wpAny M A (if p + q.1.length + q.2.length < p + q.1.length then Builtin.Re.reWrongSpan else Builtin.Re.reSlice x.cps 0 (p + q.1.length) (p + q.1.length + q.2.length)) Q E s
          rw [if_neg (by (first | lia | omega))]
          exact slice_stN hdr2 rfl (by (first | lia | omega)) hQ
        refine wpAny_bind (wpAny_bind (wpAny_bind (hg (wpAny_pure (wpAny_pure ?_)))))
        have hne : (p + q.1.length + q.2.length == p + q.1.length) = false := by
          have : q.2.length ≠ 0 := fun z => tk_ne ho4 (List.length_eq_zero_iff.mp z)
          rw [beq_eq_false_iff_ne]; (first | lia | omega)
        refine wpAny_pure ⟨dn ++ [q], r, vs ++ [.str (stN q.1) tk, .str (stN q.2) (tk + 1)], tk + 1 + 1, p + q.1.length + q.2.length, n + 1, false, ?_, rfl, ?_, ?_, drop_more hdr2, ho5, fun _ => ?_, fun z => Bool.noConfusion z⟩
        · rw [hne]; simp
        · rw [List.flatMap_append]
          exact hvs.app (.cons _ _ (.cons _ _ .nil))
        · rw [hit]; simp
        · have := ho1 rfl
          simp only [List.length_cons] at this
          (first | lia | omega)
  · refine p7_8 ?_ hI
    (try clear hI)
    intro dn left vs tk p n over hq3 hq4 hvs hit hdr hokl ho1 ho2
    subst hq3
    subst hq4
    cases over with
    | false => exact absurd (ho1 rfl) (Nat.not_lt_zero _)
    | true =>
      obtain rfl := ho2 rfl
      rw [List.append_nil] at hit
      subst hit
      dsimp only
      rw [if_neg (by decide)]
      have hl1 := congrArg List.length hdr
      rw [List.length_drop, Array.length_toList] at hl1
      have hl2 : x.cps.size ≤ 1000000 := hlen
      have hps : p ≤ x.cps.size ∨ last = [] := by
        rcases Nat.lt_or_ge x.cps.size p with q | q
        · refine .inr (List.length_eq_zero_iff.mp ?_)
          have : (ren [] last).length = last.length := by unfold ren; simp
          rw [this] at hl1; (first | lia | omega)
        · exact .inl q
      have hsl : ∀ {Q : Value → Shared → Prop} {s : Shared}, Q (.str (stN last) s.toks) { s with toks := s.toks + 1 } → wpAny M A (Builtin.Re.reSlice x.cps 0 p x.cps.size) Q E s := by
        intro Q s hQ
        have hren : (ren [] last) = last := by unfold ren; simp
        rw [hren] at hdr hl1
        show wpAny M A (mkStr ⟨x.cps.extract p x.cps.size⟩) Q E s
        have e : (⟨x.cps.extract p x.cps.size⟩ : Str) = stN last := by
          unfold stN
          congr 1
          apply Array.toList_inj.mp
          rw [Array.toList_extract, List.extract_eq_take_drop, hdr]
          exact List.take_of_length_le (by (first | lia | omega))
        rw [e]
        refine wpAny_mkStr hQ ?_
        show (stN last).length ≤ sizeLine
        have : (stN last).length = last.length := by show (last.toArray).size = _; simp
        rw [this, sizeLine_eq]; (first | lia | omega)
      refine wpAny_bind (hsl ?_)
      refine wpAny_bind (wpAny_newList ?_ ?_)
      · refine wpAny_pure ?_
        have e : ((vs.toArray).push (Value.str (stN last) tk)).toList = vs ++ [Value.str (stN last) tk] := by simp
        rw [e]
        exact h _ _ (hvs.app (.cons _ _ .nil))
      · have hvl := hvs.length
        have hil : items.length ≤ x.cps.size := by have := items_le hok; rw [← hx] at this; exact this
        have e2 := two_len items
        rw [e2] at hvl
        rw [Array.toList_push, List.length_append, List.toList_toArray, hvl, sizeLine_eq]
        simp only [List.length_cons, List.length_nil]
        (first | lia | omega)
  · refine ⟨[], items, [], _, 0, 0, false, rfl, rfl, .nil, rfl, hx, hok, fun _ => ?_, fun z => Bool.noConfusion z⟩
    rw [List.length_range]
    have hil : items.length ≤ x.cps.size := by have := items_le hok; rw [← hx] at this; exact this
    show items.length < 2 * x.cps.size + 3
    (first | lia | omega)
theorem args_rePattern_split_2 (a : Value) (x : Str) (u : Tok) : argsOk "re.Pattern.split" ⟨[a, .str x u], []⟩ := by
  unfold argsOk; rw [signature?_of (id := "re.Pattern.split") (n := ['t', 'i', 'l', 'p', 's']) (o := ['n', 'r', 'e', 't', 't', 'a', 'P', '.', 'e', 'r']) (by kernel_rfl) owner_rePattern]; kernel_rfl
/-- the pattern as it stands in the text's own part -/
noncomputable def IsPat (h : Heap) (P : Addr) : Prop := ∃ C oP oC fs cs n, h.get? P = some oP ∧ oP.cls = .type "re.Pattern" ∧ oP.dict = none ∧ oP.data = .fields fs ∧ Builtin.Re.reRawNat (fs.getD 2 .none) = 1 ∧ fs.getD 5 .none = .ref C ∧ Builtin.Re.reRawNat (fs.getD 6 .none) = 0 ∧
  h.get? C = some oC ∧ oC.data = .seq cs n ∧ (cs.map Builtin.Re.reRawOf).map (·.toNat) = verCode
section
variable {prog : Program} {w : World} {A : Around} {E : Value → Shared → Prop} {s : Shared}
theorem IsPat.typeIs {P : Addr} (h : IsPat s.heap P) : s.TypeIs (.ref P) "re.Pattern" := by
  refine p6_3 ?_ h
  (try clear h)
  intro _ oP _ _ _ _ hP hc _
  exact ⟨oP, hP, hc⟩
theorem getM_split {P : Addr} {pl : Sem Bool} {Q : Value × List Value → Shared → Prop} (hp : IsPat s.heap P) (h : Q (.builtin "re.Pattern.split", [.ref P]) s) : wpAny (model prog w) A (getMethod (.ref P) (Str.ofString "split") pl) Q E s := by
  refine getMethod_builtin hp.typeIs plainAttrs_rePattern slot_rePattern_split ty_rePattern_split ?_ h
  intro a e
  refine p6_4 ?_ hp
  (try clear hp)
  intro _ oP _ _ _ _ hP hc hd _
  cases e
  exact ⟨oP, hP, hd⟩
theorem call_split {P : Addr} {x : Str} {u : Tok} {items : List (List Nat × List Nat)} {last : List Nat} {Q : Value → Shared → Prop} (hp : IsPat s.heap P) (hx : x.cps.toList = ren items last) (hok : okIt items last) (hlen : x.length ≤ 1000000)
    (h : ∀ vs tk l, l = s.heap.objs.size → StrL vs (partsOf items last) → Q (.ref l) { s with heap := s.heap.push { cls := .type "list", data := .seq vs.toArray }, toks := tk }) :
    wpAny (model prog w) A (PySem.call (.builtin "re.Pattern.split") [.ref P, .str x u]) Q E s := by
  refine call_meets slot_rePattern_split hp.typeIs entry_rePattern_split (args_rePattern_split_2 _ _ _)
    (S := fun _ R s => IsPat s.heap P ∧ ∀ vs tk, StrL vs (partsOf items last) → R (.ok (.ret (.ref s.heap.objs.size))) { s with heap := s.heap.push { cls := .type "list", data := .seq vs.toArray }, toks := tk }) ?_ ⟨hp, fun vs tk hv => h vs tk _ rfl hv⟩
  refine .of_wp fun prog w A R s hs => ?_
  obtain ⟨⟨C, oP, oC, fs, cs, n, h1, -, -, h2, h3, h4, h5, h6, h7, h8⟩, hR⟩ := hs
  exact split_wp h1 h2 h3 h4 h5 h6 h7 h8 hx hok hlen fun vs tk hv => ⟨_, rfl, hR vs tk hv⟩
end
end Mine
end
section
theorem Mine.fresh32 : True := by w_top off; trivial
open PySem PySem.W PyProof.Rows PySem.Calls
set_option maxRecDepth 100000
set_option maxHeartbeats 8000000
namespace Mine
/-- under the claim's caller, and no decoder about -/
noncomputable def UC (Γ : Ctx) : Prop := noDec Γ.code = true ∧ UB Γ
noncomputable def wpC {α : Type} (M : Model) (A : Around) (t : Sem α) (Q : α → Shared → Prop) (E : Value → Shared → Prop) (s : Shared) : Prop :=
  ∀ Γ p, Γ.In A → UC Γ → Sem.wp M Γ t (fun a _ s' => Q a s') (fun e _ s' => E e s') p s
section
variable {α β : Type} {M : Model} {A : Around} {E : Value → Shared → Prop} {s : Shared}
theorem wpC_of {t : Sem α} {Q : α → Shared → Prop} (h : wpAny M A t Q E s) : wpC M A t Q E s := fun Γ p hΓ _ => h Γ p hΓ
theorem codeC_of {c : Code} {R : Result → Shared → Prop} (h : codeAny M A c R s) : codeC M A c R s := fun Γ p hc hΓ _ => h Γ p hc hΓ
theorem wpC_mono {t : Sem α} {Q Q' : α → Shared → Prop} {E' : Value → Shared → Prop} (h : wpC M A t Q E s) (hQ : ∀ a s, Q a s → Q' a s) (hE : ∀ e s, E e s → E' e s) : wpC M A t Q' E' s :=
  fun Γ p hΓ hU => Sem.wp_mono M Γ t (fun a _ s => hQ a s) (fun e _ s => hE e s) p s (h Γ p hΓ hU)
theorem wpC_bind {m : Sem α} {f : α → Sem β} {Q : β → Shared → Prop} (h : wpC M A m (fun a s' => wpC M A (f a) Q E s') E s) : wpC M A (m >>= f) Q E s := fun Γ p hΓ hU => by
  rw [Sem.wp_bind']
  exact Sem.wp_mono M Γ m (fun a p' s' h' => h' Γ p' hΓ hU) (fun _ _ _ h' => h') p s (h Γ p hΓ hU)
theorem wpC_pure {a : α} {Q : α → Shared → Prop} (h : Q a s) : wpC M A (pure a) Q E s := wpC_of (wpAny_pure h)
theorem wpC_holding {vs : List Value} {m : Sem α} {Q : α → Shared → Prop} (h : wpC M A m Q E s) : wpC M A (holding vs m) Q E s :=
  fun Γ p hΓ hU => by rw [Sem.wp_holding]; exact h Γ p hΓ hU
theorem wpC_keep {vs : List Value} {m : Sem α} {Q : α → Shared → Prop} (h : wpC M A m Q E s) : wpC M A (m.keep vs) Q E s :=
  fun Γ p hΓ hU => by rw [Sem.wp_keep]; exact h Γ p hΓ hU
theorem wpC_onRaise {m : Sem α} {k : Value → Sem Unit} {Q : α → Shared → Prop} (h : wpC M A m Q (fun _ _ => False) s) : wpC M A (m.onRaise k) Q E s := fun Γ p hΓ hU => by
  rw [Sem.wp_onRaise]
  exact Sem.wp_mono M Γ m (fun _ _ _ h' => h') (fun e p' s' h' => h'.elim) p s (h Γ p hΓ hU)
theorem wpC_attempt {m : Sem α} {Q : Except Value α → Shared → Prop} (h : wpC M A m (fun a => Q (.ok a)) (fun e => Q (.error e)) s) : wpC M A m.attempt Q E s := fun Γ p hΓ hU => by
  rw [Sem.wp_attempt]; exact h Γ p hΓ hU
theorem UC.enter {Γ : Ctx} (h : UC Γ) (c : Code) (hd : Option Value) (p : Pos) : UB (Γ.enter c hd p) := by
  obtain ⟨h1, h2, h3⟩ := h
  unfold UB
  show ((Γ.code, p) :: Γ.below).any _ = true ∧ ((Γ.code, p) :: Γ.below).all _ = true
  rw [List.any_cons, h2, Bool.or_true, List.all_cons, h3, Bool.and_true]
  exact ⟨rfl, h1⟩
theorem wpC_run {c : Code} {Q : Flow → Shared → Prop} (hc : codeC M A c (fun r s' => match r with | .ok f => Q f s' | .error e => E e s') s) : wpC M A (run c) Q E s :=
  fun Γ p hΓ hU => by rw [Sem.wp_run]; exact hc _ p rfl (hΓ.enter c none p (by intro x; cases x)) (hU.enter _ _ _)
theorem wpC_call {f : Value} {pos : List Value} {kw : List (Str × Value)} {Q : Value → Shared → Prop} (hc : codeC M A (.call f ⟨pos, kw⟩) (fun r s' => match r with | .ok (.ret v) => Q v s' | .ok _ => False | .error e => E e s') s) :
    wpC M A (PySem.call f pos kw) Q E s := fun Γ p hΓ hU => by
  show Sem.wp M Γ (runValue _) _ _ p s
  rw [Sem.wp_runValue]; exact hc _ p rfl (hΓ.enter _ none p (by intro x; cases x)) (hU.enter _ _ _)
theorem codeC_of_tree {c : Code} {R : Result → Shared → Prop}
    (h : wpC M (A.under c) (M.den c) (fun fin s' => match fin with | .done f => R (.ok f) s' | .again c' => c'.quiet = true ∧ codeC M A c' R s') (fun e s' => R (.error e) s') s) (hn : noDec c = true := by rfl) : codeC M A c R s := fun Γ p hc hΓ hU => by
  rw [wpCode_iff_wp, hc]
  refine Sem.wp_mono M Γ _ (fun fin p' s' h' => ?_) (fun _ _ _ h' => h') p s (h Γ p (hc ▸ hΓ.in) ⟨hc ▸ hn, hU⟩)
  cases fin with
  | done f => exact h'
  | again c' => exact ⟨h'.1, h'.2 (Γ.goto c') p' rfl (hΓ.goto c') hU⟩
theorem codeC_loop {c : Code} {R : Result → Shared → Prop} (hq : c.quiet = true) (I : Nat → Shared → Prop)
    (turn : ∀ n s, I n s → wpC M (A.under c) (M.den c)
      (fun fin s' => match fin with
        | .done f => R (.ok f) s'
        | .again c' => (c' = c ∧ ∃ m, m < n ∧ I m s') ∨ (c'.quiet = true ∧ codeC M A c' R s')) (fun e s' => R (.error e) s') s)
    (n : Nat) (h : I n s) (hn : noDec c = true := by rfl) : codeC M A c R s := by
  induction n using Nat.strongRecOn generalizing s with
  | ind n ih =>
    refine codeC_of_tree (wpC_mono (turn n s h) (fun fin s' hf => ?_) fun _ _ h' => h') hn
    cases fin with
    | done f => exact hf
    | again c' =>
      rcases hf with ⟨rfl, m, hm, hI⟩ | hf
      · exact ⟨hq, ih m hm hI⟩
      · exact hf
end
section
variable {prog : Program} {w : World} {A : Around} {E : Value → Shared → Prop} {s : Shared} {env : Env}
theorem codeC_func {body : List Stmt} {R : Result → Shared → Prop}
    (h : wpC (model prog w) (A.deeper env) (execs body env) (fun f s' => R (.ok (.ret (match f with | .ret v => v | _ => .none))) s') (fun _ _ => False) s) : codeC (model prog w) A (.func body env) R s := by
  refine codeC_of_tree ?_
  show wpC _ (A.deeper env) (do point; match ← (execs body env).onRaise (leaving env) with | .ret v => ret v | _ => ret .none) _ _ s
  refine wpC_bind (wpC_of (wpAny_point (wpC_bind (wpC_onRaise (wpC_mono h (fun f s' h' => ?_) fun _ _ h' => h')))))
  cases f <;> exact wpC_pure h'
theorem codeC_call_function {a : Addr} {args : Args} {o : Obj} {fd : FuncData} {body : List Stmt} {R : Result → Shared → Prop} (hroom : A.depth < recursionLimit) (ho : s.heap.get? a = some o)
    (hd' : o.data = .func fd) (hco : fd.scope.isCoroutine = false) (hgen : fd.scope.isGenerator = false) (hbody : fd.body = .stmts body) (hcd : s.heap.CodeRec fd.code fd.qualname)
    (h : wpAny (model prog w) A.in1 (bindArgs fd args) (fun binds s₁ =>
      wpAny (model prog w) A.in1 (newFunctionEnv fd.scope fd.globals fd.closure binds (fd.qualname ++ ".<locals>.") (some a) fd.code none fd.builtins)
        (fun env s₂ => s₂.heap.NoLimit ∧ codeC (model prog w) A (.func body env) R s₂) (fun e s' => R (.error e) s') s₁) (fun e s' => R (.error e) s') s) :
    codeC (model prog w) A (.call (.ref a) args) R s := by
  refine codeC_of_tree ?_
  show wpC _ A.in1 (callAny (.ref a) args) _ _ s
  simp only [callAny]
  refine wpC_of ?_
  refine wpAny_bind (wpAny_load ho ?_)
  refine p4_4 ?_ hcd
  (try clear hcd)
  intro c oc vs tq hc hoc hdc hq
  simp only [hd', callFunction, hco, hgen, hbody, hc]
  rw [hc] at h
  refine wpAny_bind (m := field (.ref c) 1) (wpAny_field hoc hdc hq (wpAny_bind (wpAny_pure ?_)))
  exact wpAny_bind (wpAny_mono h (fun binds s₁ h₁ => wpAny_bind (wpAny_mono h₁ (fun env s₂ h₂ => wpAny_bind (wpAny_enterFrame h₂.1 hroom
    (wpAny_pure (And.intro rfl h₂.2)))) fun _ _ h' => h')) fun _ _ h' => h')
theorem codeC_call_def {R : Result → Shared → Prop} {a : Addr} {o : Obj} {fd : FuncData} {body : List Stmt} {args : Args} {binds : List (Str × Value)}
    (hroom : A.depth < recursionLimit) (ho : s.heap.get? a = some o) (hdata : o.data = .func fd) (hlim : s.heap.NoLimit) (hcd : s.heap.CodeRec fd.code fd.qualname)
    (hbody : fd.body = .stmts body) (hbind : BindsTo s fd args binds)
    (hcell : ∀ x ∈ fd.scope.names, x.2 ≠ .cell) (hloc : ∀ x ∈ binds, fd.scope.names.lookup x.1 = some .local)
    (h : ∀ h₀, h₀.Ns s.heap.objs.size (fun x => binds.reverse.lookup x) → (∀ b o, s.heap.get? b = some o → h₀.get? b = some o) →
      wpC (model prog w) (A.deeper (callEnv fd s.heap.objs.size a)) (execs body (callEnv fd s.heap.objs.size a)) (fun f s' => R (.ok (.ret (match f with | .ret v => v | _ => .none))) s') (fun _ _ => False)
        { s with heap := h₀, toks := s.toks + binds.length })
    (hco : fd.scope.isCoroutine = false := by rfl) (hgen : fd.scope.isGenerator = false := by rfl) (hk : fd.scope.kind = .function := by rfl) :
    codeC (model prog w) A (.call (.ref a) args) R s := by
  refine codeC_call_function hroom ho hdata hco hgen hbody hcd (hbind _ _ _ _ ?_)
  refine wpAny_newFunctionEnv hcell hloc (fun h₀ hns₀ hsb₀ => ⟨hlim.fresh _ hsb₀, codeC_func (h h₀ hns₀ fun b o e => ?_)⟩) hk
  exact hsb₀.extBut b o (Nat.ne_of_lt (Heap.lt_size e)) (Heap.get?_push_of_some _ e)
theorem wpC_execs_cons {s1 : Stmt} {rest : List Stmt} {M : Model} {Q : Flow → Shared → Prop} (h : wpC M A (exec s1 env) (fun fl s' => match fl with | .next => wpC M A (execs rest env) Q E s' | f => Q f s') E s) : wpC M A (execs (s1 :: rest) env) Q E s := by
  show wpC M A (exec s1 env >>= fun fl => match fl with | .next => execs rest env | f => pure f) Q E s
  refine wpC_bind (wpC_mono h (fun fl s' h' => ?_) fun _ _ x => x)
  cases fl with
  | next => exact h'
  | _ => exact wpC_pure h'
theorem wp_execs_app {rest : List Stmt} {M : Model} {Q : Flow → Shared → Prop} {Γ : Ctx} (hΓ : Γ.In A) (hU : UC Γ) : ∀ {l : List Stmt} {p : Pos} {s : Shared},
    Sem.wp M Γ (execs l env) (fun fl _ s' => match fl with | .next => wpC M A (execs rest env) Q E s' | f => Q f s') (fun e _ s' => E e s') p s → Sem.wp M Γ (execs (l ++ rest) env) (fun fl _ s' => Q fl s') (fun e _ s' => E e s') p s
  | [], p, s, h => by
    have h' : wpC M A (execs rest env) Q E s := h
    exact h' Γ p hΓ hU
  | s1 :: l, p, s, h => by
    have h2 : Sem.wp M Γ (exec s1 env >>= fun fl => match fl with | .next => execs l env | f => pure f) (fun fl _ s' => match fl with | .next => wpC M A (execs rest env) Q E s' | f => Q f s') (fun e _ s' => E e s') p s := h
    rw [Sem.wp_bind'] at h2
    show Sem.wp M Γ (exec s1 env >>= fun fl => match fl with | .next => execs (l ++ rest) env | f => pure f) _ _ p s
    rw [Sem.wp_bind']
    refine Sem.wp_mono M Γ _ (fun fl p' s' h3 => ?_) (fun _ _ _ x => x) p s h2
    cases fl with
    | next => exact wp_execs_app hΓ hU h3
    | _ => exact h3
theorem wpC_execs_app {l rest : List Stmt} {M : Model} {Q : Flow → Shared → Prop} (h : wpC M A (execs l env) (fun fl s' => match fl with | .next => wpC M A (execs rest env) Q E s' | f => Q f s') E s) : wpC M A (execs (l ++ rest) env) Q E s :=
  fun Γ p hΓ hU => wp_execs_app hΓ hU (h Γ p hΓ hU)
theorem wpC_Assign_Name {x : Str} {pos' : Pos} {value : Expr} {pos : Pos} {M : Model} {Q : Flow → Shared → Prop}
    (h : wpC M A (eval value env) (fun v s₁ => wpC M A (storeName env x v) (fun _ => Q .next) E s₁) E s)
    (hs : swapsWith value (some (.Name x pos')) pos.line env = pure false := by rfl) :
    wpC M A (exec (.Assign [.Name x pos'] value pos) env) Q E s := fun Γ p hΓ hU => by
  simp only [exec_Assign_Name env x pos' value pos hs, Sem.wp_bind', Sem.wp_cmd_standAt, Sem.wp_bindName, Sem.wp_pure']
  exact Sem.wp_mono M Γ _ (fun v _ s₁ h₁ => h₁ Γ _ hΓ hU) (fun _ _ _ h' => h') _ _ (h Γ _ hΓ hU)
/-- a def of the text's stands at a, and P -/
noncomputable def FnThen (h : Heap) (a : Addr) (P : Prop) : Prop := (∃ o fd, h.get? a = some o ∧ o.data = .func fd) ∧ P
theorem callWithC_function {pos : Pos} {a : Addr} {args : List (Bool × Sem Value)} {M : Model} {Q : Value → Shared → Prop} (hplain : args.any (·.1) = false)
    (h : wpC M A (evalArgs (.ref a) true args []) (fun x s₁ => FnThen s₁.heap a (wpC M A (PySem.call (.ref a) x.pos x.kw) Q E s₁)) E s) :
    wpC M A (callWith pos (.ref a) [] args []) Q E s := by
  unfold callWith
  refine wpC_bind (wpC_holding (wpC_mono h (fun x s₁ h₁ => wpC_bind (wpC_of (wpAny_standAt ?_))) fun _ _ x => x))
  have tail : ∀ {t : Sem Value}, wpC M A t Q E s₁ → wpC M A (t >>= fun r => holding [r] point >>= fun _ => pure r) Q E s₁ :=
    fun ht => wpC_bind (wpC_mono ht (fun r s₂ hr => wpC_bind (wpC_of (wpAny_holding (wpAny_point (wpC_pure hr))))) fun _ _ x => x)
  simp only [hplain, List.any_nil, Bool.or_false]
  refine wpC_bind (m := keeperOf (.ref a)) (wpC_of ?_)
  unfold keeperOf
  obtain ⟨⟨o, fd, ho, hd⟩, h₁⟩ := h₁
  refine wpAny_bind (wpAny_load ho ?_)
  rw [hd]
  refine wpAny_pure ?_
  dsimp only
  split
  · exact tail h₁
  · exact tail (by unfold callMarked; exact wpC_keep h₁)
theorem callWithC_type {pos : Pos} {T : String} {args : List (Bool × Sem Value)} {M : Model} {Q : Value → Shared → Prop} (hplain : args.any (·.1) = false)
    (h : wpC M A (evalArgs (.type T) true args []) (fun a s₁ => wpC M A (PySem.call (.type T) a.pos a.kw) Q E s₁) E s) :
    wpC M A (callWith pos (.type T) [] args []) Q E s := by
  unfold callWith
  refine wpC_bind (wpC_holding (wpC_mono h (fun a s₁ h₁ => wpC_bind (wpC_of (wpAny_standAt ?_))) fun _ _ x => x))
  simp only [hplain, List.any_nil, Bool.or_false]
  refine wpC_bind (wpC_pure ?_)
  exact wpC_bind (wpC_mono h₁ (fun r s₂ hr => wpC_bind (wpC_of (wpAny_holding (wpAny_point (wpC_pure hr))))) fun _ _ x => x)
theorem wpC_Call_Name {id : Str} {p pos : Pos} {args : List Expr} {keywords : List Keyword} {M : Model} {Q : Value → Shared → Prop}
    (h : wpC M A (eval (.Name id p) env) (fun f s₁ => wpC M A (callWith pos f [] (backTo pos (starEach args env)) (backToKw pos (keywordEach keywords env))) Q E s₁) E s) :
    wpC M A (eval (.Call (.Name id p) args keywords pos) env) Q E s := by
  rw [arm_eval_Call_Name']
  exact wpC_bind h
theorem wpC_List {elts : List Expr} {pos : Pos} {M : Model} {Q : Value → Shared → Prop}
    (h : wpC M A (spliced (backTo pos (starEach elts env))) (fun vs s₁ => wpC M A (newList vs) Q E s₁) E s) : wpC M A (eval (.List elts pos) env) Q E s := by
  show wpC M A (do standAt pos; newList (← spliced (backTo pos (starEach elts env)))) Q E s
  exact wpC_bind (wpC_of (wpAny_standAt (wpC_bind h)))
theorem wpC_If {test : Expr} {body orelse : List Stmt} {pos : Pos} {M : Model} {Q : Flow → Shared → Prop}
    (h : wpC M A (isTrue test env (eval test env)) (fun b s₁ => if b = true then wpC M A (execs body env) Q E s₁ else wpC M A (execs orelse env) Q E s₁) E s) :
    wpC M A (exec (.If test body orelse pos) env) Q E s := by
  show wpC M A (do standAt pos; if ← isTrue test env (eval test env) then execs body env else execs orelse env) Q E s
  refine wpC_bind (wpC_of (wpAny_standAt (wpC_bind (wpC_mono h (fun b s₁ h₁ => ?_) fun _ _ x => x))))
  cases b with
  | true => simpa using h₁
  | false => simpa using h₁
theorem wpC_tryStmt {body orelse : Sem Flow} {h₀ : ExceptHandler} {hs : List ExceptHandler} {M : Model} {Q : Flow → Shared → Prop}
    (h : wpC M A body (fun f s₁ => match f with | .next => wpC M A orelse Q E s₁ | f => Q f s₁)
      (fun e s₁ => wpAny M A (noteFrame e env) (fun _ s₂ => wpAny M A (setFlight e none) (fun _ s₃ => wpAny M A (handleBy e env (h₀ :: hs)) Q E s₃) E s₂) E s₁) s) :
    wpC M A (tryStmt false body (h₀ :: hs) orelse [] env) Q E s := by
  unfold tryStmt
  simp only [List.isEmpty_nil, if_true, List.isEmpty_cons, Bool.false_and, Bool.false_eq_true, if_false]
  refine wpC_bind (wpC_attempt (wpC_mono h (fun f s₁ h₁ => ?_) fun e s₁ h₁ => ?_))
  · cases f <;> first | exact h₁ | exact wpC_pure h₁
  · exact wpC_bind (wpC_mono (wpC_of h₁) (fun _ _ h₂ => wpC_bind (wpC_of (wpAny_mono h₂ (fun _ _ h₃ => wpC_of h₃) fun _ _ x => x))) fun _ _ x => x)
theorem wpC_Try {body orelse : List Stmt} {h₀ : ExceptHandler} {hs : List ExceptHandler} {pos : Pos} {M : Model} {Q : Flow → Shared → Prop}
    (h : wpC M A (execs body env) (fun f s₁ => match f with | .next => wpC M A (execs orelse env) Q E s₁ | f => Q f s₁)
      (fun e s₁ => wpAny M A (noteFrame e env) (fun _ s₂ => wpAny M A (setFlight e none) (fun _ s₃ => wpAny M A (handleBy e env (h₀ :: hs)) Q E s₃) E s₂) E s₁) s) :
    wpC M A (exec (.Try body (h₀ :: hs) orelse [] pos) env) Q E s := by
  show wpC M A (do standAt pos; tryStmt false (execs body env) (h₀ :: hs) (execs orelse env) [] env) Q E s
  exact wpC_bind (wpC_of (wpAny_standAt (wpC_tryStmt h)))
theorem wpC_For {target iter : Expr} {body orelse : List Stmt} {pos : Pos} {M : Model} {Q : Flow → Shared → Prop}
    (h : wpC M A (eval iter env) (fun x s₁ => wpC M A (pyIter x) (fun it s₂ =>
      codeC M A (.forLoop target it body orelse env) (fun r s' => match r with | .ok f => Q f s' | .error _ => False) s₂) E s₁) E s)
    (hs : ∀ x, foldedSetIterable iter env x = pure x := by intro _; rfl) :
    wpC M A (exec (.For target iter body orelse pos) env) Q E s := by
  rw [exec_For]
  refine wpC_bind (wpC_of (wpAny_standAt (wpC_bind (wpC_mono h (fun x s₁ h₁ => ?_) fun _ _ h' => h'))))
  rw [hs x]
  refine wpC_bind (wpC_pure (wpC_bind (wpC_of (wpAny_standAt (wpC_bind (wpC_holding (wpC_mono h₁ (fun it s₂ h₂ => ?_) fun _ _ h' => h')))))))
  unfold runOwn
  refine wpC_onRaise (wpC_mono (wpC_run (E := fun _ _ => False) (Q := Q) h₂) (fun _ _ x => x) fun _ _ x => x)
theorem codeC_forLoop {R : Result → Shared → Prop} {target : Expr} {it : Value} {body : List Stmt} (I : Nat → Shared → Prop)
    (turn : ∀ n s, I n s → wpC (model prog w) A (pyNext it) (fun r s₁ => match r with
      | none => R (.ok .next) s₁
      | some v => wpC (model prog w) A (letOwnedTupleGo target it v) (fun _ s₁' =>
          wpC (model prog w) A (assign target env v) (fun _ s₂ => wpC (model prog w) A (execs body env) (fun f s₃ => match f with
            | .next | .cont => ∃ m, m < n ∧ I m s₃
            | .brk => R (.ok .next) s₃
            | .ret v => R (.ok (.ret v)) s₃) (fun _ _ => False) s₂) (fun _ _ => False) s₁') (fun _ _ => False) s₁) (fun _ _ => False) s)
    (n : Nat) (h : I n s) : codeC (model prog w) A (.forLoop target it body [] env) R s := by
  refine codeC_loop rfl I (fun n s hI => ?_) n h
  show wpC _ A ((forTurn target it body [] env).onRaise (fun x => do noteFrame x env; theTreesLotGoes x)) _ _ s
  refine wpC_onRaise ?_
  simp only [forTurn]
  refine wpC_bind (wpC_of (wpAny_standAt (wpC_bind (wpC_onRaise (wpC_mono (turn n s hI) (fun r s₁ h₁ => ?_) fun _ _ h' => h')))))
  cases r with
  | none => exact wpC_pure (.inr ⟨rfl, codeC_of (codeAny_block (wpAny_execs_nil h₁))⟩)
  | some v =>
    refine wpC_bind (wpC_mono h₁ (fun _ s₁' h₁' => ?_) fun _ _ h' => h')
    refine wpC_bind (wpC_mono h₁' (fun _ s₂ h₂ => wpC_bind (wpC_mono h₂ (fun f s₃ h₃ => ?_) fun _ _ h' => h')) fun _ _ h' => h')
    cases f with
    | next => exact wpC_pure (.inl ⟨rfl, h₃⟩)
    | cont => exact wpC_pure (.inl ⟨rfl, h₃⟩)
    | brk => exact wpC_pure h₃
    | ret v => exact wpC_pure h₃
end
end Mine
end
section
theorem Mine.fresh33 : True := by w_top off; trivial
open PySem PySem.W PyProof.Rows PySem.Calls PySem.StrLaws PySem.NumText
set_option maxRecDepth 100000
set_option maxHeartbeats 8000000
namespace Mine
section
variable {M : Model} {A : Around} {E : Value → Shared → Prop} {s : Shared}
theorem wpC_mark {own : List String} {e : Value} {Q : Unit → Shared → Prop} (h : Q () s) : wpC M A (markTheRefusal own e) Q E s := fun Γ p hΓ hU => by
  unfold markTheRefusal
  show Sem.wp M Γ (Sem.bind stack _) _ _ p s
  unfold stack
  rw [Sem.wp_bind, Sem.wp_stack]
  have hc : pythonCodeMadeTheCall own (((Γ.code, p) :: Γ.below).map (·.1)) = false := by
    unfold pythonCodeMadeTheCall
    have : ((((Γ.code, p) :: Γ.below).map (·.1)).any fun c => match c with | .builtin "claim.caller" _ => true | _ => false) = true := by
      rw [List.map_cons, List.any_cons, List.any_map]
      have hU' : Γ.below.any ((fun c => match c with | Code.builtin "claim.caller" _ => true | _ => false) ∘ fun x => x.1) = true := hU.2.1
      rw [hU', Bool.or_true]
    exact Bool.and_eq_false_iff.mpr (.inl (Bool.and_eq_false_iff.mpr (.inl (congrArg (fun b => !b) this))))
  show Sem.wp M Γ (if pythonCodeMadeTheCall own (((Γ.code, p) :: Γ.below).map (·.1)) = true then _ else pure ()) _ _ p s
  rw [hc, if_neg Bool.false_ne_true]
  exact (wpAny_pure h : wpAny M A (pure ()) Q E s) Γ p hΓ
theorem wpC_delta {α : Type} {T T' : Sem α} {Q : α → Shared → Prop} (_ : ∀ (Q : α → Shared → Prop) (E : Value → Shared → Prop) (s : Shared), wpAny M A T' Q E s → wpAny M A T Q E s) (he : T' = T) (h : wpC M A T' Q E s) : wpC M A T Q E s := he ▸ h
end
section
variable {prog : Program} {w : World} {A : Around} {E : Value → Shared → Prop} {s : Shared}
theorem wpC_text_bad {x : Str} {u : Tok} {text : List Nat} {Q : Value → Shared → Prop} (hh : A.handled = none) (hs : (text.takeWhile (· != 0)).length ≤ 640)
    (hr : (int_private% "readNumeral") 0 10 (text.takeWhile (· != 0)) = (int_private% "Numeral.invalid")) (hx : (reprText x).length ≤ sizeLine)
    (h : ∀ h' tk e, Heap.NewExc s.heap h' e "ValueError" → E (.ref e) { s with heap := h', toks := tk }) : wpC (model prog w) A ((int_private% "intFromText") (.str x u) text 10) Q E s := by
  refine wpC_delta (T' := ?T1) ?hi1 ?he1 ?hh1
  case hi1 => intro Q E s h; wp_delta; exact h
  case he1 => rfl
  dsimp only
  rw [if_pos hs]
  refine wpC_bind (wpC_pure ?_)
  rw [hr]
  dsimp only
  refine wpC_bind (wpC_of ?_)
  wp_delta
  refine wpAny_pure ?_
  rw [if_neg (by simp)]
  refine wpC_bind (wpC_of (wpAny_rule ?_))
  refine wpC_bind (wpC_of ?_)
  wp_delta
  refine wpAny_pure ?_
  dsimp only
  refine wpC_bind (wpC_of (wpAny_pyRepr_str ?_ hx))
  refine wpC_bind (wpC_of (wpAny_mkStr ?_ ?hz))
  case hz =>
    have h1 : ((reprText x).cps.extract 0 200).size ≤ 200 := by rw [Array.size_extract]; (first | lia | omega)
    have h2 : (Str.ofString (toString "invalid literal for int() with base " ++ toString 10 ++ toString ": ")).length ≤ 100 := by decide +kernel
    have h3 : (Str.ofString (toString "invalid literal for int() with base " ++ toString 10 ++ toString ": ") ++ (⟨(reprText x).cps.extract 0 200⟩ : Str)).length = (Str.ofString (toString "invalid literal for int() with base " ++ toString 10 ++ toString ": ")).length + ((reprText x).cps.extract 0 200).size := Array.size_append ..
    rw [h3, sizeLine_eq]; (first | lia | omega)
  refine wpC_bind (wpC_of (wpAny_newExc_plain plainExc_ValueError fun h' e hm => ?_))
  refine wpC_bind (wpC_mark ?_)
  refine wpC_of (wpAny_raiseNew_none hh ?_)
  exact h _ _ _ hm.newExc
theorem wpC_new_bad {x : Str} {u v : Tok} {Q : Fin → Shared → Prop} (hh : A.handled = none) (ha : x.cps.all (· < 128) = true) (hs : (x.cps.toList.takeWhile (· != 0)).length ≤ 640)
    (hr : (int_private% "readNumeral") 0 10 (x.cps.toList.takeWhile (· != 0)) = (int_private% "Numeral.invalid")) (hx : (reprText x).length ≤ sizeLine)
    (h : ∀ h' tk e, Heap.NewExc s.heap h' e "ValueError" → E (.ref e) { s with heap := h', toks := tk }) : wpC (model prog w) A (Builtin.«int.__new__» ⟨[.type "int", .str x u, .int 10 v], []⟩) Q E s := by
  have f1 := F.conv_sub_int
  have f2 := F.madeHere_int
  unfold Builtin.«int.__new__»
  dsimp only
  obtain ⟨hp, g, d, tk, os⟩ := s
  refine wpC_bind (wpC_of ?_)
  repeat wp_step
  rw [if_neg (by decide), f1]
  refine wpC_bind (wpC_pure ?_)
  rw [if_neg (by decide), f2]
  refine wpC_bind (wpC_pure ?_)
  rw [if_neg (by simp), if_neg (by simp)]
  rw [List.forIn_nil]
  refine wpC_bind (wpC_pure ?_)
  show wpC _ _ (Builtin.Int.intIndex "int.__new__" (.int 10 v) >>= _) _ _ _
  refine wpC_bind (wpC_of ?_)
  repeat wp_step
  rw [if_neg (by decide)]
  refine wpC_bind (wpC_of ?_)
  repeat wp_step
  rw [if_pos ha]
  dsimp only
  show wpC _ _ ((int_private% "intFromText") (.str x u) x.cps.toList 10 >>= _) _ _ _
  exact wpC_bind (wpC_text_bad hh hs hr hx h)
theorem codeC_builtin {id : String} {args : Args} {b : Builtin} {R : Result → Shared → Prop} (hn : noDec (.builtin id args) = true) (hb : entryFor table id = some b)
    (h : wpC (model prog w) (A.under (.builtin id args)) (b args)
      (fun fin s' => match fin with | .done f => R (.ok f) s' | .again c' => c'.quiet = true ∧ codeC (model prog w) A c' R s') (fun e s' => R (.error e) s') s) :
    codeC (model prog w) A (.builtin id args) R s := by
  refine codeC_of_tree ?_ hn
  show wpC _ _ (match entryFor table id with | some b => b args | none => unsupported ((withoutEnding? id "#data").getD id)) _ _ s
  rw [hb]; exact h
theorem codeC_call_builtin {id : String} {args : Args} {b : Builtin} {R : Result → Shared → Prop} (hn : noDec (.builtin id args) = true) (hp : plainId id = true) (hb : entryFor table id = some b) (hc : checkBuiltinCall id args = pure ())
    (h : wpC (model prog w) A.in1 (b args) (fun fin s' => match fin with | .done f => R (.ok f) s' | .again c' => c'.quiet = true ∧ codeC (model prog w) A c' R s') (fun e s' => R (.error e) s') s) :
    codeC (model prog w) A (.call (.builtin id) args) R s := by
  refine codeC_of_tree ?_
  show wpC _ A.in1 (do checkBuiltinCall id args; again (.builtin id args)) _ _ s
  rw [hc]
  refine wpC_bind (wpC_pure (wpC_pure ⟨plainId_quiet hp args, codeC_builtin hn hb ?_⟩))
  rw [Around.under_plainId hp]
  exact h
theorem typeCall_int_2 (a b : Value) : checkTypeCall "int" ⟨[a, b], []⟩ = pure () := by kernel_rfl
theorem newCall_int_2 (a b : Value) : checkBuiltinCall "int.__new__" ⟨[.type "int", a, b], []⟩ = pure () :=
  new_check (by kernel_rfl) (by kernel_rfl) (signature?_of (id := "int.__new__") (n := ['_', '_', 'w', 'e', 'n', '_', '_']) (o := ['t', 'n', 'i']) (by kernel_rfl) F.owner_int) F.called_int.sub (by kernel_rfl) (by kernel_rfl) F.called_int.made (by kernel_rfl)
theorem call_int_bad {x : Str} {u v : Tok} {Q : Value → Shared → Prop} (hh : A.handled = none) (ha : x.cps.all (· < 128) = true) (hs : (x.cps.toList.takeWhile (· != 0)).length ≤ 640)
    (hr : (int_private% "readNumeral") 0 10 (x.cps.toList.takeWhile (· != 0)) = (int_private% "Numeral.invalid")) (hx : (reprText x).length ≤ sizeLine)
    (h : ∀ h' tk e, Heap.NewExc s.heap h' e "ValueError" → E (.ref e) { s with heap := h', toks := tk }) : wpC (model prog w) A (PySem.call (.type "int") [.str x u, .int 10 v]) Q E s := by
  obtain ⟨c, tl, hmro⟩ := F.called_int.mro
  have hmade := F.called_int.made
  refine wpC_call (codeC_of_tree ?_)
  show wpC _ _ (callAny (.type "int") _) _ _ _
  refine wpC_of (wpAny_pure ⟨Code.quiet_builtin _ (by decide +kernel), codeC_builtin rfl F.entry_type_call ?_⟩)
  rw [Around.under_plain (weight_type_call_type "int" _ []) (units_type_call_type "int" _ [])]
  have h1 := F.called_int.notType
  have h2 := F.called_int.canCreate
  unfold Builtin.«type.__call__»
  dsimp only
  rw [if_neg (by rw [h1]; exact Bool.false_ne_true), if_neg (by rw [h2]; exact Bool.false_ne_true), typeCall_int_2]
  refine wpC_bind (wpC_pure ?_)
  rw [hmro]
  refine wpC_bind (wpC_pure ?_)
  rw [if_neg (by simp), hmade]
  refine wpC_bind (wpC_pure ?_)
  dsimp only
  refine wpC_bind (wpC_pure ?_)
  refine wpC_bind (wpC_holding (wpC_call (codeC_call_builtin rfl F.called_int.plain F.entry_int_new (newCall_int_2 _ _) ?_)))
  exact wpC_new_bad hh ha hs hr hx h
theorem gives_text2 {x : PySem.Str} {u v : Tok} {n : Int} (hl : x.length ≤ 640) (hn : PySem.intText? x = some n) : Gives (Builtin.«int.__new__» ⟨[.type "int", .str x u, .int 10 v], []⟩) (.int n) :=
  .of_wp fun M A E s Q h => by
    obtain ⟨hp, g, d, tk, os⟩ := s
    have f1 := F.conv_sub_int
    have f2 := F.madeHere_int
    have f6 : typeOf (.str x u) = pure (.type "str") := rfl
    have hs : (numSeenOf x).length ≤ 640 := Nat.le_trans (seen_length x) hl
    have hr : (int_private% "readNumeral") 0 10 (numSeenOf x) = (int_private% "Numeral.value") n ∧ ((numSeenOf x).length == (numTextOf x).length) = true := by
      rcases read0 x hs with ⟨m, h1, h2, h3⟩ | ⟨h1, _⟩
      · rw [hn] at h1
        injection h1 with h1
        subst h1
        exact ⟨h3, h2⟩
      · rw [hn] at h1
        cases h1
    have hk := KIN.Hid.mk (And.intro hs hr)
    clear hs hr hl hn
    repeat (any_goals (first
      | assumption
      | ((with_reducible show wpAny _ _ ((int_private% "intFromText") _ _ _) _ _ _); refine KIN.wp_text hk.out.1 hk.out.2.1 hk.out.2.2 ?_)
      | wp_step))
    all_goals first | exact ⟨_, rfl, h⟩ | skip
theorem call_int_ok {x : Str} {u v : Tok} {n : Int} {Q : Value → Shared → Prop} (hl : x.length ≤ 640) (hn : PySem.intText? x = some n) (h : Q (.int n s.toks) { s with toks := s.toks + 1 }) : wpAny (model prog w) A (PySem.call (.type "int") [.str x u, .int 10 v]) Q E s :=
  callType_new F.called_int F.newNe_int (typeCall_int_2 _ _) (newCall_int_2 _ _) (fun obj => F.args_object_init_3 obj _ _) F.entry_int_new (gives_text2 hl hn).meets (show (Made.int n).post _ s from ⟨rfl, h⟩)
end
end Mine
end
section
theorem Mine.fresh34 : True := by w_top off; trivial
open PySem PySem.W PyProof.Rows PySem.Calls
set_option maxRecDepth 100000
set_option maxHeartbeats 8000000
namespace Mine
section
variable {M : Model} {A : Around} {E : Value → Shared → Prop} {s : Shared}
theorem wpAny_looks_first {base : Heap} {env : Env} {outer : List Env} {L e : Addr} {oe : Obj} {vs : Array Value} {a0 : Value} {Q : Unit → Shared → Prop}
    (hfr : A.frames = some (env :: outer)) (hl : s.heap.FunFrames base (env :: outer)) (hf : env.frame = some L)
    (he : s.heap.get? e = some oe) (hkb : base.StaysIn s.heap) (hen : base.get? e = none) (hd : oe.data = .fields vs) (h1 : vs[1]? = some .none) (h0 : vs[0]? = some a0)
    (hQ : ∀ h', Heap.HeldW base (env :: outer) e oe.cls a0 L h' → s.heap.UpToSlots h' → Q () { s with heap := h' }) : wpAny M A (noteFrame (.ref e) env) Q E s := by
  unfold noteFrame
  simp only [hf]
  refine wpAny_bind (wpAny_field he hd h1 ?_)
  rw [if_neg (by decide)]
  refine wpAny_entryW hfr hl hf he hkb hen hd (Array.getElem?_eq_some_iff.mp h1).1 h0 fun h' hN => ?_
  obtain ⟨k1, k2, k3, k4⟩ := hN
  exact hQ h' ⟨k1, hen, k2, k3⟩ k4
end
section
variable {prog : Program} {w : World} {A₀ : Around} {E : Value → Shared → Prop} {s' : Shared} {base g g₀ h : Heap} {outer : List Env} {L a e : Addr} {m : Str → Option Value} {name : Str} {scope : Scope} {cd : Value}
  {n : Str} {b₀ : Stmt} {suite : List Stmt} {pos np : Pos} {rest : List ExceptHandler} {Q : Flow → Shared → Prop} {news : List (Addr × Obj)} {KF : Frag}
  {p : Program} {loose : List Str} {mean : ExcName → Option Value} {mg mb : Str → Option Value} {x : Str} {X T' : String}
theorem caught_own (hx : Heap.NewExc h s'.heap e X) (K : Below A₀ base outer g) (F : Fr g L h m) (N : News g L h news) (XB : KF.In base) (TB : Top p loose mean mg mb base)
    (D : KtsDicts (outer.filterMap (·.frame)) g) (T0 : KtsTurn (outer.filterMap (·.frame)) g₀ g)
    (ex : nsIn KF mainGlobals x = some none) (hv : bootBuiltins x = some (.type T')) (hn' : x ≠ "__name__")
    (hexc : isSubtype (.type T') (.type "BaseException") = pure true) (hnt : isSubtype (.type ((Manifest.find? T').elim "type" fun y => y.metatype)) (.type "tuple") = pure false) (hsub : isSubtype (.type X) (.type T') = pure true)
    (k : ∀ h' g', KtsTurn (outer.filterMap (·.frame)) g₀ g' → Fr g' L h' m → News g' L h' news → Below A₀ base outer g' → KF.In g' → Top p loose mean mg mb g' → KtsDicts (outer.filterMap (·.frame)) g' →
      wpAny (model prog w) ((A₀.deeper (envOf name scope L a cd)).mark (some (.ref e))) (execs (b₀ :: suite) (envOf name scope L a cd)) Q E { s' with heap := h' })
    (hk : scope.kind = .function := by rfl) (hxk : (envOf name scope L a cd).kindOf x = some .globalImplicit := by rfl) (hd : (x == ("__debug__" : Str)) = false := by decide)
    (hE : PassesOwnAt (model prog w) ((A₀.deeper (envOf name scope L a cd)).mark (some (.ref e))) (A₀.deeper (envOf name scope L a cd)) (envOf name scope L a cd) E := by passes_own) :
    wpAny (model prog w) (A₀.deeper (envOf name scope L a cd)) (noteFrame (.ref e) (envOf name scope L a cd))
      (fun _ s₂ => wpAny (model prog w) (A₀.deeper (envOf name scope L a cd)) (setFlight (.ref e) none) (fun _ s₃ =>
        wpAny (model prog w) (A₀.deeper (envOf name scope L a cd)) (handleBy (.ref e) (envOf name scope L a cd) (.ExceptHandler (some (.Name x np)) none (b₀ :: suite) pos :: rest)) Q E s₃) E s₂) E s' := by
  have K' := K.push (name := name) (a := a) (cd := cd) F hk
  have hin : ∀ env ∈ (envOf name scope L a cd :: outer), ∀ b, env.frame = some b → b ∈ (envOf name scope L a cd :: outer).filterMap (·.frame) := fun env he b hb => List.mem_filterMap.mpr ⟨env, he, hb⟩
  have hB : base.StaysIn (hideAll h ((envOf name scope L a cd :: outer).filterMap (·.frame))) := fun b o q => hideAll_get _ (K'.stays b o q) fun hm => by
    rw [(K'.frames.mem hm).1] at q; cases q
  have hBG : ∀ b o, h.get? b = some o → b ∉ (envOf name scope L a cd :: outer).filterMap (·.frame) → (hideAll h ((envOf name scope L a cd :: outer).filterMap (·.frame))).get? b = some o := fun b o q nm => hideAll_get _ q nm
  have hl : ∀ q ∈ news, (hideAll h ((envOf name scope L a cd :: outer).filterMap (·.frame))).get? q.1 = some q.2 := fun q hq => by
    refine hideAll_get _ (N q hq).1 fun hm => ?_
    obtain ⟨env, he, hf⟩ := List.mem_filterMap.mp hm
    rcases List.mem_cons.mp he with rfl | he
    · exact (N q hq).2.1 (Option.some.inj hf).symm
    · obtain ⟨o, ho, _⟩ := (K.frames.mem (List.mem_filterMap.mpr ⟨env, he, hf⟩)).2
      rw [(N q hq).2.2] at ho; cases ho
  have hL : (hideAll h ((envOf name scope L a cd :: outer).filterMap (·.frame))).get? L = none := hideAll_none _ (hin _ (.head _) L rfl)
  have hp1 := hx.there
  refine p2_3 ?_ hp1
  (try clear hp1)
  intro ob tp he hcls hdd
  have hen : (hideAll h ((envOf name scope L a cd :: outer).filterMap (·.frame))).get? e = none := by
    cases q : (hideAll h ((envOf name scope L a cd :: outer).filterMap (·.frame))).get? e with
    | none => rfl
    | some o => have := of_hideAll _ q; rw [hx.new] at this; cases this
  refine wpAny_looks_first (a0 := tp) (Around.frames_deeper K.stack) ((funFrames_hide K'.frames hin).of_keeps fun b o hb _ => ⟨o, hx.keeps b o hb, rfl⟩) rfl he (fun b o hb => hx.keeps b o (of_hideAll _ hb)) hen hdd rfl rfl fun h₄ hheld₄ hsm₄' => ?_
  rw [hcls] at hheld₄
  have hsm₄ : h.UpToSlots h₄ := (Heap.UpToSlots.of_keeps hx.keeps).trans hsm₄'
  refine wpAny_landsW hheld₄ fun h₅ hheld hsm₅' => ?_
  have hsm₅ := hsm₄.trans hsm₅'
  obtain ⟨g₅, T₅, F₅, K₅⟩ := kts_ground K F hBG hheld.1 hsm₅
  have X₅ : KF.In g₅ := XB.keeps K₅.stays
  have P₅ : TopRead p loose mg mb g₅ := topRead_of (TB.keeps K₅.stays)
  obtain ⟨ob', hob, hobc⟩ := hheld.there
  refine wpAny_handleBy_builtin (X := X) (T := T') (b := true) hexc hnt hsub (name_B F₅ X₅ P₅ ex hv hn' ⟨rfl, ⟨ob', hob, hobc⟩, ?_⟩ hk hxk hd)
  refine lands_againW hheld fun h₆ hfl₆ hsm₆ => ?_
  obtain ⟨g₆, T₆, F₆, K₆⟩ := kts_ground K F hBG hfl₆.1 (hsm₅.trans hsm₆)
  have Nl : News g₆ L h₆ news := fun q hq => ⟨hfl₆.1 _ _ (hl q hq), (fun z => by have := (hl q hq); rw [z, hL] at this; cases this), T₆.none_ _ (N q hq).2.2⟩
  exact wpAny_passesOwnAt hE (k h₆ g₆ (T0.trans T₆) F₆ Nl K₆ (XB.keeps K₆.stays) (TB.keeps K₆.stays) (D.turn T₆))
end
/-- entering a def under the claim's caller, over the whole heap as its base -/
theorem codeC_pure {prog : Program} {w : World} {A A₀ : Around} {s : Shared} {K : Frag} {L : Addr} {h₀ base : Heap} {m mg mb : Str → Option Value} {p : Program} {loose : List Str} {mean : ExcName → Option Value}
    {env : Env} {outer : List Env} {R : Result → Shared → Prop} {name qual : Str} {params : Arguments} {body : List Stmt} {scope : Scope} {dV kV doc pm cdv ct oc : Value} {an od : Option Addr} {osl : Array (Option Value)} {f : Addr} {args : Args} {binds : List (Str × Value)}
    (B : Below A₀ base outer h₀) (F : Fr h₀ L s.heap m) (XB : K.In base) (TB : Top p loose mean mg mb base) (D : KtsDicts (outer.filterMap (·.frame)) h₀) (hA : A.frames = some (env :: outer)) (hf : env.frame = some L) (hke : env.scope.kind = .function)
    (ho : K.lookup f = some ⟨oc, od, .func (fnOf name qual params body scope dV kV doc pm an cdv ct), osl⟩) (hcd : codeIn K cdv qual = true) (hroom : A.depth < recursionLimit)
    (hbind : BindsTo s (fnOf name qual params body scope dV kV doc pm an cdv ct) args binds) (hloc : ∀ y ∈ binds, scope.names.lookup y.1 = some .local)
    (h : ∀ L' h₁, Fr s.heap L' h₁ (fun y => binds.reverse.lookup y) → News s.heap L' h₁ [] → Below A base (env :: outer) s.heap → K.In s.heap → Top p loose mean mg mb s.heap → KtsDicts ((env :: outer).filterMap (·.frame)) s.heap →
      wpC (model prog w) (A.deeper (envOf qual scope L' f cdv)) (execs body (envOf qual scope L' f cdv))
        (fun fl s' => R (.ok (.ret (match fl with | .ret v => v | _ => .none))) s') (fun _ _ => False)
        { s with heap := h₁, toks := s.toks + binds.length })
    (hco : scope.isCoroutine = false) (hgen : scope.isGenerator = false) (hk : scope.kind = .function)
    (hcell : ∀ x ∈ scope.names, x.2 ≠ .cell) : codeC (model prog w) A (.call (.ref f) args) R s := by
  have X₀ : K.In h₀ := XB.keeps B.stays
  have T := TB.keeps B.stays
  have X := X₀.keeps F.keep
  have hTk := T.keeps F.keep
  have B₁ := pushX B F hf hke
  have BG : Below A base (env :: outer) s.heap := ⟨hA, B₁.stays, B₁.frames⟩
  refine codeC_call_def (fd := fnOf name qual params body scope dV kV doc pm an cdv ct) (body := body) (binds := binds) hroom (X _ _ ho) rfl (T.nolimit.keeps F.keep) (codeRec_of X hcd) rfl hbind hcell hloc (fun h₁ hns hk₁ => ?_) hco hgen hk
  refine h s.heap.objs.size h₁ ⟨hns, fun b o e => hk₁ b o e, Nat.le_refl _⟩ News.nil BG X hTk fun b hb => ?_
  obtain ⟨env', he, hfe⟩ := List.mem_filterMap.mp hb
  rcases List.mem_cons.mp he with rfl | he
  · obtain rfl : L = b := Option.some.inj (hf.symm.trans hfe)
    have hp2 := F.ns
    refine p3_3 ?_ hp2
    (try clear hp2)
    intro oL es ep hL hLd _
    exact ⟨oL, es, ep, hL, hLd⟩
  · have hp3 := D b (List.mem_filterMap.mpr ⟨env', he, hfe⟩)
    refine p3_2 ?_ hp3
    (try clear hp3)
    intro o es n ho' hd
    exact ⟨o, es, n, F.keep _ _ ho', hd⟩
/-- a def that never raises and leaves alone what stood, but for the slots of the frames below -/
noncomputable def SpecW (w : World) (p : Program) (loose : List Str) (mean : ExcName → Option Value) (mg mb : Str → Option Value) (f : Addr) (c u : Nat) (vs : List Value) (pre : Heap → Prop) (post : Heap → Heap → Value → Prop) : Prop :=
  ∀ (dp un : Nat) (gd : Option (List Code)) (cn : Str) (cs : Scope) (a : Addr) (ccd : Value) (cl : List (Str × Addr)) (outer : List Env) (A₀ : Around) (base h₀ : Heap) (L : Addr) (m : Str → Option Value) (s : Shared) (R : Result → Shared → Prop),
    Below A₀ base outer h₀ → Fr h₀ L s.heap m → (hd.heap_1 w.params).In base → Top p loose mean mg mb base → KtsDicts (outer.filterMap (·.frame)) h₀ → cs.kind = .function → pre s.heap → dp + c < recursionLimit → un + u < cLine →
    (∀ r h' tk' g', KtsTurn ((envX cn cs L a ccd cl :: outer).filterMap (·.frame)) s.heap g' → (∀ b o, g'.get? b = some o → h'.get? b = some o) → post g' h' r → R (.ok (.ret r)) { s with heap := h', toks := tk' }) →
    codeC (model PySem.Challenge.rw_jc0012_01.row.prog w) (ktrTop dp un gd cn cs L a ccd cl outer) (.call (.ref f) ⟨vs, []⟩) R s
theorem SpecW.call {w : World} {p : Program} {loose : List Str} {mean : ExcName → Option Value} {mg mb : Str → Option Value} {f : Addr} {c u : Nat} {vs : List Value} {pre : Heap → Prop} {post : Heap → Heap → Value → Prop}
    (S : SpecW w p loose mean mg mb f c u vs pre post)
    {dp un : Nat} {gd : Option (List Code)} {cn : Str} {cs : Scope} {a : Addr} {ccd : Value} {cl : List (Str × Addr)} {outer : List Env} {A₀ : Around} {base h₀ g₀ : Heap} {L : Addr} {m : Str → Option Value} {news : List (Addr × Obj)} {s : Shared} {Q E : Value → Shared → Prop}
    (B : Below A₀ base outer h₀) (F : Fr h₀ L s.heap m) (XB : (hd.heap_1 w.params).In base) (N : News h₀ L s.heap news) (TB : Top p loose mean mg mb base) (D : KtsDicts (outer.filterMap (·.frame)) h₀) (T0 : KtsTurn (outer.filterMap (·.frame)) g₀ h₀)
    (hk : cs.kind = .function) (hp : pre s.heap) (hdp : dp + c < recursionLimit) (hu : un + u < cLine)
    (ret : ∀ r h' tk' h₀' g', KtsTurn (outer.filterMap (·.frame)) g₀ h₀' → Fr h₀' L h' m → News h₀' L h' news → Below A₀ base outer h₀' → KtsDicts (outer.filterMap (·.frame)) h₀' →
      KtsTurn ((envX cn cs L a ccd cl :: outer).filterMap (·.frame)) s.heap g' → (∀ b o, g'.get? b = some o → h'.get? b = some o) → post g' h' r → (∀ q, g'.get? q = none → q ≠ L ∧ h₀'.get? q = none) → Q r { s with heap := h', toks := tk' }) :
    wpC (model PySem.Challenge.rw_jc0012_01.row.prog w) (ktrTop dp un gd cn cs L a ccd cl outer) (PySem.call (.ref f) vs) Q E s := by
  refine wpC_call (S _ _ _ _ _ _ _ _ _ _ _ _ _ _ _ _ B F XB TB D hk hp hdp hu fun r h' tk' g' T k q => ?_)
  have memX : ∀ b, b ∈ (envX cn cs L a ccd cl :: outer).filterMap (·.frame) → b = L ∨ b ∈ outer.filterMap (·.frame) := fun b hm => by
    obtain ⟨env, he, hf⟩ := List.mem_filterMap.mp hm
    rcases List.mem_cons.mp he with rfl | he
    · exact .inl (Option.some.inj hf).symm
    · exact .inr (List.mem_filterMap.mpr ⟨env, he, hf⟩)
  have nL₀ : h₀.get? L = none := kts_self F
  have hp4 := F.ns
  refine p3_4 ?_ hp4
  (try clear hp4)
  intro oL es ep hL hLd hLk hLf
  obtain ⟨sl, hs⟩ := T.up hL
  obtain ⟨T₁, S₁⟩ := kts_turn_at (h := h') (fs := outer.filterMap (·.frame)) (g := h₀)
    (fun b hb => by
      obtain ⟨_, o, ho', _⟩ := B.frames.mem hb
      exact ⟨o, ho'⟩)
    (fun b o e nmem => k b o (T.other b o (F.keep b o e) (fun q => by
      rcases memX b q with z | z
      · rw [z, nL₀] at e
        cases e
      · exact nmem z)))
    (fun b o e hm => by
      obtain ⟨sl', hs'⟩ := T.up (F.keep b o e)
      exact ⟨sl', k _ _ hs'⟩)
  have B₃ : Below A₀ base outer (ktsHeap h' (outer.filterMap (·.frame)) h₀) := ⟨B.stack, fun b o e => T₁.other b o (B.stays b o e) (fun hm => by
    rw [(B.frames.mem hm).1] at e
    cases e), B.frames.of_keeps fun b o e _ => by
    obtain ⟨sl', hs'⟩ := T₁.up e
    exact ⟨_, hs', rfl⟩⟩
  refine ret r h' tk' _ g' (T0.trans T₁) ⟨⟨_, es, ep, k _ _ hs, hLd, hLk, hLf⟩, S₁, by rw [T₁.size]; exact F.above⟩ (fun p hp => ⟨k _ _ (T.other _ _ (N p hp).1 fun hm => ?_), (N p hp).2.1, T₁.none_ _ (N p hp).2.2⟩) B₃ (D.turn T₁) T k q fun b hb => ⟨fun e => ?_, T₁.none_ _ ?_⟩
  · rcases memX _ hm with z | z
    · exact (N p hp).2.1 z
    · obtain ⟨o, ho, _⟩ := (B.frames.mem z).2
      rw [(N p hp).2.2] at ho; cases ho
  · rw [e, hs] at hb; cases hb
  · cases z : h₀.get? b with
    | none => rfl
    | some o =>
      obtain ⟨sl', hs'⟩ := T.up (F.keep _ _ z)
      rw [hb] at hs'; cases hs'
end Mine
end
section
theorem Mine.fresh35 : True := by w_top off; trivial
open PySem PySem.W PyProof.Rows PySem.Calls
set_option maxRecDepth 100000
set_option maxHeartbeats 8000000
namespace Mine
section
variable {prog : Program} {w : World} {A : Around} {s : Shared} {env : Env} {h₀ : Heap} {target : Expr} {body : List Stmt}
/-- the end of a turn under the claim's caller -/
noncomputable def EndC (h₀ : Heap) (fs : List Addr) (L : Addr) (own : List (Addr × Obj)) (I : Addr) (J1 : (Str → Option Value) → List (Addr × Obj) → Prop) (s₁ : Shared) (f : Flow) (s₂ : Shared) : Prop :=
  match f with
  | .next | .cont => ∃ h' tk g' m' led', s₂ = { s₁ with heap := h', toks := tk } ∧ KtsTurn fs h₀ g' ∧ Fr g' L h' m' ∧ News g' L h' own ∧ News g' L h' led' ∧ (∀ p ∈ led', p.1 ≠ I) ∧ J1 m' led'
  | _ => False
theorem forC_list {fs : List Addr} {lsp : Addr} {pv : List Value} {np : Nat} {m : Str → Option Value} {led : List (Addr × Obj)} {R : Result → Shared → Prop}
    (hh : A.handled = none) (F : Fr h₀ env.locals s.heap m) (N : News h₀ env.locals s.heap led) (NL : News h₀ env.locals s.heap [(lsp, W.listOf pv.toArray np)])
    (J : Nat → (Str → Option Value) → List (Addr × Obj) → Prop) (h0 : J 0 m led)
    (turn : ∀ i v g m₁ led₁ h tk I oI, s.heap.objs.size ≤ I → i < pv.length → pv[i]? = some v → KtsTurn fs h₀ g → J i m₁ led₁ → (∀ p ∈ led₁, p.1 ≠ I) → Fr g env.locals h m₁ → News g env.locals h ((I, oI) :: (lsp, W.listOf pv.toArray np) :: led₁) →
      wpC (model prog w) A (assign target env v) (fun _ s₃ => wpC (model prog w) A (execs body env) (EndC h₀ fs env.locals [(I, oI), (lsp, W.listOf pv.toArray np)] I (J (i + 1)) { s with heap := h, toks := tk }) (fun _ _ => False) s₃) (fun _ _ => False) { s with heap := h, toks := tk })
    (done : ∀ h' tk g' m' led', KtsTurn fs h₀ g' → Fr g' env.locals h' m' → News g' env.locals h' led' → J pv.length m' led' → R (.ok .next) { s with heap := h', toks := tk }) {Q : Value → Shared → Prop}
    (hQ : ∀ I s', codeC (model prog w) A (.forLoop target (.ref I) body [] env) R s' → Q (.ref I) s') :
    wpAny (model prog w) A (pyIter (.ref lsp)) Q (fun _ _ => False) s := by
  have hlsp := NL _ (.head _)
  have hl : s.heap.IsList lsp pv.toArray := ⟨_, hlsp.1, rfl, np, rfl⟩
  refine wpAny_pyIter_list hl ?_
  have hne : lsp ≠ s.heap.objs.size := Nat.ne_of_lt (Heap.lt_size hlsp.1)
  have Wk := Walks.list (prog := prog) (w := w) hh s.heap.objs.size lsp hne pv.toArray
  have hsz : pv.toArray.size = pv.length := by simp
  rw [hsz] at Wk
  have K := KTurns.ofWalks (target := target) Wk fun i v s Q E st q => letGo_listiter st.1 q
  have hLI : env.locals ≠ s.heap.objs.size := Nat.ne_of_lt F.ns.lt
  have hI0 : h₀.get? s.heap.objs.size = none := next_is_new F
  have hIwr : ∀ b, b ≠ s.heap.objs.size → b ∉ [s.heap.objs.size] := fun b hb hm => hb (List.mem_singleton.mp hm)
  generalize hIdef : s.heap.objs.size = I at *
  refine hQ I _ (codeC_forLoop (fun n s' => ∃ i h tk g m₁ led₁, n = pv.length + 1 - i ∧ i ≤ pv.length ∧ s' = { s with heap := h, toks := tk } ∧ KtsTurn fs h₀ g ∧ Fr g env.locals h m₁ ∧ News g env.locals h ((lsp, W.listOf pv.toArray np) :: led₁) ∧ (∀ p ∈ led₁, p.1 ≠ I) ∧
      (h.IsListIter I lsp i ∧ h.IsList lsp pv.toArray) ∧ J i m₁ led₁) (fun n s' hI => ?_) (pv.length + 1) ?_)
  · refine p6_9 ?_ hI
    (try clear hI)
    intro i h tk g m₁ led₁ hq1 hi hq2 T F₁ N₁ hn₁ st hJ
    subst hq1
    subst hq2
    have hgI : ∀ {b o}, g.get? b = some o → b ≠ I := fun {b o} e q => by rw [q, T.none_ _ hI0] at e; cases e
    have mvF : ∀ {h1 h2 : Heap}, (∀ b o, b ∉ [I] → h1.get? b = some o → h2.get? b = some o) → Fr g env.locals h1 m₁ → Fr g env.locals h2 m₁ := fun {h1 h2} hk F => by
      have hp3 := F.ns
      refine p3_2 ?_ hp3
      (try clear hp3)
      intro oL es ep hL r
      exact ⟨⟨oL, es, ep, hk _ _ (hIwr _ hLI) hL, r⟩, fun b o e => hk b o (hIwr _ (hgI e)) (F.keep b o e), F.above⟩
    have mvN : ∀ {h1 h2 : Heap}, (∀ b o, b ∉ [I] → h1.get? b = some o → h2.get? b = some o) → News g env.locals h1 ((lsp, W.listOf pv.toArray np) :: led₁) → News g env.locals h2 ((lsp, W.listOf pv.toArray np) :: led₁) := fun {h1 h2} hk N p hp => by
      refine ⟨hk _ _ (hIwr _ ?_) (N p hp).1, (N p hp).2⟩
      rcases List.mem_cons.mp hp with rfl | hp
      · exact hne
      · exact hn₁ p hp
    rcases Nat.lt_or_ge i pv.length with hlt | hge
    · refine wpC_of (K.item i _ _ _ hlt st fun v h1 tk1 hMd hk1 => ?_)
      dsimp only
      refine wpC_of (K.go i v _ _ _ hMd fun h2 hP st2 hk2 => ?_)
      have F₂ := mvF hk2 (mvF hk1 F₁)
      have N₂ := mvN hk2 (mvN hk1 N₁)
      obtain ⟨oI, hoI, _⟩ := id st2.1
      have NI : News g env.locals h2 ((I, oI) :: (lsp, W.listOf pv.toArray np) :: led₁) := by
        intro p hp
        rcases List.mem_cons.mp hp with rfl | hp
        · exact ⟨hoI, hLI.symm, T.none_ _ hI0⟩
        · exact N₂ p hp
      refine wpC_mono (turn i v g m₁ led₁ h2 tk1 I oI (Nat.le_refl _) hlt (by simpa using hP) T hJ hn₁ F₂ NI) (fun _ s₃ h₃ => wpC_mono h₃ (fun f s₄ h₄ => ?_) fun _ _ x => x) fun _ _ x => x
      have fin : (∃ h' tk g' m' led', s₄ = { ({ s with heap := h2, toks := tk1 } : Shared) with heap := h', toks := tk } ∧ KtsTurn fs h₀ g' ∧ Fr g' env.locals h' m' ∧ News g' env.locals h' [(I, oI), (lsp, W.listOf pv.toArray np)] ∧ News g' env.locals h' led' ∧ (∀ p ∈ led', p.1 ≠ I) ∧ J (i + 1) m' led') →
          ∃ n', n' < pv.length + 1 - i ∧ ∃ i h tk g m₁ led₁, n' = pv.length + 1 - i ∧ i ≤ pv.length ∧ s₄ = { s with heap := h, toks := tk } ∧ KtsTurn fs h₀ g ∧ Fr g env.locals h m₁ ∧ News g env.locals h ((lsp, W.listOf pv.toArray np) :: led₁) ∧ (∀ p ∈ led₁, p.1 ≠ I) ∧
            (h.IsListIter I lsp i ∧ h.IsList lsp pv.toArray) ∧ J i m₁ led₁ := by
        rintro hj4
        refine p5_7 ?_ hj4
        (try clear hj4)
        intro h' tk' g' m' led' hq5 T' F' NO N' hn' hJ'
        subst hq5
        refine ⟨pv.length + 1 - (i + 1), by (first | lia | omega), i + 1, h', tk', g', m', led', rfl, by (first | lia | omega), rfl, T', F', ?_, hn', ?_, hJ'⟩
        · intro p hp
          rcases List.mem_cons.mp hp with rfl | hp
          · exact NO _ (.tail _ (.head _))
          · exact N' p hp
        · refine K.frame (i + 1) h2 h' st2 fun b hb o e => ?_
          rcases List.mem_cons.mp hb with rfl | hb
          · rw [hoI] at e; rw [← Option.some.inj e]; exact (NO _ (.head _)).1
          · rw [List.mem_singleton.mp hb] at e ⊢
            rw [(N₂ _ (.head _)).1] at e; rw [← Option.some.inj e]; exact (NO _ (.tail _ (.head _))).1
      cases f with
      | next => exact fin h₄
      | cont => exact fin h₄
      | brk => exact h₄.elim
      | ret v => exact h₄.elim
    · obtain rfl : i = pv.length := Nat.le_antisymm hi hge
      refine wpC_of (K.done _ _ _ st fun h1 tk1 hk1 => ?_)
      exact done h1 tk1 g m₁ led₁ T (mvF hk1 F₁) (fun p hp => mvN hk1 N₁ p (.tail _ hp)) hJ
  · refine ⟨0, _, s.toks, h₀, m, led, rfl, Nat.zero_le _, rfl, KtsTurn.refl, F.push _, ?_, fun p hp => ?_, ⟨⟨_, hIdef ▸ Heap.get?_push_size _ rfl, rfl, rfl⟩, _, Heap.get?_push_of_some _ hlsp.1, rfl, np, rfl⟩, h0⟩
    · intro p hp
      rcases List.mem_cons.mp hp with rfl | hp
      · exact ⟨Heap.get?_push_of_some _ hlsp.1, hlsp.2⟩
      · exact ⟨Heap.get?_push_of_some _ (N p hp).1, (N p hp).2⟩
    · rw [← hIdef]; exact Nat.ne_of_lt (Heap.lt_size (N p hp).1)
end
end Mine
end
section
theorem Mine.fresh36 : True := by w_top off; trivial
open PySem PySem.W PyProof.Rows PySem.Calls
set_option maxRecDepth 100000
set_option maxHeartbeats 8000000
namespace Mine
/-- as codeC_pure, for a def with one name that its comprehensions read -/
theorem codeC_pure1 {prog : Program} {w : World} {A A₀ : Around} {s : Shared} {K : Frag} {L : Addr} {h₀ base : Heap} {m mg mb : Str → Option Value} {p : Program} {loose : List Str} {mean : ExcName → Option Value}
    {env : Env} {outer : List Env} {R : Result → Shared → Prop} {name qual : Str} {params : Arguments} {body : List Stmt} {scope : Scope} {dV kV doc pm cdv ct oc : Value} {an od : Option Addr} {osl : Array (Option Value)} {f : Addr} {args : Args} {binds : List (Str × Value)} {cname : Str}
    (B : Below A₀ base outer h₀) (F : Fr h₀ L s.heap m) (XB : K.In base) (TB : Top p loose mean mg mb base) (D : KtsDicts (outer.filterMap (·.frame)) h₀) (hA : A.frames = some (env :: outer)) (hf : env.frame = some L) (hke : env.scope.kind = .function)
    (ho : K.lookup f = some ⟨oc, od, .func (fnOf name qual params body scope dV kV doc pm an cdv ct), osl⟩) (hcd : codeIn K cdv qual = true) (hroom : A.depth < recursionLimit)
    (hbind : BindsTo s (fnOf name qual params body scope dV kV doc pm an cdv ct) args binds) (hkind : (binds.all fun y => scope.names.lookup y.1 == some .local || scope.names.lookup y.1 == some .cell) = true)
    (hnd : ((cellsFrom 0 scope.names []).map (·.1)).Nodup) (hone : ∀ n, cellsFrom n scope.names [] = [(cname, n)]) (hcn : bindC (envOfC qual scope 0 f cdv).kindOf binds (fun _ => none) cname = none) (hbl : ∀ n, bindL (envOfC qual scope n f cdv).kindOf binds (fun _ => none) = fun y => binds.reverse.lookup y)
    (h : ∀ L' h₁ tk oc, Fr s.heap L' h₁ (fun y => binds.reverse.lookup y) → News s.heap L' h₁ [(L' + 1, oc)] → oc.data = .cell none → Below A base (env :: outer) s.heap → K.In s.heap → Top p loose mean mg mb s.heap → KtsDicts ((env :: outer).filterMap (·.frame)) s.heap →
      wpC (model prog w) (A.deeper (envX qual scope L' f cdv [(cname, L' + 1)])) (execs body (envX qual scope L' f cdv [(cname, L' + 1)]))
        (fun fl s' => R (.ok (.ret (match fl with | .ret v => v | _ => .none))) s') (fun _ _ => False)
        { s with heap := h₁, toks := tk })
    (hco : scope.isCoroutine = false) (hgen : scope.isGenerator = false) (hk : scope.kind = .function) : codeC (model prog w) A (.call (.ref f) args) R s := by
  have X₀ : K.In h₀ := XB.keeps B.stays
  have T := TB.keeps B.stays
  have X := X₀.keeps F.keep
  have hTk := T.keeps F.keep
  have B₁ := pushX B F hf hke
  have BG : Below A base (env :: outer) s.heap := ⟨hA, B₁.stays, B₁.frames⟩
  refine codeC_call_function (fd := fnOf name qual params body scope dV kV doc pm an cdv ct) (body := body) hroom (X _ _ ho) rfl hco hgen rfl (codeRec_of X hcd) (hbind _ _ _ _ ?_)
  refine wpAny_newFunctionEnv_cells hk (kindsX hkind _) fun env' he s' x => ?_
  subst he
  refine ⟨(T.nolimit.keeps F.keep).keeps x.toInCall.keep, codeC_func ?_⟩
  obtain ⟨h₁, tk, rfl, _⟩ := x.done
  have hk₁ := x.toInCall.keep
  obtain ⟨cells, NC, Y⟩ := Cl.news (h₀ := s.heap) (Nat.le_refl _) fun n c hm => ⟨x.cell n c (lookup_of_mem_nodup (cellsFrom_names scope.names 0 (s.heap.objs.size + 1) [] [] rfl ▸ hnd) hm), x.above n c hm⟩
  have hns := x.toInCall.ns
  dsimp only [newEnv] at Y hns
  have hcl : cellsFrom (s.heap.objs.size + 1) scope.names [] = [(cname, s.heap.objs.size + 1)] := hone _
  rw [hcl] at Y
  obtain ⟨oc, rfl, hoc⟩ := Y.one
  have hm := h s.heap.objs.size h₁ tk oc ⟨(hbl s.heap.objs.size) ▸ hns, fun b o e => hk₁ b o e, Nat.le_refl _⟩ NC (hoc.trans (congrArg Data.cell hcn)) BG X hTk fun b hb => ?_
  · show wpC (model prog w) (A.deeper (newEnv scope s.heap.objs.size mainGlobals (cellsFrom (s.heap.objs.size + 1) scope.names []) (qual ++ ".<locals>.") (some f) cdv none builtinsNs)) _ _ _ _
    rw [hcl]
    exact hm
  · obtain ⟨env', he, hfe⟩ := List.mem_filterMap.mp hb
    rcases List.mem_cons.mp he with rfl | he
    · obtain rfl : L = b := Option.some.inj (hf.symm.trans hfe)
      have hp1 := F.ns
      refine p3_3 ?_ hp1
      (try clear hp1)
      intro oL es ep hL hLd _
      exact ⟨oL, es, ep, hL, hLd⟩
    · have hp2 := D b (List.mem_filterMap.mpr ⟨env', he, hfe⟩)
      refine p3_2 ?_ hp2
      (try clear hp2)
      intro o es n ho' hd
      exact ⟨o, es, n, F.keep _ _ ho', hd⟩
end Mine
end
section
theorem Mine.fresh37 : True := by w_top off; trivial
open PySem PySem.W PyProof.Rows PySem.Calls PySem.StrLaws PySem.NumText
set_option maxRecDepth 100000
set_option maxHeartbeats 8000000
namespace Mine
noncomputable def stageKeys : List Str := [Str.ofString "dev", Str.ofString "alpha", Str.ofString "a", Str.ofString "beta", Str.ofString "b", Str.ofString "c", Str.ofString "RC", Str.ofString "rc", Str.ofString "pl", Str.ofString "p"]
/-- a text that lies in no written one without its signs -/
theorem occ_none {s sub : Str} (h : ∀ i, Builtin.Str.subAt s sub i = false) : ∀ lo hi limit, Builtin.Str.occurrences s sub lo hi limit = [] := by
  intro lo hi limit
  unfold Builtin.Str.occurrences
  simp only [h, Bool.and_false, Bool.false_eq_true, if_false]
  have key : ∀ (l : List Nat) (x : Array Nat × Nat), List.foldl (fun (b : Array Nat × Nat) (_ : Nat) => (b.1, b.2)) x l = x := by
    intro l
    induction l with
    | nil => intro x; rfl
    | cons a r ih => intro x; rw [List.foldl_cons]; exact ih x
  simp
  rw [key]
theorem sub_not {s sub : Str} {c : Nat} (hc : c ∈ sub.cps.toList) (hs : c ∉ s.cps.toList) (i : Nat) : Builtin.Str.subAt s sub i = false := by
  unfold Builtin.Str.subAt
  rw [beq_eq_false_iff_ne]
  intro e
  rw [← e, Array.toList_extract, List.extract_eq_take_drop] at hc
  exact hs (List.mem_of_mem_drop (List.mem_of_mem_take hc))
theorem not_in_seps {x : Str} (h : ∃ c ∈ x.cps.toList, sepB c = false) : (Builtin.Str.occurrences (Str.ofString "._+-") x 0 (Str.ofString "._+-").length 1).isEmpty = true := by
  obtain ⟨c, hc, hs⟩ := h
  rw [occ_none (sub_not hc fun hm => ?_)]
  · rfl
  · have : ∀ c ∈ (Str.ofString "._+-").cps.toList, sepB c = true := by decide +kernel
    rw [this c hm] at hs; cases hs
theorem core_sub {t : List Nat} {c : Nat} (h : c ∈ core t) : c ∈ t := by
  unfold core at h
  have h1 := (List.dropWhile_sublist _).subset (List.mem_reverse.mp h)
  have h2 := List.mem_reverse.mp h1
  have h3 : ∀ (l : List Nat), (sign l).2 ⊆ l := by
    intro l
    unfold sign
    split
    · exact List.subset_cons_self ..
    · exact List.subset_cons_self ..
    · exact fun _ h => h
  exact (List.dropWhile_sublist _).subset (h3 _ h2)
theorem digits_none {cs : List Nat} (h : ∀ c ∈ cs, digB c = false) : digits? 10 cs = none := by
  cases cs with
  | nil => rfl
  | cons c r =>
    have hc := h c (.head _)
    unfold digB at hc
    have hs : NumText.step 10 (#[], false) c = none := by
      unfold NumText.step
      by_cases h95 : (c == 95) = true
      · rw [if_pos h95]; rfl
      · rw [if_neg h95]
        unfold digit?
        rw [if_neg (by rw [hc]; exact Bool.false_ne_true)]
        by_cases h97 : (decide (97 ≤ c) && decide (c ≤ 122)) = true
        · rw [if_pos h97]
          simp only [Bool.and_eq_true, decide_eq_true_eq] at h97
          show (if c - 87 < 10 then _ else none) = none
          rw [if_neg (by (first | lia | omega))]
        · rw [if_neg h97]
          by_cases h65 : (decide (65 ≤ c) && decide (c ≤ 90)) = true
          · rw [if_pos h65]
            simp only [Bool.and_eq_true, decide_eq_true_eq] at h65
            show (if c - 55 < 10 then _ else none) = none
            rw [if_neg (by (first | lia | omega))]
          · rw [if_neg h65]
    unfold digits?
    rw [List.foldlM_cons, hs]
    rfl
theorem take_nz {l : List Nat} (h : ∀ c ∈ l, c ≠ 0) : l.takeWhile (· != 0) = l := by
  induction l with
  | nil => rfl
  | cons c r ih => rw [List.takeWhile_cons_of_pos (by simpa using h c (.head _)), ih fun x hx => h x (.tail _ hx)]
theorem num_bad {l : List Nat} (h : ∀ c ∈ l, digB c = false) : (int_private% "readNumeral") 0 10 l = (int_private% "Numeral.invalid") := by
  rw [readNumeral_ten, digits_none fun c hc => h c (core_sub hc)]
  exact judge_none
section
variable {prog : Program} {w : World} {A : Around} {E : Value → Shared → Prop} {s : Shared}
theorem int_refuses {x : Str} {u v : Tok} {Q : Value → Shared → Prop} (hh : A.handled = none) (h : ∀ c ∈ x.cps.toList, c < 128 ∧ c ≠ 0 ∧ tokB c = false) (hl : x.length ≤ 600)
    (hE : ∀ h' tk e, Heap.NewExc s.heap h' e "ValueError" → E (.ref e) { s with heap := h', toks := tk }) : wpC (model prog w) A (PySem.call (.type "int") [.str x u, .int 10 v]) Q E s := by
  have e := take_nz fun c hc => (h c hc).2.1
  have hlen : x.cps.toList.length = x.length := Array.length_toList
  refine call_int_bad hh ?_ (by rw [e]; (first | lia | omega)) (by rw [e]; exact num_bad fun c hc => (Bool.or_eq_false_iff.mp (h c hc).2.2).1) ?_ hE
  · rw [← Array.all_toList, List.all_eq_true]
    exact fun c hc => decide_eq_true (h c hc).1
  · refine Nat.le_trans (reprText_len x fun c hc => Nat.lt_trans (h c hc).1 (by decide)) ?_
    rw [sizeLine_eq]; (first | lia | omega)
theorem isk {prog : Program} {w : World} (k : Str) (t : Tok) : (PySem.strKind prog w).is k (.str k t) = true := by
  show PySem.Value.isStrOf k (.str k t) = true
  simp [PySem.Value.isStrOf]
theorem stages_map {h : Heap} (X : (hd.heap_1 w.params).In h) : ∃ f, h.MapOf (PySem.strKind prog w) 65 f ∧ ∀ x, x ∉ stageKeys → f x = none := by
  refine ⟨_, ⟨_, _, _, X 65 _ rfl, ⟨rfl, rfl, rfl⟩, rfl, ?_, fun _ => rfl⟩, ?_⟩
  · intro e he
    simp only [List.mem_toArray, List.mem_cons, List.not_mem_nil, or_false] at he
    rcases he with rfl | rfl | rfl | rfl | rfl | rfl | rfl | rfl | rfl | rfl
    · exact ⟨Str.ofString "dev", isk _ _, rfl⟩
    · exact ⟨Str.ofString "alpha", isk _ _, rfl⟩
    · exact ⟨Str.ofString "a", isk _ _, rfl⟩
    · exact ⟨Str.ofString "beta", isk _ _, rfl⟩
    · exact ⟨Str.ofString "b", isk _ _, rfl⟩
    · exact ⟨Str.ofString "c", isk _ _, rfl⟩
    · exact ⟨Str.ofString "RC", isk _ _, rfl⟩
    · exact ⟨Str.ofString "rc", isk _ _, rfl⟩
    · exact ⟨Str.ofString "pl", isk _ _, rfl⟩
    · exact ⟨Str.ofString "p", isk _ _, rfl⟩
  · intro x hx
    have key : ∀ (k : Str) (t : Tok), k ∈ stageKeys → ¬ (PySem.strKind prog w).is x (.str k t) = true := by
      intro k t hk he
      obtain ⟨t', e⟩ := PySem.Value.isStrOf_shape (show PySem.Value.isStrOf x (.str k t) = true from he)
      injection e with e
      exact hx (e ▸ hk)
    unfold findBy
    rw [Array.find?_eq_none.mpr, Option.map_none]
    intro e he
    simp only [List.mem_toArray, List.mem_cons, List.not_mem_nil, or_false] at he
    rcases he with rfl | rfl | rfl | rfl | rfl | rfl | rfl | rfl | rfl | rfl <;> exact key _ _ (by unfold stageKeys; simp)
theorem call_stage {x : Str} {t u : Tok} {Q : Value → Shared → Prop} (X : (hd.heap_1 w.params).In s.heap) (hx : x ∉ stageKeys) (h : Q (.int 0 u) { s with toks := s.toks + 1 }) :
    wpAny (model prog w) A (PySem.call (.builtin "dict.get") [.ref 65, .str x t, .int 0 u]) Q E s := by
  obtain ⟨f, hm, hf⟩ := stages_map (prog := prog) X
  have hT : s.TypeIs (.ref 65) "dict" := by
    refine p3_3 ?_ hm
    (try clear hm)
    intro o es ep ho he _
    exact ⟨o, ho, he.1⟩
  refine call_meetsIn PySem.F.slot_dict_get hT PySem.F.entry_dict_get (PySem.F.args_dict_get_3 _ _ _) (meets_dict_get_default (knd := PySem.strKind prog w) (k := x) 65 (isk _ _) rfl (.int 0 u)) ⟨f, hm, ?_⟩
  rw [hf x hx]
  exact h
theorem extend_two {h₀ : Heap} {L D b : Addr} {m : Str → Option Value} {led : List (Addr × Obj)} {vs : List Value} {n n2 : Nat} {v1 v2 : Value} {Q : Value → Shared → Prop} (F : Fr h₀ L s.heap m) (N : News h₀ L s.heap ((D, W.listOf vs.toArray n) :: led)) (hne : ∀ p ∈ led, p.1 ≠ D) (hb : s.heap.get? b = some { cls := .type "tuple", data := .seq #[v1, v2] n2 }) (hsz : vs.length ≤ 3000000)
    (h : ∀ h' n', Fr h₀ L h' m → News h₀ L h' ((D, W.listOf (vs ++ [v1, v2]).toArray n') :: led) → Q .none { s with heap := h' }) : wpAny (model prog w) A (PySem.call (.builtin "list.extend") [.ref D, .ref b]) Q E s := by
  have z := N _ (.head _)
  have hlim : vs.toArray.size ≤ 3000000 := by rw [List.size_toArray]; exact hsz
  refine call_meets PySem.F.slot_list_extend ⟨_, z.1, rfl⟩ PySem.F.entry_list_extend (PySem.F.args_list_extend_2 _ _) (PySem.AutoSeq1.list_extend_list_tuple_0 D vs.toArray n b #[v1, v2] n2 ?_ (by rw [sizeLine_eq]; (first | lia | omega)) (by rw [sizeLine_eq]; simp only [List.size_toArray, List.length_cons, List.length_nil] at hlim ⊢; (first | lia | omega))) ⟨z.1, hb, h _ (n + 1) (F.change (Heap.SameBut.update ..) z.2.1 z.2.2) (news_set (pre := []) N (fun p hp => nomatch hp) hne (Heap.SameBut.update ..) ?_)⟩
  · have : (#[v1, v2] : Array Value).size = 2 := rfl
    unfold Builtin.List.listTooLong
    rw [this, Bool.and_eq_true, decide_eq_true_eq, sizeLine_eq]
    (first | lia | omega)
  · have q := PySem.IsL.update z.1 (fun x => x ++ #[v1, v2])
    rw [show vs.toArray ++ #[v1, v2] = (vs ++ [v1, v2]).toArray from by simp, if_neg (by simp)] at q
    exact q
end
end Mine
end
section
theorem Mine.fresh38 : True := by w_top off; trivial
open PySem PySem.W PyProof.Rows PySem.Calls
set_option maxRecDepth 100000
set_option maxHeartbeats 8000000
namespace Mine
/-- a piece of what is told -/
inductive Pc where
  | num (n : Nat)
  | txt (x : Str)
inductive ToldL : List Value → List Pc → Prop
  | nil : ToldL [] []
  | num (n : Nat) (t1 t2 : Tok) {vs : List Value} {ps : List Pc} : ToldL vs ps → ToldL (.int 100 t1 :: .int (n : Int) t2 :: vs) (.num n :: ps)
  | txt (x : Str) (t1 t2 : Tok) {vs : List Value} {ps : List Pc} : ToldL vs ps → ToldL (.int 0 t1 :: .str x t2 :: vs) (.txt x :: ps)
inductive PartK : Str → Option Pc → Prop
  | none (x : Str) : x = Str.ofString "" ∨ x = Str.ofString "-" → PartK x Option.none
  | num (n : Nat) : n < 1000000 → PartK (Str.ofString (toString (n : Int))) (some (.num n))
  | txt (x : Str) : (∀ c ∈ x.cps.toList, c < 128 ∧ c ≠ 0 ∧ tokB c = false) → x.cps.toList ≠ [] → x.length ≤ 600 → x ∉ stageKeys → PartK x (some (.txt x))
inductive PartsK : List Str → List (Option Pc) → Prop
  | nil : PartsK [] []
  | cons {x : Str} {k : Option Pc} {xs : List Str} {ks : List (Option Pc)} : PartK x k → PartsK xs ks → PartsK (x :: xs) (k :: ks)
theorem PartsK.get {xs : List Str} {ks : List (Option Pc)} (h : PartsK xs ks) {i : Nat} {x : Str} (hx : xs[i]? = some x) : ∃ k, ks[i]? = some k ∧ PartK x k := by
  induction h generalizing i with
  | nil => cases hx
  | cons h1 h2 ih => cases i with
    | zero => obtain rfl := Option.some.inj hx; exact ⟨_, rfl, h1⟩
    | succ i => exact ih hx
theorem PartsK.length {xs : List Str} {ks : List (Option Pc)} (h : PartsK xs ks) : xs.length = ks.length := by
  induction h with
  | nil => rfl
  | cons h1 h2 ih => rw [List.length_cons, List.length_cons, ih]
theorem evalArgs_pos {M : Model} {A : Around} {E : Value → Shared → Prop} {s : Shared} {f : Value} {args : List (Bool × Sem Value)} {Q : Args → Shared → Prop} (ha : ∃ x rest, args = (false, x) :: rest)
    (h : wpAny M A (spliced args) (fun vs s₁ => Q ⟨vs, []⟩ s₁) E s) : wpAny M A (evalArgs f true args []) Q E s := by
  (try refine opg fun gG hgG => ?_); (obtain ⟨x, rest, rfl⟩ := ha); (try (refine hgG ?_; clear hgG gG))
  exact evalArgs_kw rfl (wpAny_mono h (fun _ _ h => wpAny_evalAll_nil h) fun _ _ x => x)
theorem ToldL.app {vs us : List Value} {ps qs : List Pc} (h : ToldL vs ps) (h' : ToldL us qs) : ToldL (vs ++ us) (ps ++ qs) := by
  induction h with
  | nil => exact h'
  | num n t1 t2 h ih => exact .num n t1 t2 ih
  | txt x t1 t2 h ih => exact .txt x t1 t2 ih
theorem take_fm {ks : List (Option Pc)} {i : Nat} {k : Option Pc} (h : ks[i]? = some k) : (ks.take (i + 1)).filterMap id = (ks.take i).filterMap id ++ k.toList := by
  rw [List.take_add_one, h, List.filterMap_append]
  cases k <;> rfl
theorem num_digit (n : Nat) : ∃ c ∈ (Str.ofString (toString (n : Int))).cps.toList, sepB c = false := by
  rw [KIN.signs_num]
  have hne : Nat.toDigits 10 n ≠ [] := by
    intro e
    have h := toDigits_len_ge 10 n
    rw [e] at h
    exact absurd h (by decide)
  (try refine opg fun gG hgG => ?_); (obtain ⟨ch, hch⟩ := List.exists_mem_of_ne_nil _ hne); (try (refine hgG ?_; clear hgG gG))
  have r := digit_range (Nat.isDigit_of_mem_toDigits (by decide) (by decide) hch)
  refine ⟨_, List.mem_map.mpr ⟨ch, hch, rfl⟩, ?_⟩
  cases q : sepB ch.toNat with
  | false => rfl
  | true =>
    have := sep_not_dig q
    unfold digB at this
    simp only [Bool.and_eq_false_iff, decide_eq_false_iff_not] at this
    walk_at "mine omega"
theorem push_new {h₀ h : Heap} {L : Addr} {m : Str → Option Value} (F : Fr h₀ L h m) (pv : List Value) : News h₀ L (h.push { cls := .type "list", data := .seq pv.toArray }) [(h.objs.size, W.listOf pv.toArray 0)] := fun p hp => by
  rw [List.mem_singleton.mp hp]
  exact ⟨Heap.get?_push_size _ rfl, Nat.ne_of_gt F.ns.lt, next_is_new F⟩
theorem spec_compv {w : World} {p : Program} {loose : List Str} {mean : ExcName → Option Value} {mg mb : Str → Option Value} (x : Str) (u : Tok) (items : List (List Nat × List Nat)) (last : List Nat) (ks : List (Option Pc))
    (hx : x.cps.toList = ren items last) (hok : okIt items last) (hlen : x.length ≤ 100000) (hks : PartsK (partsOf items last) ks) :
    SpecW w p loose mean mg mb 72 2 200 [.str x u] (fun _ => True)
      (fun h h' r => ∃ a vs n, r = .ref a ∧ h.get? a = none ∧ h'.get? a = some (W.listOf (vs : List Value).toArray n) ∧ ToldL vs (ks.filterMap id)) := by
  intro dp un gd cn cs ea ccd cl outer A₀ base h₀ L m s R B F XB TB D hk hpre hdp hu ret
  revert XB TB; k_fill; intro XB TB
  refine' codeC_pure (K := hd.heap_1 w.params) (binds := [(Str.ofString "version", .str x u)]) B F XB TB D rfl rfl hk ?k6 ?k7 ?k8 ?k9 ?kB ?_ ?c2 ?c3 ?c4 ?c5
  case k6 => k_dflt k_is
  case k7 => k_dflt k_is
  case k8 => ktr_room
  case k9 => exact BindsTo.of_eq rfl
  case c5 => decide
  case kB => exact locs rfl
  case c2 => exact rfl
  case c3 => exact rfl
  case c4 => exact rfl
  intro L' h' F' N' B' X' T' D'
  clear B F
  replace F' := Fr.as F' (m' := fun y => if y = Str.ofString "version" then some (.str x u) else none) (by first | exact look_rev _ rfl | (funext y; first | rfl | ((try simp only [List.reverse_cons, List.reverse_nil, List.nil_append, List.cons_append, List.lookup]); (repeat' split) <;> first | rfl | (simp_all; done) | (subst_vars; simp_all; done) | (simp_all (decide := true); done))))
  (try dsimp only)
  (try k_fold)
  generalize s.gens = gs0 at ret ⊢
  generalize s.drawn = ds0 at ret ⊢
  generalize s.os = os0 at ret ⊢
  (try generalize s.toks + _ = tk0)
  refine (let AE : Env := _; let AA : Around := Around.deeper _ AE; let QQ : Flow → Shared → Prop := _; (?kL : wpC _ AA (execs _ AE) QQ _ _))
  have hpat : ∀ {h : Heap}, (∀ b o, s.heap.get? b = some o → h.get? b = some o) → IsPat h 64 := by
    intro h hk
    refine ⟨63, _, _, _, _, 0, hk _ _ (X' 64 _ rfl), rfl, rfl, rfl, rfl, rfl, rfl, hk _ _ (X' 63 _ rfl), rfl, by kernel_rfl⟩
  refine wpC_execs_cons (wpC_of ?_)
  walk_at "mine steps"
  dsimp only
  refine wpC_execs_cons (wpC_of ?_)
  walk_at "mine steps"
  dsimp only
  rename Fr _ _ _ _ => F1
  rename News _ _ _ _ => N1
  (try refine opg fun gG hgG => ?_); (obtain ⟨lr, F2, N2⟩ : ∃ lr, Fr s.heap L' _ (fun y => if y = Str.ofString "result" then some (Value.ref lr) else if y = Str.ofString "component_re" then some (Value.ref 64) else if y = Str.ofString "version" then some (Value.str x u) else none) ∧ News s.heap L' _ [(lr, W.listOf #[] 0)] := ⟨_, F1, N1⟩); (try (refine hgG ?_; clear hgG gG))
  (try clear F1); (try clear N1)
  refine wpC_execs_cons (wpC_For (wpC_of ?_))
  repeat ((fail_if_success (with_reducible show wpAny _ _ (getMethod _ _ _) _ _ _)); (first | (k_unfold; (try dsimp only)) | ((try dsimp only); walk1) | (leave1; (try dsimp only))))
  refine getM_split (hpat (Fr.keep F2)) ?_
  dsimp only
  repeat ((fail_if_success (with_reducible show wpAny _ _ (PySem.call (Value.builtin "re.Pattern.split") _ _) _ _ _)); (first | (k_unfold; (try dsimp only)) | ((try dsimp only); walk1) | (leave1; (try dsimp only))))
  refine call_split (hpat (Fr.keep F2)) hx hok (Nat.le_trans hlen (by decide)) fun pv tk1 lsp hlspd hpv => ?_
  walk_at "mine steps"
  have hlsp := push_new F2 pv
  have hlrne : lr ≠ lsp := by rw [hlspd]; exact Nat.ne_of_lt (Heap.lt_size (N2 _ (.head _)).1)
  dsimp only at hlspd
  have hpvl : pv.length ≤ 200001 := by
    have h1 := hpv.length
    have h2 : items.length ≤ (ren items last).length := items_le hok
    rw [← hx] at h2
    have h2' : x.cps.toList.length = x.cps.size := Array.length_toList
    have h3 : x.cps.size ≤ 100000 := hlen
    have h4 : (partsOf items last).length = 2 * items.length + 1 := by unfold partsOf; rw [List.length_append, two_len]; rfl
    walk_at "mine omega"
  rw [← hlspd] at hlsp
  have F3 := F2.push { cls := .type "list", data := .seq pv.toArray }
  have N3 := pushN N2 { cls := .type "list", data := .seq pv.toArray }
  refine wpC_of ?_
  refine forC_list (fs := (envX cn cs L ea ccd cl :: outer).filterMap (·.frame)) (pv := pv) (np := 0) rfl F3 N3 hlsp (fun i m led => ∃ (vals : List Value) (nn : Nat) (u1 u2 : Option Value), led = [(lr, W.listOf vals.toArray nn)] ∧ ToldL vals ((ks.take i).filterMap id) ∧ vals.length ≤ 2 * i ∧
      m = fun y => if y = Str.ofString "t" then u1 else if y = Str.ofString "v" then u2 else if y = Str.ofString "result" then some (Value.ref lr) else if y = Str.ofString "component_re" then some (Value.ref 64) else if y = Str.ofString "version" then some (Value.str x u) else none)
    ⟨[], 0, none, none, rfl, .nil, Nat.zero_le _, by (first | (refine map2 (Str.ofString "t") (Str.ofString "v") rfl rfl ?_; intro y h0 h1; ((repeat (first | with_reducible rfl | refine Eq.trans (if_neg (by assumption)) ?_ | refine Eq.trans ?_ (if_neg (by assumption)).symm)); done)) | (funext y; by_cases h0 : y = Str.ofString "t"; (subst h0; rfl); by_cases h1 : y = Str.ofString "v"; (subst h1; rfl); simp only [if_neg h0, if_neg h1]))⟩ ?_ ?_ fun I s' h => h
  · rintro i v g m₁ led₁ h tk I oI hI hi hv Tg hj1 hn' F4 N4
    refine p4_4 ?_ hj1
    (try clear hj1)
    intro vals nn u1 u2 hq2 htold hvl hq3
    subst hq2
    subst hq3
    (try replace F4 : Fr _ L' _ _ := F4); (try replace N4 : News _ L' _ _ := N4)
    (try (refine (let mm : Str → Option Value := _; have Fx : Fr _ L' _ mm := F4; ?_); clear F4; rename Fr _ _ _ _ => F4))
    (try refine opg fun gG hgG => ?_); (obtain ⟨a, ta, ha, rfl⟩ := hpv.get hv); (try (refine hgG ?_; clear hgG gG))
    (try refine opg fun gG hgG => ?_); (obtain ⟨k, hk', hpk⟩ := hks.get ha); (try (refine hgG ?_; clear hgG gG))
    refine wpC_of ?_
    have BG : Below (ktrTop dp un gd cn cs L ea ccd cl outer) base (envX cn cs L ea ccd cl :: outer) g := ⟨B'.stack, fun b o e => Tg.other b o (B'.stays b o e) (fun hm => by
      rw [(B'.frames.mem hm).1] at e
      cases e), B'.frames.of_keeps fun b o e _ => by
      (try refine opg fun gG hgG => ?_); (obtain ⟨sl', hs'⟩ := Tg.up e); (try (refine hgG ?_; clear hgG gG))
      exact ⟨_, hs', rfl⟩⟩
    have XG : (hd.heap_1 w.params).In g := XB.keeps BG.stays
    have TG : Top p loose mean mg mb g := TB.keeps BG.stays
    have DG := D'.turn Tg
    clear X' T' B'; (try clear F2); (try clear N2); (try clear F3); (try clear N3)
    walk_at "mine steps"
    refine wpC_execs_cons (wpC_If (wpC_of ?_))
    walk_at "mine steps"
    · cases hpk with
      | none _ hz =>
        rename (Builtin.Str.occurrences _ _ _ _ _).isEmpty = true => hocc
        rcases hz with rfl | rfl <;> exact absurd hocc (by decide +kernel)
      | num n hn =>
        refine wpC_execs_cons (wpC_Try (wpC_execs_cons (wpC_Assign_Name (wpC_Call_Name (wpC_of ?_)))))
        walk_at "mine steps"
        refine callWithC_type rfl (wpC_of ?_)
        refine evalArgs_pos ⟨_, _, rfl⟩ ?_
        walk_at "mine steps"
        rename Fr _ _ _ _ => F5
        rename News _ _ _ _ => N5
        refine wpC_of (call_int_ok (n := (n : Int)) (Nat.le_trans (KT.len_num (Int.natCast_nonneg n) (by walk_at "mine omega")) (by decide)) (KIN.num_reads (Int.natCast_nonneg n) (by walk_at "mine omega")) ?_)
        refine wpC_of ?_
        walk_at "mine steps"
        dsimp only
        refine wpC_execs_cons (wpC_of ?_)
        walk_at "mine steps"
        dsimp only
        refine wpC_of (wpAny_execs_nil ?_)
        dsimp only
        refine wpC_of (wpAny_execs_nil ?_)
        dsimp only
        refine wpC_execs_cons (wpC_of ?_)
        repeat ((fail_if_success (with_reducible show wpAny _ _ (PySem.call (Value.builtin "list.extend") _ _) _ _ _)); (first | (k_unfold; (try dsimp only)) | ((try dsimp only); walk1) | (leave1; (try dsimp only))))
        rename Fr _ _ _ _ => F7
        rename News _ _ _ _ => N7
        have hb := (N7 _ (.head _)).1
        refine extend_two F7 (news_sub (l' := [(lr, W.listOf vals.toArray nn), (I, oI), (lsp, W.listOf pv.toArray 0)]) N7 (by first | walk_at "mine sub" | (intro q hq; simp only [List.mem_cons, List.not_mem_nil, or_false] at hq ⊢; rcases hq with e | e | e <;> simp [e]))) ?hne hb (by walk_at "mine omega") fun h9 n9 F9 N9 => ?_
        case hne =>
          intro q hq
          simp only [List.mem_cons, List.not_mem_nil, or_false] at hq
          rcases hq with e | e <;> rw [e]
          · exact (hn' (lr, _) (.head _)).symm
          · exact hlrne.symm
        dsimp only
        walk_at "mine steps"
        refine wpC_of (wpAny_execs_nil ?_)
        dsimp only
        refine wpC_of (wpAny_execs_nil ?_)
        (try refine opg fun gG hgG => ?_); (obtain ⟨q1, q2, N9⟩ : ∃ q1 q2, News g L' _ [(lr, W.listOf (vals ++ [Value.int 100 q1, Value.int (n : Int) q2]).toArray n9), (I, oI), (lsp, W.listOf pv.toArray 0)] := ⟨_, _, N9⟩); (try (refine hgG ?_; clear hgG gG))
        refine ⟨_, _, g, _, [(lr, W.listOf (vals ++ [Value.int 100 q1, Value.int (n : Int) q2]).toArray n9)], rfl, Tg, F9, news_sub N9 (by first | walk_at "mine sub" | simp), news_sub N9 (by first | walk_at "mine sub" | simp), by simpa using hn' (lr, _) (.head _), _, _, _, _, rfl, ?_, ?_, by (first | (refine map2 (Str.ofString "t") (Str.ofString "v") rfl rfl ?_; intro y h0 h1; ((repeat (first | with_reducible rfl | refine Eq.trans (if_neg (by assumption)) ?_ | refine Eq.trans ?_ (if_neg (by assumption)).symm)); done)) | (funext y; by_cases h0 : y = Str.ofString "t"; (subst h0; rfl); by_cases h1 : y = Str.ofString "v"; (subst h1; rfl); simp only [if_neg h0, if_neg h1]))⟩
        · rw [take_fm hk']; exact htold.app (.num n _ _ .nil)
        · rw [List.length_append]; simp only [List.length_cons, List.length_nil]; walk_at "mine omega"
      | txt _ h1 h2 h3 h4 =>
        refine wpC_execs_cons (wpC_Try (wpC_execs_cons (wpC_Assign_Name (wpC_Call_Name (wpC_of ?_)))))
        walk_at "mine steps"
        refine callWithC_type rfl (wpC_of ?_)
        refine evalArgs_pos ⟨_, _, rfl⟩ ?_
        walk_at "mine steps"
        rename Fr _ _ _ _ => F5
        rename News _ _ _ _ => N5
        refine int_refuses rfl h1 h3 fun h6 tk6 e hx6 => ?_
        refine caught_own (X := "ValueError") (T' := "ValueError") hx6 BG F5 N5 XB TB DG Tg ?ex PyProof.Rows.Boot.«ValueError» ?hn PySem.F.isExc_ValueError PySem.F.notTuple_ValueError ?hs ?_
        case hs => kts_sub
        case ex => k_is
        case hn => decide
        clear BG XG TG DG; (try clear F5); (try clear N5)
        intro h7 g7 T7 F7 N7 B7 X7 P7 D7
        repeat ((fail_if_success (with_reducible show wpAny _ _ (PySem.call (Value.builtin "dict.get") _ _) _ _ _)); (first | (k_unfold; (try dsimp only)) | ((try dsimp only); walk1) | (leave1; (try dsimp only))))
        rename Fr _ _ _ _ => F8
        refine call_stage (X7.keeps F8.keep) h4 ?_
        walk_at "mine steps"
        dsimp only
        refine wpC_execs_cons (wpC_of ?_)
        repeat ((fail_if_success (with_reducible show wpAny _ _ (PySem.call (Value.builtin "list.extend") _ _) _ _ _)); (first | (k_unfold; (try dsimp only)) | ((try dsimp only); walk1) | (leave1; (try dsimp only))))
        rename Fr _ _ _ _ => F10
        rename News _ _ _ _ => N10
        have hb := (N10 _ (.head _)).1
        refine extend_two F10 (news_sub (l' := [(lr, W.listOf vals.toArray nn), (I, oI), (lsp, W.listOf pv.toArray 0)]) N10 (by first | walk_at "mine sub" | (intro q hq; simp only [List.mem_cons, List.not_mem_nil, or_false] at hq ⊢; rcases hq with e | e | e <;> simp [e]))) ?hne2 hb (by walk_at "mine omega") fun h9 n9 F9 N9 => ?_
        case hne2 =>
          intro q hq
          simp only [List.mem_cons, List.not_mem_nil, or_false] at hq
          rcases hq with e | e <;> rw [e]
          · exact (hn' (lr, _) (.head _)).symm
          · exact hlrne.symm
        dsimp only
        walk_at "mine steps"
        refine wpC_of (wpAny_execs_nil ?_)
        dsimp only
        refine wpC_of (wpAny_execs_nil ?_)
        (try refine opg fun gG hgG => ?_); (obtain ⟨q1, q2, N9⟩ : ∃ q1 q2, News g7 L' _ [(lr, W.listOf (vals ++ [Value.int 0 q1, Value.str a q2]).toArray n9), (I, oI), (lsp, W.listOf pv.toArray 0)] := ⟨_, _, N9⟩); (try (refine hgG ?_; clear hgG gG))
        refine ⟨_, _, g7, _, [(lr, W.listOf (vals ++ [Value.int 0 q1, Value.str a q2]).toArray n9)], rfl, T7, F9, news_sub N9 (by first | walk_at "mine sub" | simp), news_sub N9 (by first | walk_at "mine sub" | simp), by simpa using hn' (lr, _) (.head _), _, _, _, _, rfl, ?_, ?_, by (first | (refine map2 (Str.ofString "t") (Str.ofString "v") rfl rfl ?_; intro y h0 h1; ((repeat (first | with_reducible rfl | refine Eq.trans (if_neg (by assumption)) ?_ | refine Eq.trans ?_ (if_neg (by assumption)).symm)); done)) | (funext y; by_cases h0 : y = Str.ofString "t"; (subst h0; rfl); by_cases h1 : y = Str.ofString "v"; (subst h1; rfl); simp only [if_neg h0, if_neg h1]))⟩
        · rw [take_fm hk']; exact htold.app (.txt a _ _ .nil)
        · rw [List.length_append]; simp only [List.length_cons, List.length_nil]; walk_at "mine omega"
    · cases hpk with
      | none _ hz =>
        refine wpC_of (wpAny_execs_nil ?_)
        dsimp only
        refine wpC_of (wpAny_execs_nil ?_)
        rename Fr _ _ _ _ => F9
        rename News _ _ _ _ => N9
        refine ⟨_, _, g, _, [(lr, W.listOf vals.toArray nn)], rfl, Tg, F9, news_sub N9 (by first | walk_at "mine sub" | simp), news_sub N9 (by first | walk_at "mine sub" | simp), by simpa using hn' (lr, _) (.head _), _, _, _, _, rfl, ?_, by walk_at "mine omega", by (first | (refine map2 (Str.ofString "t") (Str.ofString "v") rfl rfl ?_; intro y h0 h1; ((repeat (first | with_reducible rfl | refine Eq.trans (if_neg (by assumption)) ?_ | refine Eq.trans ?_ (if_neg (by assumption)).symm)); done)) | (funext y; by_cases h0 : y = Str.ofString "t"; (subst h0; rfl); by_cases h1 : y = Str.ofString "v"; (subst h1; rfl); simp only [if_neg h0, if_neg h1]))⟩
        rw [take_fm hk']; simpa using htold
      | num n hn =>
        rename (Builtin.Str.occurrences _ _ _ _ _).isEmpty = false => hocc
        (try refine opg fun gG hgG => ?_); (obtain ⟨c, hc, hd⟩ := num_digit n); (try (refine hgG ?_; clear hgG gG))
        rw [not_in_seps ⟨c, hc, hd⟩] at hocc
        cases hocc
      | txt _ h1 h2 h3 h4 =>
        rename (Builtin.Str.occurrences _ _ _ _ _).isEmpty = false => hocc
        (try refine opg fun gG hgG => ?_); (obtain ⟨c, hc⟩ := List.exists_mem_of_ne_nil _ h2); (try (refine hgG ?_; clear hgG gG))
        rw [not_in_seps ⟨c, hc, (Bool.or_eq_false_iff.mp (h1 c hc).2.2).2⟩] at hocc
        cases hocc
  · rintro h5 tk5 g5 m5 led5 T5 F5 N5 hj4
    refine p4_4 ?_ hj4
    (try clear hj4)
    intro vals nn u1 u2 hq5 htold hvl hq6
    subst hq5
    subst hq6
    (try replace F5 : Fr _ L' _ _ := F5); (try replace N5 : News _ L' _ _ := N5)
    (try (refine (let mm : Str → Option Value := _; have Fx : Fr _ L' _ mm := F5; ?_); clear F5; rename Fr _ _ _ _ => F5))
    dsimp only
    refine wpC_execs_cons (wpC_of ?_)
    have F6 := F5
    walk_at "mine steps"
    have hlk : pv.length = ks.length := by rw [hpv.length, hks.length]
    rw [hlk, List.take_length] at htold
    have hN := N5 _ (.head _)
    refine ret _ _ _ g5 T5 F5.keep ⟨lr, vals, nn, rfl, hN.2.2, hN.1, htold⟩
end Mine
end
section
theorem Mine.fresh39 : True := by w_top off; trivial
open PySem PySem.W PyProof.Rows PySem.Calls
set_option maxRecDepth 100000
set_option maxHeartbeats 8000000
namespace Mine
theorem paired_get {F : Value → Value → Prop} : ∀ {xs ys : List Value}, Paired F xs ys → ∀ {j : Nat} {y : Value}, ys[j]? = some y → ∃ x, xs[j]? = some x ∧ F x y
  | _, _, .nil, _, _, h => nomatch h
  | _, _, .cons h1 h2, 0, _, h => by obtain rfl := Option.some.inj h; exact ⟨_, rfl, h1⟩
  | _, _, .cons h1 h2, j + 1, _, h => paired_get h2 h
section
variable {prog : Program} {w : World} {A : Around} {E : Value → Shared → Prop} {env : Env} {h₀ : Heap}
/-- what a comprehension asks of what it goes over -/
noncomputable def CompOf (prog : Program) (w : World) (A : Around) (env : Env) (h₀ : Heap) (F : Value → Value → Prop) (elt : Expr) (x : Str) (scope : Scope) (cl : List (Str × Addr)) (s₁ : Shared) (mf : (Str → Option Value) → Addr → Str → Option Value) (G : Addr → Shared → Prop) (it : Value) (s₂ : Shared) : Prop :=
  ∃ I fp n P St m led, it = .ref I ∧ Walks prog w A I fp [I] n P St ∧ n ≤ sizeLine ∧ St 0 s₂.heap ∧ (∀ b ∈ fp, b < s₂.heap.objs.size) ∧
      Fr h₀ env.locals s₂.heap m ∧ News h₀ env.locals s₂.heap led ∧ h₀.get? I = none ∧ I ≠ env.locals ∧ (∀ p ∈ led, p.1 ≠ I) ∧
      (∀ C i v s₃ m₃ E', s₂.heap.objs.size ≤ C → P i v → Fr s₁.heap C s₃.heap m₃ → m₃ x = some v → wpAny (model prog w) A (eval elt (compEnvC scope cl C env)) (fun y s₄ => F v y ∧ Keeps s₃ s₄) E' s₃) ∧
      (∀ b o, s₁.heap.get? b = some o → b ≠ I ∧ s₂.heap.get? b = some o) ∧ s₁.heap.objs.size ≤ s₂.heap.objs.size ∧
      (∀ D h' tk ys (vs : List Value) n', News h₀ env.locals h' ((D, W.listOf (ys : List Value).toArray n') :: led) → vs.length = n → (∀ j v, vs[j]? = some v → P j v) → Paired F vs ys → s₂.heap.get? D = none →
        Fr h₀ env.locals h' (mf m D) → G D { s₂ with heap := h', toks := tk })
/-- a comprehension whose elements make nothing that is asked for later: as a statement's value -/
theorem comp_asg {s : Shared} {elt iter : Expr} {x y : Str} {px py : Pos} {scope : Scope} {cl : List (Str × Addr)} {pos spos : Pos} {Q : Flow → Shared → Prop} (F : Value → Value → Prop)
    (hsw : swapsWith (.ListComp elt [⟨.Name x px, iter, [], 0⟩] scope pos) (some (.Name y py)) spos.line env = pure true)
    (hclos : closureFor scope env = pure cl) (hcell : ∀ z ∈ scope.names, z.2 ≠ .cell) (hkind : scope.kind = .function)
    (hnames : ∀ z ∈ scope.names, z.2 = .local → scope.names.lookup z.1 = some .local) (hx : scope.names.lookup x = some .local)
    (hy : env.kindOf y = some .local) (hp : (env.scope.kind == .class || (env.scope.kind == .module && env.locals != env.globals)) = false)
    (h : wpAny (model prog w) A (eval iter env) (fun xv s₁ => wpAny (model prog w) A (pyIter xv) (CompOf prog w A env h₀ F elt x scope cl s₁ (fun m D z => if z = y then some (.ref D) else m z) (fun _ s => Q .next s)) E s₁) E s)
    (hs : ∀ x, foldedSetIterable iter env x = pure x := by intro _; rfl) :
    wpAny (model prog w) A (exec (.Assign [.Name y py] (.ListComp elt [⟨.Name x px, iter, [], 0⟩] scope pos) spos) env) Q E s := by
  refine wpAny_Assign_ListComp_free (fun _ => true) F hsw hclos hcell hkind hnames hx hy hp (wpAny_mono h (fun xv s₁ h₁ => wpAny_mono h₁ (fun it s₂ h₂ => ?_) fun _ _ x => x) fun _ _ x => x) hs
  refine p7_14 ?_ h₂
  (try clear h₂)
  intro I fp n P St m led hq1 Wk hn hst hfp F₂ N₂ hI0 hIL hIl helt hk12 hsz12 hret
  subst hq1
  refine ⟨I, fp, [I], n, P, St, m, rfl, Wk, hn, hst, hfp, fun hm => hIL (List.mem_singleton.mp hm).symm, F₂.ns, ⟨?_, ?_⟩, ?_⟩
  · intro C i v s₃ m₃ E' hC hP hns hm hk htk
    exact wpAny_pure ⟨rfl, s₃.heap, s₃.toks, rfl, fun _ _ e => e⟩
  · intro C i v s₃ m₃ E' hC hP _ hns hm hk htk
    exact helt C i v s₃ m₃ E' hC hP ⟨hns, fun b o e => hk b o (fun hm => (hk12 b o e).1 (List.mem_singleton.mp hm)) (hk12 b o e).2, Nat.le_trans hsz12 hC⟩ hm
  · intro D h' tk ys vs hD hl hpl hlen hP hpair hns hk
    have hDL : D ≠ env.locals := fun e => by
      have hp2 := F₂.ns
      refine p3_2 ?_ hp2
      (try clear hp2)
      intro o _ _ ho _
      rw [e, ho] at hD; cases hD
    obtain ⟨nD, hDo⟩ := hpl
    have hfil : vs.filter (fun _ => true) = vs := List.filter_eq_self.mpr fun _ _ => rfl
    rw [hfil] at hpair
    refine hret D h' tk ys.toList vs nD ?_ hlen hP hpair hD ⟨hns, fun b o e => hk b o ?_ ?_ (F₂.keep b o e), F₂.above⟩
    · intro p hp
      rcases List.mem_cons.mp hp with rfl | hp
      · refine ⟨by simpa using hDo, hDL, ?_⟩
        cases q : h₀.get? D with
        | none => rfl
        | some o => rw [F₂.keep _ _ q] at hD; cases hD
      · exact ⟨hk _ _ (N₂ p hp).2.1 (fun hm => hIl p hp (List.mem_singleton.mp hm)) (N₂ p hp).1, (N₂ p hp).2⟩
    · exact fun q => Nat.lt_irrefl _ (Nat.lt_of_lt_of_le (Heap.lt_size e) (q ▸ F₂.above))
    · intro hm; rw [List.mem_singleton.mp hm, hI0] at e; cases e
/-- the same as an expression -/
theorem comp_val {s : Shared} {elt iter : Expr} {x : Str} {px : Pos} {scope : Scope} {cl : List (Str × Addr)} {pos : Pos} {Q : Value → Shared → Prop} (F : Value → Value → Prop)
    (hclos : closureFor scope env = pure cl) (hcell : ∀ z ∈ scope.names, z.2 ≠ .cell) (hkind : scope.kind = .function)
    (hnames : ∀ z ∈ scope.names, z.2 = .local → scope.names.lookup z.1 = some .local) (hx : scope.names.lookup x = some .local)
    (h : wpAny (model prog w) A (eval iter env) (fun xv s₁ => wpAny (model prog w) A (pyIter xv) (CompOf prog w A env h₀ F elt x scope cl s₁ (fun m _ => m) (fun D s => Q (.ref D) s)) E s₁) E s)
    (hs : ∀ x, foldedSetIterable iter env x = pure x := by intro _; rfl) :
    wpAny (model prog w) A (eval (.ListComp elt [⟨.Name x px, iter, [], 0⟩] scope pos) env) Q E s := by
  refine wpAny_ListComp_free (fun _ => true) F hclos hcell hkind hnames hx (wpAny_mono h (fun xv s₁ h₁ => wpAny_mono h₁ (fun it s₂ h₂ => ?_) fun _ _ x => x) fun _ _ x => x) hs
  refine p7_14 ?_ h₂
  (try clear h₂)
  intro I fp n P St m led hq3 Wk hn hst hfp F₂ N₂ hI0 hIL hIl helt hk12 hsz12 hret
  subst hq3
  refine ⟨I, fp, [I], n, P, St, rfl, Wk, hn, hst, hfp, ⟨?_, ?_⟩, ?_⟩
  · intro C i v s₃ m₃ E' hC hP hns hm hk htk
    exact wpAny_pure ⟨rfl, s₃.heap, s₃.toks, rfl, fun _ _ e => e⟩
  · intro C i v s₃ m₃ E' hC hP _ hns hm hk htk
    exact helt C i v s₃ m₃ E' hC hP ⟨hns, fun b o e => hk b o (fun hm => (hk12 b o e).1 (List.mem_singleton.mp hm)) (hk12 b o e).2, Nat.le_trans hsz12 hC⟩ hm
  · intro D h' tk ys vs hD hl hpl hlen hP hpair hk
    have hDL : D ≠ env.locals := fun e => by
      have hp4 := F₂.ns
      refine p3_2 ?_ hp4
      (try clear hp4)
      intro o _ _ ho _
      rw [e, ho] at hD; cases hD
    obtain ⟨nD, hDo⟩ := hpl
    have hfil : vs.filter (fun _ => true) = vs := List.filter_eq_self.mpr fun _ _ => rfl
    rw [hfil] at hpair
    have hLI : env.locals ∉ [I] := fun hm => hIL (List.mem_singleton.mp hm).symm
    have hp5 := F₂.ns
    refine p3_2 ?_ hp5
    (try clear hp5)
    intro oL es ep hL r
    refine hret D h' tk ys.toList vs nD ?_ hlen hP hpair hD ⟨⟨oL, es, ep, hk _ _ hLI hL, r⟩, fun b o e => hk b o ?_ (F₂.keep b o e), F₂.above⟩
    · intro p hp
      rcases List.mem_cons.mp hp with rfl | hp
      · refine ⟨by simpa using hDo, hDL, ?_⟩
        cases q : h₀.get? D with
        | none => rfl
        | some o => rw [F₂.keep _ _ q] at hD; cases hD
      · exact ⟨hk _ _ (fun hm => hIl p hp (List.mem_singleton.mp hm)) (N₂ p hp).1, (N₂ p hp).2⟩
    · intro hm; rw [List.mem_singleton.mp hm, hI0] at e; cases e
theorem src_range {s₁ : Shared} {F : Value → Value → Prop} {elt : Expr} {x : Str} {scope : Scope} {cl : List (Str × Addr)} {mf : (Str → Option Value) → Addr → Str → Option Value} {G : Addr → Shared → Prop}
    {r : Addr} {a b c : Int} {n : Nat} {t u v : Tok} {m : Str → Option Value} {led : List (Addr × Obj)}
    (hh : A.handled = none) (hr : IsRange s₁.heap r a b c t u v) (hsm : Builtin.Range.small a b c = true) (hn : Builtin.Range.rangeSize a b c = (n : Int)) (hsz : n ≤ sizeLine) (F₁ : Fr h₀ env.locals s₁.heap m) (N₁ : News h₀ env.locals s₁.heap led)
    (helt : ∀ C i v s₃ m₃ E', s₁.heap.objs.size < C → i < n → (∃ t, v = .int (a + i * c) t) → Fr s₁.heap C s₃.heap m₃ → m₃ x = some v → wpAny (model prog w) A (eval elt (compEnvC scope cl C env)) (fun y s₄ => F v y ∧ Keeps s₃ s₄) E' s₃)
    (ret : ∀ D h' tk ys (vs : List Value) n', News h₀ env.locals h' ((D, W.listOf (ys : List Value).toArray n') :: led) → vs.length = n → (∀ (j : Nat) v, vs[j]? = some v → ∃ t, v = .int (a + j * c) t) → Paired F vs ys →
        Fr h₀ env.locals h' (mf m D) → G D { s₁ with heap := h', toks := tk }) :
    wpAny (model prog w) A (pyIter (.ref r)) (CompOf prog w A env h₀ F elt x scope cl s₁ mf G) E s₁ := by
  refine wpAny_pyIter_range hr hsm ?_
  unfold CompOf
  refine ⟨s₁.heap.objs.size, [s₁.heap.objs.size], n, _, _, m, led, rfl, (Walks.range hh _ a c n).bound, hsz, ?_, ?_, F₁.push _, fun p hp => ⟨Heap.get?_push_of_some _ (N₁ p hp).1, (N₁ p hp).2⟩, next_is_new F₁, (Nat.ne_of_lt F₁.ns.lt).symm, fun p hp => Nat.ne_of_lt (Heap.lt_size (N₁ p hp).1),
    fun C i v s₃ m₃ E' hC hP F' hm => helt C i v s₃ m₃ E' (by rw [Heap.size_push] at hC; exact hC) hP.1 hP.2 F' hm, fun b o e => ⟨Nat.ne_of_lt (Heap.lt_size e), Heap.get?_push_of_some _ e⟩, by rw [Heap.size_push]; exact Nat.le_succ _,
    fun D h' tk ys vs n' ND hl hP hp _ FD => ret D h' tk ys vs n' ND hl (fun j v e => (hP j v e).2) hp FD⟩
  · show IsRangeIter _ _ _ _ _; rw [hn]; simpa using Heap.get?_push_size _ rfl
  · intro b hb; rw [List.mem_singleton.mp hb, Heap.size_push]; exact Nat.lt_succ_self _
theorem src_list {s₁ : Shared} {F : Value → Value → Prop} {elt : Expr} {x : Str} {scope : Scope} {cl : List (Str × Addr)} {mf : (Str → Option Value) → Addr → Str → Option Value} {G : Addr → Shared → Prop}
    {l : Addr} {its : List Value} {m : Str → Option Value} {led : List (Addr × Obj)}
    (hh : A.handled = none) (hl : s₁.heap.IsList l its.toArray) (hsz : its.length ≤ sizeLine) (F₁ : Fr h₀ env.locals s₁.heap m) (N₁ : News h₀ env.locals s₁.heap led)
    (helt : ∀ C (i : Nat) v s₃ m₃ E', s₁.heap.objs.size < C → its[i]? = some v → Fr s₁.heap C s₃.heap m₃ → m₃ x = some v → wpAny (model prog w) A (eval elt (compEnvC scope cl C env)) (fun y s₄ => F v y ∧ Keeps s₃ s₄) E' s₃)
    (ret : ∀ D h' tk ys n', News h₀ env.locals h' ((D, W.listOf (ys : List Value).toArray n') :: led) → Paired F its ys →
        Fr h₀ env.locals h' (mf m D) → G D { s₁ with heap := h', toks := tk }) :
    wpAny (model prog w) A (pyIter (.ref l)) (CompOf prog w A env h₀ F elt x scope cl s₁ mf G) E s₁ := by
  have hlt : l < s₁.heap.objs.size := by obtain ⟨_, e, _⟩ := hl; exact Heap.lt_size e
  have hz : its.toArray.size = its.length := by simp
  have Wk := Walks.list (prog := prog) (w := w) hh s₁.heap.objs.size l (Nat.ne_of_lt hlt) its.toArray
  rw [hz] at Wk
  refine wpAny_pyIter_list hl ?_
  unfold CompOf
  refine ⟨s₁.heap.objs.size, [s₁.heap.objs.size, l], its.length, _, _, m, led, rfl, Wk, hsz, ⟨⟨_, Heap.get?_push_size _ rfl, rfl, rfl⟩, hl.push _⟩, ?_, F₁.push _, fun p hp => ⟨Heap.get?_push_of_some _ (N₁ p hp).1, (N₁ p hp).2⟩, next_is_new F₁, (Nat.ne_of_lt F₁.ns.lt).symm, fun p hp => Nat.ne_of_lt (Heap.lt_size (N₁ p hp).1),
    fun C i v s₃ m₃ E' hC hP F' hm => helt C i v s₃ m₃ E' (by rw [Heap.size_push] at hC; exact hC) (by simpa using hP) F' hm, fun b o e => ⟨Nat.ne_of_lt (Heap.lt_size e), Heap.get?_push_of_some _ e⟩, by rw [Heap.size_push]; exact Nat.le_succ _,
    fun D h' tk ys vs n' ND hl' hP hp _ FD => ret D h' tk ys n' ND ?_ FD⟩
  · intro b hb
    rw [Heap.size_push]
    rcases List.mem_cons.mp hb with rfl | hb
    · exact Nat.lt_succ_self _
    · rw [List.mem_singleton.mp hb]; exact Nat.lt_succ_of_lt hlt
  · have : vs = its := by
      refine List.ext_getElem? fun j => ?_
      by_cases hj : j < vs.length
      · have := hP j vs[j] (List.getElem?_eq_getElem hj)
        rw [List.getElem?_eq_getElem hj, ← this]; simp
      · rw [List.getElem?_eq_none (by (first | lia | omega)), List.getElem?_eq_none (by (first | lia | omega))]
    exact this ▸ hp
end
end Mine
end
section
theorem Mine.fresh40 : True := by w_top off; trivial
open PySem PySem.W PyProof.Rows PySem.Calls
set_option maxRecDepth 100000
set_option maxHeartbeats 8000000
namespace Mine
theorem str_rec {w : World} {p : Program} {loose : List Str} {mean : ExcName → Option Value} {mg mb : Str → Option Value} {rec : Rec} {x : Addr} {f : Nat}
    {dp un : Nat} {gd : Option (List Code)} {cn : Str} {cs : Scope} {ea : Addr} {ccd : Value} {cl : List (Str × Addr)} {outer : List Env} {A₀ : Around} {base h₀ : Heap} {L : Addr} {m : Str → Option Value} {led : List (Addr × Obj)} {s : Shared} {Q E : Value → Shared → Prop}
    (hh : hR rec ≤ f) (hor : okR rec = true) (hwt : wtR rec ≤ 1000000)
    (B : Below A₀ base outer h₀) (F : Fr h₀ L s.heap m) (X : (hd.heap_1 w.params).In h₀) (N : News h₀ L s.heap led) (T : Top p loose mean mg mb h₀) (hk : cs.kind = .function) (hin : RecIn w (At s.heap) (.ref x) rec)
    (hdp : dp + (f + 2) < recursionLimit) (hu : un + 10 + (20 * f + 80) < cLine)
    (ret : ∀ t h' tk', Fr h₀ L h' m → News h₀ L h' led → (∀ b o, s.heap.get? b = some o → h'.get? b = some o) → Q (.str (strR rec) t) { s with heap := h', toks := tk' }) :
    wpAny (model PySem.Challenge.rw_jc0012_01.row.prog w) (ktrTop dp un gd cn cs L ea ccd cl outer) (PySem.call (.type "str") [.ref x]) Q E s := by
  revert X N T; k_fill; intro X N T
  have hstr : findIn (hd.heap_1 w.params) (.ref 110) (Str.ofString "__str__") = some (some (.ref 93)) := by k_dflt k_is
  have hfn : isFn (hd.heap_1 w.params) (.ref 93) = true := by k_dflt k_is
  have hp1 := hin.inst
  refine p4_3 ?_ hp1
  (try clear hp1)
  intro y dy es ne e hx' hdx'
  cases e
  refine kso_call (K := hd.heap_1 w.params) (f := 93) (by first | exact dlt (a := 1) (b := 1) hu rfl | (show un + 1 + 1 < cLine; walk_at "mine omega")) (X.keeps F.keep) (C := 110) (od := some (dictOf es ne)) (InstAt.mk hx' rfl rfl hdx') hstr hfn ?_
  refine Spec.call (un := un + 1 + 1) (spec_str f rec hh hor hwt x) B F X N T hk hin hdp (by walk_at "mine omega") fun v h2 tk2 F2 N2 k2 post => ?_
  (try refine opg fun gG hgG => ?_); (obtain ⟨t, rfl⟩ := post); (try (refine hgG ?_; clear hgG gG))
  exact ret t h2 tk2 F2 N2 k2
theorem ToldL.len {vs : List Value} {ps : List Pc} (h : ToldL vs ps) : vs.length = 2 * ps.length := by
  induction h with
  | nil => rfl
  | num n t1 t2 h ih => simp only [List.length_cons, ih]; walk_at "mine omega"
  | txt x t1 t2 h ih => simp only [List.length_cons, ih]; walk_at "mine omega"
inductive PieceL : List Value → List Pc → Prop
  | nil : PieceL [] []
  | num (n : Nat) (t : Tok) {vs : List Value} {ps : List Pc} : PieceL vs ps → PieceL (.int (n : Int) t :: vs) (.num n :: ps)
  | txt (x : Str) (t : Tok) {vs : List Value} {ps : List Pc} : PieceL vs ps → PieceL (.str x t :: vs) (.txt x :: ps)
theorem ToldL.odds {tv : List Value} {ps : List Pc} (h : ToldL tv ps) : ∀ ys : List Value, ys.length = ps.length → (∀ (j : Nat) y, ys[j]? = some y → tv[2 * j + 1]? = some y) → PieceL ys ps := by
  induction h with
  | nil => intro ys hl _; rw [List.length_eq_zero_iff.mp hl]; exact .nil
  | num n t1 t2 h ih =>
    intro ys hl hy
    cases ys with
    | nil => cases hl
    | cons y ys =>
      obtain rfl : Value.int (n : Int) t2 = y := Option.some.inj (hy 0 y rfl)
      exact .num n t2 (ih ys (Nat.succ.inj hl) fun j y e => hy (j + 1) y e)
  | txt x t1 t2 h ih =>
    intro ys hl hy
    cases ys with
    | nil => cases hl
    | cons y ys =>
      obtain rfl : Value.str x t2 = y := Option.some.inj (hy 0 y rfl)
      exact .txt x t2 (ih ys (Nat.succ.inj hl) fun j y e => hy (j + 1) y e)
theorem PieceL.len {vs : List Value} {ps : List Pc} (h : PieceL vs ps) : vs.length = ps.length := by
  induction h with
  | nil => rfl
  | num n t h ih => rw [List.length_cons, List.length_cons, ih]
  | txt x t h ih => rw [List.length_cons, List.length_cons, ih]
theorem PieceL.get {vs : List Value} {ps : List Pc} (h : PieceL vs ps) : ∀ {i : Nat} {v : Value}, vs[i]? = some v → (∃ (n : Nat) (t : Tok), v = .int (n : Int) t ∧ ps[i]? = some (.num n)) ∨ ∃ (x : Str) (t : Tok), v = .str x t ∧ ps[i]? = some (.txt x) := by
  induction h with
  | nil => intro i v e; cases e
  | num n t h ih =>
    intro i v e
    cases i with
    | zero => obtain rfl := Option.some.inj e; exact .inl ⟨n, t, rfl, rfl⟩
    | succ i => exact ih e
  | txt x t h ih =>
    intro i v e
    cases i with
    | zero => obtain rfl := Option.some.inj e; exact .inr ⟨x, t, rfl, rfl⟩
    | succ i => exact ih e
noncomputable def markOf : Pc → Int
  | .num _ => 100
  | .txt _ => 0
theorem ToldL.evens {tv : List Value} {ps : List Pc} (h : ToldL tv ps) : ∀ ys : List Value, ys.length = ps.length → (∀ (j : Nat) y, ys[j]? = some y → tv[2 * j]? = some y) → IntsAre ys (ps.map markOf) := by
  induction h with
  | nil => intro ys hl _; rw [List.length_eq_zero_iff.mp hl]; exact .nil
  | num n t1 t2 h ih =>
    intro ys hl hy
    cases ys with
    | nil => cases hl
    | cons y ys =>
      obtain rfl : Value.int 100 t1 = y := Option.some.inj (hy 0 y rfl)
      exact .cons _ _ (ih ys (Nat.succ.inj hl) fun j y e => hy (j + 1) y e)
  | txt x t1 t2 h ih =>
    intro ys hl hy
    cases ys with
    | nil => cases hl
    | cons y ys =>
      obtain rfl : Value.int 0 t1 = y := Option.some.inj (hy 0 y rfl)
      exact .cons _ _ (ih ys (Nat.succ.inj hl) fun j y e => hy (j + 1) y e)
theorem PieceL.marks {vs us : List Value} {ps : List Pc} (h : PieceL vs ps) (hp : Paired (fun v y => ∃ t, y = .int (match v with | .int _ _ => 100 | _ => 0) t) vs us) : IntsAre us (ps.map markOf) := by
  induction h generalizing us with
  | nil => cases hp; exact .nil
  | num n t h ih =>
    cases hp with
    | cons h1 h2 => obtain ⟨t', rfl⟩ := h1; exact .cons _ _ (ih h2)
  | txt x t h ih =>
    cases hp with
    | cons h1 h2 => obtain ⟨t', rfl⟩ := h1; exact .cons _ _ (ih h2)
noncomputable def pcText : Pc → Str
  | .num n => Str.ofString (toString (n : Int))
  | .txt x => x
theorem PieceL.strs {vs us : List Value} {ps : List Pc} (h : PieceL vs ps) (hp : Paired (fun v y => ∃ t, y = .str (match v with | .int i _ => Str.ofString (toString i) | .str x _ => x | _ => Str.ofString "") t) vs us) : StrsAre us (ps.map pcText) := by
  induction h generalizing us with
  | nil => cases hp; exact .nil
  | num n t h ih =>
    cases hp with
    | cons h1 h2 => obtain ⟨t', rfl⟩ := h1; exact .cons _ _ (ih h2)
  | txt x t h ih =>
    cases hp with
    | cons h1 h2 => obtain ⟨t', rfl⟩ := h1; exact .cons _ _ (ih h2)
theorem PartsK.num {xs : List Str} {ks : List (Option Pc)} (h : PartsK xs ks) (n : Nat) {i : Nat} (hn : (ks.filterMap id)[i]? = some (.num n)) : n < 1000000 := by
  have hm : Pc.num n ∈ ks.filterMap id := List.mem_of_getElem? hn
  (try refine opg fun gG hgG => ?_); (obtain ⟨k, hk, rfl⟩ : ∃ k, k ∈ ks ∧ k = some (.num n) := by simpa using hm); (try (refine hgG ?_; clear hgG gG))
  clear hn hm
  induction h with
  | nil => cases hk
  | cons h1 h2 ih =>
    rcases List.mem_cons.mp hk with e | hk
    · subst e
      cases h1
      assumption
    · exact ih hk
noncomputable def lineS (l : List Nat) : Pc → List Nat
  | .txt x => l ++ List.replicate (PySem.Builtin.Str.occurrences x (Str.ofString "Allow:") 0 x.length (x.length + 1)).length 0
  | .num n => if l = [] then [n] else if 0 < n then l ++ [n / 11] else l
noncomputable def lineF (l : List Nat) (ps : List Pc) : List Nat := ps.foldl lineS l
theorem lineF_take {ps : List Pc} {i : Nat} {p : Pc} (h : ps[i]? = some p) (l : List Nat) : lineF l (ps.take (i + 1)) = lineS (lineF l (ps.take i)) p := by
  unfold lineF
  rw [List.take_add_one, h, List.foldl_append]
  rfl
theorem NatL.ints {vs : List Value} {xs : List Nat} (h : NatL vs xs) : IntsAre vs (xs.map fun (x : Nat) => (x : Int)) := by
  induction h with
  | nil => exact .nil
  | cons x t h ih => exact .cons _ _ ih
theorem PartsK.txt {xs : List Str} {ks : List (Option Pc)} (h : PartsK xs ks) (y : Str) {i : Nat} (hn : (ks.filterMap id)[i]? = some (.txt y)) : y.length ≤ 600 := by
  have hm : Pc.txt y ∈ ks.filterMap id := List.mem_of_getElem? hn
  (try refine opg fun gG hgG => ?_); (obtain ⟨k, hk, rfl⟩ : ∃ k, k ∈ ks ∧ k = some (.txt y) := by simpa using hm); (try (refine hgG ?_; clear hgG gG))
  clear hn hm
  induction h with
  | nil => cases hk
  | cons h1 h2 ih =>
    rcases List.mem_cons.mp hk with e | hk
    · subst e
      cases h1
      assumption
    · exact ih hk
theorem rep_zero (v : Value) (c : Nat) : List.foldl (fun x1 x2 => x1 ++ x2) #[] (List.replicate c #[v]) = (List.replicate c v).toArray := by
  have h : ∀ (c : Nat) (acc : Array Value), List.foldl (fun x1 x2 => x1 ++ x2) acc (List.replicate c #[v]) = acc ++ (List.replicate c v).toArray := by
    intro c
    induction c with
    | zero => intro acc; simp
    | succ c ih => intro acc; rw [List.replicate_succ, List.foldl_cons, ih, List.replicate_succ]; apply Array.ext'; simp
  rw [h]; simp
theorem NatL.zeros {vs : List Value} {xs : List Nat} (h : NatL vs xs) (c : Nat) (t : Tok) : NatL (vs ++ List.replicate c (Value.int 0 t)) (xs ++ List.replicate c 0) := by
  induction h with
  | nil =>
    induction c with
    | zero => exact .nil
    | succ c ih => exact .cons 0 t ih
  | cons x t' h ih => exact .cons x t' ih
theorem occ_le (y : Str) : (PySem.Builtin.Str.occurrences y (Str.ofString "Allow:") 0 y.length (y.length + 1)).length ≤ y.length + 1 := StrLaws.occ_length_le ..
theorem extend_led {prog : Program} {w : World} {A : Around} {E : Value → Shared → Prop} {s : Shared} {h₀ : Heap} {L D b : Addr} {m : Str → Option Value} {led : List (Addr × Obj)} {vs us : List Value} {n n2 : Nat} {Q : Value → Shared → Prop}
    (F : Fr h₀ L s.heap m) (N : News h₀ L s.heap ((D, W.listOf vs.toArray n) :: led)) (hne : ∀ p ∈ led, p.1 ≠ D) (hb : s.heap.get? b = some (W.listOf us.toArray n2)) (hsz : vs.length + us.length ≤ 3000000)
    (h : ∀ h' n', Fr h₀ L h' m → News h₀ L h' ((D, W.listOf (vs ++ us).toArray n') :: led) → Q .none { s with heap := h' }) : wpAny (model prog w) A (PySem.call (.builtin "list.extend") [.ref D, .ref b]) Q E s := by
  have z := N _ (.head _)
  have hlim : vs.toArray.size + us.toArray.size ≤ 3000000 := by rw [List.size_toArray, List.size_toArray]; exact hsz
  have hs : (3000000 : Nat) ≤ sizeLine := by decide
  have q := PySem.IsL.update z.1 (fun x => x ++ us.toArray)
  rw [show vs.toArray ++ us.toArray = (vs ++ us).toArray from by simp] at q
  refine call_meets PySem.F.slot_list_extend ⟨_, z.1, rfl⟩ PySem.F.entry_list_extend (PySem.F.args_list_extend_2 _ _) (PySem.AutoSeq1.list_extend_list_list_0 D vs.toArray n b us.toArray n2 ?_ (by walk_at "mine omega") (by walk_at "mine omega"))
    ⟨z.1, hb, h _ _ (F.change (Heap.SameBut.update ..) z.2.1 z.2.2) (news_set (pre := []) N (fun p hp => nomatch hp) hne (Heap.SameBut.update ..) q)⟩
  unfold Builtin.List.listTooLong
  rw [Bool.and_eq_true, decide_eq_true_eq]
  walk_at "mine omega"
theorem paired_len {F : Value → Value → Prop} {xs ys : List Value} (h : Paired F xs ys) : ys.length = xs.length := by
  induction h with
  | nil => rfl
  | cons h1 h2 ih => rw [List.length_cons, List.length_cons, ih]
theorem sub_get {tv ys vs : List Value} {d : Nat} (h : Paired (fun v y => ∃ i : Nat, ∃ t, v = .int (i : Nat) t ∧ tv[i + d]? = some y) vs ys) (hv : ∀ (j : Nat) v, vs[j]? = some v → ∃ t, v = .int (0 + (j : Int) * 2) t) :
    ∀ (j : Nat) y, ys[j]? = some y → tv[2 * j + d]? = some y := by
  intro j y e
  (try refine opg fun gG hgG => ?_); (obtain ⟨v, hv1, i, t, rfl, h2⟩ := paired_get h e); (try (refine hgG ?_; clear hgG gG))
  (try refine opg fun gG hgG => ?_); (obtain ⟨t', e'⟩ := hv j _ hv1); (try (refine hgG ?_; clear hgG gG))
  injection e' with e1 e2
  obtain rfl : i = 2 * j := by walk_at "mine omega"
  exact h2
theorem fitsL {i : Int} (h : -4000000000 ≤ i) (h' : i ≤ 4000000000) : Builtin.Range.rangeFitsLong i = true := by
  unfold Builtin.Range.rangeFitsLong
  rw [Bool.and_eq_true]
  exact ⟨decide_eq_true (Int.le_trans (by decide) h), decide_eq_true (Int.lt_of_le_of_lt h' (by decide))⟩
theorem range_two (n : Nat) (h : n ≤ 1000000) : Builtin.Range.small 0 ((2 * n : Nat) : Int) 2 = true ∧ Builtin.Range.rangeSize 0 ((2 * n : Nat) : Int) 2 = (n : Int) := by
  have hs : Builtin.Range.rangeSize 0 ((2 * n : Nat) : Int) 2 = (n : Int) := by
    unfold Builtin.Range.rangeSize
    rw [if_pos (by decide)]
    split <;> walk_at "mine omega"
  refine ⟨?_, hs⟩
  unfold Builtin.Range.small
  rw [hs, if_pos (by decide), fitsL (by walk_at "mine omega") (by walk_at "mine omega"), fitsL (by walk_at "mine omega") (by walk_at "mine omega"), fitsL (by walk_at "mine omega") (by walk_at "mine omega"), fitsL (by walk_at "mine omega") (by walk_at "mine omega"), fitsL (by walk_at "mine omega") (by walk_at "mine omega"), Bool.or_true]
  rfl
theorem spec_line {w : World} {p : Program} {loose : List Str} {mean : ExcName → Option Value} {mg mb : Str → Option Value} (rec : Rec) (x : Addr) (f : Nat) (items : List (List Nat × List Nat)) (last : List Nat) (ks : List (Option Pc))
    (hh : hR rec ≤ f) (hf : f ≤ 200) (hor : okR rec = true) (hwt : wtR rec ≤ 100000)
    (hkl : ks.length ≤ 1000) (hx : (strR rec).cps.toList = ren items last) (hok : okIt items last) (hks : PartsK (partsOf items last) ks)
    (hjo : Txt.join (Str.ofString "") ((ks.filterMap id).map pcText) = Txt.replace (strR rec) (Str.ofString "-") (Str.ofString "")) (hjl : (((ks.filterMap id).map pcText).map (·.length)).sum ≤ 1000000) :
    SpecW w p loose mean mg mb 175 (f + 10) (20 * f + 300) [.ref x] (fun h => RecIn w (At h) (.ref x) rec)
      (fun h h' r => ∃ a vals n, r = .ref a ∧ h.get? a = none ∧ h'.get? a = some (W.listOf (vals : List Value).toArray n) ∧ NatL vals (lineF [] (ks.filterMap id))) := by
  intro dp un gd cn cs ea ccd cl outer A₀ base h₀ L m s R B F XB TB D hk hpre hdp hu ret
  revert XB TB; k_fill; intro XB TB
  refine' codeC_pure1 (cname := Str.ofString "told") (K := hd.heap_1 w.params) (binds := [(Str.ofString "record", .ref x)]) B F XB TB D rfl rfl hk ?k6 ?k7 ?k8 ?k9 ?kB ?kD ?kO ?kN ?kL ?_ ?c2 ?c3 ?c4
  case k6 => k_dflt k_is
  case k7 => k_dflt k_is
  case k8 => ktr_room
  case k9 => exact BindsTo.of_eq rfl
  case kB => exact rfl
  case kD => decide +kernel
  case kO => intro n; rfl
  case kN => rfl
  case kL => intro n; (refine' Eq.trans (b := fun y => if y = Str.ofString "record" then some (.ref x) else none) rfl ?_); (funext y; first | rfl | ((try simp only [List.reverse_cons, List.reverse_nil, List.nil_append, List.cons_append, List.lookup]); (repeat' split) <;> first | rfl | (simp_all; done) | (subst_vars; simp_all; done) | (simp_all (decide := true); done)))
  case c2 => exact rfl
  case c3 => exact rfl
  case c4 => exact rfl
  intro L' h' tk' oc' F' N' hoc' B' X' T' D'
  clear B F
  replace F' := Fr.as F' (m' := fun y => if y = Str.ofString "record" then some (.ref x) else none) (by first | exact look_rev _ rfl | (funext y; first | rfl | ((try simp only [List.reverse_cons, List.reverse_nil, List.nil_append, List.cons_append, List.lookup]); (repeat' split) <;> first | rfl | (simp_all; done) | (subst_vars; simp_all; done) | (simp_all (decide := true); done))))
  (try dsimp only)
  (try k_fold)
  generalize s.gens = gs0 at ret ⊢
  generalize s.drawn = ds0 at ret ⊢
  generalize s.os = os0 at ret ⊢
  (try generalize s.toks + _ = tk0)
  refine (let AE : Env := _; let AA : Around := Around.deeper _ AE; let QQ : Flow → Shared → Prop := _; (?kL : wpC _ AA (execs _ AE) QQ _ _))
  have hlen : (strR rec).length ≤ 100000 := Nat.le_trans (strR_len rec hor) hwt
  refine wpC_execs_cons (wpC_of ?_)
  repeat ((fail_if_success (with_reducible show wpAny _ _ (PySem.call (Value.type "str") _ _) _ _ _)); (first | (k_unfold; (try dsimp only)) | ((try dsimp only); walk1) | (leave1; (try dsimp only))))
  rename Fr _ _ _ _ => F1
  rename News _ _ _ _ => N1
  refine str_rec hh hor (Nat.le_trans hwt (by decide)) B' F1 X' N1 T' rfl (hpre.mono fun a o e => F1.keep _ _ e) (by show dp + 1 + (f + 2) < recursionLimit; walk_at "mine omega") (by show un + 3 + 10 + (20 * f + 80) < cLine; walk_at "mine omega") fun t2 h2 tk2 F2 N2 k2 => ?_
  (try clear F1); (try clear N1)
  walk_at "mine steps"
  dsimp only
  rename Fr _ _ _ _ => F3
  rename News _ _ _ _ => N3
  refine wpC_execs_cons (wpC_Assign_Name (wpC_Call_Name (wpC_of ?_)))
  walk_at "mine steps"
  refine callWithC_function rfl (wpC_of ?_)
  refine evalArgs_pos ⟨_, _, rfl⟩ ?_
  walk_at "mine steps"
  refine ⟨⟨_, _, F3.keep _ _ (X' 72 _ rfl), rfl⟩, ?_⟩
  refine SpecW.call (spec_compv (strR rec) t2 items last ks hx hok hlen hks) B' F3 XB N3 TB D' KtsTurn.refl rfl trivial (by first | exact dlt (a := 1) (b := 2) hdp rfl | (show dp + 1 + 2 < recursionLimit; walk_at "mine omega")) (by first | exact dlt (a := 3) (b := 200) hu rfl | (show un + 3 + 200 < cLine; walk_at "mine omega")) fun r h4 tk4 g4 g4' T4 F4 N4 B4 D4 T4' k4 post hnew => ?_
  refine p3_4 ?_ post
  (try clear post)
  intro lt tv n4 hq3 hlt0 hlt htold
  subst hq3
  have X4 : (hd.heap_1 w.params).In g4 := XB.keeps B4.stays
  have P4 : Top p loose mean mg mb g4 := TB.keeps B4.stays
  have NT : News g4 L' h4 [(lt, W.listOf tv.toArray n4)] := fun q hq => by rw [List.mem_singleton.mp hq]; exact ⟨hlt, (hnew _ hlt0).1, (hnew _ hlt0).2⟩
  have N5 : News g4 L' h4 [(lt, W.listOf tv.toArray n4), (L' + 1, oc')] := news_app NT N4
  have hltne : @Ne Nat lt (L' + 1) := fun e => by
    have h1 := (N5 _ (.head _)).1
    have h2 := (N5 _ (.tail _ (.head _))).1
    dsimp only at h1 h2
    rw [show lt = L' + 1 from e, h2] at h1
    rw [Option.some.inj h1] at hoc'
    cases hoc'
  clear NT X' T' B' D'; (try clear N3); (try clear F3); (try clear N4)
  refine wpC_of ?_
  walk_at "mine steps"
  dsimp only
  rename Fr _ _ _ _ => F6
  rename News _ _ _ _ => N6
  have hlt := N6 (lt, _) (.head _)
  have hcell := N6 (_, _) (.tail _ (.head _))
  rename Obj.data _ = Data.cell (some (Value.ref lt)) => hdat
  have hl2 := htold.len
  have hpl : (ks.filterMap id).length ≤ 1000 := Nat.le_trans (List.length_filterMap_le ..) hkl
  refine wpC_of ?_
  refine wpAny_execs_cons (comp_asg (h₀ := g4) (cl := [(Str.ofString "told", L' + 1)]) (fun v y => ∃ i : Nat, ∃ t, v = .int (i : Nat) t ∧ tv[i + 1]? = some y) rfl rfl (by decide) rfl (by decide) rfl rfl rfl ?_)
  repeat' (first | (k_unfold; (try dsimp only)) | (k_end; wrow_close) | ((fail_if_success (with_reducible show wpAny _ _ (PySem.call (Value.builtin "len") _ _) _ _ _)); (try dsimp only); walk1) | (leave1; (try dsimp only)))
  refine len_list ⟨_, hlt.1, rfl, n4, rfl⟩ (by rw [List.size_toArray, hl2]; walk_at "mine omega") ?_
  repeat' (first | (k_unfold; (try dsimp only)) | (k_end; wrow_close) | ((fail_if_success (with_reducible show wpAny _ _ (pyIter _) _ _ _)); (try dsimp only); walk1) | (leave1; (try dsimp only)))
  rename IsRange _ _ _ _ _ _ _ _ => hr
  rename Fr _ _ _ _ => F7
  rename News _ _ _ _ => N7
  clear hlt hcell
  have hlt := N7 (lt, _) (.head _)
  have hcell := N7 (_, _) (.tail _ (.head _))
  have hsz : tv.toArray.size = 2 * (ks.filterMap id).length := by rw [List.size_toArray, hl2]
  rw [hsz] at hr
  refine src_range (n := (ks.filterMap id).length) rfl hr (range_two _ (by walk_at "mine omega")).1 (range_two _ (by walk_at "mine omega")).2 (by show _ ≤ 2 ^ 24; walk_at "mine omega") F7 N7 ?elt1 ?ret1
  case elt1 =>
    rintro C i v s3 m3 E' hC hi hj4 Fc hm
    (try refine opg fun gG hgG => ?_); (obtain ⟨t, rfl⟩ := hj4); (try (refine hgG ?_; clear hgG gG))
    refine Subscript_ (ldCellK rfl ⟨_, Fc.keep _ _ hcell.1, hdat⟩ ?_)
    repeat' (first | (k_unfold; (try dsimp only)) | (k_end; wrow_close) | ((fail_if_success (with_reducible show wpAny _ _ (eval (Expr.Name (Str.ofString "place") _) _) _ _ _)); (try dsimp only); walk1) | (leave1; (try dsimp only)))
    refine ldVarK Fc.ns hm ?_
    repeat' (first | (k_unfold; (try dsimp only)) | (k_end; wrow_close) | ((fail_if_success (with_reducible show wpAny _ _ (subscriptTail _ _ _ _) _ _ _)); (try dsimp only); walk1) | (leave1; (try dsimp only)))
    (try refine opg fun gG hgG => ?_); (obtain ⟨y, hy⟩ : ∃ y, tv[i * 2 + 1]? = some y := ⟨tv[i * 2 + 1]'(by walk_at "mine omega"), List.getElem?_eq_getElem _⟩); (try (refine hgG ?_; clear hgG gG))
    refine PyProof.Rows.item_list (x := y) ⟨_, Fc.keep _ _ hlt.1, rfl, n4, rfl⟩ (by walk_at "mine omega") (by walk_at "mine omega") ?_ ?_
    · rw [show (0 + (i : Int) * 2 + 1).toNat = i * 2 + 1 by walk_at "mine omega"]; simpa using hy
    · exact ⟨⟨i * 2, t, by rw [Int.zero_add]; rfl, hy⟩, _, _, rfl, fun _ _ e => e⟩
  case ret1 =>
    intro D1 h8 tk8 ys1 vs1 n8 N8 hvl hvi hp8 F8
    have hys := htold.odds ys1 ((paired_len hp8).trans hvl) (sub_get hp8 hvi)
    refine wpAny_execs_cons ?_
    clear hp8 hvi hvl
    replace N8 : News g4 L' h8 _ := N8
    replace F8 : Fr g4 L' h8 _ := F8
    dsimp only
    refine wpAny_If (wpAny_isTrue_Compare1 (comp_val (h₀ := g4) (cl := [(Str.ofString "told", L' + 1)]) (fun v y => ∃ i : Nat, ∃ t, v = .int (i : Nat) t ∧ tv[i + 0]? = some y) rfl (by decide) rfl (by decide) rfl ?_))
    repeat' (first | (k_unfold; (try dsimp only)) | (k_end; wrow_close) | ((fail_if_success (with_reducible show wpAny _ _ (pyIter _) _ _ _)); (try dsimp only); walk1) | (leave1; (try dsimp only)))
    rename IsRange _ _ _ _ _ _ _ _ => hr
    rename Fr _ _ _ _ => F9
    rename News _ _ _ _ => N9
    have hlt := N9 (lt, W.listOf tv.toArray n4) (by k_mem)
    have hcell := N9 (L' + 1, _) (by k_mem)
    refine src_range (n := (ks.filterMap id).length) rfl hr (range_two _ (by walk_at "mine omega")).1 (range_two _ (by walk_at "mine omega")).2 (by show _ ≤ 2 ^ 24; walk_at "mine omega") F9 N9 ?elt2 ?ret2
    case elt2 =>
      rintro C i v s3 m3 E' hC hi hj5 Fc hm
      (try refine opg fun gG hgG => ?_); (obtain ⟨t, rfl⟩ := hj5); (try (refine hgG ?_; clear hgG gG))
      refine Subscript_ (ldCellK rfl ⟨_, Fc.keep _ _ hcell.1, hdat⟩ ?_)
      repeat' (first | (k_unfold; (try dsimp only)) | (k_end; wrow_close) | ((fail_if_success (with_reducible show wpAny _ _ (eval (Expr.Name (Str.ofString "place") _) _) _ _ _)); (try dsimp only); walk1) | (leave1; (try dsimp only)))
      refine ldVarK Fc.ns hm ?_
      repeat' (first | (k_unfold; (try dsimp only)) | (k_end; wrow_close) | ((fail_if_success (with_reducible show wpAny _ _ (subscriptTail _ _ _ _) _ _ _)); (try dsimp only); walk1) | (leave1; (try dsimp only)))
      (try refine opg fun gG hgG => ?_); (obtain ⟨y, hy⟩ : ∃ y, tv[i * 2 + 0]? = some y := ⟨tv[i * 2 + 0]'(by walk_at "mine omega"), List.getElem?_eq_getElem _⟩); (try (refine hgG ?_; clear hgG gG))
      refine PyProof.Rows.item_list (x := y) ⟨_, Fc.keep _ _ hlt.1, rfl, n4, rfl⟩ (by walk_at "mine omega") (by walk_at "mine omega") ?_ ?_
      · rw [show (0 + (i : Int) * 2).toNat = i * 2 + 0 by walk_at "mine omega"]; simpa using hy
      · exact ⟨⟨i * 2, t, by rw [Int.zero_add]; rfl, hy⟩, _, _, rfl, fun _ _ e => e⟩
    case ret2 =>
      intro D2 h10 tk10 ys2 vs2 n10 N10 hvl hvi hp10 F10
      have hmk := htold.evens ys2 ((paired_len hp10).trans hvl) (sub_get hp10 hvi)
      clear hp10 hvi hvl hlt hcell
      dsimp only
      refine comp_val (h₀ := g4) (cl := []) (fun v y => ∃ t, y = .int (match v with | .int _ _ => 100 | _ => 0) t) rfl (by decide) rfl (by decide) rfl ?_
      repeat' (first | (k_unfold; (try dsimp only)) | (k_end; wrow_close) | ((fail_if_success (with_reducible show wpAny _ _ (pyIter _) _ _ _)); (try dsimp only); walk1) | (leave1; (try dsimp only)))
      replace N10 : News g4 L' h10 _ := N10
      replace F10 : Fr g4 L' h10 _ := F10
      have hD1 := N10 (D1, W.listOf ys1.toArray n8) (by k_mem)
      have X10 := X4.keeps F10.keep
      have T10 := P4.keeps F10.keep
      refine src_list (its := ys1) rfl ⟨_, hD1.1, rfl, n8, rfl⟩ (by show _ ≤ 2 ^ 24; have := hys.len; walk_at "mine omega") F10 N10 ?elt3 ?ret3
      case elt3 =>
        rintro C i v s3 m3 E' hC hi Fc hm
        repeat' (first | (k_unfold; (try dsimp only)) | (k_end; wrow_close) | ((fail_if_success (with_reducible show wpAny _ _ (eval (Expr.Name (Str.ofString "piece") _) _) _ _ _)); (try dsimp only); walk1) | (leave1; (try dsimp only)))
        refine ldVarK Fc.ns hm ?_
        walk_at "mine steps"
        rcases hys.get hi with ⟨n, t, rfl, -⟩ | ⟨y, t, rfl, -⟩
        · walk_at "mine steps"
          exact ⟨_, _, rfl, fun _ _ e => e⟩
        · walk_at "mine steps"
          exact ⟨_, _, rfl, fun _ _ e => e⟩
      case ret3 =>
        intro D3 h12 tk12 ys3 n12 N12 hp12 F12
        replace N12 : News g4 L' h12 _ := N12
        replace F12 : Fr g4 L' h12 _ := F12
        have hm3 := hys.marks hp12
        dsimp only
        have hD2 := N12 (D2, W.listOf ys2.toArray n10) (by k_mem)
        have hD3 := N12 (D3, W.listOf ys3.toArray n12) (by k_mem)
        refine ke_ne_ints ⟨_, hD2.1, rfl, n10, rfl⟩ ⟨_, hD3.1, rfl, n12, rfl⟩ hmk hm3 (by first | exact dlt (a := 3) (b := 64) hu rfl | (show un + 3 + 64 < cLine; walk_at "mine omega")) ?_
        rw [show ∀ l : List Int, (!decide (l = l)) = false from fun l => by simp]
        refine wpAny_truthy_bool ?_
        try dsimp only
        simp only [Bool.false_eq_true, if_false]
        refine wpAny_execs_nil ?_
        try dsimp only
        refine wpAny_execs_cons (wpAny_If (wpAny_isTrue_Compare1 ?_))
        repeat ((fail_if_success (with_reducible show wpAny _ _ (eval (Expr.ListComp _ _ _ _) _) _ _ _)); (first | (k_unfold; (try dsimp only)) | ((try dsimp only); walk1) | (leave1; (try dsimp only))))
        rename Fr _ _ _ _ => F13
        rename News _ _ _ _ => N13
        refine wpAny_with_toks (n := 1) (Nat.succ_pos _) ?_
        refine comp_val (h₀ := g4) (cl := []) (fun v y => ∃ t, y = .str (match v with | .int i _ => Str.ofString (toString i) | .str x _ => x | _ => Str.ofString "") t) rfl (by decide) rfl (by decide) rfl ?_
        repeat' (first | (k_unfold; (try dsimp only)) | (k_end; wrow_close) | ((fail_if_success (with_reducible show wpAny _ _ (pyIter _) _ _ _)); (try dsimp only); walk1) | (leave1; (try dsimp only)))
        have hD1 := N13 (D1, W.listOf ys1.toArray n8) (by k_mem)
        have X13 := X4.keeps F13.keep
        have T13 := P4.keeps F13.keep
        refine src_list (its := ys1) rfl ⟨_, hD1.1, rfl, n8, rfl⟩ (by show _ ≤ 2 ^ 24; have := hys.len; walk_at "mine omega") F13 N13 ?elt4 ?ret4
        case elt4 =>
          rintro C i v s3 m3 E' hC hi Fc hm
          repeat' (first | (k_unfold; (try dsimp only)) | (k_end; wrow_close) | ((fail_if_success (with_reducible show wpAny _ _ (eval (Expr.Name (Str.ofString "piece") _) _) _ _ _)); (try dsimp only); walk1) | (leave1; (try dsimp only)))
          refine ldVarK Fc.ns hm ?_
          repeat' (first | (k_unfold; (try dsimp only)) | (k_end; wrow_close) | ((fail_if_success (with_reducible show wpAny _ _ (PySem.call (Value.type "str") _ _) _ _ _)); (try dsimp only); walk1) | (leave1; (try dsimp only)))
          rcases hys.get hi with ⟨n, t, rfl, hn⟩ | ⟨y, t, rfl, -⟩
          · have hn' := hks.num n hn
            walk_at "mine steps"
            exact ⟨_, _, rfl, fun _ _ e => e⟩
          · walk_at "mine steps"
            exact ⟨_, _, rfl, fun _ _ e => e⟩
        case ret4 =>
          intro D4 h14 tk14 ys4 n14 N14 hp14 F14
          replace N14 : News g4 L' h14 _ := N14
          replace F14 : Fr g4 L' h14 _ := F14
          have hs4 := hys.strs hp14
          intro htk14
          repeat ((fail_if_success (with_reducible show wpAny _ _ (PySem.call (Value.builtin "str.join") _ _) _ _ _)); (first | (k_unfold; (try dsimp only)) | ((try dsimp only); walk1) | (leave1; (try dsimp only))))
          refine wpAny_with_toks (n := 1) htk14 ?_
          refine join_list (ys := (ks.filterMap id).map pcText) ⟨_, (N14 (D4, W.listOf ys4.toArray n14) (by k_mem)).1, rfl, n14, rfl⟩ hs4 (by show _ + _ * 0 ≤ _; walk_at "mine omega") fun t15 tk15 => ?_
          try dsimp only
          intro htk15
          replace htk15 : 1 ≤ tk15 := htk15
          repeat ((fail_if_success (with_reducible show wpAny _ _ (PySem.call (Value.builtin "str.replace") _ _) _ _ _)); (first | (k_unfold; (try dsimp only)) | ((try dsimp only); walk1) | (leave1; (try dsimp only))))
          refine SC.replaceW (show @Ne Nat _ _ by walk_at "mine omega") (show @Ne Nat _ _ by walk_at "mine omega") (show @Ne Nat _ _ by walk_at "mine omega") (by decide) (by walk_at "mine omega") (by decide) fun t16 tk16 => ?_
          try dsimp only
          rw [hjo]
          walk_at "mine steps"
          · rename (_ != _) = true => hcon
            rw [bne_self_eq_false] at hcon
            cases hcon
          · rename Fr _ _ _ _ => F17
            rename News _ _ _ _ => N17
            rename (_ < _ ∧ _) => hord
            obtain ⟨ll, F17, N17, hord⟩ : ∃ ll, Fr g4 L' _ (fun y => if y = Str.ofString "line" then some (Value.ref ll) else if y = Str.ofString "pieces" then some (Value.ref D1) else if y = Str.ofString "text" then some (Value.str (strR rec) t2) else if y = Str.ofString "record" then some (Value.ref x) else none) ∧
                News g4 L' _ [(ll, W.listOf #[] 0), (D1, W.listOf ys1.toArray n8)] ∧ @Ne Nat D1 ll := ⟨_, F17, news_sub N17 (by first | walk_at "mine sub" | (intro q hq; simp only [List.mem_cons, List.not_mem_nil, or_false] at hq; rcases hq with e | e <;> simp [e])), Nat.ne_of_lt hord.2.2.2.1⟩
            refine iter_list (vs := ys1) [(D1, W.listOf ys1.toArray n8)] rfl ⟨_, (N17 _ (.tail _ (.head _))).1, rfl, n8, rfl⟩ .kept F17 (led := [(ll, W.listOf (([] : List Value)).toArray 0)]) (news_sub N17 (by first | walk_at "mine sub" | simp)) (news_sub N17 (by first | walk_at "mine sub" | simp))
              (fun i m led => ∃ (vals : List Value) (nn : Nat) (u1 : Option Value), led = [(ll, W.listOf vals.toArray nn)] ∧ NatL vals (lineF [] ((ks.filterMap id).take i)) ∧ vals.length ≤ 700 * i ∧
                m = fun y => if y = Str.ofString "piece" then u1 else if y = Str.ofString "line" then some (Value.ref ll) else if y = Str.ofString "pieces" then some (Value.ref D1) else if y = Str.ofString "text" then some (Value.str (strR rec) t2) else if y = Str.ofString "record" then some (Value.ref x) else none)
              ⟨[], 0, none, rfl, .nil, Nat.zero_le _, by (first | (refine map1 (Str.ofString "piece") rfl ?_; intro y h0; ((repeat (first | with_reducible rfl | refine Eq.trans (if_neg (by assumption)) ?_ | refine Eq.trans ?_ (if_neg (by assumption)).symm)); done)) | (funext y; by_cases h0 : y = Str.ofString "piece"; (subst h0; rfl); simp only [if_neg h0]))⟩ ?_ ?_
            · rintro i v m₁ led₁ h tk I oI hI hi hP hj6 hn' F18 N18 gs ds oss Qt hQt
              refine p3_4 ?_ hj6
              (try clear hj6)
              intro vals nn u1 hq7 hvals hvl hq8
              subst hq7
              subst hq8
              (try replace F18 : Fr _ L' _ _ := F18); (try replace N18 : News _ L' _ _ := N18)
              (try (refine (let mm : Str → Option Value := _; have Fx : Fr _ L' _ mm := F18; ?_); clear F18; rename Fr _ _ _ _ => F18))
              (try clear F17); (try clear N17)
              dsimp only [AA, AE]
              rcases hys.get hP with ⟨n, t, rfl, hn⟩ | ⟨y, t, rfl, hy⟩
              · have hint := hvals.ints
                have hpn := hks.num n hn
                have hlt1 := (List.getElem?_eq_some_iff.mp hn).1
                have hstep := lineF_take hn []
                have hI1 : @Ne Nat I ll := fun e => hn' (ll, W.listOf vals.toArray nn) (.head _) e.symm
                walk_at "mine steps"
                · rename decide (_ = _) = true => hd0
                  rename Fr _ _ _ _ => F19
                  rename News _ _ _ _ => N19
                  have N20 := news_sub (l' := [(ll, W.listOf vals.toArray nn), (I, oI), (D1, W.listOf ys1.toArray n8)]) N19 (by first | walk_at "mine sub" | (intro q hq; simp only [List.mem_cons, List.not_mem_nil, or_false] at hq; rcases hq with e | e | e <;> simp [e]))
                  refine append_ledP F19 N20 (by intro q hq; simp only [List.mem_cons, List.not_mem_nil, or_false] at hq; rcases hq with e | e <;> rw [e] <;> assumption) (by walk_at "mine omega") fun h20 F20 N21 => ?_
                  try dsimp only
                  walk_at "mine steps"
                  refine hQt _ _ ?_
                  refine TurnEnd.next F20 (news_sub N21 (by first | walk_at "mine sub" | (intro q hq; simp only [List.mem_cons, List.not_mem_nil, or_false] at hq; rcases hq with e | e <;> simp [e]))) (news_sub (l' := [(ll, W.listOf (vals ++ [Value.int (n : Int) t]).toArray (nn + 1))]) N21 (by first | walk_at "mine sub" | simp)) (by intro q hq; rw [List.mem_singleton.mp hq]; exact hI1.symm) ⟨_, nn + 1, _, rfl, ?_, by rw [List.length_append, List.length_singleton]; walk_at "mine omega", by (first | (refine map1 (Str.ofString "piece") rfl ?_; intro y h0; ((repeat (first | with_reducible rfl | refine Eq.trans (if_neg (by assumption)) ?_ | refine Eq.trans ?_ (if_neg (by assumption)).symm)); done)) | (funext y; by_cases h0 : y = Str.ofString "piece"; (subst h0; rfl); simp only [if_neg h0]))⟩
                  rw [hstep]
                  have hz : lineF [] ((ks.filterMap id).take i) = [] := List.map_eq_nil_iff.mp (of_decide_eq_true hd0)
                  rw [hz] at hvals ⊢
                  exact hvals.snoc n t
                · rename decide (_ = _) = false => hd0
                  rename (0 : Int) < _ => hpos
                  rename Fr _ _ _ _ => F19
                  rename News _ _ _ _ => N19
                  have N20 := news_sub (l' := [(ll, W.listOf vals.toArray nn), (I, oI), (D1, W.listOf ys1.toArray n8)]) N19 (by first | walk_at "mine sub" | (intro q hq; simp only [List.mem_cons, List.not_mem_nil, or_false] at hq; rcases hq with e | e | e <;> simp [e]))
                  rw [show Int.fdiv (n : Int) 11 = ((n / 11 : Nat) : Int) from fdiv_nat n 11]
                  refine append_ledP F19 N20 (by intro q hq; simp only [List.mem_cons, List.not_mem_nil, or_false] at hq; rcases hq with e | e <;> rw [e] <;> assumption) (by walk_at "mine omega") fun h20 F20 N21 => ?_
                  try dsimp only
                  walk_at "mine steps"
                  (try refine opg fun gG hgG => ?_); (obtain ⟨tq, N21⟩ : ∃ tq, News g4 L' h20 [(ll, W.listOf (vals ++ [Value.int ((n / 11 : Nat) : Int) tq]).toArray (nn + 1)), (I, oI), (D1, W.listOf ys1.toArray n8)] := ⟨_, N21⟩); (try (refine hgG ?_; clear hgG gG))
                  refine hQt _ _ ?_
                  refine TurnEnd.next F20 (news_sub N21 (by first | walk_at "mine sub" | (intro q hq; simp only [List.mem_cons, List.not_mem_nil, or_false] at hq; rcases hq with e | e <;> simp [e]))) (news_sub (l' := [(ll, W.listOf (vals ++ [Value.int ((n / 11 : Nat) : Int) tq]).toArray (nn + 1))]) N21 (by first | walk_at "mine sub" | simp)) (by intro q hq; rw [List.mem_singleton.mp hq]; exact hI1.symm) ⟨_, nn + 1, _, rfl, ?_, by rw [List.length_append, List.length_singleton]; walk_at "mine omega", by (first | (refine map1 (Str.ofString "piece") rfl ?_; intro y h0; ((repeat (first | with_reducible rfl | refine Eq.trans (if_neg (by assumption)) ?_ | refine Eq.trans ?_ (if_neg (by assumption)).symm)); done)) | (funext y; by_cases h0 : y = Str.ofString "piece"; (subst h0; rfl); simp only [if_neg h0]))⟩
                  rw [hstep]
                  have hz : lineF [] ((ks.filterMap id).take i) ≠ [] := fun e => (of_decide_eq_false hd0) (by rw [e]; rfl)
                  unfold lineS
                  dsimp only
                  rw [if_neg hz, if_pos (by walk_at "mine omega")]
                  exact hvals.snoc _ tq
                · rename decide (_ = _) = false => hd0
                  rename ¬ _ => hpos
                  rename Fr _ _ _ _ => F19
                  rename News _ _ _ _ => N19
                  refine hQt _ _ ?_
                  refine TurnEnd.next F19 (news_sub N19 (by first | walk_at "mine sub" | (intro q hq; simp only [List.mem_cons, List.not_mem_nil, or_false] at hq; rcases hq with e | e <;> simp [e]))) (news_sub (l' := [(ll, W.listOf vals.toArray nn)]) N19 (by first | walk_at "mine sub" | simp)) (by intro q hq; rw [List.mem_singleton.mp hq]; exact hI1.symm) ⟨_, nn, _, rfl, ?_, by walk_at "mine omega", by (first | (refine map1 (Str.ofString "piece") rfl ?_; intro y h0; ((repeat (first | with_reducible rfl | refine Eq.trans (if_neg (by assumption)) ?_ | refine Eq.trans ?_ (if_neg (by assumption)).symm)); done)) | (funext y; by_cases h0 : y = Str.ofString "piece"; (subst h0; rfl); simp only [if_neg h0]))⟩
                  rw [hstep]
                  have hz : lineF [] ((ks.filterMap id).take i) ≠ [] := fun e => (of_decide_eq_false hd0) (by rw [e]; rfl)
                  unfold lineS
                  dsimp only
                  rw [if_neg hz, if_neg (by walk_at "mine omega")]
                  exact hvals
              · have hlt1 := (List.getElem?_eq_some_iff.mp hy).1
                have hstep := lineF_take hy []
                have hstep' : lineS (lineF [] ((ks.filterMap id).take i)) (.txt y) = lineF [] ((ks.filterMap id).take i) ++ List.replicate (PySem.Builtin.Str.occurrences y (Str.ofString "Allow:") 0 y.length (y.length + 1)).length 0 := rfl
                rw [hstep'] at hstep
                clear hstep'
                have hyl := hks.txt y hy
                have hcl := occ_le y
                have hI1 : @Ne Nat I ll := fun e => hn' (ll, W.listOf vals.toArray nn) (.head _) e.symm
                repeat' (first | (k_unfold; (try dsimp only)) | (k_end; wrow_close) | ((fail_if_success (with_reducible show wpAny _ _ (binaryOp Operator.Mult _ _) _ _ _)); (try dsimp only); walk1) | (leave1; (try dsimp only)))
                rename Fr _ _ _ _ => F19
                rename News _ _ _ _ => N19
                (try refine opg fun gG hgG => ?_); (obtain ⟨tk1, N19⟩ : ∃ tk1, News g4 L' _ ((_, W.listOf #[Value.int 0 tk1] 0) :: (I, oI) :: ([(D1, W.listOf ys1.toArray n8)] ++ [(ll, W.listOf vals.toArray nn)])) := ⟨_, N19⟩); (try (refine hgG ?_; clear hgG gG))
                have hcn : Txt.count y (Str.ofString "Allow:") = ((PySem.Builtin.Str.occurrences y (Str.ofString "Allow:") 0 y.length (y.length + 1)).length : Int) := rfl
                generalize (PySem.Builtin.Str.occurrences y (Str.ofString "Allow:") 0 y.length (y.length + 1)).length = c at hcl hcn hstep
                rw [hcn]
                have hc63 : (1000 : Int) < 2 ^ 63 := by decide
                refine mul_list F19 N19 (N19 _ (.head _)).1 (by walk_at "mine omega") (by walk_at "mine omega") (by show 1 * _ ≤ _; rw [Int.toNat_natCast]; walk_at "mine omega") fun h20 F20 N20 => ?_
                rw [show (#[Value.int 0 tk1] : Array Value).isEmpty = false from rfl, if_neg (by decide), Int.toNat_natCast, rep_zero] at N20
                have N21 := news_sub (l' := [(ll, W.listOf vals.toArray nn), (I, oI), (D1, W.listOf ys1.toArray n8)]) N20 (by first | walk_at "mine sub" | (intro q hq; simp only [List.mem_cons, List.not_mem_nil, or_false] at hq; rcases hq with e | e | e <;> simp [e]))
                have hb := (N20 _ (.head _)).1
                repeat ((fail_if_success (with_reducible show wpAny _ _ (PySem.call (Value.builtin "list.extend") _ _) _ _ _)); (first | (k_unfold; (try dsimp only)) | ((try dsimp only); walk1) | (leave1; (try dsimp only))))
                refine extend_led (us := List.replicate c (Value.int 0 tk1)) (n2 := 0) F20 N21 (by intro q hq; simp only [List.mem_cons, List.not_mem_nil, or_false] at hq; rcases hq with e | e <;> rw [e] <;> assumption) hb (by rw [List.length_replicate]; walk_at "mine omega") fun h22 n22 F22 N22 => ?_
                try dsimp only
                walk_at "mine steps"
                refine hQt _ _ ?_
                refine TurnEnd.next F22 (news_sub N22 (by first | walk_at "mine sub" | (intro q hq; simp only [List.mem_cons, List.not_mem_nil, or_false] at hq; rcases hq with e | e <;> simp [e]))) (news_sub (l' := [(ll, W.listOf (vals ++ List.replicate c (Value.int 0 tk1)).toArray n22)]) N22 (by first | walk_at "mine sub" | simp)) (by intro q hq; rw [List.mem_singleton.mp hq]; exact hI1.symm) ⟨_, n22, _, rfl, ?_, by rw [List.length_append, List.length_replicate]; walk_at "mine omega", by (first | (refine map1 (Str.ofString "piece") rfl ?_; intro y h0; ((repeat (first | with_reducible rfl | refine Eq.trans (if_neg (by assumption)) ?_ | refine Eq.trans ?_ (if_neg (by assumption)).symm)); done)) | (funext y; by_cases h0 : y = Str.ofString "piece"; (subst h0; rfl); simp only [if_neg h0]))⟩
                rw [hstep]
                exact hvals.zeros c tk1
            · rintro h20 tk20 m20 led20 F20 N20 hj9
              refine p3_4 ?_ hj9
              (try clear hj9)
              intro vals nn u1 hq10 hvals hvl hq11
              subst hq10
              subst hq11
              (try replace F20 : Fr _ L' _ _ := F20); (try replace N20 : News _ L' _ _ := N20)
              (try (refine (let mm : Str → Option Value := _; have Fx : Fr _ L' _ mm := F20; ?_); clear F20; rename Fr _ _ _ _ => F20))
              walk_at "mine steps"
              have hfin := N20 (ll, W.listOf vals.toArray nn) (by first | walk_at "mine sub" | simp)
              rw [hys.len, List.take_length] at hvals
              refine ret _ _ _ g4 T4 F20.keep ⟨ll, vals, nn, rfl, hfin.2.2, hfin.1, hvals⟩
end Mine
end
section
theorem Mine.fresh41 : True := by w_top off; trivial
open PySem PySem.W PyProof.Rows PySem.Calls
set_option maxRecDepth 100000
set_option maxHeartbeats 8000000
namespace Mine
noncomputable def rowW (look n : Nat) : List Str := (Str.ofString "User-agent: " ++ fssS (whereS look) (nameS look) (11 * n)) :: (if n = 0 then [Str.ofString "Allow:"] else [])
noncomputable def rowsW (ags : List Str) (d look : Nat) (ns : List Nat) : List Str := ags.map (fun a => Str.ofString "User-agent: " ++ a) ++ [Str.ofString "Crawl-delay: " ++ Str.ofString (toString (d : Int))] ++ ns.flatMap (rowW look)
theorem NatL.get {vs : List Value} {xs : List Nat} (h : NatL vs xs) {i : Nat} {v : Value} (hv : vs[i]? = some v) : ∃ x t, xs[i]? = some x ∧ v = .int ((x : Nat) : Int) t := by
  induction h generalizing i with
  | nil => cases hv
  | cons x t h ih => cases i with
    | zero => exact ⟨x, t, rfl, (Option.some.inj hv).symm⟩
    | succ i => exact ih hv
theorem uaL {us ys : List Value} {ags : List Str} (h : StrL us ags) (hp : Paired (fun v y => ∃ t, y = .str (match v with | .str x _ => Str.ofString "User-agent: " ++ x | _ => Str.ofString "") t) us ys) : StrL ys (ags.map fun a => Str.ofString "User-agent: " ++ a) := by
  induction h generalizing ys with
  | nil => cases hp; exact .nil
  | cons x t h ih => cases hp with
    | cons h1 h2 => obtain ⟨t', rfl⟩ := h1; exact .cons _ _ (ih h2)
theorem fss_len (look c : Nat) (hc : c < 90) : (fssS (whereS look) (nameS look) (11 * c)).length ≤ 40 := by
  have h1 : (whereS look).length ≤ 1 := by unfold whereS; split <;> decide +kernel
  have h2 : (nameS look).length ≤ 5 := by unfold nameS; (repeat' split) <;> decide +kernel
  have h3 := len_ofNat (11 * c) (by walk_at "mine omega")
  have e1 : (Str.ofString "{<tt}").length = 5 := by decide +kernel
  have e2 : (Str.ofString ":").length = 1 := by decide +kernel
  have e3 : (Str.ofString "(").length = 1 := by decide +kernel
  have e4 : (Str.ofString ")").length = 1 := by decide +kernel
  unfold fssS
  split
  · split <;> walk_at "mine omega"
  · simp only [str_append_len]; walk_at "mine omega"
theorem sum_le_mul (l : List Str) (k : Nat) (h : ∀ x ∈ l, x.length ≤ k) : (l.map fun x => x.length + 1).sum ≤ (k + 1) * l.length := by
  induction l with
  | nil => exact Nat.le_refl _
  | cons x xs ih =>
    have h1 := ih fun y hy => h y (.tail _ hy)
    have h2 := h x (.head _)
    rw [List.map_cons, List.sum_cons, List.length_cons, Nat.mul_succ]
    walk_at "mine omega"
theorem flat_len (look : Nat) (ns : List Nat) : (ns.flatMap (rowW look)).length ≤ 2 * ns.length := by
  induction ns with
  | nil => exact Nat.le_refl _
  | cons n ns ih =>
    rw [List.flatMap_cons, List.length_append, List.length_cons]
    have : (rowW look n).length ≤ 2 := by unfold rowW; split <;> simp
    walk_at "mine omega"
theorem rowsW_len (ags : List Str) (d look : Nat) (ns : List Nat) (hal : ags.length ≤ 100) (ha30 : ∀ a ∈ ags, a.length ≤ 30) (hnl : ns.length ≤ 1000) (hn9 : ∀ n ∈ ns, n < 90) (hd : d < 1000) :
    ((rowsW ags d look ns).map fun x => x.length + (Str.ofString "\n").length).sum ≤ 61 * 2101 := by
  rw [nl_len]
  have e0 : (Str.ofString "User-agent: ").length = 12 := by decide +kernel
  have e1 : (Str.ofString "Crawl-delay: ").length = 13 := by decide +kernel
  have e2 : (Str.ofString "Allow:").length = 6 := by decide +kernel
  refine Nat.le_trans (sum_le_mul _ 60 fun x hx => ?_) (Nat.mul_le_mul_left _ ?_)
  · unfold rowsW at hx
    rcases List.mem_append.mp hx with hx | hx
    · rcases List.mem_append.mp hx with hx | hx
      · (try refine opg fun gG hgG => ?_); (obtain ⟨a, ha, rfl⟩ := List.mem_map.mp hx); (try (refine hgG ?_; clear hgG gG))
        have := ha30 a ha
        simp only [str_append_len]; walk_at "mine omega"
      · rw [List.mem_singleton.mp hx]
        have := len_ofNat d hd
        simp only [str_append_len]; walk_at "mine omega"
    · (try refine opg fun gG hgG => ?_); (obtain ⟨n, hn, hx⟩ := List.mem_flatMap.mp hx); (try (refine hgG ?_; clear hgG gG))
      unfold rowW at hx
      rcases List.mem_cons.mp hx with rfl | hx
      · have := fss_len look n (hn9 n hn)
        simp only [str_append_len]; walk_at "mine omega"
      · split at hx
        · rw [List.mem_singleton.mp hx]; walk_at "mine omega"
        · cases hx
  · unfold rowsW
    have := flat_len look ns
    simp only [List.length_append, List.length_map, List.length_singleton]
    walk_at "mine omega"
theorem spec_written {w : World} {p : Program} {loose : List Str} {mean : ExcName → Option Value} {mg mb : Str → Option Value} (ags : List Str) (ns : List Nat) (d look : Nat) (aa la : Addr) (us vals : List Value) (na nl : Nat) (td tl : Tok)
    (hus : StrL us ags) (hvals : NatL vals ns) (hal : ags.length ≤ 100) (ha30 : ∀ a ∈ ags, a.length ≤ 30) (hnl : ns.length ≤ 1000) (hn9 : ∀ n ∈ ns, n < 90) (hd : d < 1000) (hlk : look < 8) :
    Spec w p loose mean mg mb 180 4 60 [.ref aa, .int (d : Int) td, .ref la, .int (look : Int) tl] (fun h => h.get? aa = some (W.listOf us.toArray na) ∧ h.get? la = some (W.listOf vals.toArray nl))
      (fun h h' r => ∃ t, r = .str (PySem.Builtin.Str.glued (Str.ofString "\n") (rowsW ags d look ns)) t) := by
  intro dp un gd cn cs ea ccd cl outer A₀ base h₀ L m s R B F X T hk hpre hdp hu ret
  (try refine opg fun gG hgG => ?_); (obtain ⟨hA, hB⟩ := hpre); (try (refine hgG ?_; clear hgG gG))
  revert X T; k_fill; intro X T
  refine' code_pure (binds := [(Str.ofString "agents", .ref aa), (Str.ofString "delay", .int (d : Int) td), (Str.ofString "line", .ref la), (Str.ofString "look", .int (look : Int) tl)]) ?k1 ?k2 ?k3 ?k5 ?kA ?kF ?kK ?k6 ?k7 ?k8 ?k9 ?kB ?_ ?c2 ?c3 ?c4 ?c5
  case kA => exact rfl
  case kF => exact rfl
  case kK => assumption
  case k2 => k_asm
  case k1 => k_asm
  case k3 => k_asm
  case k5 => k_asm
  case k6 => k_dflt k_is
  case k7 => k_dflt k_is
  case k8 => ktr_room
  case k9 => exact BindsTo.of_eq rfl
  case c5 => decide
  case kB => exact locs rfl
  case c2 => exact rfl
  case c3 => exact rfl
  case c4 => exact rfl
  intro L' h' F' N' B' X' T'
  refine wpAny_mono (Q := fun fl s' => R (.ok (.ret (match fl with | .ret v => v | _ => .none))) s') (E := fun _ _ => False) ?_ (fun _ _ x => x) (fun _ _ x => x.elim)
  clear B F X T
  replace F' := Fr.as F' (m' := fun y => if y = Str.ofString "agents" then some (.ref aa) else if y = Str.ofString "delay" then some (.int (d : Int) td) else if y = Str.ofString "line" then some (.ref la) else if y = Str.ofString "look" then some (.int (look : Int) tl) else none) (by first | exact look_rev _ rfl | (funext y; first | rfl | ((try simp only [List.reverse_cons, List.reverse_nil, List.nil_append, List.cons_append, List.lookup]); (repeat' split) <;> first | rfl | (simp_all; done) | (subst_vars; simp_all; done) | (simp_all (decide := true); done))))
  (try dsimp only)
  (try k_fold)
  generalize s.gens = gs0 at ret ⊢
  generalize s.drawn = ds0 at ret ⊢
  generalize s.os = os0 at ret ⊢
  (try generalize s.toks + _ = tk0)
  refine (let AE : Env := _; let AA : Around := Around.deeper _ AE; let QQ : Flow → Shared → Prop := _; (?kL : wpAny _ AA (execs _ AE) QQ _ _))
  refine wpAny_execs_cons (comp_asg (h₀ := s.heap) (cl := []) (fun v y => ∃ t, y = .str (match v with | .str x _ => Str.ofString "User-agent: " ++ x | _ => Str.ofString "") t) rfl rfl (by decide) rfl (by decide) rfl rfl rfl ?_)
  repeat' (first | (k_unfold; (try dsimp only)) | (k_end; wrow_close) | ((fail_if_success (with_reducible show wpAny _ _ (pyIter _) _ _ _)); (try dsimp only); walk1) | (leave1; (try dsimp only)))
  rename Fr _ _ _ _ => F1
  rename News _ _ _ _ => N1
  have husl := hus.length
  refine src_list (its := us) rfl ⟨_, F1.keep _ _ hA, rfl, na, rfl⟩ (by show _ ≤ 2 ^ 24; walk_at "mine omega") F1 N1 ?elt1 ?ret1
  case elt1 =>
    rintro C i v s3 m3 E' hC hi Fc hm
    (try refine opg fun gG hgG => ?_); (obtain ⟨x, t, hx, rfl⟩ := hus.get hi); (try (refine hgG ?_; clear hgG gG))
    have hx30 := ha30 x (List.mem_of_getElem? hx)
    repeat' (first | (k_unfold; (try dsimp only)) | (k_end; wrow_close) | ((fail_if_success (with_reducible show wpAny _ _ (eval (Expr.Name (Str.ofString "agent") _) _) _ _ _)); (try dsimp only); walk1) | (leave1; (try dsimp only)))
    refine ldVarK Fc.ns hm ?_
    walk_at "mine steps"
    exact ⟨_, _, rfl, fun _ _ e => e⟩
  case ret1 =>
    intro D1 h2 tk2 ys1 n2 N2 hp2 F2
    have hys := uaL hus hp2
    replace N2 : News s.heap L' h2 _ := N2
    replace F2 : Fr s.heap L' h2 _ := F2
    try dsimp only
    repeat ((fail_if_success (with_reducible show wpAny _ _ (PySem.call (Value.builtin "list.append") _ _) _ _ _)); (first | (k_unfold; (try dsimp only)) | ((try dsimp only); walk1) | (leave1; (try dsimp only))))
    rename Fr _ _ _ _ => F3
    rename News _ _ _ _ => N3
    have hysl : ys1.length = ags.length := by rw [hys.length, List.length_map]
    have hnsl := hvals.length
    refine append_led F3 N3 (fun p hp => nomatch hp) (by walk_at "mine omega") fun h4 F4 N4 => ?_
    (try refine opg fun gG hgG => ?_); (obtain ⟨tD, N4⟩ : ∃ tD, News s.heap L' h4 [(D1, W.listOf (ys1 ++ [Value.str (Str.ofString "Crawl-delay: " ++ Str.ofString (toString (d : Int))) tD]).toArray (n2 + 1))] := ⟨_, N4⟩); (try (refine hgG ?_; clear hgG gG))
    have hys2 := hys.snoc (Str.ofString "Crawl-delay: " ++ Str.ofString (toString (d : Int))) tD
    generalize hys1 : ys1 ++ [Value.str (Str.ofString "Crawl-delay: " ++ Str.ofString (toString (d : Int))) tD] = ys2 at N4 hys2
    have hys2l : ys2.length ≤ 101 := by rw [← hys1, List.length_append, List.length_singleton]; walk_at "mine omega"
    clear hys1; (try clear N3); (try clear F3)
    try dsimp only
    repeat' (first | (k_unfold; (try dsimp only)) | (k_end; wrow_close) | ((fail_if_success (with_reducible show wpAny _ _ (pyIter _) _ _ _)); (try dsimp only); walk1) | (leave1; (try dsimp only)))
    rename Fr _ _ _ _ => F5
    rename News _ _ _ _ => N5
    refine iter_list (vs := vals) [] rfl ⟨_, F5.keep _ _ hB, rfl, nl, rfl⟩ (Stood.base hB) F5 N5 News.nil
      (fun i m led => ∃ (rows : List Value) (n : Nat) (u1 u2 u3 : Option Value), led = [(D1, W.listOf rows.toArray n)] ∧ StrL rows (ags.map (fun a => Str.ofString "User-agent: " ++ a) ++ [Str.ofString "Crawl-delay: " ++ Str.ofString (toString (d : Int))] ++ (ns.take i).flatMap (rowW look)) ∧ rows.length ≤ 101 + 2 * i ∧
        m = fun y => if y = Str.ofString "name" then u1 else if y = Str.ofString "count" then u2 else if y = Str.ofString "where" then u3 else if y = Str.ofString "rows" then some (Value.ref D1) else if y = Str.ofString "agents" then some (Value.ref aa) else if y = Str.ofString "delay" then some (Value.int (d : Int) td) else if y = Str.ofString "line" then some (Value.ref la) else if y = Str.ofString "look" then some (Value.int (look : Int) tl) else none)
      ⟨ys2, n2 + 1, none, none, none, rfl, by rw [List.take_zero, List.flatMap_nil, List.append_nil]; exact hys2, hys2l, by (first | (refine map3 (Str.ofString "name") (Str.ofString "count") (Str.ofString "where") rfl rfl rfl ?_; intro y h0 h1 h2; ((repeat (first | with_reducible rfl | refine Eq.trans (if_neg (by assumption)) ?_ | refine Eq.trans ?_ (if_neg (by assumption)).symm)); done)) | (funext y; by_cases h0 : y = Str.ofString "name"; (subst h0; rfl); by_cases h1 : y = Str.ofString "count"; (subst h1; rfl); by_cases h2 : y = Str.ofString "where"; (subst h2; rfl); simp only [if_neg h0, if_neg h1, if_neg h2]))⟩ ?_ ?_
    · rintro i v m₁ led₁ h tk I oI hI hi hP hj1 hn' F6 N6 gs ds oss Qt hQt
      refine p5_4 ?_ hj1
      (try clear hj1)
      intro rows n u1 u2 u3 hq2 hrows hrl hq3
      subst hq2
      subst hq3
      (try replace F6 : Fr _ L' _ _ := F6); (try replace N6 : News _ L' _ _ := N6)
      (try (refine (let mm : Str → Option Value := _; have Fx : Fr _ L' _ mm := F6; ?_); clear F6; rename Fr _ _ _ _ => F6))
      (try refine opg fun gG hgG => ?_); (obtain ⟨c, tc, hc, rfl⟩ := hvals.get hP); (try (refine hgG ?_; clear hgG gG))
      have hc9 := hn9 c (List.mem_of_getElem? hc)
      have hstep : (ns.take (i + 1)).flatMap (rowW look) = (ns.take i).flatMap (rowW look) ++ rowW look c := by rw [List.take_add_one, hc, List.flatMap_append]; simp
      have hI1 : @Ne Nat I D1 := fun e => hn' (D1, W.listOf rows.toArray n) (.head _) e.symm
      have hilt : i < 1000 := by have h1 : i < vals.length := hi; walk_at "mine omega"
      (try clear F5); (try clear N5)
      repeat ((fail_if_success (with_reducible show wpAny _ _ (PySem.call (Value.ref 156) _ _) _ _ _)); (first | (k_unfold; (try dsimp only)) | ((try dsimp only); walk1) | (leave1; (try dsimp only))))
      rename Fr _ _ _ _ => F7
      rename News _ _ _ _ => N7
      refine Spec.call (spec_function c look _ _ hlk (by walk_at "mine omega")) B' F7 X' N7 T' rfl trivial (by first | exact dlt (a := 1) (b := 1) hdp rfl | (show dp + 1 + 1 < recursionLimit; walk_at "mine omega")) (by first | exact dlt (a := 3) (b := 8) hu rfl | (show un + 3 + 8 < cLine; walk_at "mine omega")) fun r h8 tk8 F8 N8 k8 post => ?_
      refine p4_3 ?_ post
      (try clear post)
      intro ft t3 t4 t5 hq4 hf0 hft
      subst hq4
      have N9 := news_app ((NewCells.one hf0 hft).news F7) N8
      (try clear N7); (try clear F7); (try clear N8); (try clear F6); (try clear N6)
      try dsimp only
      have hwh : whereS look = Str.ofString "~" ∨ whereS look = Str.ofString "t" := by unfold whereS; split <;> simp
      have hstep2 : rowW look c = (Str.ofString "User-agent: " ++ fssS (whereS look) (nameS look) (11 * c)) :: (if c = 0 then [Str.ofString "Allow:"] else []) := rfl
      have hnm5 : (nameS look).length ≤ 5 := by unfold nameS; (repeat' split) <;> decide +kernel
      rw [hstep2] at hstep
      clear hstep2
      have hfl := fss_len look c hc9
      generalize whereS look = wh at *
      generalize nameS look = nm at *
      repeat ((fail_if_success (with_reducible show wpAny _ _ (execs (Stmt.If _ _ _ _ :: _) _) _ _ _)); (first | (k_unfold; (try dsimp only)) | ((try dsimp only); walk1) | (leave1; (try dsimp only))))
      rename Fr _ _ _ _ => F9
      rename News _ _ _ _ => N9
      refine wpAny_execs_cons (wpAny_mono (Q := fun fl s' => Hide (fl = .next ∧ ∃ h' tk' t, s' = ⟨h', gs, ds, tk', oss⟩ ∧ Fr s.heap L' h' (fun y => if y = Str.ofString "name" then some (Value.str (fssS wh nm (11 * c)) t) else if y = Str.ofString "count" then some (Value.int ((11 * c : Nat) : Int) t4) else if y = Str.ofString "where" then some (Value.str wh t3) else mm y) ∧ News s.heap L' h' [(D1, W.listOf rows.toArray n), (I, oI)])) ?br ?tl (fun _ _ x => x))
      case br =>
        refine (let QB : Flow → Shared → Prop := _; (?kB : wpAny _ _ _ QB _ _))
        rcases hwh with rfl | rfl
        · by_cases hc0 : c = 0
          · subst hc0
            walk_at "mine steps"
            · rename (nm == _) = true => hnm
              rename Fr _ _ _ _ => F10
              rename News _ _ _ _ => N10
              have hfs : fssS (Str.ofString "~") nm (11 * 0) = Str.ofString "{<tt}" := by
                unfold fssS
                rw [if_pos (by decide), if_pos hnm]
              rw [hfs]
              show _ ∧ _
              exact ⟨rfl, _, _, _, rfl, Fr.as F10 (by (first | (refine map3 (Str.ofString "name") (Str.ofString "count") (Str.ofString "where") rfl rfl rfl ?_; intro y h0 h1 h2; ((repeat (first | with_reducible rfl | refine Eq.trans (if_neg (by assumption)) ?_ | refine Eq.trans ?_ (if_neg (by assumption)).symm)); done)) | (funext y; by_cases h0 : y = Str.ofString "name"; (subst h0; rfl); by_cases h1 : y = Str.ofString "count"; (subst h1; rfl); by_cases h2 : y = Str.ofString "where"; (subst h2; rfl); simp only [if_neg h0, if_neg h1, if_neg h2]))), news_sub N10 (by first | walk_at "mine sub" | simp)⟩
            · rename (nm == _) = false => hnm
              rename Fr _ _ _ _ => F10
              rename News _ _ _ _ => N10
              have hfs : fssS (Str.ofString "~") nm (11 * 0) = nm := by
                unfold fssS
                rw [if_pos (by decide), if_neg (by rw [hnm]; decide)]
              rw [hfs]
              show _ ∧ _
              exact ⟨rfl, _, _, _, rfl, Fr.as F10 (by (first | (refine map3 (Str.ofString "name") (Str.ofString "count") (Str.ofString "where") rfl rfl rfl ?_; intro y h0 h1 h2; ((repeat (first | with_reducible rfl | refine Eq.trans (if_neg (by assumption)) ?_ | refine Eq.trans ?_ (if_neg (by assumption)).symm)); done)) | (funext y; by_cases h0 : y = Str.ofString "name"; (subst h0; rfl); by_cases h1 : y = Str.ofString "count"; (subst h1; rfl); by_cases h2 : y = Str.ofString "where"; (subst h2; rfl); simp only [if_neg h0, if_neg h1, if_neg h2]))), news_sub N10 (by first | walk_at "mine sub" | simp)⟩
          · have hcp : 0 < ((11 * c : Nat) : Int) := by walk_at "mine omega"
            walk_at "mine steps"
            rename Fr _ _ _ _ => F10
            rename News _ _ _ _ => N10
            have hfs : fssS (Str.ofString "~") nm (11 * c) = (Str.ofString "~:" ++ Str.ofString (toString ((11 * c : Nat) : Int)) ++ Str.ofString "(" ++ nm ++ Str.ofString ")") := by
              unfold fssS
              rw [if_neg (by rw [Bool.and_eq_true]; rintro ⟨-, h0⟩; have := eq_of_beq h0; walk_at "mine omega")]; rfl
            rw [hfs]
            show _ ∧ _
            exact ⟨rfl, _, _, _, rfl, Fr.as F10 (by (first | (refine map3 (Str.ofString "name") (Str.ofString "count") (Str.ofString "where") rfl rfl rfl ?_; intro y h0 h1 h2; ((repeat (first | with_reducible rfl | refine Eq.trans (if_neg (by assumption)) ?_ | refine Eq.trans ?_ (if_neg (by assumption)).symm)); done)) | (funext y; by_cases h0 : y = Str.ofString "name"; (subst h0; rfl); by_cases h1 : y = Str.ofString "count"; (subst h1; rfl); by_cases h2 : y = Str.ofString "where"; (subst h2; rfl); simp only [if_neg h0, if_neg h1, if_neg h2]))), news_sub N10 (by first | walk_at "mine sub" | simp)⟩
        · walk_at "mine steps"
          rename Fr _ _ _ _ => F10
          rename News _ _ _ _ => N10
          have hfs : fssS (Str.ofString "t") nm (11 * c) = (Str.ofString "t:" ++ Str.ofString (toString ((11 * c : Nat) : Int)) ++ Str.ofString "(" ++ nm ++ Str.ofString ")") := by
            unfold fssS
            rw [if_neg (by rw [Bool.and_eq_true]; rintro ⟨h0, -⟩; revert h0; decide)]; rfl
          rw [hfs]
          show _ ∧ _
          exact ⟨rfl, _, _, _, rfl, Fr.as F10 (by (first | (refine map3 (Str.ofString "name") (Str.ofString "count") (Str.ofString "where") rfl rfl rfl ?_; intro y h0 h1 h2; ((repeat (first | with_reducible rfl | refine Eq.trans (if_neg (by assumption)) ?_ | refine Eq.trans ?_ (if_neg (by assumption)).symm)); done)) | (funext y; by_cases h0 : y = Str.ofString "name"; (subst h0; rfl); by_cases h1 : y = Str.ofString "count"; (subst h1; rfl); by_cases h2 : y = Str.ofString "where"; (subst h2; rfl); simp only [if_neg h0, if_neg h1, if_neg h2]))), news_sub N10 (by first | walk_at "mine sub" | simp)⟩
      case tl =>
        rintro fl s' hj5
        (try refine opg fun gG hgG => ?_); (obtain ⟨rfl, h10, tk10, t10, rfl, F10, N10⟩ := hj5); (try (refine hgG ?_; clear hgG gG))
        (try clear F9); (try clear N9)
        dsimp only
        repeat ((fail_if_success (with_reducible show wpAny _ _ (PySem.call (Value.builtin "list.append") _ _) _ _ _)); (first | (k_unfold; (try dsimp only)) | ((try dsimp only); walk1) | (leave1; (try dsimp only))))
        refine append_led F10 N10 (by intro q hq; rw [List.mem_singleton.mp hq]; exact hI1) (by walk_at "mine omega") fun h12 F12 N12 => ?_
        (try refine opg fun gG hgG => ?_); (obtain ⟨tA, N12⟩ : ∃ tA, News s.heap L' h12 [(D1, W.listOf (rows ++ [Value.str (Str.ofString "User-agent: " ++ fssS wh nm (11 * c)) tA]).toArray (n + 1)), (I, oI)] := ⟨_, N12⟩); (try (refine hgG ?_; clear hgG gG))
        have hr2 := hrows.snoc (Str.ofString "User-agent: " ++ fssS wh nm (11 * c)) tA
        try dsimp only
        by_cases hc0 : c = 0
        · subst hc0
          repeat ((fail_if_success (with_reducible show wpAny _ _ (PySem.call (Value.builtin "list.append") _ _) _ _ _)); (first | (k_unfold; (try dsimp only)) | ((try dsimp only); walk1) | (leave1; (try dsimp only))))
          refine append_led F12 N12 (by intro q hq; rw [List.mem_singleton.mp hq]; exact hI1) (by rw [List.length_append, List.length_singleton]; walk_at "mine omega") fun h14 F14 N14 => ?_
          (try refine opg fun gG hgG => ?_); (obtain ⟨tB, N14⟩ : ∃ tB, News s.heap L' h14 [(D1, W.listOf (rows ++ [Value.str (Str.ofString "User-agent: " ++ fssS wh nm (11 * 0)) tA] ++ [Value.str (Str.ofString "Allow:") tB]).toArray (n + 1 + 1)), (I, oI)] := ⟨_, N14⟩); (try (refine hgG ?_; clear hgG gG))
          have hr3 := hr2.snoc (Str.ofString "Allow:") tB
          try dsimp only
          walk_at "mine steps"
          refine hQt _ _ ?_
          refine TurnEnd.next F14 (news_sub N14 (by first | walk_at "mine sub" | simp)) (news_sub (l' := [(D1, W.listOf (rows ++ [Value.str (Str.ofString "User-agent: " ++ fssS wh nm (11 * 0)) tA] ++ [Value.str (Str.ofString "Allow:") tB]).toArray (n + 1 + 1))]) N14 (by first | walk_at "mine sub" | simp)) (by intro q hq; rw [List.mem_singleton.mp hq]; exact hI1.symm) ⟨_, n + 1 + 1, _, _, _, rfl, ?_, by rw [List.length_append, List.length_append, List.length_singleton, List.length_singleton]; walk_at "mine omega", by (first | (refine map3 (Str.ofString "name") (Str.ofString "count") (Str.ofString "where") rfl rfl rfl ?_; intro y h0 h1 h2; ((repeat (first | with_reducible rfl | refine Eq.trans (if_neg (by assumption)) ?_ | refine Eq.trans ?_ (if_neg (by assumption)).symm)); done)) | (funext y; by_cases h0 : y = Str.ofString "name"; (subst h0; rfl); by_cases h1 : y = Str.ofString "count"; (subst h1; rfl); by_cases h2 : y = Str.ofString "where"; (subst h2; rfl); simp only [if_neg h0, if_neg h1, if_neg h2]))⟩
          rw [hstep, if_pos rfl]
          simpa [List.append_assoc] using hr3
        · have hcp : 0 < ((11 * c : Nat) : Int) := by walk_at "mine omega"
          walk_at "mine steps"
          first | (exfalso; first | walk_at "mine omega" | (rename (_ == _) = true => hz; have := eq_of_beq hz; walk_at "mine omega")) | skip
          rename Fr _ _ _ _ => F13
          rename News _ _ _ _ => N13
          refine hQt _ _ ?_
          refine TurnEnd.next F13 (news_sub N13 (by first | walk_at "mine sub" | simp)) (news_sub (l' := [(D1, W.listOf (rows ++ [Value.str (Str.ofString "User-agent: " ++ fssS wh nm (11 * c)) tA]).toArray (n + 1))]) N13 (by first | walk_at "mine sub" | simp)) (by intro q hq; rw [List.mem_singleton.mp hq]; exact hI1.symm) ⟨_, n + 1, _, _, _, rfl, ?_, by rw [List.length_append, List.length_singleton]; walk_at "mine omega", by (first | (refine map3 (Str.ofString "name") (Str.ofString "count") (Str.ofString "where") rfl rfl rfl ?_; intro y h0 h1 h2; ((repeat (first | with_reducible rfl | refine Eq.trans (if_neg (by assumption)) ?_ | refine Eq.trans ?_ (if_neg (by assumption)).symm)); done)) | (funext y; by_cases h0 : y = Str.ofString "name"; (subst h0; rfl); by_cases h1 : y = Str.ofString "count"; (subst h1; rfl); by_cases h2 : y = Str.ofString "where"; (subst h2; rfl); simp only [if_neg h0, if_neg h1, if_neg h2]))⟩
          rw [hstep, if_neg hc0]
          simpa [List.append_assoc] using hr2
    · rintro h20 tk20 m20 led20 F20 N20 hj8
      refine p5_4 ?_ hj8
      (try clear hj8)
      intro rows n u1 u2 u3 hq9 hrows hrl hq10
      subst hq9
      subst hq10
      (try replace F20 : Fr _ L' _ _ := F20); (try replace N20 : News _ L' _ _ := N20)
      (try (refine (let mm : Str → Option Value := _; have Fx : Fr _ L' _ mm := F20; ?_); clear F20; rename Fr _ _ _ _ => F20))
      rw [hnsl, List.take_length] at hrows
      repeat ((fail_if_success (with_reducible show wpAny _ _ (PySem.call (Value.builtin "str.join") _ _) _ _ _)); (first | (k_unfold; (try dsimp only)) | ((try dsimp only); walk1) | (leave1; (try dsimp only))))
      rename Fr _ _ _ _ => F21
      rename News _ _ _ _ => N21
      refine join_strl hrows ⟨_, (N21 (D1, W.listOf rows.toArray n) (by first | walk_at "mine sub" | simp)).1, rfl, n, rfl⟩ ?_ fun t tk' => ?_
      · exact Nat.le_trans (rowsW_len ags d look ns hal ha30 hnl hn9 hd) (by decide)
      · refine ret _ _ _ F21.keep ⟨t, rfl⟩
end Mine
end
section
theorem Mine.fresh42 : True := by w_top off; trivial
open PySem PySem.W PyProof.Rows PySem.Calls
set_option maxRecDepth 100000
set_option maxHeartbeats 8000000
namespace Mine
namespace BA
theorem mro_ba : mroOf (.type "bytearray") = pure [.type "bytearray", .type "object"] := by rw [mroOf_type]; kernel_rfl
theorem lookup_ba_new : typeLookup (.type "bytearray") "__new__" = pure (some (.builtin "bytearray.__new__")) := by rw [typeLookup_type, builtinLookup_eq_fast]; kernel_rfl
theorem slot_ba_init : Slot "bytearray" "__init__" "bytearray.__init__" :=
  .of (owner := "bytearray") (n := "__init__") (by rw [typeLookup_type, builtinLookup_eq_fast]; kernel_rfl) (by decide +kernel) (by decide +kernel) (by decide +kernel)
    (by first | exact .inl (by decide +kernel) | exact .inr (by decide +kernel)) (by rw [isSubtype_type]; kernel_rfl)
theorem called_ba : TypeCalled "bytearray" "bytearray.__new__" "bytearray.__init__" :=
  ⟨by decide +kernel, by decide +kernel, ⟨_, _, mro_ba⟩, madeBy_type mro_ba lookup_ba_new (by decide +kernel), by decide +kernel, by rw [isSubtype_type]; kernel_rfl, slot_ba_init⟩
theorem typeCall_ba_1 (a : Value) : checkTypeCall "bytearray" ⟨[a], []⟩ = pure () := by kernel_rfl
theorem newCall_ba_1 (a : Value) : checkBuiltinCall "bytearray.__new__" ⟨[.type "bytearray", a], []⟩ = pure () :=
  new_check (by kernel_rfl) (by kernel_rfl) rfl called_ba.sub (by kernel_rfl) (by kernel_rfl) called_ba.made (by kernel_rfl)
theorem entry_ba_new : entryFor table "bytearray.__new__" = some Builtin.«list.__new__» :=
  entryFor_alias (id' := "list.__new__") (by rw [fastTable_eq_tree]; kernel_rfl) (by decide +kernel) (by decide +kernel) (by rw [fastTable_eq_tree]; kernel_rfl)
theorem entry_ba_init : entryFor table "bytearray.__init__" = some Builtin.«bytearray.__init__» := entryFor_of_tree (by kernel_rfl)
theorem plain_ba_new : plainId "bytearray.__new__" = true := by decide +kernel
theorem sub_ba_self : isSubtype (.type "bytearray") (.type "bytearray") = pure true := by rw [isSubtype_type]; kernel_rfl
set_option maxRecDepth 1000000 in
theorem owner_ba_new : ("bytearray.__new__".splitOn ".__new__").headD "" = "bytearray" := by simp +decide [String.splitOn, String.splitOnAux]
section
variable {prog : Program} {w : World} {A : Around} {E : Value → Shared → Prop} {s : Shared}
theorem code_ba_new (a : Value) {Q₁ : Value → Shared → Prop}
    (h : Q₁ (.ref s.heap.objs.size) { s with heap := s.heap.push { cls := .type "bytearray", data := .bytearray #[] } }) :
    codeAny (model prog w) A (.call (.builtin "bytearray.__new__") ⟨[.type "bytearray", a], []⟩) (wants Q₁ E) s := by
  refine codeAny_of_tree ?_
  show wpAny _ A.in1 (do checkBuiltinCall "bytearray.__new__" ⟨[.type "bytearray", a], []⟩; again (.builtin "bytearray.__new__" ⟨[.type "bytearray", a], []⟩)) _ _ s
  refine wpAny_bind (wpAny_of_eq (newCall_ba_1 a) (wpAny_pure ⟨plainId_quiet plain_ba_new _, codeAny_builtin_stack entry_ba_new rfl fun p st => ?_⟩))
  rw [Around.under_plainId plain_ba_new _]
  have hsub := sub_ba_self
  have hown := owner_ba_new
  obtain ⟨hp, g, d, tk, os⟩ := s
  simp only [hown]
  wp_walk
  exact h
end
end BA
end Mine
end
section
theorem Mine.fresh43 : True := by w_top off; trivial
open PySem PySem.W PyProof.Rows PySem.Calls
set_option maxRecDepth 100000
set_option maxHeartbeats 8000000
namespace Mine
namespace BA
theorem look_release : typeLookup (.type "bytearray") "__release_buffer__" = pure (some (.builtin "bytearray.__release_buffer__")) := by rw [typeLookup_type, builtinLookup_eq_fast]; kernel_rfl
theorem bind_ba (v : Value) : Builtin.Bytes.bindOptional "bytearray.__init__" "bytearray" ["source", "encoding", "errors"] [v] [] = pure [some v, none, none] := by kernel_rfl
noncomputable abbrev baObj (b : Array UInt8) : Obj := { cls := .type "bytearray", data := .bytearray b }
section
variable {prog : Program} {w : World} {A : Around} {E : Value → Shared → Prop} {s : Shared} {S : Addr}
theorem own_release {Q : Bool → Shared → Prop} {b : Array UInt8} (hS : s.heap.get? S = some (baObj b)) (h : Q false s) : wpAny (model prog w) A (Builtin.Bytes.ownRelease (.ref S)) Q E s := by
  have hT : s.TypeIs (.ref S) "bytearray" := ⟨_, hS, rfl⟩
  unfold Builtin.Bytes.ownRelease Builtin.Bytes.slotIsOwn
  refine wpAny_bind (wpAny_bind (wpAny_specialOf hT look_release ?_))
  dsimp only
  rw [if_neg (by decide +kernel)]
  have e : ("bytearray.__release_buffer__".dropRight ("__release_buffer__".length + 1)) = "bytearray" := by decide +kernel
  rw [e]
  exact wpAny_isInstance hT sub_ba_self (wpAny_pure h)
theorem write_ba {f : Array UInt8 → Array UInt8} {Q : Unit → Shared → Prop} {b : Array UInt8} (hS : s.heap.get? S = some (baObj b)) (hz : (f b).size ≤ sizeLine)
    (h : ∀ h', h'.get? S = some (baObj (f b)) → Heap.SameBut S s.heap h' → Q () { s with heap := h' }) : wpAny (model prog w) A (Builtin.Bytes.write (.ref S) f) Q E s := by
  show wpAny _ _ (updateBytearray S f) _ _ _
  unfold updateBytearray
  refine wpAny_bind (wpAny_load hS ?_)
  show wpAny _ _ (update S (Obj.mapBytearray f) >>= fun _ => lookBehind S) _ _ _
  refine wpAny_bind (wpAny_update hS ?_)
  have hS₂ : (s.heap.update S (Obj.mapBytearray f)).get? S = some (baObj (f b)) := Heap.get?_update_self (Obj.mapBytearray f) hS rfl
  refine wpAny_lookBehind hS₂ ?_ (h _ hS₂ (Heap.SameBut.update ..))
  show (if (f b).size > sizeLine then some "bytearray:memory" else none) = none
  rw [if_neg (by (first | lia | omega))]
theorem payload_ba {Q : Array UInt8 → Shared → Prop} {b : Array UInt8} (hS : s.heap.get? S = some (baObj b)) (h : Q b s) : wpAny (model prog w) A (Builtin.Bytes.payload (.ref S)) Q E s := by
  unfold Builtin.Bytes.payload Builtin.Bytes.payload?
  exact wpAny_bind (wpAny_bind (wpAny_load hS (wpAny_pure (wpAny_pure h))))
theorem wpC_if_false {α : Type} {M : Model} {A : Around} {E : Value → Shared → Prop} {s : Shared} {c : Bool} {a b : Sem α} {Q : α → Shared → Prop} (hc : c = false) (h : wpC M A b Q E s) : wpC M A (if c = true then a else b) Q E s := by
  subst hc
  exact h
theorem wpC_if_true {α : Type} {M : Model} {A : Around} {E : Value → Shared → Prop} {s : Shared} {c : Bool} {a b : Sem α} {Q : α → Shared → Prop} (hc : c = true) (h : wpC M A a Q E s) : wpC M A (if c = true then a else b) Q E s := by
  subst hc
  exact h
theorem none_of {f : Code × Pos → Bool} : ∀ {l : List (Code × Pos)}, guardsOf l = [] → l.all (fun x => noDec x.1) = true → (∀ c p, c.isGuard = false → noDec c = true → f (c, p) = false) → l.any f = false
  | [], _, _, _ => rfl
  | (c, p) :: l, hg, hd, hf => by
    rw [guardsOf_cons] at hg
    obtain ⟨h1, h2⟩ := List.append_eq_nil_iff.mp hg
    rw [List.all_cons, Bool.and_eq_true] at hd
    have hcg : c.isGuard = false := by
      unfold Code.guards at h1
      cases q : c.isGuard with
      | false => rfl
      | true => rw [q] at h1; cases h1
    rw [List.any_cons, hf c p hcg hd.1, none_of h2 hd.2 hf]
    rfl
theorem not_exported {Q : Bool → Shared → Prop} (hg : A.guards = some []) (h : Q false s) : wpC (model prog w) A (Builtin.Bytes.exported (.ref S)) Q E s := fun Γ p hΓ hU => by
  unfold Builtin.Bytes.exported
  show Sem.wp _ Γ (Sem.bind stack _) _ _ p s
  unfold stack
  rw [Sem.wp_bind, Sem.wp_stack]
  have hgs : guardsOf ((Γ.code, p) :: Γ.below) = [] := by rw [guardsOf_cons]; exact hΓ.2.2.2.1 [] hg
  have hds : ((Γ.code, p) :: Γ.below).all (fun x => noDec x.1) = true := by rw [List.all_cons, Bool.and_eq_true]; exact ⟨hU.1, hU.2.2⟩
  rw [Sem.wp_pure]
  refine (wpAny_pure (M := model prog w) (A := A) (E := E) (s := s) (Q := Q) ?_ : wpAny (model prog w) A (pure _) Q E s) Γ p hΓ
  rw [none_of hgs hds ?hf]
  case hf =>
    intro c q h1 h2
    cases c with
    | builtin id args =>
      have g : ∀ x, guardIds.contains x = true → id ≠ x := fun x hx e => by
        have h3 : guardIds.contains id = false := h1
        rw [e, hx] at h3; cases h3
      have h3 : (!Builtin.Bytes.decodersThatHold.contains id) = true := h2
      rw [Bool.not_eq_true'] at h3
      delta Builtin.Bytes.exported.match_1
      dsimp only
      refine (dif_neg (g "bytearray.__contains__" (by decide))).trans ?_
      refine (dif_neg (g "bytearray.__mod__" (by decide))).trans ?_
      refine (dif_neg (g "bytearray.__rmod__" (by decide))).trans ?_
      refine (dif_neg (g "_struct.pack_into.held" (by decide))).trans ?_
      refine (dif_neg (g "bytearray.find.held" (by decide))).trans ?_
      obtain ⟨pos, kw⟩ := args
      cases pos with
      | nil => rfl
      | cons v tl =>
        show (_ && Builtin.Bytes.decodersThatHold.contains id) = false
        rw [h3, Bool.and_false]
    | _ => rfl
  exact h
theorem as_str_int (i : Int) (t : Tok) : asStr? (.int i t) = pure none := by rfl
theorem as_index_int (i : Int) (t : Tok) : asIndex (.int i t) = pure i := by rfl
theorem spec_int_index {i : Int} {t : Tok} {Q : Option Value → Shared → Prop} (h : Q (some (.builtin "int.__index__")) s) : wpAny (model prog w) A (specialOf (.int i t) (Str.ofString "__index__")) Q E s :=
  wpAny_specialOf (typeIs_int _ _ _) F.slot_int_index.lookup h
theorem init_ba {n : Nat} {t : Tok} {Q : Fin → Shared → Prop} (hg : A.guards = some []) (hn : n ≤ 100000) (hS : s.heap.get? S = some (baObj #[]))
    (h : ∀ h' tk, h'.get? S = some (baObj (Array.replicate n 0)) → Heap.SameBut S s.heap h' → Q (.done (.ret .none)) { s with heap := h', toks := tk }) :
    wpC (model prog w) A (Builtin.«bytearray.__init__» ⟨[.ref S, .int (n : Int) t], []⟩) Q E s := by
  unfold Builtin.«bytearray.__init__»
  dsimp only
  refine wpC_bind (wpC_of (own_release hS ?_))
  rw [if_neg (by decide), bind_ba]
  refine wpC_bind (wpC_pure ?_)
  dsimp only
  refine wpC_bind (wpC_of (wpAny_of_eq (a := ()) rfl ?_))
  refine wpC_bind (wpC_of (wpAny_of_eq (a := ()) rfl ?_))
  refine wpC_bind ?_
  show wpC _ _ (Builtin.Bytes.exported (.ref S) >>= _) _ _ _
  refine wpC_bind (not_exported hg ?_)
  show wpC _ _ (Builtin.Bytes.exportsOf (.ref S) >>= _) _ _ _
  refine wpC_bind (wpC_of ?_)
  unfold Builtin.Bytes.exportsOf
  refine wpAny_bind (wpAny_load hS (wpAny_pure ?_))
  refine wpC_pure ?_
  rw [if_neg (by decide)]
  refine wpC_bind (wpC_of (write_ba hS (Nat.zero_le _) fun h1 hS1 hk1 => ?_))
  rw [as_str_int]
  refine wpC_bind ?_
  refine wpC_pure ?_
  with_reducible refine wpC_if_false ?hc1 ?_
  case hc1 => rfl
  refine wpC_bind ?_
  with_reducible refine wpC_if_false ?hc2 ?_
  case hc2 => rfl
  with_reducible refine wpC_if_false ?hc3 ?_
  case hc3 => rfl
  refine wpC_pure ?_
  refine wpC_bind ?_
  refine wpC_of ?_
  refine spec_int_index ?_
  with_reducible refine wpC_if_true ?hc4 ?_
  case hc4 => rfl
  refine wpC_bind ?_
  refine wpC_attempt ?_
  rw [as_index_int]
  refine wpC_pure ?_
  dsimp only
  with_reducible refine wpC_if_false ?hfit ?_
  case hfit => unfold Builtin.Bytes.fitsIndex; simp only [Bool.not_eq_false', Bool.and_eq_true, decide_eq_true_eq]; constructor <;> (first | lia | omega)
  rw [if_neg (show ¬ ((n : Int) < 0) from by (first | lia | omega))]
  with_reducible refine wpC_if_false ?hmax ?_
  case hmax => rw [beq_eq_false_iff_ne]; (first | lia | omega)
  with_reducible refine wpC_if_false ?hlong ?_
  case hlong => unfold Builtin.Bytes.tooLong; rw [Int.toNat_natCast, sizeLine_eq]; exact decide_eq_false (by (first | lia | omega))
  refine wpC_bind ?_
  refine wpC_of ?_
  refine wpAny_rule ?_
  by_cases hp : (n : Int) > 0
  · rw [if_pos hp]
    refine wpC_bind ?_
    refine wpC_of ?_
    refine write_ba hS1 ?_ fun h2 hS2 hk2 => ?_
    · rw [Array.size_replicate, Int.toNat_natCast, sizeLine_eq]; (first | lia | omega)
    · rw [Int.toNat_natCast] at hS2
      exact wpC_pure (h h2 _ hS2 (hk1.trans hk2))
  · rw [if_neg hp]
    obtain rfl : n = 0 := by (first | lia | omega)
    exact wpC_pure (h h1 _ hS1 hk1)
theorem codeC_call_builtin' {id : String} {args : Args} {b : Builtin} {R : Result → Shared → Prop} (hn : noDec (.builtin id args) = true) (hp : plainId id = true) (hb : entryFor table id = some b)
    (hc : ∀ (E : Value → Shared → Prop) (Q : Unit → Shared → Prop), Q () s → wpAny (model prog w) A.in1 (checkBuiltinCall id args) Q E s)
    (h : wpC (model prog w) A.in1 (b args) (fun fin s' => match fin with | .done f => R (.ok f) s' | .again c' => c'.quiet = true ∧ codeC (model prog w) A c' R s') (fun e s' => R (.error e) s') s) :
    codeC (model prog w) A (.call (.builtin id) args) R s := by
  refine codeC_of_tree ?_
  show wpC _ A.in1 (do checkBuiltinCall id args; again (.builtin id args)) _ _ s
  refine wpC_bind (wpC_of (hc _ _ ?_))
  refine wpC_pure ⟨plainId_quiet hp args, codeC_builtin hn hb ?_⟩
  rw [Around.under_plainId hp]
  exact h
theorem owner_ba : Manifest.owners.lookup (String.ofList ['y', 'a', 'r', 'r', 'a', 'e', 't', 'y', 'b'].reverse) = some Manifest.sig_bytearray := by kernel_rfl
theorem args_ba_init (a b : Value) : argsOk "bytearray.__init__" ⟨[a, b], []⟩ := by
  unfold argsOk; rw [signature?_of (id := "bytearray.__init__") (n := ['_', '_', 't', 'i', 'n', 'i', '_', '_']) (o := ['y', 'a', 'r', 'r', 'a', 'e', 't', 'y', 'b']) (by kernel_rfl) owner_ba]; kernel_rfl
theorem call_ba {n : Nat} {t : Tok} {Q : Value → Shared → Prop} (hg : A.guards = some []) (hn : n ≤ 100000)
    (h : ∀ h' tk, h'.get? s.heap.objs.size = some (baObj (Array.replicate n 0)) → (∀ b o, s.heap.get? b = some o → h'.get? b = some o) → Q (.ref s.heap.objs.size) { s with heap := h', toks := tk }) :
    wpC (model prog w) A (PySem.call (.type "bytearray") [.int (n : Int) t]) Q E s := by
  obtain ⟨c, tl, hmro⟩ := called_ba.mro
  have hmade := called_ba.made
  refine wpC_call (codeC_of_tree ?_)
  show wpC _ _ (callAny (.type "bytearray") _) _ _ _
  refine wpC_of (wpAny_pure ⟨Code.quiet_builtin _ (by decide +kernel), codeC_builtin rfl F.entry_type_call ?_⟩)
  rw [Around.under_plain (weight_type_call_type "bytearray" _ []) (units_type_call_type "bytearray" _ [])]
  have h1 := called_ba.notType
  have h2 := called_ba.canCreate
  unfold Builtin.«type.__call__»
  dsimp only
  rw [if_neg (by rw [h1]; exact Bool.false_ne_true), if_neg (by rw [h2]; exact Bool.false_ne_true), typeCall_ba_1]
  refine wpC_bind (wpC_pure ?_)
  rw [hmro]
  refine wpC_bind (wpC_pure ?_)
  rw [if_neg (by simp), hmade]
  refine wpC_bind (wpC_pure ?_)
  dsimp only
  refine wpC_bind (wpC_pure ?_)
  refine wpC_bind ?_
  refine wpC_holding ?_
  refine wpC_of ?_
  refine wpAny_call (codeAny_mono (code_ba_new (E := fun _ _ => False) (.int (n : Int) t) (Q₁ := fun v s' => v = .ref s.heap.objs.size ∧ s' = { s with heap := s.heap.push (baObj #[]) }) ⟨rfl, rfl⟩) fun r s' hr => ?_)
  cases r with
  | error e => exact hr.elim
  | ok fl =>
    cases fl with
    | ret v =>
      obtain ⟨rfl, rfl⟩ := hr
      dsimp only
      have hS : (s.heap.push (baObj #[])).get? s.heap.objs.size = some (baObj #[]) := Heap.get?_push_size _ rfl
      have hT : Shared.TypeIs { s with heap := s.heap.push (baObj #[]) } (.ref s.heap.objs.size) "bytearray" := ⟨_, hS, rfl⟩
      refine wpC_bind ?_
      refine wpC_of ?_
      refine wpAny_isInstance hT sub_ba_self ?_
      rw [if_neg (by decide)]
      refine wpC_bind ?_
      refine wpC_holding ?_
      unfold callSpecial?
      refine wpC_bind ?_
      refine wpC_of ?_
      refine wpAny_specialOf hT slot_ba_init.lookup ?_
      dsimp only
      refine wpC_holding ?_
      rw [slot_ba_init.bind]
      refine wpC_bind (wpC_pure ?_)
      dsimp only
      refine wpC_bind ?_
      refine wpC_call (codeC_call_builtin' rfl slot_ba_init.plain entry_ba_init (fun E Q hq => slot_ba_init.check _ _ _ _ _ _ _ _ hT (args_ba_init _ _) hq) ?_)
      refine init_ba hg hn hS fun h' tk hS' hk => ?_
      dsimp only
      refine wpC_pure ?_
      dsimp only
      refine wpC_pure ?_
      refine h h' tk hS' fun b o e => ?_
      exact hk.extBut b o (Nat.ne_of_lt (Heap.lt_size e)) (Heap.get?_push_of_some _ e)
    | _ => exact hr.elim
end
end BA
end Mine
end
section
theorem Mine.fresh44 : True := by w_top off; trivial
open PySem PySem.W PyProof.Rows PySem.Calls
set_option maxRecDepth 100000
set_option maxHeartbeats 8000000
namespace Mine
namespace BA
theorem slot_ba_setitem : Slot "bytearray" "__setitem__" "bytearray.__setitem__" :=
  .of (owner := "bytearray") (n := "__setitem__") (by rw [typeLookup_type, builtinLookup_eq_fast]; kernel_rfl) (by decide +kernel) (by decide +kernel) (by decide +kernel)
    (by first | exact .inl (by decide +kernel) | exact .inr (by decide +kernel)) (by rw [isSubtype_type]; kernel_rfl)
theorem entry_ba_setitem : entryFor table "bytearray.__setitem__" = some Builtin.«bytearray.__setitem__» := entryFor_of_tree (by kernel_rfl)
theorem args_ba_setitem (a b c : Value) : argsOk "bytearray.__setitem__" ⟨[a, b, c], []⟩ := by
  unfold argsOk; rw [signature?_of (id := "bytearray.__setitem__") (n := ['_', '_', 'm', 'e', 't', 'i', 't', 'e', 's', '_', '_']) (o := ['y', 'a', 'r', 'r', 'a', 'e', 't', 'y', 'b']) (by kernel_rfl) owner_ba]; kernel_rfl
section
variable {prog : Program} {w : World} {A : Around} {E : Value → Shared → Prop} {s : Shared} {S : Addr}
theorem subs_ba {k : Nat} {t : Tok} {Q : Option Int → Shared → Prop} (hk : k ≤ 100000) (h : Q (some (k : Int)) s) : wpAny (model prog w) A (Builtin.Bytes.subscript? (.int (k : Int) t)) Q E s := by
  unfold Builtin.Bytes.subscript?
  refine wpAny_bind ?_
  refine spec_int_index ?_
  rw [if_neg (by decide), as_index_int]
  refine wpAny_bind ?_
  refine wpAny_pure ?_
  with_reducible refine bm_if_false ?hf ?_
  case' hf => skip
  rotate_left
  · exact wpAny_pure h
  · unfold Builtin.Bytes.fitsIndex; simp only [Bool.not_eq_true, Bool.not_eq_false', Bool.and_eq_true, decide_eq_true_eq]; constructor <;> (first | lia | omega)
theorem byte_val {v : Nat} {t : Tok} {Q : UInt8 → Shared → Prop} (hv : v < 256) (h : Q v.toUInt8 s) : wpAny (model prog w) A (Builtin.Bytes.byteValue (.int (v : Int) t)) Q E s := by
  unfold Builtin.Bytes.byteValue
  rw [as_index_int]
  refine wpAny_bind ?_
  refine wpAny_pure ?_
  rw [if_neg (by simp only [Bool.or_eq_true, decide_eq_true_eq]; (first | lia | omega)), Int.toNat_natCast]
  exact wpAny_pure h
theorem set_ba {b : Array UInt8} {k v : Nat} {t u : Tok} {Q : Unit → Shared → Prop} (hS : s.heap.get? S = some (baObj b)) (hk : k < b.size) (hz : b.size ≤ 100000) (hv : v < 256)
    (h : ∀ h', h'.get? S = some (baObj (b.setIfInBounds k v.toUInt8)) → Heap.SameBut S s.heap h' → Q () { s with heap := h' }) : wpAny (model prog w) A (setItem (.ref S) (.int (k : Int) t) (.int (v : Int) u)) Q E s := by
  have hT : s.TypeIs (.ref S) "bytearray" := ⟨_, hS, rfl⟩
  unfold setItem
  try with_reducible refine wpAny_holding ?_
  first | refine wpAny_bind (wpAny_pure ?_) | skip
  refine wpAny_bind (wpAny_sequenceKey hT (by decide) ?_)
  refine wpAny_bind (wpAny_callSpecial?_slot (name := Str.ofString "__setitem__") hT slot_ba_setitem
    (wpAny_call_entry slot_ba_setitem hT entry_ba_setitem ?_ (args_ba_setitem _ _ _)))
  show wpAny _ _ (Builtin.Bytes.subscript? (.int (k : Int) t) >>= _) _ _ _
  have hk2 : k ≤ 100000 := by (first | lia | omega)
  with_reducible refine wpAny_bind (subs_ba hk2 ?_)
  show wpAny _ _ (Builtin.Bytes.byteValue (.int (v : Int) u) >>= _) _ _ _
  with_reducible refine wpAny_bind (byte_val hv ?_)
  show wpAny _ _ (Builtin.Bytes.payload (.ref S) >>= _) _ _ _
  with_reducible refine wpAny_bind (payload_ba hS ?_)
  rw [show seqIndex? (k : Int) b.size = some k from by unfold seqIndex?; rw [if_neg (show ¬ ((k : Int) < 0) by (first | lia | omega)), if_pos (by simp only [Bool.and_eq_true, decide_eq_true_eq]; (first | lia | omega)), Int.toNat_natCast]]
  dsimp only
  refine wpAny_bind ?_
  refine write_ba hS (by rw [Array.size_setIfInBounds, sizeLine_eq]; (first | lia | omega)) fun h' hS' hk' => ?_
  exact wpAny_pure ⟨_, rfl, wpAny_pure (h h' hS' hk')⟩
end
end BA
end Mine
namespace Mine
namespace BA
theorem no_bytes : typeLookup (.type "bytearray") "__bytes__" = pure none := by rw [typeLookup_type, builtinLookup_eq_fast]; kernel_rfl
theorem ba_no_index : typeLookup (.type "bytearray") "__index__" = pure none := by rw [typeLookup_type, builtinLookup_eq_fast]; kernel_rfl
theorem look_buffer : typeLookup (.type "bytearray") "__buffer__" = pure (some (.builtin "bytearray.__buffer__")) := by rw [typeLookup_type, builtinLookup_eq_fast]; kernel_rfl
section
variable {prog : Program} {w : World} {A : Around} {E : Value → Shared → Prop} {s : Shared} {S : Addr}
theorem buffer_ba {id : String} {b : Array UInt8} {Q : Option (Array UInt8) → Shared → Prop} (hS : s.heap.get? S = some (baObj b)) (h : Q (some b) s) : wpAny (model prog w) A (Builtin.Bytes.buffer? id (.ref S) true) Q E s := by
  have hT : s.TypeIs (.ref S) "bytearray" := ⟨_, hS, rfl⟩
  unfold Builtin.Bytes.buffer?
  refine wpAny_bind ?_
  refine wpAny_specialOf hT look_buffer ?_
  try dsimp only
  refine wpAny_bind ?_
  unfold Builtin.Bytes.slotIsOwn
  refine wpAny_bind ?_
  refine wpAny_specialOf hT look_buffer ?_
  try dsimp only
  rw [if_neg (by decide +kernel)]
  have e : ("bytearray.__buffer__".dropRight ("__buffer__".length + 1)) = "bytearray" := by decide +kernel
  rw [e]
  refine wpAny_isInstance hT sub_ba_self ?_
  rw [if_neg (by decide)]
  refine wpAny_bind ?_
  refine wpAny_specialOf hT look_buffer ?_
  try dsimp only
  refine wpAny_bind ?_
  refine own_release hS ?_
  rw [if_neg (by decide)]
  refine wpAny_bind ?_
  refine payload_ba hS ?_
  exact wpAny_pure h
theorem bytes_new_ba {b : Array UInt8} {Q : Value → Shared → Prop} (hS : s.heap.get? S = some (baObj b)) (hz : b.size ≤ 100000) (hQ : ∀ t k, Q (.bytes b t) { s with toks := k }) :
    codeAny (model prog w) A (.call (.builtin "bytes.__new__") ⟨[.type "bytes", .ref S], []⟩) (wants Q E) s := by
  have hT : s.TypeIs (.ref S) "bytearray" := ⟨_, hS, rfl⟩
  refine codeAny_of_tree ?_
  show wpAny _ A.in1 (do checkBuiltinCall "bytes.__new__" ⟨[.type "bytes", .ref S], []⟩; again (.builtin "bytes.__new__" ⟨[.type "bytes", .ref S], []⟩)) _ _ s
  refine wpAny_bind (wpAny_of_eq (F.bm_newCall _) (wpAny_pure ⟨plainId_quiet F.bm_plain _, codeAny_builtin F.bm_entry ?_⟩))
  rw [Around.under_plainId F.bm_plain _]
  unfold Builtin.«bytes.__new__»
  refine wpAny_bind (wpAny_of_eq (a := true) rfl ?_)
  refine bm_if_false rfl ?_
  refine wpAny_bind (wpAny_of_eq F.bm_sub ?_)
  refine bm_if_false rfl ?_
  refine wpAny_bind (wpAny_of_eq (F.bm_bind _) ?_)
  refine wpAny_bind (wpAny_of_eq (a := ()) rfl ?_)
  refine wpAny_bind (wpAny_of_eq (a := ()) rfl ?_)
  refine bm_if_false rfl ?_
  refine wpAny_bind (wpAny_specialOf hT no_bytes ?_)
  refine wpAny_bind (wpAny_bind ?_)
  show wpAny _ _ (load S >>= _) _ _ _
  refine wpAny_bind (wpAny_load hS ?_)
  refine wpAny_pure (wpAny_pure ?_)
  refine bm_if_false rfl ?_
  refine wpAny_bind (wpAny_specialOf hT ba_no_index ?_)
  refine bm_if_true rfl ?_
  first
    | show wpAny _ _ (Builtin.Bytes.buffer? "bytes.__new__" (.ref S) true >>= _) _ _ _
    | (refine wpAny_bind ?_; show wpAny _ _ (Builtin.Bytes.buffer? "bytes.__new__" (.ref S) true >>= _) _ _ _)
  refine wpAny_bind ?_
  refine buffer_ba hS ?_
  refine wpAny_bind ?_
  refine wpAny_rule ?_
  refine wpAny_bind ?_
  refine wpAny_mkBytes ?_ (by rw [sizeLine_eq]; (first | lia | omega))
  show wpAny _ _ (if (Value.type "bytes" == Value.type "bytes") = true then _ else _) _ _ _
  refine bm_if_true (by decide) ?_
  first
    | exact wpAny_pure (hQ _ _)
    | exact wpAny_bind (wpAny_pure (wpAny_pure (hQ _ _)))
theorem call_bytes_ba {b : Array UInt8} {Q : Value → Shared → Prop} (hS : s.heap.get? S = some (baObj b)) (hz : b.size ≤ 100000) (hQ : ∀ t k, Q (.bytes b t) { s with toks := k }) :
    wpAny (model prog w) A (PySem.call (.type "bytes") [.ref S]) Q E s := by
  refine callType_codes (Q₁ := fun obj s₁ => s₁.TypeIs obj "bytes" ∧ Q obj s₁) F.bm_called (F.bm_typeCall _) F.entry_object_init
    (bytes_new_ba hS hz fun t k => ⟨PySem.W.typeIs_bytes _ _ _, hQ t k⟩) fun obj s₁ h₁ => ?_
  exact ⟨h₁.1, F.args_object_init_2 obj _, object_init_meets F.bm_called.init.lookup F.bm_called.made (by decide) prog w A.in1 _ s₁ ⟨h₁.1, rfl, h₁.2⟩⟩
end
end BA
end Mine
end
section
theorem Mine.fresh45 : True := by w_top off; trivial
open PySem PySem.W PyProof.Rows PySem.Calls
set_option maxRecDepth 100000
set_option maxHeartbeats 8000000
namespace Mine
noncomputable def swI (d : Array UInt8) (wd base : Nat) : Nat → Array UInt8 → Array UInt8
  | 0, a => a
  | j + 1, a => (swI d wd base j a).setIfInBounds (base + wd - 1 - j) (d.getD (base + j) 0)
noncomputable def swO (d : Array UInt8) (wd : Nat) : Nat → Array UInt8 → Array UInt8
  | 0, a => a
  | i + 1, a => swI d wd (i * wd) wd (swO d wd i a)
theorem swI_size (d : Array UInt8) (wd base : Nat) : ∀ (j : Nat) (a : Array UInt8), (swI d wd base j a).size = a.size
  | 0, _ => rfl
  | j + 1, a => by unfold swI; rw [Array.size_setIfInBounds]; exact swI_size d wd base j a
theorem swO_size (d : Array UInt8) (wd : Nat) : ∀ (i : Nat) (a : Array UInt8), (swO d wd i a).size = a.size
  | 0, _ => rfl
  | i + 1, a => by unfold swO; rw [swI_size]; exact swO_size d wd i a
/-- a def that never raises, entered under the claim's caller with no guard about -/
noncomputable def SpecG (w : World) (p : Program) (loose : List Str) (mean : ExcName → Option Value) (mg mb : Str → Option Value) (f : Addr) (c u : Nat) (vs : List Value) (pre : Heap → Prop) (post : Heap → Heap → Value → Prop) : Prop :=
  ∀ (dp un : Nat) (cn : Str) (cs : Scope) (a : Addr) (ccd : Value) (cl : List (Str × Addr)) (outer : List Env) (A₀ : Around) (base h₀ : Heap) (L : Addr) (m : Str → Option Value) (s : Shared) (R : Result → Shared → Prop),
    Below A₀ base outer h₀ → Fr h₀ L s.heap m → (hd.heap_1 w.params).In base → Top p loose mean mg mb base → KtsDicts (outer.filterMap (·.frame)) h₀ → cs.kind = .function → pre s.heap → dp + c < recursionLimit → un + u < cLine →
    (∀ r h' tk', (∀ b o, s.heap.get? b = some o → h'.get? b = some o) → post s.heap h' r → R (.ok (.ret r)) { s with heap := h', toks := tk' }) →
    codeC (model PySem.Challenge.rw_jc0012_01.row.prog w) (ktrTop dp un (some []) cn cs L a ccd cl outer) (.call (.ref f) ⟨vs, []⟩) R s
theorem SpecG.call {w : World} {p : Program} {loose : List Str} {mean : ExcName → Option Value} {mg mb : Str → Option Value} {f : Addr} {c u : Nat} {vs : List Value} {pre : Heap → Prop} {post : Heap → Heap → Value → Prop}
    (S : SpecG w p loose mean mg mb f c u vs pre post)
    {dp un : Nat} {cn : Str} {cs : Scope} {a : Addr} {ccd : Value} {cl : List (Str × Addr)} {outer : List Env} {A₀ : Around} {base h₀ : Heap} {L : Addr} {m : Str → Option Value} {news : List (Addr × Obj)} {s : Shared} {Q E : Value → Shared → Prop}
    (B : Below A₀ base outer h₀) (F : Fr h₀ L s.heap m) (XB : (hd.heap_1 w.params).In base) (N : News h₀ L s.heap news) (TB : Top p loose mean mg mb base) (D : KtsDicts (outer.filterMap (·.frame)) h₀) (hk : cs.kind = .function) (hp : pre s.heap) (hd : dp + c < recursionLimit) (hu : un + u < cLine)
    (ret : ∀ r h' tk', Fr h₀ L h' m → News h₀ L h' news → (∀ b o, s.heap.get? b = some o → h'.get? b = some o) → post s.heap h' r → Q r { s with heap := h', toks := tk' }) :
    wpC (model PySem.Challenge.rw_jc0012_01.row.prog w) (ktrTop dp un (some []) cn cs L a ccd cl outer) (PySem.call (.ref f) vs) Q E s := by
  refine wpC_call (S _ _ _ _ _ _ _ _ _ _ _ _ _ _ _ B F XB TB D hk hp hd hu fun r h' tk' k q => ?_)
  have hp1 := F.ns
  refine p3_2 ?_ hp1
  (try clear hp1)
  intro oL es ep hL r1
  exact ret r h' tk' ⟨⟨oL, es, ep, k _ _ hL, r1⟩, fun b o e => k b o (F.keep b o e), F.above⟩ (fun q hq => ⟨k _ _ (N q hq).1, (N q hq).2⟩) k q
theorem range_mul (k wd : Nat) (hw : 0 < wd) (h : k * wd ≤ 1000) (hwz : wd ≤ 1000) : Builtin.Range.small 0 ((k * wd : Nat) : Int) (wd : Int) = true ∧ Builtin.Range.rangeSize 0 ((k * wd : Nat) : Int) (wd : Int) = (k : Int) := by
  have hs : Builtin.Range.rangeSize 0 ((k * wd : Nat) : Int) (wd : Int) = (k : Int) := by
    unfold Builtin.Range.rangeSize
    rw [if_pos (by walk_at "mine omega")]
    cases k with
    | zero => rw [if_neg (by first | walk_at "mine sub" | simp)]; rfl
    | succ k =>
      have h1 : (((k + 1) * wd : Nat) : Int) - 0 - 1 = ((wd - 1 : Nat) : Int) + (k : Int) * (wd : Int) := by
        have : (((k + 1) * wd : Nat) : Int) = (k : Int) * (wd : Int) + (wd : Int) := by rw [Nat.succ_mul]; push_cast; rfl
        walk_at "mine omega"
      rw [if_pos (by have : 0 < (k + 1) * wd := Nat.mul_pos (Nat.succ_pos _) hw; walk_at "mine omega"), h1, Int.add_mul_ediv_right _ _ (by walk_at "mine omega"), Int.ediv_eq_zero_of_lt (by walk_at "mine omega") (by walk_at "mine omega")]
      walk_at "mine omega"
  have hk : k ≤ 1000 := Nat.le_trans (Nat.le_mul_of_pos_right k hw) h
  refine ⟨?_, hs⟩
  unfold Builtin.Range.small
  rw [hs, if_pos (by walk_at "mine omega"), fitsL (by walk_at "mine omega") (by walk_at "mine omega"), fitsL (by walk_at "mine omega") (by walk_at "mine omega"), fitsL (by walk_at "mine omega") (by walk_at "mine omega"), fitsL (by walk_at "mine omega") (by walk_at "mine omega"), fitsL (by walk_at "mine omega") (by walk_at "mine omega"), Bool.or_true]
  rfl
theorem spec_swap {w : World} {p : Program} {loose : List Str} {mean : ExcName → Option Value} {mg mb : Str → Option Value} (x : List UInt8) (wd k : Nat) (t0 t1 : Tok) (hds : x.toArray.size = k * wd) (hw : 0 < wd) (hwz : wd ≤ 1000) (hz : x.toArray.size ≤ 1000) :
    SpecG w p loose mean mg mb 128 2 60 [.bytes x.toArray t0, .int (wd : Int) t1] (fun _ => True)
      (fun h h' r => ∃ t, r = .bytes (swO x.toArray wd k (Array.replicate x.toArray.size 0)) t) := by
  intro dp un cn cs ea ccd cl outer A₀ base h₀ L m s R B F XB TB D hk hpre hdp hu ret
  revert XB TB; k_fill; intro XB TB
  refine' codeC_pure (K := hd.heap_1 w.params) (binds := [(Str.ofString "data", .bytes x.toArray t0), (Str.ofString "width", .int (wd : Int) t1)]) B F XB TB D rfl rfl hk ?k6 ?k7 ?k8 ?k9 ?kB ?_ ?c2 ?c3 ?c4 ?c5
  case k6 => k_dflt k_is
  case k7 => k_dflt k_is
  case k8 => ktr_room
  case k9 => exact BindsTo.of_eq rfl
  case c5 => decide
  case kB => exact locs rfl
  case c2 => exact rfl
  case c3 => exact rfl
  case c4 => exact rfl
  intro L' h' F' N' B' X' T' D'
  clear B F
  replace F' := Fr.as F' (m' := fun y => if y = Str.ofString "data" then some (.bytes x.toArray t0) else if y = Str.ofString "width" then some (.int (wd : Int) t1) else none) (by first | exact look_rev _ rfl | (funext y; first | rfl | ((try simp only [List.reverse_cons, List.reverse_nil, List.nil_append, List.cons_append, List.lookup]); (repeat' split) <;> first | rfl | (simp_all; done) | (subst_vars; simp_all; done) | (simp_all (decide := true); done))))
  (try dsimp only)
  (try k_fold)
  generalize s.gens = gs0 at ret ⊢
  generalize s.drawn = ds0 at ret ⊢
  generalize s.os = os0 at ret ⊢
  (try generalize s.toks + _ = tk0)
  refine (let AE : Env := _; let AA : Around := Around.deeper _ AE; let QQ : Flow → Shared → Prop := _; (?kL : wpC _ AA (execs _ AE) QQ _ _))
  refine wpC_execs_cons (wpC_Assign_Name (wpC_Call_Name (wpC_of ?_)))
  walk_at "mine steps"
  refine callWithC_type rfl (wpC_of ?_)
  refine evalArgs_pos ⟨_, _, rfl⟩ ?_
  walk_at "mine steps"
  rename Fr _ _ _ _ => F1
  refine BA.call_ba rfl (by walk_at "mine omega") fun h2 tk2 hS hk2 => ?_
  have F2 := F1.keeps hk2
  have hSL := (Nat.ne_of_lt F1.ns.lt).symm
  have hS0 := next_is_new F1
  dsimp only at hS hSL hS0 ⊢
  generalize Array.size (Heap.objs _) = S at hS hSL hS0 ⊢
  have N2 : News s.heap L' h2 [(S, BA.baObj (Array.replicate x.toArray.size 0))] := fun q hq => by rw [List.mem_singleton.mp hq]; exact ⟨hS, hSL, hS0⟩
  clear N' hk2; (try clear F1)
  refine wpC_of ?_
  walk_at "mine steps"
  refine wpC_of ?_
  repeat ((fail_if_success (with_reducible show wpAny _ _ (pyIter _) _ _ _)); (first | (k_unfold; (try dsimp only)) | ((try dsimp only); walk1) | (leave1; (try dsimp only))))
  rename IsRange _ _ _ _ _ _ _ _ => hr
  rename Fr _ _ _ _ => F3
  rename News _ _ _ _ => N3
  have hkw : k * wd ≤ 1000 := hds ▸ hz
  rw [hds] at hr
  refine iter_range (n := k) rfl hr (range_mul k wd hw hkw hwz).1 (range_mul k wd hw hkw hwz).2 F3 N3
    (fun i m led => ∃ (u1 u2 : Option Value), led = [(S, BA.baObj (swO x.toArray wd i (Array.replicate x.toArray.size 0)))] ∧
      m = fun y => if y = Str.ofString "j" then u1 else if y = Str.ofString "i" then u2 else if y = Str.ofString "swapped_data" then some (Value.ref S) else if y = Str.ofString "data" then some (Value.bytes x.toArray t0) else if y = Str.ofString "width" then some (Value.int (wd : Int) t1) else none)
    ⟨none, none, rfl, by (first | (refine map2 (Str.ofString "j") (Str.ofString "i") rfl rfl ?_; intro y h0 h1; ((repeat (first | with_reducible rfl | refine Eq.trans (if_neg (by assumption)) ?_ | refine Eq.trans ?_ (if_neg (by assumption)).symm)); done)) | (funext y; by_cases h0 : y = Str.ofString "j"; (subst h0; rfl); by_cases h1 : y = Str.ofString "i"; (subst h1; rfl); simp only [if_neg h0, if_neg h1]))⟩ ?_ ?_
  · rintro i v m₁ led₁ h tk I oI hI hi hj2 hj3 hn' F6 N6 gs ds oss Qt hQt
    (try refine opg fun gG hgG => ?_); (obtain ⟨tv, rfl⟩ := hj2); (try (refine hgG ?_; clear hgG gG))
    (try refine opg fun gG hgG => ?_); (obtain ⟨u1, u2, rfl, rfl⟩ := hj3); (try (refine hgG ?_; clear hgG gG))
    (try replace F6 : Fr _ L' _ _ := F6); (try replace N6 : News _ L' _ _ := N6)
    (try (refine (let mm : Str → Option Value := _; have Fx : Fr _ L' _ mm := F6; ?_); clear F6; rename Fr _ _ _ _ => F6))
    rw [show (0 + (i : Int) * (wd : Int)) = ((i * wd : Nat) : Int) from by rw [Int.zero_add]; rfl]
    clear hr; (try clear F3); (try clear N3)
    have hI1 : @Ne Nat I S := fun e => hn' (S, _) (.head _) e.symm
    repeat ((fail_if_success (with_reducible show wpAny _ _ (pyIter _) _ _ _)); (first | (k_unfold; (try dsimp only)) | ((try dsimp only); walk1) | (leave1; (try dsimp only))))
    rename IsRange _ _ _ _ _ _ _ _ => hr
    rename Fr _ _ _ _ => F7
    rename News _ _ _ _ => N7
    have hsm := range_mul wd 1 (by walk_at "mine omega") (by walk_at "mine omega") (by walk_at "mine omega")
    rw [Nat.mul_one] at hsm
    refine iter_range (n := wd) rfl hr hsm.1 hsm.2 F7 N7
      (fun j m led => ∃ (u1 : Option Value), led = [(I, oI), (S, BA.baObj (swI x.toArray wd (i * wd) j (swO x.toArray wd i (Array.replicate x.toArray.size 0))))] ∧
        m = fun y => if y = Str.ofString "j" then u1 else if y = Str.ofString "i" then some (Value.int ((i * wd : Nat) : Int) tv) else if y = Str.ofString "swapped_data" then some (Value.ref S) else if y = Str.ofString "data" then some (Value.bytes x.toArray t0) else if y = Str.ofString "width" then some (Value.int (wd : Int) t1) else none)
      ⟨u1, rfl, by (first | (refine map2 (Str.ofString "j") (Str.ofString "i") rfl rfl ?_; intro y h0 h1; ((repeat (first | with_reducible rfl | refine Eq.trans (if_neg (by assumption)) ?_ | refine Eq.trans ?_ (if_neg (by assumption)).symm)); done)) | (funext y; by_cases h0 : y = Str.ofString "j"; (subst h0; rfl); by_cases h1 : y = Str.ofString "i"; (subst h1; rfl); simp only [if_neg h0, if_neg h1]))⟩ ?_ ?_
    · rintro j v m₁ led₁ h tk I2 oI2 hI2 hj hj4 hj5 hn2 F8 N8 gs ds oss Qt hQt
      (try refine opg fun gG hgG => ?_); (obtain ⟨tj, rfl⟩ := hj4); (try (refine hgG ?_; clear hgG gG))
      (try refine opg fun gG hgG => ?_); (obtain ⟨u1, rfl, rfl⟩ := hj5); (try (refine hgG ?_; clear hgG gG))
      (try replace F8 : Fr _ L' _ _ := F8); (try replace N8 : News _ L' _ _ := N8)
      (try (refine (let mm : Str → Option Value := _; have Fx : Fr _ L' _ mm := F8; ?_); clear F8; rename Fr _ _ _ _ => F8))
      rw [show (0 + (j : Int) * 1) = (j : Int) from by walk_at "mine omega"]
      clear hr; (try clear F7); (try clear N7); (try clear F6); (try clear N6)
      have hjw : j < wd := hj
      have hib : i * wd + wd ≤ k * wd := by rw [← Nat.succ_mul]; exact Nat.mul_le_mul_right _ hi
      have hx1 : x.length = k * wd := by rw [← hds, List.size_toArray]
      have hI2 : @Ne Nat I2 S := fun e => hn2 (S, _) (.tail _ (.head _)) e.symm
      repeat ((fail_if_success (with_reducible show wpAny _ _ (subscriptTail _ _ _ _) _ _ _)); (first | (k_unfold; (try dsimp only)) | ((try dsimp only); walk1) | (leave1; (try dsimp only))))
      rw [← Int.natCast_add]
      refine KBy.item_N (by walk_at "mine omega") (by walk_at "mine omega") (by walk_at "mine omega") ?_
      rw [Int.toNat_natCast]
      repeat ((fail_if_success (with_reducible show wpAny _ _ (setItem _ _ _) _ _ _)); (first | (k_unfold; (try dsimp only)) | ((try dsimp only); walk1) | (leave1; (try dsimp only))))
      rw [show ((i * wd : Nat) : Int) + (wd : Int) - 1 - (j : Int) = ((i * wd + wd - 1 - j : Nat) : Int) from by walk_at "mine omega"]
      rename Fr _ _ _ _ => F10
      rename News _ _ _ _ => N10
      have hS10 := N10 (S, BA.baObj (swI x.toArray wd (i * wd) j (swO x.toArray wd i (Array.replicate x.toArray.size 0)))) (by first | walk_at "mine sub" | simp)
      have hsw : (swI x.toArray wd (i * wd) j (swO x.toArray wd i (Array.replicate x.toArray.size 0))).size = k * wd := by rw [swI_size, swO_size, Array.size_replicate, hds]
      refine BA.set_ba hS10.1 (by walk_at "mine omega") (by walk_at "mine omega") (UInt8.toNat_lt _) fun h9 hS9 hk9 => ?_
      have F11 := F10.change hk9 hS10.2.1 hS10.2.2
      have hnew : (swI x.toArray wd (i * wd) j (swO x.toArray wd i (Array.replicate x.toArray.size 0))).setIfInBounds (i * wd + wd - 1 - j) (x.getD (i * wd + j) 0).toNat.toUInt8 = swI x.toArray wd (i * wd) (j + 1) (swO x.toArray wd i (Array.replicate x.toArray.size 0)) := by
        show _ = Array.setIfInBounds _ _ _
        congr 1
        simp
      rw [hnew] at hS9
      have N11 : News s.heap L' h9 [(I2, oI2), (I, oI), (S, BA.baObj (swI x.toArray wd (i * wd) (j + 1) (swO x.toArray wd i (Array.replicate x.toArray.size 0))))] := fun q hq => by
        simp only [List.mem_cons, List.not_mem_nil, or_false] at hq
        rcases hq with rfl | rfl | rfl
        · have z := N10 (I2, oI2) (by first | walk_at "mine sub" | simp); exact ⟨hk9.extBut _ _ hI2 z.1, z.2⟩
        · have z := N10 (I, oI) (by first | walk_at "mine sub" | simp); exact ⟨hk9.extBut _ _ hI1 z.1, z.2⟩
        · exact ⟨hS9, hS10.2⟩
      try dsimp only
      walk_at "mine steps"
      refine hQt _ _ ?_
      refine TurnEnd.next F11 (news_sub N11 (by first | walk_at "mine sub" | simp)) (news_sub (l' := [(I, oI), (S, BA.baObj (swI x.toArray wd (i * wd) (j + 1) (swO x.toArray wd i (Array.replicate x.toArray.size 0))))]) N11 (by first | walk_at "mine sub" | simp)) ?_ ⟨_, rfl, by (first | (refine map1 (Str.ofString "j") rfl ?_; intro y h0; ((repeat (first | with_reducible rfl | refine Eq.trans (if_neg (by assumption)) ?_ | refine Eq.trans ?_ (if_neg (by assumption)).symm)); done)) | (funext y; by_cases h0 : y = Str.ofString "j"; (subst h0; rfl); simp only [if_neg h0]))⟩
      intro q hq
      simp only [List.mem_cons, List.not_mem_nil, or_false] at hq
      rcases hq with rfl | rfl
      · exact hn2 (I, oI) (.head _)
      · exact hI2.symm
    · rintro h5 tk5 m5 led5 F9 N9 hj6
      (try refine opg fun gG hgG => ?_); (obtain ⟨u1, rfl, rfl⟩ := hj6); (try (refine hgG ?_; clear hgG gG))
      (try replace F9 : Fr _ L' _ _ := F9); (try replace N9 : News _ L' _ _ := N9)
      (try (refine (let mm : Str → Option Value := _; have Fx : Fr _ L' _ mm := F9; ?_); clear F9; rename Fr _ _ _ _ => F9))
      walk_at "mine steps"
      refine hQt _ _ ?_
      refine TurnEnd.next F9 (news_sub N9 (by first | walk_at "mine sub" | simp)) (news_sub (l' := [(S, BA.baObj (swO x.toArray wd (i + 1) (Array.replicate x.toArray.size 0)))]) N9 (by intro q hq; rw [List.mem_singleton.mp hq]; exact .tail _ (.head _))) (by intro q hq; rw [List.mem_singleton.mp hq]; exact hI1.symm) ⟨_, _, rfl, by (first | (refine map2 (Str.ofString "j") (Str.ofString "i") rfl rfl ?_; intro y h0 h1; ((repeat (first | with_reducible rfl | refine Eq.trans (if_neg (by assumption)) ?_ | refine Eq.trans ?_ (if_neg (by assumption)).symm)); done)) | (funext y; by_cases h0 : y = Str.ofString "j"; (subst h0; rfl); by_cases h1 : y = Str.ofString "i"; (subst h1; rfl); simp only [if_neg h0, if_neg h1]))⟩
  · rintro h5 tk5 m5 led5 F9 N9 hj7
    (try refine opg fun gG hgG => ?_); (obtain ⟨u1, u2, rfl, rfl⟩ := hj7); (try (refine hgG ?_; clear hgG gG))
    (try replace F9 : Fr _ L' _ _ := F9); (try replace N9 : News _ L' _ _ := N9)
    (try (refine (let mm : Str → Option Value := _; have Fx : Fr _ L' _ mm := F9; ?_); clear F9; rename Fr _ _ _ _ => F9))
    repeat ((fail_if_success (with_reducible show wpAny _ _ (PySem.call _ _) _ _ _)); (first | (k_unfold; (try dsimp only)) | ((try dsimp only); walk1) | (leave1; (try dsimp only))))
    refine BA.call_bytes_ba (N9 _ (.head _)).1 (by rw [swO_size, Array.size_replicate]; walk_at "mine omega") fun t tk => ?_
    try dsimp only
    try walk_at "mine steps"
    exact ret _ _ _ F9.keep ⟨t, rfl⟩
end Mine
end
section
theorem Mine.fresh46 : True := by w_top off; trivial
open PySem PySem.W PyProof.Rows PySem.Calls
set_option maxRecDepth 100000
set_option maxHeartbeats 8000000
namespace Mine
/-- the law itself, called by the claim's caller: a def with one name that its comprehensions read -/
theorem codeC_top1 {prog : Program} {w : World} {A : Around} {s : Shared} {K : Frag} {mg mb : Str → Option Value} {p : Program} {loose : List Str} {mean : ExcName → Option Value}
    {R : Result → Shared → Prop} {name : Str} {params : Arguments} {body : List Stmt} {scope : Scope} {dV kV doc pm cdv : Value} {o : Obj} {f : Addr} {args : Args} {binds : List (Str × Value)} {cname : Str}
    (hA : A.frames = some []) (X : K.In s.heap) (T : Top p loose mean mg mb s.heap)
    (ho : s.heap.get? f = some o) (hd' : o.data = .func { docDef name params body scope pm cdv doc with defaults := dV, kwdefaults := kV }) (hcd : s.heap.CodeRec cdv name) (hroom : A.depth < recursionLimit)
    (hbind : BindsTo s { docDef name params body scope pm cdv doc with defaults := dV, kwdefaults := kV } args binds) (hkind : (binds.all fun y => scope.names.lookup y.1 == some .local || scope.names.lookup y.1 == some .cell) = true)
    (hnd : ((cellsFrom 0 scope.names []).map (·.1)).Nodup) (hone : ∀ n, cellsFrom n scope.names [] = [(cname, n)]) (hcn : bindC (envOfC name scope 0 f cdv).kindOf binds (fun _ => none) cname = none) (hbl : ∀ n, bindL (envOfC name scope n f cdv).kindOf binds (fun _ => none) = fun y => binds.reverse.lookup y)
    (h : ∀ L' h₁ tk oc, Fr s.heap L' h₁ (fun y => binds.reverse.lookup y) → News s.heap L' h₁ [(L' + 1, oc)] → oc.data = .cell none →
      wpC (model prog w) (A.deeper (envX name scope L' f cdv [(cname, L' + 1)])) (execs body (envX name scope L' f cdv [(cname, L' + 1)]))
        (fun fl s' => R (.ok (.ret (match fl with | .ret v => v | _ => .none))) s') (fun _ _ => False)
        { s with heap := h₁, toks := tk })
    (hco : scope.isCoroutine = false) (hgen : scope.isGenerator = false) (hk : scope.kind = .function) : codeC (model prog w) A (.call (.ref f) args) R s := by
  refine codeC_call_function (fd := { docDef name params body scope pm cdv doc with defaults := dV, kwdefaults := kV }) (body := body) hroom ho hd' hco hgen rfl hcd (hbind _ _ _ _ ?_)
  refine wpAny_newFunctionEnv_cells hk (kindsX hkind _) fun env' he s' x => ?_
  subst he
  refine ⟨T.nolimit.keeps x.toInCall.keep, codeC_func ?_⟩
  obtain ⟨h₁, tk, rfl, _⟩ := x.done
  have hk₁ := x.toInCall.keep
  obtain ⟨cells, NC, Y⟩ := Cl.news (h₀ := s.heap) (Nat.le_refl _) fun n c hm => ⟨x.cell n c (lookup_of_mem_nodup (cellsFrom_names scope.names 0 (s.heap.objs.size + 1) [] [] rfl ▸ hnd) hm), x.above n c hm⟩
  have hns := x.toInCall.ns
  dsimp only [newEnv, docDef] at Y hns
  have hcl : cellsFrom (s.heap.objs.size + 1) scope.names [] = [(cname, s.heap.objs.size + 1)] := hone _
  rw [hcl] at Y
  obtain ⟨oc, rfl, hoc⟩ := Y.one
  have hm := h s.heap.objs.size h₁ tk oc ⟨(hbl s.heap.objs.size) ▸ hns, fun b o e => hk₁ b o e, Nat.le_refl _⟩ NC (hoc.trans (congrArg Data.cell hcn))
  show wpC (model prog w) (A.deeper (newEnv scope s.heap.objs.size mainGlobals (cellsFrom (s.heap.objs.size + 1) scope.names []) (name ++ ".<locals>.") (some f) cdv none builtinsNs)) (execs body (newEnv scope s.heap.objs.size mainGlobals (cellsFrom (s.heap.objs.size + 1) scope.names []) (name ++ ".<locals>.") (some f) cdv none builtinsNs)) _ _ _
  rw [hcl]
  exact hm
end Mine
namespace Mine
theorem wpC_spliced_cons {M : Model} {A : Around} {E : Value → Shared → Prop} {s : Shared} {x : Sem Value} {rest : List (Bool × Sem Value)} {Q : List Value → Shared → Prop}
    (h : wpC M A x (fun v s₁ => wpC M A (spliced rest) (fun vs s₂ => Q (v :: vs) s₂) E s₁) E s) : wpC M A (spliced ((false, x) :: rest)) Q E s := by
  show wpC M A (x >>= fun v => (pure [v] : Sem (List Value)) >>= fun here => holding here (spliced rest) >>= fun r => pure (here ++ r)) Q E s
  refine wpC_bind (wpC_mono h (fun v s₁ h₁ => ?_) fun _ _ x => x)
  refine wpC_bind (wpC_pure ?_)
  exact wpC_bind (wpC_holding (wpC_mono h₁ (fun vs s₂ h₂ => wpC_pure h₂) fun _ _ x => x))
theorem wpC_items_call {M : Model} {A : Around} {E : Value → Shared → Prop} {s : Shared} {env : Env} {pos p : Pos} {f : Expr} {args : List Expr} {kw : List Keyword} {rest : List Expr} {Q : List Value → Shared → Prop}
    (h : wpC M A (eval (.Call f args kw p) env) (fun v s₁ => wpC M A (spliced (backTo pos (starEach rest env))) (fun vs s₂ => Q (v :: vs) s₂) E s₁) E s) : wpC M A (spliced (backTo pos (starEach (.Call f args kw p :: rest) env))) Q E s := by
  show wpC M A (spliced ((false, eval (.Call f args kw p) env) :: backTo pos (starEach rest env))) Q E s
  exact wpC_spliced_cons h
theorem wpC_items_nil {M : Model} {A : Around} {E : Value → Shared → Prop} {s : Shared} {env : Env} {pos : Pos} {Q : List Value → Shared → Prop} (h : Q [] s) : wpC M A (spliced (backTo pos (starEach [] env))) Q E s := wpC_pure h
end Mine
end
section
theorem Mine.fresh47 : True := by w_top off; trivial
open PySem PySem.W PyProof.Rows PySem.Calls
set_option maxRecDepth 100000
set_option maxHeartbeats 8000000
namespace Mine
/-- the counts of a number's record, in the order in which it is written -/
noncomputable def preC : Nat → Nat → List Nat
  | 0, _ => []
  | f + 1, k => cnt (tabOf k) :: (rep (tabOf k)).flatMap (preC f)
noncomputable def countsOf (n : Nat) : List Nat := (rep (tabOf n)).flatMap (preC 127)
noncomputable def lineA (n1 n2 : Nat) (dl : Option Nat) : List Nat := dl.getD n1 :: (countsOf n1 ++ countsOf n2)
noncomputable def lineB (n1 n2 : Nat) : List Nat := n1 :: (countsOf n2 ++ countsOf n1)
theorem rep_mem {n k : Nat} (hn : n < 128) (h : k ∈ rep (tabOf n)) : 1 ≤ k ∧ k < n := by
  have hp1 := numOk_spec hn
  refine p0_5 ?_ hp1
  (try clear hp1)
  intro _ h2 _ _ _
  unfold rep at h
  obtain ⟨q, hq, hk⟩ := List.mem_flatMap.mp h
  obtain ⟨_, rfl⟩ := List.mem_replicate.mp hk
  exact ⟨(h2 q hq).2.2, (h2 q hq).1⟩
theorem cnt_le {n : Nat} (hn : n < 128) : cnt (tabOf n) ≤ 6 := (numOk_spec hn).2.2.1
theorem rep_le {n : Nat} (hn : n < 128) : (rep (tabOf n)).length ≤ 6 := by rw [rep_length]; exact cnt_le hn
theorem rep_ne {n : Nat} (h2 : 2 ≤ n) (hn : n < 128) : rep (tabOf n) ≠ [] := by
  have : ∀ n : Fin 128, 2 ≤ n.val → (rep (tabOf n.val)).isEmpty = false := by decide +kernel
  intro e
  have := this ⟨n, hn⟩ h2
  simp only [e, List.isEmpty_nil] at this
  cases this
noncomputable abbrev cz (x : Str) : List Nat := x.cps.toList
theorem str_ext {x y : Str} (h : cz x = cz y) : x = y := by
  obtain ⟨a⟩ := x; obtain ⟨b⟩ := y
  exact congrArg Str.mk (Array.toList_inj.mp h)
noncomputable def NL (rows : List Str) : List Nat := rows.flatMap fun r => 10 :: cz r
theorem NL_app (a b : List Str) : NL (a ++ b) = NL a ++ NL b := List.flatMap_append ..
theorem cz_app (x y : Str) : cz (x ++ y) = cz x ++ cz y := by
  show (x.cps ++ y.cps).toList = _
  rw [Array.toList_append]
theorem nl_cz : (Str.ofString "\n").cps.toList = [10] := by decide +kernel
theorem cons10 {a b : List Nat} (h : 10 :: a = 10 :: b) : a = b := (List.cons.inj h).2
theorem glued_foldl (xs : List Str) : ∀ acc : Array Nat, (xs.foldl (fun acc (p : Str) => acc ++ (Str.ofString "\n").cps ++ p.cps) acc).toList = acc.toList ++ NL xs := by
  induction xs with
  | nil => intro acc; simp [NL]
  | cons x xs ih =>
    intro acc
    rw [List.foldl_cons, ih, Array.toList_append, Array.toList_append, nl_cz]
    show _ = _ ++ (10 :: cz x ++ NL xs)
    simp
theorem glued_cz (x : Str) (xs : List Str) : 10 :: cz (PySem.Builtin.Str.glued (Str.ofString "\n") (x :: xs)) = NL (x :: xs) := by
  show 10 :: (xs.foldl (fun acc (p : Str) => acc ++ (Str.ofString "\n").cps ++ p.cps) x.cps).toList = _
  rw [glued_foldl]
  rfl
theorem glued_nl {rows : List Str} (h : rows ≠ []) : 10 :: cz (PySem.Builtin.Str.glued (Str.ofString "\n") rows) = NL rows := by
  cases rows with
  | nil => exact absurd rfl h
  | cons x xs => exact glued_cz x xs
theorem strRs_map {α : Type} (g : α → Rec) (l : List α) : strRs (l.map g) = l.map fun a => strR (g a) := by
  induction l with
  | nil => rfl
  | cons a l ih => rw [List.map_cons, strRs, ih, List.map_cons]
theorem NL_flat {α : Type} (g : α → Str) (h : α → List Str) (l : List α) (e : ∀ a ∈ l, 10 :: cz (g a) = NL (h a)) : NL (l.map g) = NL (l.flatMap h) := by
  induction l with
  | nil => rfl
  | cons a l ih =>
    rw [List.map_cons, List.flatMap_cons, NL_app, ← ih fun b hb => e b (.tail _ hb), ← e a (.head _)]
    rfl
theorem flat_flat (look : Nat) (f : Nat → List Nat) (l : List Nat) : (l.flatMap f).flatMap (rowW look) = l.flatMap fun k => (f k).flatMap (rowW look) := by
  rw [List.flatMap_assoc]
/-- what a number's own record writes: its counts' rows -/
theorem str_recOf (look : Nat) : ∀ (f g k : Nat), 1 ≤ k → k ≤ f → k ≤ g → k < 128 → 10 :: cz (strR (recOf f k [nameOf k look] look)) = NL ((preC g k).flatMap (rowW look))
  | 0, _, k, h1, h2, _, _ => by (first | lia | omega)
  | f + 1, 0, k, h1, _, h3, _ => by (first | lia | omega)
  | f + 1, g + 1, k, h1, h2, h3, h4 => by
    rw [recOf, preC, strR, List.flatMap_cons, NL_app, flat_flat]
    simp only [List.isEmpty_cons, Bool.false_eq_true, if_false, List.map_cons, List.map_nil, delRows, List.append_nil]
    by_cases hr : rep (tabOf k) = []
    · have hc : cnt (tabOf k) = 0 := by rw [← rep_length, hr]; rfl
      rw [hr]
      simp only [List.map_nil, List.isEmpty_nil, if_true, List.flatMap_nil]
      rw [show ([Str.ofString "User-agent: " ++ nameOf k look] ++ [Str.ofString "Allow:"] : List Str) = rowW look (cnt (tabOf k)) by unfold rowW nameOf; rw [if_pos hc]; rfl]
      rw [glued_nl (by unfold rowW; exact List.cons_ne_nil _ _)]
      simp [NL]
    · have hc : cnt (tabOf k) ≠ 0 := fun e => hr (List.length_eq_zero_iff.mp (by rw [rep_length, e]))
      have hm : ((rep (tabOf k)).map fun k' => recOf f k' [nameOf k' look] look).isEmpty = false := by
        cases q : rep (tabOf k) with
        | nil => exact absurd q hr
        | cons a b => rfl
      rw [hm]
      simp only [Bool.false_eq_true, if_false]
      rw [strRs_map, show ([Str.ofString "User-agent: " ++ nameOf k look] : List Str) = rowW look (cnt (tabOf k)) by unfold rowW nameOf; rw [if_neg hc]]
      rw [glued_nl (by unfold rowW; intro e; cases e), NL_app]
      congr 1
      exact NL_flat _ _ _ fun k' hk' => by
        obtain ⟨b1, b2⟩ := rep_mem h4 hk'
        exact str_recOf look f g k' b1 (by (first | lia | omega)) (by (first | lia | omega)) (by (first | lia | omega))
theorem str_top (look : Nat) {n1 n2 d : Nat} {ags : List Str} (ha : ags ≠ []) (h1 : 2 ≤ n1 ∧ n1 < 128) (h2 : n2 < 128) :
    strR (.mk ags (some d) (((rep (tabOf n1)).map fun k => recOf 127 k [nameOf k look] look) ++ ((rep (tabOf n2)).map fun k => recOf 127 k [nameOf k look] look))) = PySem.Builtin.Str.glued (Str.ofString "\n") (rowsW ags d look (countsOf n1 ++ countsOf n2)) := by
  refine str_ext (cons10 ?_)
  have hag : ags.isEmpty = false := by cases ags with | nil => exact absurd rfl ha | cons _ _ => rfl
  have hne := rep_ne h1.1 h1.2
  rw [glued_nl (by unfold rowsW; cases ags with | nil => exact absurd rfl ha | cons _ _ => intro e; cases e), strR, hag]
  simp only [Bool.false_eq_true, if_false]
  have hm : (((rep (tabOf n1)).map fun k => recOf 127 k [nameOf k look] look) ++ ((rep (tabOf n2)).map fun k => recOf 127 k [nameOf k look] look)).isEmpty = false := by
    cases q : rep (tabOf n1) with
    | nil => exact absurd q hne
    | cons a b => rfl
  rw [hm, ← List.map_append, strRs_map]
  simp only [Bool.false_eq_true, if_false]
  rw [glued_nl (by cases ags with | nil => exact absurd rfl ha | cons _ _ => intro e; cases e)]
  unfold rowsW delRows
  rw [NL_app, NL_app (_ ++ _) (List.flatMap _ _)]
  congr 1
  · unfold countsOf
    rw [← List.flatMap_append, flat_flat]
    refine NL_flat _ _ _ fun k hk => ?_
    rcases List.mem_append.mp hk with hk | hk
    · obtain ⟨b1, b2⟩ := rep_mem h1.2 hk
      exact str_recOf look 127 127 k b1 (by (first | lia | omega)) (by (first | lia | omega)) (by (first | lia | omega))
    · obtain ⟨b1, b2⟩ := rep_mem h2 hk
      exact str_recOf look 127 127 k b1 (by (first | lia | omega)) (by (first | lia | omega)) (by (first | lia | omega))
noncomputable abbrev agA : List Str := [Str.ofString "*", Str.ofString "root", Str.ofString "one", Str.ofString "root"]
noncomputable abbrev agB : List Str := [Str.ofString "two", Str.ofString "root", Str.ofString "*"]
theorem filtA : (agA.filter fun a => agB.contains a) = [Str.ofString "*", Str.ofString "root", Str.ofString "root"] := by decide +kernel
theorem filtB : (agB.filter fun a => agA.contains a) = [Str.ofString "root", Str.ofString "*"] := by decide +kernel
noncomputable abbrev recAh (n1 n2 look : Nat) (dl : Option Nat) : Rec := mergeR (topOf n1 agA (some n1) look) (topOf n2 agB dl look)
noncomputable abbrev recBe (n1 n2 look : Nat) (dl : Option Nat) : Rec := mergeR (topOf n2 agB dl look) (topOf n1 agA (some n1) look)
theorem recAh_eq (n1 n2 look : Nat) (dl : Option Nat) : recAh n1 n2 look dl = .mk [Str.ofString "*", Str.ofString "root", Str.ofString "root"] (some (dl.getD n1)) (((rep (tabOf n1)).map fun k => recOf 127 k [nameOf k look] look) ++ ((rep (tabOf n2)).map fun k => recOf 127 k [nameOf k look] look)) := by
  rw [← filtA]; cases dl <;> rfl
theorem recBe_eq (n1 n2 look : Nat) (dl : Option Nat) : recBe n1 n2 look dl = .mk [Str.ofString "root", Str.ofString "*"] (some n1) (((rep (tabOf n2)).map fun k => recOf 127 k [nameOf k look] look) ++ ((rep (tabOf n1)).map fun k => recOf 127 k [nameOf k look] look)) := by
  rw [← filtB]; rfl
theorem str_ahead {n1 n2 look : Nat} {dl : Option Nat} (h1 : 2 ≤ n1 ∧ n1 < 128) (h2 : 2 ≤ n2 ∧ n2 < 128) : strR (recAh n1 n2 look dl) = PySem.Builtin.Str.glued (Str.ofString "\n") (rowsW [Str.ofString "*", Str.ofString "root", Str.ofString "root"] (dl.getD n1) look (countsOf n1 ++ countsOf n2)) := by
  rw [recAh_eq]; exact str_top look (by intro e; cases e) h1 h2.2
theorem str_behind {n1 n2 look : Nat} {dl : Option Nat} (h1 : 2 ≤ n1 ∧ n1 < 128) (h2 : 2 ≤ n2 ∧ n2 < 128) : strR (recBe n1 n2 look dl) = PySem.Builtin.Str.glued (Str.ofString "\n") (rowsW [Str.ofString "root", Str.ofString "*"] n1 look (countsOf n2 ++ countsOf n1)) := by
  rw [recBe_eq]; exact str_top look (by intro e; cases e) h2 h1.2
end Mine
end
section
theorem Mine.fresh48 : True := by w_top off; trivial
open PySem PySem.W PyProof.Rows PySem.Calls
set_option maxRecDepth 100000
set_option maxHeartbeats 8000000
namespace Mine
theorem preC_len : ∀ n : Fin 128, ((preC 127 n.val).length ≤ 13) := by decide +kernel
theorem countsOf_len {n : Nat} (h : n < 128) : (countsOf n).length ≤ 80 := by
  unfold countsOf
  have : ∀ l : List Nat, (∀ k ∈ l, k < 128) → (l.flatMap (preC 127)).length ≤ 13 * l.length := by
    intro l
    induction l with
    | nil => intro _; exact Nat.le_refl _
    | cons k l ih =>
      intro hl
      have h1 := preC_len ⟨k, hl k (.head _)⟩
      have h2 := ih fun x hx => hl x (.tail _ hx)
      rw [List.flatMap_cons, List.length_append, List.length_cons]
      simp only at h1
      (first | lia | omega)
  have h1 := this _ fun k hk => Nat.lt_trans (rep_mem h hk).2 h
  have h2 := rep_le h
  (first | lia | omega)
theorem preC_le : ∀ (f k : Nat), k < 128 → ∀ c ∈ preC f k, c ≤ 6
  | 0, _, _, c, hc => by cases hc
  | f + 1, k, hk, c, hc => by
    rw [preC] at hc
    rcases List.mem_cons.mp hc with rfl | hc
    · exact cnt_le hk
    · obtain ⟨k', hk', hc⟩ := List.mem_flatMap.mp hc
      exact preC_le f k' (Nat.lt_trans (rep_mem hk hk').2 hk) c hc
theorem countsOf_le {n : Nat} (hn : n < 128) : ∀ c ∈ countsOf n, c ≤ 6 := fun c hc => by
  obtain ⟨k', hk', hc⟩ := List.mem_flatMap.mp hc
  exact preC_le 127 k' (Nat.lt_trans (rep_mem hn hk').2 hn) c hc
theorem countsOf_ne {n : Nat} (h2 : 2 ≤ n) (hn : n < 128) : countsOf n ≠ [] := by
  have h := rep_ne h2 hn
  unfold countsOf
  cases q : rep (tabOf n) with
  | nil => exact absurd q h
  | cons a b => rw [List.flatMap_cons, show preC 127 a = cnt (tabOf a) :: (rep (tabOf a)).flatMap (preC 126) from rfl]; exact fun e => by cases e
theorem name_len : ∀ (look : Fin 8) (c : Fin 7), (fssS (whereS look.val) (nameS look.val) (11 * c.val)).length ≤ 30 := by decide +kernel
theorem nameOf_len {k look : Nat} (hk : k < 128) (hl : look < 8) : (nameOf k look).length ≤ 30 :=
  name_len ⟨look, hl⟩ ⟨cnt (tabOf k), Nat.lt_succ_of_le (cnt_le hk)⟩
theorem okRs_map {α : Type} (g : α → Rec) (l : List α) (h : ∀ a ∈ l, okR (g a) = true) : okRs (l.map g) = true := by
  induction l with
  | nil => rfl
  | cons a l ih => rw [List.map_cons, okRs, h a (.head _), ih fun b hb => h b (.tail _ hb)]; rfl
theorem okRs_app (a b : List Rec) (ha : okRs a = true) (hb : okRs b = true) : okRs (a ++ b) = true := by
  induction a with
  | nil => exact hb
  | cons r rs ih => rw [okRs, Bool.and_eq_true] at ha; rw [List.cons_append, okRs, ha.1, ih ha.2]; rfl
theorem ok_recOf {look : Nat} (hl : look < 8) : ∀ (f k : Nat), k < 128 → okR (recOf f k [nameOf k look] look) = true
  | 0, k, hk => by
    have := nameOf_len hk hl
    simp [recOf, okR, okRs, this]
  | f + 1, k, hk => by
    have h1 := nameOf_len hk hl
    have h2 := rep_le hk
    have h3 : okRs ((rep (tabOf k)).map fun k' => recOf f k' [nameOf k' look] look) = true := okRs_map _ _ fun k' hk' => ok_recOf hl f k' (Nat.lt_trans (rep_mem hk hk').2 hk)
    rw [recOf, okR, h3]
    simp [h1]
    (first | lia | omega)
theorem hRs_map {α : Type} (g : α → Rec) (b : Nat) (l : List α) (h : ∀ a ∈ l, hR (g a) ≤ b) : hRs (l.map g) ≤ b := by
  induction l with
  | nil => exact Nat.zero_le _
  | cons a l ih => rw [List.map_cons, hRs]; exact Nat.max_le.mpr ⟨h a (.head _), ih fun b hb => h b (.tail _ hb)⟩
theorem hRs_app (a b : List Rec) (n : Nat) (ha : hRs a ≤ n) (hb : hRs b ≤ n) : hRs (a ++ b) ≤ n := by
  induction a with
  | nil => exact hb
  | cons r rs ih => rw [hRs] at ha; rw [List.cons_append, hRs]; have := Nat.max_le.mp ha; exact Nat.max_le.mpr ⟨this.1, ih this.2⟩
theorem h_recOf {look : Nat} : ∀ (f k : Nat) (ags : List Str), hR (recOf f k ags look) ≤ f + 1
  | 0, k, _ => by rw [recOf, hR, hRs]; (first | lia | omega)
  | f + 1, k, _ => by
    rw [recOf, hR]
    have := hRs_map (fun k' => recOf f k' [nameOf k' look] look) (f + 1) (rep (tabOf k)) fun k' _ => h_recOf f k' _
    (first | lia | omega)
theorem wtRs_app (a b : List Rec) : wtRs (a ++ b) = wtRs a + wtRs b := by
  induction a with
  | nil => rw [List.nil_append, wtRs]; (first | lia | omega)
  | cons r rs ih => rw [List.cons_append, wtRs, wtRs, ih]; (first | lia | omega)
theorem wt_recOf {look : Nat} (hl : look < 8) : ∀ (f k : Nat), k < 128 → wtR (recOf f k [nameOf k look] look) + 1 ≤ 100 * (preC (f + 1) k).length
  | 0, k, hk => by
    have := nameOf_len hk hl
    rw [recOf, wtR, wtRs, preC]
    simp only [List.map_cons, List.map_nil, List.sum_cons, List.sum_nil, List.length_cons]
    (first | lia | omega)
  | f + 1, k, hk => by
    have h1 := nameOf_len hk hl
    rw [recOf, wtR, preC]
    simp only [List.map_cons, List.map_nil, List.sum_cons, List.sum_nil, List.length_cons]
    have : ∀ l : List Nat, (∀ k' ∈ l, k' < 128) → wtRs (l.map fun k' => recOf f k' [nameOf k' look] look) ≤ 100 * (l.flatMap (preC (f + 1))).length := by
      intro l
      induction l with
      | nil => intro _; rw [List.map_nil, wtRs]; exact Nat.zero_le _
      | cons a l ih =>
        intro h
        rw [List.map_cons, wtRs, List.flatMap_cons, List.length_append]
        have := wt_recOf hl f a (h a (.head _))
        have := ih fun x hx => h x (.tail _ hx)
        (first | lia | omega)
    have := this (rep (tabOf k)) fun k' hk' => Nat.lt_trans (rep_mem hk hk').2 hk
    (first | lia | omega)
theorem preC_len' : ∀ n : Fin 128, ((preC 128 n.val).length ≤ 13) := by decide +kernel
theorem wt_rules {look n : Nat} (hl : look < 8) (hn : n < 128) : wtRs ((rep (tabOf n)).map fun k => recOf 127 k [nameOf k look] look) ≤ 8000 := by
  have : ∀ l : List Nat, (∀ k' ∈ l, k' < 128) → wtRs (l.map fun k' => recOf 127 k' [nameOf k' look] look) ≤ 1300 * l.length := by
    intro l
    induction l with
    | nil => intro _; rw [List.map_nil, wtRs]; exact Nat.zero_le _
    | cons a l ih =>
      intro h
      rw [List.map_cons, wtRs, List.length_cons]
      have h1 := wt_recOf hl 127 a (h a (.head _))
      have h2 := preC_len' ⟨a, h a (.head _)⟩
      have h3 := ih fun x hx => h x (.tail _ hx)
      simp only at h2
      rw [show 127 + 1 = 128 from rfl] at h1
      (first | lia | omega)
  have h1 := this _ fun k hk => Nat.lt_trans (rep_mem hn hk).2 hn
  have h2 := rep_le hn
  (first | lia | omega)
/-- the three bounds of a merged record -/
theorem bounds {look n1 n2 d : Nat} {ags : List Str} (hl : look < 8) (h1 : n1 < 128) (h2 : n2 < 128) (hd : d < 128) (ha : ags.length ≤ 4) (ha4 : ∀ a ∈ ags, a.length ≤ 4) :
    let r : Rec := .mk ags (some d) (((rep (tabOf n1)).map fun k => recOf 127 k [nameOf k look] look) ++ ((rep (tabOf n2)).map fun k => recOf 127 k [nameOf k look] look))
    hR r ≤ 190 ∧ okR r = true ∧ wtR r ≤ 100000 := by
  refine ⟨?_, ?_, ?_⟩
  · rw [hR]
    have := hRs_app _ _ 128 (hRs_map (fun k => recOf 127 k [nameOf k look] look) 128 (rep (tabOf n1)) fun k _ => h_recOf 127 k _) (hRs_map (fun k => recOf 127 k [nameOf k look] look) 128 (rep (tabOf n2)) fun k _ => h_recOf 127 k _)
    (first | lia | omega)
  · have b1 := rep_le h1
    have b2 := rep_le h2
    rw [okR, okRs_app _ _ (okRs_map _ _ fun k hk => ok_recOf hl 127 k (Nat.lt_trans (rep_mem h1 hk).2 h1)) (okRs_map _ _ fun k hk => ok_recOf hl 127 k (Nat.lt_trans (rep_mem h2 hk).2 h2))]
    have e1 : (ags.all fun a => decide (a.length ≤ 30)) = true := List.all_eq_true.mpr fun a h => decide_eq_true (Nat.le_trans (ha4 a h) (by decide))
    rw [e1]
    simp
    (first | lia | omega)
  · have c1 := wt_rules hl h1
    have c2 := wt_rules hl h2
    rw [wtR, wtRs_app]
    have : (ags.map fun a => a.length + 14).sum ≤ 18 * ags.length := by
      clear ha
      induction ags with
      | nil => exact Nat.le_refl _
      | cons a as ih =>
        have := ha4 a (.head _)
        have := ih fun x hx => ha4 x (.tail _ hx)
        rw [List.map_cons, List.sum_cons, List.length_cons]; (first | lia | omega)
    (first | lia | omega)
end Mine
end
section
theorem Mine.fresh49 : True := by w_top off; trivial
open PySem PySem.W PyProof.Rows PySem.Calls
set_option maxRecDepth 100000
set_option maxHeartbeats 8000000
namespace Mine
/-- what _law_line's contract asks of a record -/
noncomputable def LineOk (rec : Rec) (ns : List Nat) : Prop := hR rec ≤ 190 ∧ okR rec = true ∧ wtR rec ≤ 100000 ∧ ∃ (items : List (List Nat × List Nat)) (last : List Nat) (ks : List (Option Pc)), ks.length ≤ 1000 ∧ (strR rec).cps.toList = ren items last ∧ okIt items last ∧ PartsK (partsOf items last) ks ∧
  Txt.join (Str.ofString "") ((ks.filterMap id).map pcText) = Txt.replace (strR rec) (Str.ofString "-") (Str.ofString "") ∧ (((ks.filterMap id).map pcText).map (·.length)).sum ≤ 1000000 ∧ lineF [] (ks.filterMap id) = ns
noncomputable abbrev It := List Nat × List Nat
noncomputable def LC (s : String) : List Nat := (Str.ofString s).cps.toList
noncomputable def dig (n : Nat) : List Nat := (Str.ofString (toString (n : Int))).cps.toList
noncomputable def pend (look c : Nat) : List Nat := if c = 7 then [] else if look % 2 = 0 && c = 0 then LC "agent: " ++ cz (fssS (whereS look) (nameS look) 0) ++ LC "\nAllow:" else LC "(" ++ cz (nameS look) ++ LC ")" ++ (if c = 0 then LC "\nAllow:" else [])
noncomputable def rIt (look c' c : Nat) : List It := (pend look c' ++ LC "\nUser", [45]) :: if look % 2 = 0 && c = 0 then [] else [(LC "agent: " ++ cz (whereS look) ++ [58], dig (11 * c))]
noncomputable def rK (look c' c : Nat) : List (Option Pc) := some (.txt (stN (pend look c' ++ LC "\nUser"))) :: none :: if look % 2 = 0 && c = 0 then [] else [some (.txt (stN (LC "agent: " ++ cz (whereS look) ++ [58]))), some (.num (11 * c))]
noncomputable def mIt (look : Nat) : Nat → List Nat → List It
  | _, [] => []
  | c', c :: r => rIt look c' c ++ mIt look c r
noncomputable def mK (look : Nat) : Nat → List Nat → List (Option Pc)
  | _, [] => []
  | c', c :: r => rK look c' c ++ mK look c r
noncomputable def lst : Nat → List Nat → Nat
  | c', [] => c'
  | _, c :: r => lst c r
noncomputable def pcOk (x : List Nat) : Option Pc → Bool
  | none => x == [] || x == [45]
  | some (.num n) => x == dig n && decide (n < 1000000)
  | some (.txt y) => y == stN x && x.all (fun c => decide (c < 128) && c != 0 && !tokB c) && x != [] && decide (x.length ≤ 600) && !(stageKeys.contains y)
theorem pcOk_spec {x : List Nat} {k : Option Pc} (h : pcOk x k = true) : PartK (stN x) k := by
  match k with
  | none =>
    refine .none _ ?_
    rcases Bool.or_eq_true_iff.mp h with h | h
    · exact .inl ((congrArg stN (eq_of_beq h)).trans (by decide +kernel))
    · exact .inr ((congrArg stN (eq_of_beq h)).trans (by decide +kernel))
  | some (.num n) =>
    obtain ⟨h1, h2⟩ := Bool.and_eq_true_iff.mp h
    have e : stN x = Str.ofString (toString (n : Int)) := str_ext (by rw [eq_of_beq h1]; show (dig n).toArray.toList = _; rw [List.toList_toArray]; rfl)
    rw [e]
    exact .num n (of_decide_eq_true h2)
  | some (.txt y) =>
    simp only [pcOk, Bool.and_eq_true] at h
    obtain ⟨⟨⟨⟨h1, h2⟩, h3⟩, h4⟩, h5⟩ := h
    obtain rfl := eq_of_beq h1
    refine .txt _ (fun c hc => ?_) ?_ ?_ ?_
    · have hc' : c ∈ x := by simpa [stN] using hc
      have := List.all_eq_true.mp h2 c hc'
      simp only [Bool.and_eq_true, decide_eq_true_eq, Bool.not_eq_true', bne_iff_ne] at this
      exact ⟨this.1.1, this.1.2, this.2⟩
    · simpa [stN] using h3
    · have := of_decide_eq_true h4
      simpa [stN, Str.length] using this
    · intro hm
      rw [Bool.not_eq_true', ← Bool.not_eq_true] at h5
      exact h5 (List.contains_iff_mem.mpr hm)
theorem PartsK.app {xs ys : List Str} {ks js : List (Option Pc)} (h : PartsK xs ks) (h' : PartsK ys js) : PartsK (xs ++ ys) (ks ++ js) := by
  induction h with
  | nil => exact h'
  | cons a b ih => exact .cons a ih
/-- items and their kinds, checked -/
noncomputable def itOk : List It → List (Option Pc) → Bool
  | [], [] => true
  | q :: r, k1 :: k2 :: ks => pcOk q.1 k1 && pcOk q.2 k2 && itOk r ks
  | _, _ => false
noncomputable abbrev pOf (it : List It) : List Str := it.flatMap fun q => [stN q.1, stN q.2]
theorem itOk_spec : ∀ {it : List It} {ks : List (Option Pc)}, itOk it ks = true → PartsK (pOf it) ks
  | [], [], _ => .nil
  | q :: r, k1 :: k2 :: ks, h => by
    simp only [itOk, Bool.and_eq_true] at h
    exact .cons (pcOk_spec h.1.1) (.cons (pcOk_spec h.1.2) (itOk_spec h.2))
  | [], _ :: _, h => by cases h
  | _ :: _, [], h => by cases h
  | _ :: _, [_], h => by cases h
/-- the token after each piece: a hyphen, or digits ahead of a sign that is none -/
noncomputable def tkOk (tk rest : List Nat) : Bool := (tk == [45]) || (tk != [] && tk.all digB && (match rest.head? with | none => true | some c => !digB c))
theorem tkOk_spec {tk rest : List Nat} (h : tkOk tk rest = true) : IsTk tk rest := by
  rcases Bool.or_eq_true_iff.mp h with h | h
  · exact .inr ⟨45, eq_of_beq h, by decide +kernel⟩
  · simp only [Bool.and_eq_true] at h
    refine .inl ⟨by simpa using h.1.1, fun c hc => List.all_eq_true.mp h.1.2 c hc, fun c hc => ?_⟩
    have := h.2
    rw [hc] at this
    simpa using this
noncomputable abbrev oIt (it : List It) : List Nat := it.flatMap fun q => q.1 ++ q.2
theorem ren_eq (it : List It) (last : List Nat) : ren it last = oIt it ++ last := rfl
theorem ren_app (a b : List It) (last : List Nat) : ren (a ++ b) last = oIt a ++ ren b last := by
  rw [ren_eq, ren_eq, ← List.append_assoc, ← List.flatMap_append]
/-- items ahead of a rest whose head is known -/
noncomputable def okHd (hd : Option Nat) : List It → Bool
  | [] => true
  | q :: r => q.1.all (fun c => !tokB c) && ((q.2 == [45]) || (q.2 != [] && q.2.all digB && (match (oIt r).head?.or hd with | none => true | some c => !digB c))) && okHd hd r
theorem okHd_spec {b : List It} {last : List Nat} (hb : okIt b last) : ∀ {a : List It}, okHd (ren b last).head? a = true → okIt (a ++ b) last
  | [], _ => hb
  | q :: r, h => by
    simp only [okHd, Bool.and_eq_true] at h
    refine ⟨fun c hc => by have := List.all_eq_true.mp h.1.1 c hc; simpa using this, tkOk_spec ?_, okHd_spec hb h.2⟩
    unfold tkOk
    have e : ren (r.append b) last = oIt r ++ ren b last := ren_app r b last
    rw [e, List.head?_append]
    exact h.1.2
noncomputable def adds : Pc → List Nat
  | .txt x => List.replicate (PySem.Builtin.Str.occurrences x (Str.ofString "Allow:") 0 x.length (x.length + 1)).length 0
  | .num n => if 0 < n then [n / 11] else []
theorem lineF_adds (ps : List Pc) : ∀ l : List Nat, l ≠ [] → lineF l ps = l ++ ps.flatMap adds := by
  induction ps with
  | nil => intro l _; exact (List.append_nil l).symm
  | cons p ps ih =>
    intro l hl
    have e : lineS l p = l ++ adds p := by
      cases p with
      | txt x => rfl
      | num n => show (if l = [] then [n] else if 0 < n then l ++ [n / 11] else l) = l ++ (if 0 < n then [n / 11] else []); rw [if_neg hl]; by_cases h : 0 < n <;> simp [h]
    show lineF (lineS l p) ps = _
    rw [e, ih _ (by intro h; exact hl (List.append_eq_nil_iff.mp h).1), List.flatMap_cons, List.append_assoc]
noncomputable abbrev tx (ks : List (Option Pc)) : List Nat := (ks.filterMap id).flatMap fun p => cz (pcText p)
noncomputable abbrev nohy (l : List Nat) : List Nat := l.filter (· != 45)
/-- all that is asked of one row, its count and what stands ahead of it -/
noncomputable def rowOk (look c' c : Nat) : Bool :=
  itOk (rIt look c' c) (rK look c' c) && okHd (pend look c).head? (rIt look c' c) && okHd (some 10) (rIt look c' c)
  && (oIt (rIt look c' c) ++ pend look c == pend look c' ++ NL (rowW look c)) && (tx (rK look c' c) == nohy (oIt (rIt look c' c)))
  && (((rK look c' c).filterMap id).flatMap adds == (if c' = 0 then [0] else []) ++ (if c = 0 then [] else [c]))
theorem rowOk_all : ∀ (look : Fin 8) (c' : Fin 8) (c : Fin 7), rowOk look.val c'.val c.val = true := by decide +kernel
/-- and of the end -/
noncomputable def endK (look c : Nat) : Option Pc := if c = 7 then none else some (.txt (stN (pend look c)))
noncomputable def endOk (look c : Nat) : Bool := pcOk (pend look c) (endK look c) && (pend look c).all (fun x => !tokB x) && (tx [endK look c] == nohy (pend look c)) && (([endK look c].filterMap id).flatMap adds == if c = 0 then [0] else [])
theorem endOk_all : ∀ (look : Fin 8) (c : Fin 8), endOk look.val c.val = true := by decide +kernel
theorem pend_head : ∀ (look : Fin 8) (c : Fin 7), (pend look.val c.val).head?.isSome = true := by decide +kernel
theorem NL_flat1 (look : Nat) (c : Nat) (r : List Nat) : NL ((c :: r).flatMap (rowW look)) = NL (rowW look c) ++ NL (r.flatMap (rowW look)) := by rw [List.flatMap_cons, NL_app]
theorem tx_app (a b : List (Option Pc)) : tx (a ++ b) = tx a ++ tx b := by unfold tx; rw [List.filterMap_append, List.flatMap_append]
/-- the rows of the counts, read -/
theorem rows_read {look : Nat} (hl : look < 8) : ∀ (ns : List Nat) (c' : Nat), c' < 8 → (∀ c ∈ ns, c ≤ 6) →
    ren (mIt look c' ns) (pend look (lst c' ns)) = pend look c' ++ NL (ns.flatMap (rowW look)) ∧ okIt (mIt look c' ns) (pend look (lst c' ns)) ∧
    PartsK (partsOf (mIt look c' ns) (pend look (lst c' ns))) (mK look c' ns ++ [endK look (lst c' ns)]) ∧ tx (mK look c' ns ++ [endK look (lst c' ns)]) = nohy (pend look c' ++ NL (ns.flatMap (rowW look))) ∧
    ((mK look c' ns ++ [endK look (lst c' ns)]).filterMap id).flatMap adds = (if c' = 0 then [0] else []) ++ ns ∧ (mK look c' ns).length ≤ 4 * ns.length
  | [], c', hc, _ => by
    have h := endOk_all ⟨look, hl⟩ ⟨c', hc⟩
    simp only [endOk, Bool.and_eq_true] at h
    obtain ⟨⟨⟨h1, h2⟩, h3⟩, h4⟩ := h
    refine ⟨?_, fun c hc => by have := List.all_eq_true.mp h2 c hc; simpa using this, .cons (pcOk_spec h1) .nil, ?_, ?_, Nat.le_refl _⟩
    · show [] ++ pend look c' = pend look c' ++ []
      rw [List.nil_append, List.append_nil]
    · rw [show NL (([] : List Nat).flatMap (rowW look)) = [] from rfl, List.append_nil]; exact eq_of_beq h3
    · rw [List.append_nil]; exact eq_of_beq h4
  | c :: r, c', hc, hr => by
    have hc6 := hr c (.head _)
    have h := rowOk_all ⟨look, hl⟩ ⟨c', hc⟩ ⟨c, by (first | lia | omega)⟩
    simp only [rowOk, Bool.and_eq_true] at h
    obtain ⟨⟨⟨⟨⟨h1, h2⟩, h2'⟩, h3⟩, h4⟩, h5⟩ := h
    have hp1 := rows_read hl r c (by (first | lia | omega)) fun x hx => hr x (.tail _ hx)
    refine p0_6 ?_ hp1
    (try clear hp1)
    intro i1 i2 i3 i4 i5 i6
    have h3 := eq_of_beq h3
    have h4 := eq_of_beq h4
    have h5 := eq_of_beq h5
    simp only [mIt, mK, lst]
    have e1 : ren (rIt look c' c ++ mIt look c r) (pend look (lst c r)) = pend look c' ++ NL ((c :: r).flatMap (rowW look)) := by
      rw [ren_app, i1, NL_flat1, ← List.append_assoc, ← List.append_assoc, h3]
    refine ⟨e1, okHd_spec i2 ?_, ?_, ?_, ?_, ?_⟩
    · have hh := pend_head ⟨look, hl⟩ ⟨c, by (first | lia | omega)⟩
      rw [i1, List.head?_append, Option.or_of_isSome hh]
      exact h2
    · show PartsK (pOf (rIt look c' c ++ mIt look c r) ++ [stN (pend look (lst c r))]) _
      unfold pOf
      rw [List.flatMap_append, List.append_assoc, List.append_assoc]
      exact (itOk_spec h1).app i3
    · rw [List.append_assoc, tx_app, i4, h4, NL_flat1, ← List.append_assoc, ← h3, List.append_assoc]
      unfold nohy
      rw [← List.filter_append]
    · rw [List.append_assoc, List.filterMap_append, List.flatMap_append, i5, h5, List.append_assoc]
      by_cases q : c = 0
      · subst q; simp
      · simp [q]
    · have : (rK look c' c).length ≤ 4 := by unfold rK; split <;> simp
      rw [List.length_append, List.length_cons]; (first | lia | omega)
/-- the head: agents and the delay's name -/
noncomputable def hdOk (it : List It) (ks : List (Option Pc)) (pre : List Nat) (d : Nat) : Bool :=
  itOk it ks && okHd (some 10) it && (oIt it == pre ++ dig d) && (tx ks == nohy (oIt it)) && (lineF [] (ks.filterMap id) == [d]) && decide (ks.length ≤ 20)
theorem join_tx (ks : List (Option Pc)) : cz (Txt.join (Str.ofString "") ((ks.filterMap id).map pcText)) = tx ks := by
  unfold tx
  generalize ks.filterMap id = ps
  have h : ∀ (xs : List Str) (acc : Array Nat), (xs.foldl (fun acc (p : Str) => acc ++ (Str.ofString "").cps ++ p.cps) acc).toList = acc.toList ++ xs.flatMap cz := by
    intro xs
    induction xs with
    | nil => intro acc; simp
    | cons x xs ih =>
      intro acc
      rw [List.foldl_cons, ih, Array.toList_append, Array.toList_append, show (Str.ofString "").cps.toList = [] by decide +kernel, List.flatMap_cons]
      simp
  cases ps with
  | nil => decide +kernel
  | cons p ps =>
    show ((ps.map pcText).foldl (fun acc (p : Str) => acc ++ (Str.ofString "").cps ++ p.cps) (pcText p).cps).toList = _
    rw [h, List.flatMap_cons, List.flatMap_map]
theorem tx_len (ks : List (Option Pc)) : (((ks.filterMap id).map pcText).map (·.length)).sum = (tx ks).length := by
  unfold tx
  generalize ks.filterMap id = ps
  induction ps with
  | nil => rfl
  | cons p ps ih => rw [List.map_cons, List.map_cons, List.sum_cons, ih, List.flatMap_cons, List.length_append]; rfl
theorem line_ok {rec : Rec} {look d : Nat} {ns : List Nat} {it : List It} {ks : List (Option Pc)} {pre : List Nat} (hl : look < 8) (hb : hR rec ≤ 190 ∧ okR rec = true ∧ wtR rec ≤ 100000) (hne : ns ≠ []) (hn6 : ∀ c ∈ ns, c ≤ 6) (hnl : ns.length ≤ 200)
    (hh : hdOk it ks pre d = true) (hs : cz (strR rec) = pre ++ dig d ++ NL (ns.flatMap (rowW look))) : LineOk rec (d :: ns) := by
  simp only [hdOk, Bool.and_eq_true] at hh
  obtain ⟨⟨⟨⟨⟨h1, h2⟩, h3⟩, h4⟩, h5⟩, h6⟩ := hh
  have h3 := eq_of_beq h3
  have h4 := eq_of_beq h4
  have h5 := eq_of_beq h5
  have h6 := of_decide_eq_true h6
  have hp2 := rows_read hl ns 7 (by decide) hn6
  refine p0_6 ?_ hp2
  (try clear hp2)
  intro i1 i2 i3 i4 i5 i6
  have e7 : pend look 7 = [] := rfl
  rw [e7, List.nil_append] at i1 i4
  have hx : cz (strR rec) = ren (it ++ mIt look 7 ns) (pend look (lst 7 ns)) := by rw [hs, ren_app, i1, h3]
  have htx : tx (ks ++ (mK look 7 ns ++ [endK look (lst 7 ns)])) = nohy (cz (strR rec)) := by
    rw [tx_app, i4, h4, hs, h3]; unfold nohy; rw [← List.filter_append]
  refine ⟨hb.1, hb.2.1, hb.2.2, it ++ mIt look 7 ns, pend look (lst 7 ns), ks ++ (mK look 7 ns ++ [endK look (lst 7 ns)]), ?_, hx, okHd_spec i2 ?_, ?_, ?_, ?_, ?_⟩
  · simp only [List.length_append, List.length_cons, List.length_nil]; (first | lia | omega)
  · rw [i1]
    cases ns with
    | nil => exact absurd rfl hne
    | cons c r => exact h2
  · show PartsK (pOf (it ++ mIt look 7 ns) ++ [stN (pend look (lst 7 ns))]) _
    unfold pOf
    rw [List.flatMap_append, List.append_assoc]
    exact (itOk_spec h1).app i3
  · refine str_ext ?_
    rw [join_tx, htx]
    exact (show cz (Txt.replace (strR rec) (Str.ofString "-") (Str.ofString "")) = _ by
      rw [show Str.ofString "-" = ⟨#[45]⟩ by decide +kernel, show Str.ofString "" = ⟨#[]⟩ by decide +kernel]
      exact replace_strikes _ _).symm
  · rw [tx_len, htx]
    have a1 : (nohy (cz (strR rec))).length ≤ (cz (strR rec)).length := List.length_filter_le _ _
    have a2 := Nat.le_trans (strR_len rec hb.2.1) hb.2.2
    have a3 : (strR rec).length = (cz (strR rec)).length := rfl
    (first | lia | omega)
  · rw [List.filterMap_append]
    show List.foldl lineS [] (_ ++ _) = _
    rw [List.foldl_append]
    show lineF (lineF [] (ks.filterMap id)) _ = _
    rw [h5, lineF_adds _ _ (by intro e; cases e), i5]
    rfl
noncomputable def itA (d : Nat) : List It := [(LC "User", [45]), (LC "agent: *\nUser", [45]), (LC "agent: root\nUser", [45]), (LC "agent: root\nCrawl", [45]), (LC "delay: ", dig d)]
noncomputable def ksA (d : Nat) : List (Option Pc) := [some (.txt (stN (LC "User"))), none, some (.txt (stN (LC "agent: *\nUser"))), none, some (.txt (stN (LC "agent: root\nUser"))), none, some (.txt (stN (LC "agent: root\nCrawl"))), none, some (.txt (stN (LC "delay: "))), some (.num d)]
noncomputable def itB (d : Nat) : List It := [(LC "User", [45]), (LC "agent: root\nUser", [45]), (LC "agent: *\nCrawl", [45]), (LC "delay: ", dig d)]
noncomputable def ksB (d : Nat) : List (Option Pc) := [some (.txt (stN (LC "User"))), none, some (.txt (stN (LC "agent: root\nUser"))), none, some (.txt (stN (LC "agent: *\nCrawl"))), none, some (.txt (stN (LC "delay: "))), some (.num d)]
theorem hdA_all : ∀ d : Fin 128, hdOk (itA d.val) (ksA d.val) (LC "User-agent: *\nUser-agent: root\nUser-agent: root\nCrawl-delay: ") d.val = true := by decide +kernel
theorem hdB_all : ∀ d : Fin 128, hdOk (itB d.val) (ksB d.val) (LC "User-agent: root\nUser-agent: *\nCrawl-delay: ") d.val = true := by decide +kernel
theorem rows_cz {ags : List Str} {d look : Nat} {ns : List Nat} {pre : List Nat} (ha : ags ≠ []) (hp : NL (ags.map (fun a => Str.ofString "User-agent: " ++ a)) ++ (10 :: LC "Crawl-delay: ") = 10 :: pre) :
    cz (PySem.Builtin.Str.glued (Str.ofString "\n") (rowsW ags d look ns)) = pre ++ dig d ++ NL (ns.flatMap (rowW look)) := by
  refine (cons10 ?_)
  rw [glued_nl (by unfold rowsW; cases ags with | nil => exact absurd rfl ha | cons _ _ => intro e; cases e)]
  unfold rowsW
  rw [NL_app, NL_app, ← List.cons_append, ← List.cons_append, ← hp, List.append_assoc _ _ (dig d)]
  congr 2
  show (10 :: cz (Str.ofString "Crawl-delay: " ++ Str.ofString (toString (d : Int)))) ++ [] = _
  rw [cz_app, List.append_nil]
  rfl
theorem plain_ahead {n1 n2 look : Nat} {dl : Option Nat} (h1 : 2 ≤ n1 ∧ n1 < 128) (h2 : 2 ≤ n2 ∧ n2 < 128) (hl : look < 8) (hd : dl = none ∨ dl = some n2) : LineOk (recAh n1 n2 look dl) (lineA n1 n2 dl) := by
  have hd' : dl.getD n1 < 128 := by rcases hd with rfl | rfl; exact h1.2; exact h2.2
  refine line_ok (it := itA (dl.getD n1)) (ks := ksA (dl.getD n1)) hl ?_ ?_ ?_ ?_ (hdA_all ⟨_, hd'⟩) ?_
  · rw [recAh_eq]; exact bounds hl h1.2 h2.2 hd' (by decide) (by decide +kernel)
  · intro e; exact countsOf_ne h1.1 h1.2 (List.append_eq_nil_iff.mp e).1
  · intro c hc; rcases List.mem_append.mp hc with hc | hc; exact countsOf_le h1.2 c hc; exact countsOf_le h2.2 c hc
  · have := countsOf_len h1.2; have := countsOf_len h2.2; rw [List.length_append]; (first | lia | omega)
  · rw [str_ahead h1 h2]; exact rows_cz (by intro e; cases e) (by decide +kernel)
theorem plain_behind {n1 n2 look : Nat} {dl : Option Nat} (h1 : 2 ≤ n1 ∧ n1 < 128) (h2 : 2 ≤ n2 ∧ n2 < 128) (hl : look < 8) (hd : dl = none ∨ dl = some n2) : LineOk (recBe n1 n2 look dl) (lineB n1 n2) := by
  refine line_ok (it := itB n1) (ks := ksB n1) hl ?_ ?_ ?_ ?_ (hdB_all ⟨_, h1.2⟩) ?_
  · rw [recBe_eq]; exact bounds hl h2.2 h1.2 h1.2 (by decide) (by decide +kernel)
  · intro e; exact countsOf_ne h2.1 h2.2 (List.append_eq_nil_iff.mp e).1
  · intro c hc; rcases List.mem_append.mp hc with hc | hc; exact countsOf_le h2.2 c hc; exact countsOf_le h1.2 c hc
  · have := countsOf_len h1.2; have := countsOf_len h2.2; rw [List.length_append]; (first | lia | omega)
  · rw [str_behind h1 h2]; exact rows_cz (by intro e; cases e) (by decide +kernel)
end Mine
end
section
theorem Mine.fresh50 : True := by w_top off; trivial
open PySem PySem.W PyProof.Rows PySem.Calls
set_option maxRecDepth 100000
set_option maxHeartbeats 8000000
namespace Mine
theorem popP_app (st : List Nat) : ∀ (c : Nat) (l l' : List Nat) (num x : Nat), popP c l num = some (x, l') → popP c (l ++ st) num = some (x, l' ++ st)
  | 0, l, l', num, x, h => by
    obtain ⟨rfl, rfl⟩ := Prod.mk.inj (Option.some.inj h)
    rfl
  | c + 1, [], _, _, _, h => by cases h
  | c + 1, k :: l, l', num, x, h => by
    rw [List.cons_append, popP] at *
    by_cases hk : k = 0
    · rw [if_pos hk] at h; cases h
    · rw [if_neg hk] at h ⊢
      cases hp : primesN[k - 1]? with
      | none => rw [hp] at h; cases h
      | some p =>
        rw [hp] at h
        dsimp only at h ⊢
        by_cases hz : num * p < 1000000
        · rw [if_pos hz] at h ⊢; exact popP_app st c l l' _ x h
        · rw [if_neg hz] at h; cases h
theorem popP_all : ∀ k : Fin 128, 1 ≤ k.val → popP (cnt (tabOf k.val)) (rep (tabOf k.val)) 1 = some (k.val, []) := by decide +kernel
theorem runP_app (a b : List Nat) : ∀ st st', runP a st = some st' → runP (a ++ b) st = runP b st' := by
  induction a with
  | nil => intro st st' h; obtain rfl := Option.some.inj h; rfl
  | cons c cs ih =>
    intro st st' h
    rw [List.cons_append, runP] at *
    cases hp : popP c st 1 with
    | none => rw [hp] at h; cases h
    | some q =>
      obtain ⟨num, s'⟩ := q
      rw [hp] at h
      dsimp only at h ⊢
      by_cases hz : s'.length < 1000
      · rw [if_pos hz] at h ⊢; exact ih _ _ h
      · rw [if_neg hz] at h; cases h
theorem preC_pos {f k : Nat} (h : 1 ≤ f) : 1 ≤ (preC f k).length := by
  cases f with
  | zero => (first | lia | omega)
  | succ f => rw [preC, List.length_cons]; (first | lia | omega)
theorem pile_pre : ∀ (f k : Nat), 1 ≤ k → k ≤ f → k < 128 → ∀ st : List Nat, st.length + (preC f k).length ≤ 1000 → runP (preC f k).reverse st = some (k :: st)
  | 0, k, h1, h2, _, _, _ => by (first | lia | omega)
  | f + 1, k, h1, h2, h3, st, hs => by
    have hl : ∀ l : List Nat, (∀ k' ∈ l, 1 ≤ k' ∧ k' ≤ f ∧ k' < 128) → st.length + (l.flatMap (preC f)).length ≤ 1000 → runP (l.flatMap (preC f)).reverse st = some (l ++ st) ∧ l.length ≤ (l.flatMap (preC f)).length := by
      intro l
      induction l with
      | nil => intro _ _; exact ⟨rfl, Nat.le_refl _⟩
      | cons a l ih =>
        intro h hs
        obtain ⟨a1, a2, a3⟩ := h a (.head _)
        rw [List.flatMap_cons, List.length_append] at hs
        obtain ⟨i1, i2⟩ := ih (fun x hx => h x (.tail _ hx)) (by (first | lia | omega))
        have hp := preC_pos (k := a) (show 1 ≤ f by (first | lia | omega))
        rw [List.flatMap_cons, List.reverse_append]
        refine ⟨?_, by rw [List.length_append, List.length_cons]; (first | lia | omega)⟩
        rw [runP_app _ _ _ _ i1]
        exact pile_pre f a a1 a2 a3 (l ++ st) (by rw [List.length_append]; (first | lia | omega))
    rw [preC, List.length_cons] at hs
    obtain ⟨i1, i2⟩ := hl (rep (tabOf k)) (fun k' hk' => by obtain ⟨b1, b2⟩ := rep_mem h3 hk'; exact ⟨b1, by (first | lia | omega), by (first | lia | omega)⟩) (by (first | lia | omega))
    rw [preC, List.reverse_cons, runP_app _ _ _ _ i1, runP, popP_app st _ _ _ _ _ (popP_all ⟨k, h3⟩ h1)]
    dsimp only
    rw [if_pos (by rw [List.nil_append]; (first | lia | omega))]
    rfl
theorem pile_counts {n : Nat} (hn : n < 128) (st : List Nat) (hs : st.length ≤ 100) : runP (countsOf n).reverse st = some (rep (tabOf n) ++ st) := by
  have hl : ∀ l : List Nat, (∀ k' ∈ l, 1 ≤ k' ∧ k' < 127) → st.length + (l.flatMap (preC 127)).length ≤ 1000 → runP (l.flatMap (preC 127)).reverse st = some (l ++ st) ∧ l.length ≤ (l.flatMap (preC 127)).length := by
    intro l
    induction l with
    | nil => intro _ _; exact ⟨rfl, Nat.le_refl _⟩
    | cons a l ih =>
      intro h hs
      obtain ⟨a1, a2⟩ := h a (.head _)
      rw [List.flatMap_cons, List.length_append] at hs
      obtain ⟨i1, i2⟩ := ih (fun x hx => h x (.tail _ hx)) (by (first | lia | omega))
      have hp := preC_pos (f := 127) (k := a) (by (first | lia | omega))
      rw [List.flatMap_cons, List.reverse_append]
      refine ⟨?_, by rw [List.length_append, List.length_cons]; (first | lia | omega)⟩
      rw [runP_app _ _ _ _ i1]
      exact pile_pre 127 a a1 (by (first | lia | omega)) (by (first | lia | omega)) (l ++ st) (by rw [List.length_append]; (first | lia | omega))
  have := countsOf_len hn
  exact (hl (rep (tabOf n)) (fun k' hk' => by obtain ⟨b1, b2⟩ := rep_mem hn hk'; exact ⟨b1, by (first | lia | omega)⟩) (by show _ + (countsOf n).length ≤ _; (first | lia | omega))).1
/-- a turned line, read on a pile -/
theorem pile_line {n1 n2 : Nat} (h1 : n1 < 128) (h2 : n2 < 128) : runP (countsOf n1 ++ countsOf n2).reverse [] = some (rep (tabOf n1) ++ rep (tabOf n2)) := by
  rw [List.reverse_append, runP_app _ _ _ _ (pile_counts h2 [] (by decide)), List.append_nil]
  exact pile_counts h1 _ (by have := rep_le h2; (first | lia | omega))
/-- the primes at the places, multiplied -/
noncomputable def prodP (l : List Nat) (a : Nat) : Nat := l.foldl (fun a k => a * primesN.getD (k - 1) 0) a
theorem prodP_mul (l : List Nat) : ∀ a b : Nat, prodP l (a * b) = a * prodP l b := by
  induction l with
  | nil => intro a b; rfl
  | cons k l ih => intro a b; show prodP l (a * b * _) = a * prodP l (b * _); rw [Nat.mul_assoc, ih]
theorem prodP_all : ∀ k : Fin 128, 1 ≤ k.val → prodP (rep (tabOf k.val)) 1 = k.val := by decide +kernel
theorem prodP_two {n1 n2 : Nat} (h1 : 1 ≤ n1 ∧ n1 < 128) (h2 : 1 ≤ n2 ∧ n2 < 128) : prodP (rep (tabOf n1) ++ rep (tabOf n2)) 1 = n1 * n2 := by
  unfold prodP
  rw [List.foldl_append]
  show prodP _ (prodP _ 1) = _
  rw [prodP_all ⟨n1, h1.2⟩ h1.1]
  have := prodP_mul (rep (tabOf n2)) n1 1
  rw [Nat.mul_one] at this
  rw [this, prodP_all ⟨n2, h2.2⟩ h2.1]
/-- the tables -/
noncomputable def ins (K : List Nat) (k : Nat) : List Nat := if K.contains k then K else K ++ [k]
noncomputable def cntT (l : List Nat) : List (Nat × Nat) := (l.foldl ins []).map fun k => (k, l.count k)
theorem ins_mem {K : List Nat} {k : Nat} : k ∈ ins K k := by
  unfold ins
  split
  · rename_i h; exact List.contains_iff_mem.mp h
  · exact List.mem_append_right _ (List.mem_singleton.mpr rfl)
theorem ins_of_mem {K : List Nat} {k : Nat} (h : k ∈ K) : ins K k = K := by unfold ins; rw [if_pos (List.contains_iff_mem.mpr h)]
theorem ins_rep (K : List Nat) (k : Nat) : ∀ m : Nat, 1 ≤ m → (List.replicate m k).foldl ins K = ins K k
  | 0, h => by (first | lia | omega)
  | 1, _ => rfl
  | m + 2, _ => by
    rw [List.replicate_succ, List.foldl_cons, ins_rep _ k (m + 1) (by (first | lia | omega))]
    exact ins_of_mem ins_mem
theorem ins_reps {t : List (Nat × Nat)} (h : ∀ q ∈ t, 1 ≤ q.2) : ∀ K : List Nat, (rep t).foldl ins K = (t.map (·.1)).foldl ins K := by
  unfold rep
  induction t with
  | nil => intro K; rfl
  | cons q t ih =>
    intro K
    rw [List.flatMap_cons, List.foldl_append, ins_rep _ _ _ (h q (.head _)), ih (fun x hx => h x (.tail _ hx)), List.map_cons, List.foldl_cons]
theorem ins_nodup {l : List Nat} : ∀ K : List Nat, (K ++ l).Nodup → l.foldl ins K = K ++ l := by
  induction l with
  | nil => intro K _; exact (List.append_nil K).symm
  | cons k l ih =>
    intro K h
    have hk : k ∉ K := fun hm => by
      have := (List.nodup_append.mp h).2.2 k hm k (.head _)
      exact this rfl
    rw [List.foldl_cons]
    have e : ins K k = K ++ [k] := by unfold ins; rw [if_neg (fun hc => hk (List.contains_iff_mem.mp hc))]
    rw [e, ih (K ++ [k]) (by simpa using h)]
    simp
theorem any_key (T : List (Nat × Nat)) (k : Nat) : (T.any fun r => r.1 == k) = (T.map (·.1)).contains k := by
  rw [Bool.eq_iff_iff, List.any_eq_true, List.contains_iff_mem, List.mem_map]
  constructor
  · rintro ⟨q, h1, h2⟩; exact ⟨q, h1, eq_of_beq h2⟩
  · rintro ⟨q, h1, rfl⟩; exact ⟨q, h1, beq_self_eq_true _⟩
theorem putTab_ins (T : List (Nat × Nat)) (q : Nat × Nat) : (putTab T q).map (·.1) = ins (T.map (·.1)) q.1 := by
  unfold putTab ins
  rw [any_key]
  split
  · rw [List.map_map]
    refine List.map_congr_left fun r _ => ?_
    show (if r.1 = q.1 then (r.1, r.2 + q.2) else r).1 = r.1
    split <;> rfl
  · rw [List.map_append]; rfl
theorem addTab_ins (t2 : List (Nat × Nat)) : ∀ t1 : List (Nat × Nat), (addTab t1 t2).map (·.1) = (t2.map (·.1)).foldl ins (t1.map (·.1)) := by
  unfold addTab
  induction t2 with
  | nil => intro t1; rfl
  | cons q t2 ih => intro t1; rw [List.foldl_cons, ih, putTab_ins, List.map_cons, List.foldl_cons]
noncomputable def valT : List (Nat × Nat) → Nat → Nat
  | [], _ => 0
  | q :: t, k => if q.1 = k then q.2 else valT t k
theorem valT_map (T : List (Nat × Nat)) (q : Nat × Nat) (k : Nat) (h : (T.any fun r => r.1 == q.1) = true) : valT (T.map fun r => if r.1 = q.1 then (r.1, r.2 + q.2) else r) k = valT T k + if q.1 = k then q.2 else 0 := by
  induction T with
  | nil => cases h
  | cons r T ih =>
    rw [List.map_cons, valT, valT]
    by_cases hr : r.1 = q.1
    · rw [if_pos hr]
      by_cases hk : r.1 = k
      · rw [if_pos hk, if_pos hk, if_pos (hr.symm.trans hk)]
      · rw [if_neg hk, if_neg hk]
        have hq : ¬ q.1 = k := fun e => hk (hr.trans e)
        rw [if_neg hq, Nat.add_zero]
        clear ih h
        induction T with
        | nil => rfl
        | cons r' T ih2 =>
          rw [List.map_cons, valT, valT, ih2]
          by_cases hr' : r'.1 = q.1
          · rw [if_pos hr']
            by_cases hk' : r'.1 = k
            · exact absurd (hr'.symm.trans hk') hq
            · rw [if_neg hk', if_neg hk']
          · rw [if_neg hr']
    · rw [if_neg hr]
      have h' : (T.any fun r => r.1 == q.1) = true := by
        rw [List.any_cons, show (r.1 == q.1) = false by simpa using hr, Bool.false_or] at h; exact h
      by_cases hk : r.1 = k
      · rw [if_pos hk, if_pos hk, if_neg (fun e => hr (hk.trans e.symm)), Nat.add_zero]
      · rw [if_neg hk, if_neg hk, ih h']
theorem valT_snoc (T : List (Nat × Nat)) (q : Nat × Nat) (k : Nat) (h : (T.any fun r => r.1 == q.1) = false) : valT (T ++ [q]) k = valT T k + if q.1 = k then q.2 else 0 := by
  induction T with
  | nil => show (if q.1 = k then q.2 else 0) = 0 + _; rw [Nat.zero_add]
  | cons r T ih =>
    rw [List.any_cons, Bool.or_eq_false_iff] at h
    rw [List.cons_append, valT, valT, ih h.2]
    by_cases hk : r.1 = k
    · have : ¬ q.1 = k := fun e => by have := h.1; rw [hk, e, beq_self_eq_true] at this; cases this
      rw [if_pos hk, if_pos hk, if_neg this, Nat.add_zero]
    · rw [if_neg hk, if_neg hk]
theorem valT_put (T : List (Nat × Nat)) (q : Nat × Nat) (k : Nat) : valT (putTab T q) k = valT T k + if q.1 = k then q.2 else 0 := by
  unfold putTab
  cases h : T.any fun r => r.1 == q.1
  · rw [if_neg (by decide)]; exact valT_snoc T q k h
  · rw [if_pos rfl]; exact valT_map T q k h
theorem count_cons_rep (q : Nat × Nat) (t : List (Nat × Nat)) (k : Nat) : (rep (q :: t)).count k = (if q.1 = k then q.2 else 0) + (rep t).count k := by
  unfold rep
  rw [List.flatMap_cons, List.count_append, List.count_replicate]
  congr 1
  by_cases h : q.1 = k <;> simp [h]
theorem valT_add (t2 : List (Nat × Nat)) : ∀ (t1 : List (Nat × Nat)) (k : Nat), valT (addTab t1 t2) k = valT t1 k + (rep t2).count k := by
  unfold addTab
  induction t2 with
  | nil => intro t1 k; rfl
  | cons q t2 ih => intro t1 k; rw [List.foldl_cons, ih, valT_put, count_cons_rep]; (first | lia | omega)
theorem count_zero {t : List (Nat × Nat)} {k : Nat} (h : k ∉ t.map (·.1)) : (rep t).count k = 0 := by
  refine List.count_eq_zero.mpr fun hm => h ?_
  obtain ⟨q, hq, hk⟩ := List.mem_flatMap.mp hm
  obtain ⟨_, rfl⟩ := List.mem_replicate.mp hk
  exact List.mem_map.mpr ⟨q, hq, rfl⟩
theorem valT_count {t : List (Nat × Nat)} (hn : (t.map (·.1)).Nodup) (k : Nat) : valT t k = (rep t).count k := by
  induction t with
  | nil => rfl
  | cons q t ih =>
    rw [List.map_cons, List.nodup_cons] at hn
    rw [valT, count_cons_rep]
    by_cases h : q.1 = k
    · rw [if_pos h, if_pos h, count_zero (h ▸ hn.1), Nat.add_zero]
    · rw [if_neg h, if_neg h, Nat.zero_add]; exact ih hn.2
theorem tab_of_val {t : List (Nat × Nat)} (hn : (t.map (·.1)).Nodup) : t = (t.map (·.1)).map fun k => (k, valT t k) := by
  induction t with
  | nil => rfl
  | cons q t ih =>
    rw [List.map_cons, List.nodup_cons] at hn
    rw [List.map_cons, List.map_cons, valT, if_pos rfl]
    congr 1
    refine Eq.trans (ih hn.2) (List.map_congr_left fun k hk => ?_)
    rw [valT, if_neg (fun e => hn.1 (by rw [e]; exact hk))]
theorem cntT_add {t1 t2 : List (Nat × Nat)} (h1 : (t1.map (·.1)).Nodup) (p1 : ∀ q ∈ t1, 1 ≤ q.2) (p2 : ∀ q ∈ t2, 1 ≤ q.2) : cntT (rep t1 ++ rep t2) = addTab t1 t2 := by
  unfold cntT
  have hk : (rep t1 ++ rep t2).foldl ins [] = (addTab t1 t2).map (·.1) := by
    rw [List.foldl_append, ins_reps p1, ins_reps p2, addTab_ins, ins_nodup [] (by simpa using h1), List.nil_append]
  rw [hk]
  refine Eq.trans (List.map_congr_left fun k _ => ?_) (tab_of_val (addTab_keys h1 t2)).symm
  rw [valT_add, valT_count h1, List.count_append]
theorem cntT_one {t : List (Nat × Nat)} (h1 : (t.map (·.1)).Nodup) (p1 : ∀ q ∈ t, 1 ≤ q.2) : cntT (rep t) = t := by
  have := cntT_add (t2 := []) h1 p1 (fun _ h => by cases h)
  rw [show rep ([] : List (Nat × Nat)) = [] from rfl, List.append_nil] at this
  exact this
theorem cnt_put {T : List (Nat × Nat)} (hn : (T.map (·.1)).Nodup) (q : Nat × Nat) : cnt (putTab T q) = cnt T + q.2 := by
  unfold putTab
  rw [any_key]
  by_cases h : (T.map (·.1)).contains q.1 = true
  · rw [if_pos h]
    have hm := List.contains_iff_mem.mp h
    clear h
    induction T with
    | nil => cases hm
    | cons r T ih =>
      rw [List.map_cons, List.nodup_cons] at hn
      unfold cnt at *
      rw [List.map_cons, List.map_cons, List.sum_cons, List.map_cons, List.sum_cons]
      by_cases hr : r.1 = q.1
      · rw [if_pos hr]
        have e : (T.map fun r => if r.1 = q.1 then (r.1, r.2 + q.2) else r) = T := by
          refine Eq.trans (List.map_congr_left fun x hx => ?_) (List.map_id T)
          rw [if_neg (fun e => hn.1 (by rw [hr, ← e]; exact List.mem_map.mpr ⟨x, hx, rfl⟩))]; rfl
        rw [e]; show r.2 + q.2 + _ = _; (first | lia | omega)
      · rw [if_neg hr, ih hn.2 ((List.mem_cons.mp hm).resolve_left fun e => hr e.symm)]; (first | lia | omega)
  · rw [if_neg h]
    unfold cnt
    rw [List.map_append, List.sum_append]
    rfl
theorem cnt_add (t2 : List (Nat × Nat)) : ∀ {t1 : List (Nat × Nat)}, (t1.map (·.1)).Nodup → cnt (addTab t1 t2) = cnt t1 + cnt t2 := by
  unfold addTab
  induction t2 with
  | nil => intro t1 _; rfl
  | cons q t2 ih =>
    intro t1 h
    rw [List.foldl_cons, ih (putTab_keys h q), cnt_put h]
    unfold cnt
    rw [List.map_cons, List.sum_cons]; (first | lia | omega)
theorem pos_all : ∀ n : Fin 128, ((tabOf n.val).all fun q => decide (1 ≤ q.2)) = true := by decide +kernel
theorem tab_pos {n : Nat} (h : n < 128) : ∀ q ∈ tabOf n, 1 ≤ q.2 := fun q hq => of_decide_eq_true (List.all_eq_true.mp (pos_all ⟨n, h⟩) q hq)
/-- both lines, turned -/
theorem getD_set_ne {a : Array UInt8} {i j : Nat} {v : UInt8} (e : i ≠ j) : (a.setIfInBounds i v).getD j 0 = a.getD j 0 := by
  simp only [Array.getD_eq_getD_getElem?, Array.getElem?_setIfInBounds_ne e]
theorem getD_set_self {a : Array UInt8} {i : Nat} {v : UInt8} (h : i < a.size) : (a.setIfInBounds i v).getD i 0 = v := by
  simp only [Array.getD_eq_getD_getElem?, Array.getElem?_setIfInBounds_self]
  rw [if_pos h]; rfl
theorem sub_two {p t s : Nat} (h : p + t + 1 = s) : s - 1 - t = p := by rw [← h, Nat.add_sub_cancel, Nat.add_sub_cancel]
theorem swI_miss (d : Array UInt8) (wd base : Nat) {i : Nat} : ∀ (j : Nat) (a : Array UInt8), j ≤ wd → (∀ p t, t < j → p + t + 1 = base + wd → p ≠ i) → (swI d wd base j a).getD i 0 = a.getD i 0
  | 0, _, _, _ => rfl
  | j + 1, a, hj, h => by
    obtain ⟨p, hp⟩ := Nat.exists_eq_add_of_le (Nat.le_trans hj (Nat.le_add_left wd base))
    have hp' : p + j + 1 = base + wd := by rw [hp, Nat.add_comm, Nat.add_assoc, Nat.add_comm p]; simp [Nat.add_comm, Nat.add_left_comm, Nat.add_assoc]
    rw [swI, sub_two hp', getD_set_ne (h p j (Nat.lt_succ_self j) hp')]
    exact swI_miss d wd base j a (Nat.le_of_succ_le hj) fun q t ht => h q t (Nat.lt_succ_of_lt ht)
theorem swI_hit (d : Array UInt8) (wd base t : Nat) : ∀ (j : Nat) (a : Array UInt8) (p : Nat), j ≤ wd → base + wd ≤ a.size → t < j → p + t + 1 = base + wd → (swI d wd base j a).getD p 0 = d.getD (base + t) 0
  | 0, _, _, _, _, ht, _ => absurd ht (Nat.not_lt_zero t)
  | j + 1, a, p, hj, ha, ht, hp => by
    by_cases e : t = j
    · subst e
      rw [swI, sub_two hp]
      exact getD_set_self (by rw [swI_size]; exact Nat.lt_of_lt_of_le (Nat.lt_succ_of_le (Nat.le_add_right p t)) (Nat.le_trans (Nat.le_of_eq hp) ha))
    · have hle : j ≤ p + t := Nat.le_of_succ_le_succ (Nat.le_trans (Nat.le_trans hj (Nat.le_add_left wd base)) (Nat.le_of_eq hp.symm))
      rw [swI, getD_set_ne (by rw [← hp, Nat.add_sub_cancel]; exact fun q => e (Nat.add_left_cancel ((Nat.sub_eq_iff_eq_add hle).mp q)))]
      exact swI_hit d wd base t j a p (Nat.le_of_succ_le hj) ha (Nat.lt_of_le_of_ne (Nat.le_of_lt_succ ht) e) hp
theorem swO_two {l1 l2 : List UInt8} (h : l1.length = l2.length) : (swO (l1 ++ l2).toArray l1.length 2 (Array.replicate (l1 ++ l2).toArray.size 0)) = (l1.reverse ++ l2.reverse).toArray := by
  have hD : (l1 ++ l2).toArray.size = l1.length + l2.length := by simp
  have hz : (swO (l1 ++ l2).toArray l1.length 2 (Array.replicate (l1 ++ l2).toArray.size 0)).size = l1.length + l2.length := by rw [swO_size, Array.size_replicate, hD]
  refine Array.ext (by rw [hz]; simp) fun i hi hi' => ?_
  rw [hz] at hi
  have g : ∀ (a : Array UInt8) (h : i < a.size), a[i] = a.getD i 0 := fun a h => by simp [Array.getD, h]
  rw [g _ (by rw [hz]; exact hi), g _ hi']
  generalize hR : Array.replicate (l1 ++ l2).toArray.size (0 : UInt8) = R
  have hRs : R.size = l1.length + l2.length := by rw [← hR, Array.size_replicate, hD]
  clear hR hz g
  show (swI (l1 ++ l2).toArray l1.length (1 * l1.length) l1.length (swI (l1 ++ l2).toArray l1.length (0 * l1.length) l1.length R)).getD i 0 = _
  rw [Nat.zero_mul, Nat.one_mul]
  have s1 : (swI (l1 ++ l2).toArray l1.length 0 l1.length R).size = l1.length + l2.length := by rw [swI_size, hRs]
  by_cases c : i < l1.length
  · obtain ⟨t, ht⟩ := Nat.exists_eq_add_of_lt c
    rw [swI_miss _ _ _ _ _ (Nat.le_refl _) fun p t _ hp => by lia]
    rw [swI_hit _ _ 0 t l1.length R i (Nat.le_refl _) (by rw [hRs, Nat.zero_add]; exact Nat.le_add_right _ _) (by lia) (by rw [Nat.zero_add]; exact ht.symm), Nat.zero_add]
    simp only [Array.getD_eq_getD_getElem?, List.getElem?_toArray]
    rw [List.getElem?_append_left (by lia), List.getElem?_append_left (by rw [List.length_reverse]; exact c), List.getElem?_reverse c, Nat.sub_right_comm, show l1.length - i - 1 = t by rw [ht]; simp [Nat.add_assoc, Nat.add_sub_cancel_left]]
  · obtain ⟨k, rfl⟩ := Nat.exists_eq_add_of_le (Nat.le_of_not_lt c)
    have hn : k < l2.length := Nat.lt_of_add_lt_add_left hi
    obtain ⟨t, ht⟩ := Nat.exists_eq_add_of_lt hn
    rw [swI_hit _ _ l1.length t l1.length _ (l1.length + k) (Nat.le_refl _) (Nat.le_of_eq (by rw [s1, h])) (by lia) (by rw [h, ht]; lia)]
    simp only [Array.getD_eq_getD_getElem?, List.getElem?_toArray]
    rw [List.getElem?_append_right (Nat.le_add_right _ _), Nat.add_sub_cancel_left, List.getElem?_append_right (by rw [List.length_reverse]; exact Nat.le_add_right _ _), List.length_reverse, Nat.add_sub_cancel_left, List.getElem?_reverse hn, Nat.sub_right_comm, show l2.length - k - 1 = t by rw [ht]; simp [Nat.add_assoc, Nat.add_sub_cancel_left]]
end Mine
end
section
theorem Mine.fresh51 : True := by w_top off; trivial
open PySem PySem.W PyProof.Rows PySem.Calls
set_option maxRecDepth 100000
set_option maxHeartbeats 8000000
namespace Mine
noncomputable def Hid (P : Prop) : Prop := P
noncomputable def bodyOf {K : Frag} {f : Addr} {oc : Value} {od : Option Addr} {name qual : Str} {params : Arguments} {body : List Stmt} {scope : Scope} {dV kV doc pm cdv ct : Value} {an : Option Addr} {osl : Array (Option Value)}
    (_ : K.lookup f = some ⟨oc, od, .func (fnOf name qual params body scope dV kV doc pm an cdv ct), osl⟩) : List Stmt := body
noncomputable def scopeOf {K : Frag} {f : Addr} {oc : Value} {od : Option Addr} {name qual : Str} {params : Arguments} {body : List Stmt} {scope : Scope} {dV kV doc pm cdv ct : Value} {an : Option Addr} {osl : Array (Option Value)}
    (_ : K.lookup f = some ⟨oc, od, .func (fnOf name qual params body scope dV kV doc pm an cdv ct), osl⟩) : Scope := scope
/-- the law's own body from a statement on, its scope, its frame -/
noncomputable def lawBody (w : World) (k : Nat) : List Stmt := (bodyOf (K := hd.heap_1 w.params) (f := 192) rfl).drop k
noncomputable def lawScope (w : World) : Scope := scopeOf (K := hd.heap_1 w.params) (f := 192) rfl
noncomputable def lawEnv (w : World) (L fa : Addr) (cdv : Value) : Env := envX (Str.ofString "law") (lawScope w) L fa cdv [(Str.ofString "piles", L + 1)]
noncomputable abbrev LawC (w : World) (L fa : Addr) (cdv : Value) (t : Sem Flow) (Q : Flow → Shared → Prop) (s : Shared) : Prop := wpC (model PySem.Challenge.rw_jc0012_01.row.prog w) (callerA.deeper (lawEnv w L fa cdv)) t Q (fun _ _ => False) s
theorem law_step {w : World} {L fa : Addr} {cdv : Value} {Q : Flow → Shared → Prop} {s : Shared} {k : Nat} {st : Stmt} {rest : List Stmt} (h : lawBody w k = st :: rest)
    (h' : LawC w L fa cdv (exec st (lawEnv w L fa cdv)) (fun fl s' => match fl with | .next => LawC w L fa cdv (execs (lawBody w (k + 1)) (lawEnv w L fa cdv)) Q s' | f => Q f s') s) :
    LawC w L fa cdv (execs (lawBody w k) (lawEnv w L fa cdv)) Q s := by
  have e : lawBody w (k + 1) = rest := by
    have e : lawBody w (k + 1) = (lawBody w k).drop 1 := by unfold lawBody; rw [List.drop_drop]
    rw [e, h]; rfl
  rw [h]
  rw [e] at h'
  exact wpC_execs_cons h'
/-- a statement that goes on to the next -/
theorem law_next {w : World} {L fa : Addr} {cdv : Value} {Q : Flow → Shared → Prop} {s : Shared} {k : Nat} {st : Stmt} {rest : List Stmt} (h : lawBody w k = st :: rest)
    (P : Shared → Prop) (h' : LawC w L fa cdv (exec st (lawEnv w L fa cdv)) (fun fl s' => Hid (fl = .next ∧ P s')) s)
    (k' : ∀ s', P s' → LawC w L fa cdv (execs (lawBody w (k + 1)) (lawEnv w L fa cdv)) Q s') :
    LawC w L fa cdv (execs (lawBody w k) (lawEnv w L fa cdv)) Q s := by
  refine law_step h (wpC_mono h' (fun fl s' h2 => ?_) fun _ _ x => x)
  obtain ⟨rfl, h2⟩ := h2
  exact k' _ h2
end Mine
namespace Mine
section
variable {prog : Program} {w : World} {A : Around} {E : Value → Shared → Prop} {s : Shared} {h₀ : Heap} {L : Addr} {news : List (Addr × Obj)} {a b : Addr} {Q : Value → Shared → Prop}
theorem ne_same {xs ys : List Value} {ka kb : Nat} {ds : List Dat} (N : News h₀ L s.heap news) (ma : (a, W.listOf xs.toArray ka) ∈ news) (mb : (b, W.listOf ys.toArray kb) ∈ news) (Da : DatAll news xs ds) (Db : DatAll news ys ds)
    (ok : ∀ d ∈ ds, kqdOk 8 d = true) (hu : A.units + 64 < cLine) (h : Q (.bool false) s) : wpAny (model prog w) A (compareOp .NotEq (.ref a) (.ref b)) Q E s :=
  kqd_ne N ma rfl rfl Da (fun _ h => h) mb rfl rfl Db (fun _ h => h) ok ok hu (by simpa using h)
theorem eq_same {xs ys : List Value} {ka kb : Nat} {ds : List Dat} (N : News h₀ L s.heap news) (ma : (a, W.listOf xs.toArray ka) ∈ news) (mb : (b, W.listOf ys.toArray kb) ∈ news) (Da : DatAll news xs ds) (Db : DatAll news ys ds)
    (ok : ∀ d ∈ ds, kqdOk 8 d = true) (hu : A.units + 64 < cLine) (h : Q (.bool true) s) : wpAny (model prog w) A (compareOp .Eq (.ref a) (.ref b)) Q E s :=
  kqd_eq N ma rfl rfl Da (fun _ h => h) mb rfl rfl Db (fun _ h => h) ok ok hu (by simpa using h)
theorem dat_ints {vs : List Value} {ns : List Int} (h : IntsAre vs ns) : DatAll news vs (ns.map Dat.int) := by
  induction h with
  | nil => exact .nil
  | cons n t h ih => exact .cons (.int n t) ih
theorem dat_nats {vs : List Value} {ns : List Nat} (h : NatL vs ns) : DatAll news vs (ns.map fun (n : Nat) => Dat.int (n : Int)) := by
  induction h with
  | nil => exact .nil
  | cons n t h ih => exact .cons (.int _ t) ih
theorem dat_strs {vs : List Value} {xs : List Str} (h : StrL vs xs) : DatAll news vs (xs.map Dat.str) := by
  induction h with
  | nil => exact .nil
  | cons n t h ih => exact .cons (.str _ t) ih
end
end Mine
namespace Mine
theorem natL_of_ints : ∀ {vs : List Value} {xs : List Nat}, IntsAre vs (xs.map fun (x : Nat) => (x : Int)) → NatL vs xs
  | _, [], h => by cases h; exact .nil
  | _, x :: xs, h => by cases h with | cons _ t h => exact .cons x t (natL_of_ints h)
end Mine
end
section
theorem Mine.fresh52 : True := by w_top off; trivial
open PySem PySem.W PyProof.Rows PySem.Calls
set_option maxRecDepth 100000
set_option maxHeartbeats 8000000
namespace Mine
noncomputable abbrev mp11 (l0 lc x1 x2 x3 x4 ll : Addr) (dv : Value) (u1 u2 u3 tL : Tok) (n1 n2 look la : Nat) : Str → Option Value := fun y => if y = Str.ofString "latest" then some (Value.int (la : Int) tL) else if y = Str.ofString "lines" then some (Value.ref ll) else if y = Str.ofString "behind" then some (Value.ref x4) else if y = Str.ofString "ahead" then some (Value.ref x3) else if y = Str.ofString "two" then some (Value.ref x2) else if y = Str.ofString "one" then some (Value.ref x1) else if y = Str.ofString "delay" then some dv else if y = Str.ofString "look" then some (Value.int (look : Int) u3) else if y = Str.ofString "second" then some (Value.int (n2 : Int) u2) else if y = Str.ofString "first" then some (Value.int (n1 : Int) u1) else if y = Str.ofString "cells" then some (Value.ref lc) else if y = Str.ofString "script" then some (Value.ref l0) else none
section
variable {w : World} {p : Program} {loose : List Str} {mean : ExcName → Option Value} {mg mb : Str → Option Value} {base g : Heap} {L' fa : Addr} {cdv : Value} {mS : Shared} {h : Heap} {tk : Nat} {Q : Flow → Shared → Prop}
theorem seg11 {l0 lc x1 x2 x3 x4 ll la lb : Addr} {dv : Value} {u1 u2 u3 tL : Tok} {n1 n2 look k1 : Nat} {va vb : List Value} {na nb : Nat} {ra rb : List Nat} {rest : List (Addr × Obj)}
    (B : Below callerA base [] g) (X : (hd.heap_1 w.params).In g) (P : Top p loose mean mg mb g)
    (F : Fr g L' h (mp11 l0 lc x1 x2 x3 x4 ll dv u1 u2 u3 tL n1 n2 look k1)) (N : News g L' h ((ll, W.listOf #[.ref la, .ref lb] 0) :: (lb, W.listOf vb.toArray nb) :: (la, W.listOf va.toArray na) :: rest))
    (hva : NatL va (k1 :: ra)) (hvb : NatL vb (n1 :: rb)) (hra : ra.length ≤ 1000) (hrb : rb.length ≤ 1000)
    (k : ∀ h' tk', Fr g L' h' (mp11 l0 lc x1 x2 x3 x4 ll dv u1 u2 u3 tL n1 n2 look k1) → News g L' h' ((ll, W.listOf #[.ref la, .ref lb] 0) :: (lb, W.listOf vb.toArray nb) :: (la, W.listOf va.toArray na) :: rest) →
      LawC w L' fa cdv (execs (lawBody w 12) (lawEnv w L' fa cdv)) Q { mS with heap := h', toks := tk' }) :
    LawC w L' fa cdv (execs (lawBody w 11) (lawEnv w L' fa cdv)) Q { mS with heap := h, toks := tk } := by
  refine law_next (st := ?st) (rest := ?rest) ?hb (fun s' => ∃ h' tk', s' = { mS with heap := h', toks := tk' } ∧ Fr g L' h' (mp11 l0 lc x1 x2 x3 x4 ll dv u1 u2 u3 tL n1 n2 look k1) ∧ News g L' h' ((ll, W.listOf #[.ref la, .ref lb] 0) :: (lb, W.listOf vb.toArray nb) :: (la, W.listOf va.toArray na) :: rest)) ?_ (fun s' e => by refine p2_3 ?_ e; (try clear e); intro h' tk' hq1 F' N'; subst hq1; exact k h' tk' F' N')
  case hb => exact rfl
  clear k
  delta LawC lawEnv lawScope scopeOf
  revert X P; k_fill; intro X P
  refine (let AE : Env := _; let AA : Around := Around.deeper _ AE; let QQ : Flow → Shared → Prop := _; (?kL : wpC _ AA (exec _ AE) QQ _ _))
  (try (refine (let mm : Str → Option Value := _; have Fx : Fr _ _ _ mm := F; ?_); clear F; rename Fr _ _ _ _ => F))
  refine wpC_of ?_
  refine wpAny_If (wpAny_isTrue_Compare1 ?_)
  refine LCg.ListComp_U (h₀ := g) (L := L') (cl := []) F ?a1 ?a2 ?a3 ?a4 ?a5 ?a6
  case a1 => rfl
  case a2 => decide
  case a3 => rfl
  case a4 => decide
  case a5 => rfl
  iterate 1 (first | (k_unfold; (try dsimp only)) | walk1 | (dsimp only; walk1) | (leave1; (try dsimp only)))
  with_reducible refine LCg.CompSrc.ledger (its := #[Value.ref la, Value.ref lb]) (k := 0) rfl F N ?bm ?b1 ?b2
  case bm => exact List.mem_cons_self
  case b1 => show 2 ≤ sizeLine; decide
  intro g2
  rw [show (#[Value.ref la, Value.ref lb] : Array Value).size = 1 + 1 from rfl]
  with_reducible refine LCg.CompRest.succ ?_
  intro v I oI C oC D m2 h3 tk3 E' hP hoC hm F3 N3 hoff hne
  obtain rfl : Value.ref la = v := Option.some.inj hP
  with_reducible refine Subscript_ ?_
  refine LCgL.ld_own N3 (oC := oC) ?c1 hoC hm ?c2
  case c1 => exact .tail _ (.head _)
  iterate 5 (first | (k_unfold; (try dsimp only)) | walk1 | (dsimp only; walk1) | (leave1; (try dsimp only)))
  refine kmk_slice_ints (s := ⟨_, _, _, _, _⟩) (vs := va) F3 N3 ?q1 (by constructor) (by constructor) hva.ints (kmk_upto hva.ints (by decide)) rfl ?q2 (by with_unfolding_all rfl) (by intro _; with_unfolding_all rfl) ?q3
  case q1 => exact ⟨_, (N3 (la, W.listOf va.toArray na) (by first | walk_at "mine sub" | simp)).1, rfl, na, rfl⟩
  case q3 => rw [List.size_toArray, hva.length, List.length_cons, sizeLine_eq]; walk_at "mine omega"
  intro D1 ws1 h25 F25 N25 l25 hws hwl hwx
  refine LCg.CompEnd.intro F25 N25 ((D1, W.listOf ws1.toArray 0) :: (ll, W.listOf #[Value.ref la, Value.ref lb] 0) :: (lb, W.listOf vb.toArray nb) :: (la, W.listOf va.toArray na) :: rest) ?r1 ⟨⟨Ne.symm (Nat.ne_of_lt (l25 (I, oI) (.head _))), Ne.symm (Nat.ne_of_lt (l25 (C, oC) (.tail _ (.head _)))), Ne.symm (Nat.ne_of_lt (l25 (D, LCg.lst []) (.tail _ (.tail _ (.head _)))))⟩, hoff⟩ (.inr ⟨_, .tail _ (.head _), rfl, _, rfl⟩) ?r2
  case r1 => first | walk_at "mine sub" | (intro q hq; simp only [List.mem_cons] at hq ⊢; rcases hq with e | e | e | e | e | e | e <;> simp only [e, true_or, or_true])
  with_reducible refine LCg.CompRest.succ ?_
  intro v2 I2 oI2 C2 oC2 D2 m3 h26 tk26 E2 hP2 hoC2 hm2 F26 N26 hoff2 hne2
  obtain rfl : Value.ref lb = v2 := Option.some.inj hP2
  with_reducible refine Subscript_ ?_
  refine LCgL.ld_own N26 (oC := oC2) ?c3 hoC2 hm2 ?c4
  case c3 => exact .tail _ (.head _)
  iterate 5 (first | (k_unfold; (try dsimp only)) | walk1 | (dsimp only; walk1) | (leave1; (try dsimp only)))
  refine kmk_slice_ints (s := ⟨_, _, _, _, _⟩) (vs := vb) F26 N26 ?q4 (by constructor) (by constructor) hvb.ints (kmk_upto hvb.ints (by decide)) rfl ?q5 (by with_unfolding_all rfl) (by intro _; with_unfolding_all rfl) ?q6
  case q4 => exact ⟨_, (N26 (lb, W.listOf vb.toArray nb) (by first | walk_at "mine sub" | simp)).1, rfl, nb, rfl⟩
  case q6 => rw [List.size_toArray, hvb.length, List.length_cons, sizeLine_eq]; walk_at "mine omega"
  intro D3 ws2 h35 F35 N35 l35 hws2 hwl2 hwx2
  refine LCg.CompEnd.intro F35 N35 ((D3, W.listOf ws2.toArray 0) :: (D1, W.listOf ws1.toArray 0) :: (ll, W.listOf #[Value.ref la, Value.ref lb] 0) :: (lb, W.listOf vb.toArray nb) :: (la, W.listOf va.toArray na) :: rest) ?r3 ⟨⟨Ne.symm (Nat.ne_of_lt (l35 (I2, oI2) (.head _))), Ne.symm (Nat.ne_of_lt (l35 (C2, oC2) (.tail _ (.head _)))), Ne.symm (Nat.ne_of_lt (l35 (D2, LCg.lst ([] ++ [Value.ref D1])) (.tail _ (.tail _ (.head _)))))⟩, hoff2⟩ (.inr ⟨_, .tail _ (.tail _ (.head _)), rfl, _, rfl⟩) ?r4
  case r3 => first | walk_at "mine sub" | (intro q hq; simp only [List.mem_cons] at hq ⊢; rcases hq with e | e | e | e | e | e | e | e <;> simp only [e, true_or, or_true])
  with_reducible refine LCg.CompRest.zero ?_
  intro D4 h4 tk4 F4 N4 off4
  repeat ((fail_if_success (with_reducible show wpAny _ _ (compareOp .NotEq _ _) _ _ _)); (first | (k_unfold; (try dsimp only)) | ((try dsimp only); walk1) | (leave1; (try dsimp only))))
  rename Fr _ _ _ _ => F5
  rename News _ _ _ _ => N5
  refine ne_same N5 (.tail _ (.tail _ (.tail _ (.head _)))) (.head _) (ds := [.list [.int (k1 : Int)], .list [.int (n1 : Int)]]) ?d1 ?d2 ?d3 ?d4 ?d5
  case d1 =>
    refine .cons (.list (.tail _ (.tail _ (.tail _ (.tail _ (.tail _ (.head _)))))) ?_) (.cons (.list (.tail _ (.tail _ (.tail _ (.tail _ (.head _))))) ?_) .nil)
    · exact dat_ints hws
    · exact dat_ints hws2
  case d2 => exact .cons (.list (.tail _ (.tail _ (.head _))) (.cons (.int _ _) .nil)) (.cons (.list (.tail _ (.head _)) (.cons (.int _ _) .nil)) .nil)
  case d3 => intro d hd; simp only [List.mem_cons, List.not_mem_nil, or_false] at hd; rcases hd with rfl | rfl <;> rfl
  case d4 => exact of_decide_eq_true rfl
  walk_at "mine steps"
  show _ ∧ _
  exact ⟨rfl, _, _, rfl, F5, news_sub N5 (by first | walk_at "mine sub" | (intro q hq; simp only [List.mem_cons] at hq ⊢; rcases hq with e | e | e | e <;> simp only [e, true_or, or_true]))⟩
end
end Mine
end
section
theorem Mine.fresh53 : True := by w_top off; trivial
open PySem PySem.W PyProof.Rows PySem.Calls
set_option maxRecDepth 100000
set_option maxHeartbeats 8000000
namespace Mine
section
variable {w : World} {p : Program} {loose : List Str} {mean : ExcName → Option Value} {mg mb : Str → Option Value} {base g : Heap} {L' fa : Addr} {cdv : Value} {mS : Shared} {h : Heap} {tk : Nat} {Q : Flow → Shared → Prop}
theorem seg12 {l0 lc x1 x2 x3 x4 ll la lb : Addr} {dv : Value} {u1 u2 u3 tL : Tok} {n1 n2 look k1 : Nat} {va vb : List Value} {na nb : Nat} {ra rb : List Nat} {rest : List (Addr × Obj)} {rec : Rec}
    (B : Below callerA base [] g) (X : (hd.heap_1 w.params).In g) (P : Top p loose mean mg mb g)
    (F : Fr g L' h (mp11 l0 lc x1 x2 x3 x4 ll dv u1 u2 u3 tL n1 n2 look k1)) (N : News g L' h ((ll, W.listOf #[.ref la, .ref lb] 0) :: (lb, W.listOf vb.toArray nb) :: (la, W.listOf va.toArray na) :: rest))
    (hva : NatL va (k1 :: ra)) (hvb : NatL vb (n1 :: rb)) (hra : ra.length ≤ 200) (hr6 : ∀ c ∈ ra, c ≤ 6) (hk1 : k1 < 128) (hlook : look < 8)
    (hrec : RecIn w (InB g rest) (.ref x3) rec) (hb : hR rec ≤ 190 ∧ okR rec = true ∧ wtR rec ≤ 100000) (hs : strR rec = PySem.Builtin.Str.glued (Str.ofString "\n") (rowsW [Str.ofString "*", Str.ofString "root", Str.ofString "root"] k1 look ra))
    (k : ∀ h' tk', Fr g L' h' (mp11 l0 lc x1 x2 x3 x4 ll dv u1 u2 u3 tL n1 n2 look k1) → News g L' h' ((ll, W.listOf #[.ref la, .ref lb] 0) :: (lb, W.listOf vb.toArray nb) :: (la, W.listOf va.toArray na) :: rest) →
      LawC w L' fa cdv (execs (lawBody w 13) (lawEnv w L' fa cdv)) Q { mS with heap := h', toks := tk' }) :
    LawC w L' fa cdv (execs (lawBody w 12) (lawEnv w L' fa cdv)) Q { mS with heap := h, toks := tk } := by
  refine law_next (st := ?st) (rest := ?rest) ?hb (fun s' => ∃ h' tk', s' = { mS with heap := h', toks := tk' } ∧ Fr g L' h' (mp11 l0 lc x1 x2 x3 x4 ll dv u1 u2 u3 tL n1 n2 look k1) ∧ News g L' h' ((ll, W.listOf #[.ref la, .ref lb] 0) :: (lb, W.listOf vb.toArray nb) :: (la, W.listOf va.toArray na) :: rest)) ?_ (fun s' e => by refine p2_3 ?_ e; (try clear e); intro h' tk' hq1 F' N'; subst hq1; exact k h' tk' F' N')
  case hb => exact rfl
  clear k
  delta LawC lawEnv lawScope scopeOf
  revert X P; k_fill; intro X P
  refine (let AE : Env := _; let AA : Around := Around.deeper _ AE; let QQ : Flow → Shared → Prop := _; (?kL : wpC _ AA (exec _ AE) QQ _ _))
  (try (refine (let mm : Str → Option Value := _; have Fx : Fr _ _ _ mm := F; ?_); clear F; rename Fr _ _ _ _ => F))
  refine wpC_of ?_
  refine wpAny_If (wpAny_isTrue_Compare1 ?_)
  repeat ((fail_if_success (with_reducible show wpAny _ _ (PySem.call (Value.type "str") _ _) _ _ _)); (first | (k_unfold; (try dsimp only)) | ((try dsimp only); walk1) | (leave1; (try dsimp only))))
  refine str_rec (f := 190) hb.1 hb.2.1 (Nat.le_trans hb.2.2 (by decide)) B F X N P rfl (hrec.at F (news_sub N (by intro q hq; simp [hq]))) (by decide +kernel) (by decide +kernel) fun t h2 tk2 F2 N2 k2 => ?_
  try dsimp only
  repeat ((fail_if_success (with_reducible show wpAny _ _ (subscriptTail (Expr.Name _ _) (Expr.Slice _ _ _ _) _ _) _ _ _)); (first | (k_unfold; (try dsimp only)) | ((try dsimp only); walk1) | (leave1; (try dsimp only))))
  rename Fr _ _ _ _ => F3
  rename News _ _ _ _ => N3
  rename Addr => lg
  refine kmk_slice_ints (s := ⟨_, _, _, _, _⟩) (vs := va) F3 N3 ?q1 (by constructor) (by constructor) hva.ints (kmk_from hva.ints (by decide)) rfl ?q2 (by with_unfolding_all rfl) (by intro _; with_unfolding_all rfl) ?q3
  case q1 => exact ⟨_, (N3 (la, W.listOf va.toArray na) (by first | walk_at "mine sub" | simp)).1, rfl, na, rfl⟩
  case q3 => rw [List.size_toArray, hva.length, List.length_cons, sizeLine_eq]; walk_at "mine omega"
  intro D1 ws1 h4 F4 N4 l4 hws hwl hwx
  have hws' : NatL ws1 ra := natL_of_ints hws
  try dsimp only
  repeat ((fail_if_success (with_reducible show wpAny _ _ (PySem.call (Value.ref 180) _ _) _ _ _)); (first | (k_unfold; (try dsimp only)) | ((try dsimp only); walk1) | (leave1; (try dsimp only))))
  refine Spec.call (spec_written [Str.ofString "*", Str.ofString "root", Str.ofString "root"] ra k1 look lg D1 _ ws1 0 0 _ _ (.cons _ _ (.cons _ _ (.cons _ _ .nil))) hws' (by decide) (by decide +kernel) (by walk_at "mine omega") (fun n hn => by have := hr6 n hn; walk_at "mine omega") (by walk_at "mine omega") hlook) B F4 X N4 P rfl
    ⟨(N4 (lg, _) (.tail _ (.head _))).1, (N4 (D1, _) (.head _)).1⟩ (by decide +kernel) (by decide +kernel) fun r h5 tk5 F5 N5 k5 post => ?_
  (try refine opg fun gG hgG => ?_); (obtain ⟨t5, rfl⟩ := post); (try (refine hgG ?_; clear hgG gG))
  rw [hs]
  repeat ((fail_if_success (with_reducible show wpAny _ _ (compareOp CmpOp.NotEq _ _) _ _ _)); (first | (k_unfold; (try dsimp only)) | ((try dsimp only); walk1) | (leave1; (try dsimp only))))
  iterate 1 (first | (k_unfold; (try dsimp only)) | walk1 | (dsimp only; walk1) | (leave1; (try dsimp only)))
  rw [bne_self_eq_false]
  walk_at "mine steps"
  show _ ∧ _
  exact ⟨rfl, _, _, rfl, F5, news_sub N5 (by intro q hq; exact .tail _ (.tail _ hq))⟩
theorem seg13 {l0 lc x1 x2 x3 x4 ll la lb : Addr} {dv : Value} {u1 u2 u3 tL : Tok} {n1 n2 look k1 : Nat} {va vb : List Value} {na nb : Nat} {ra rb : List Nat} {rest : List (Addr × Obj)} {rec : Rec}
    (B : Below callerA base [] g) (X : (hd.heap_1 w.params).In g) (P : Top p loose mean mg mb g)
    (F : Fr g L' h (mp11 l0 lc x1 x2 x3 x4 ll dv u1 u2 u3 tL n1 n2 look k1)) (N : News g L' h ((ll, W.listOf #[.ref la, .ref lb] 0) :: (lb, W.listOf vb.toArray nb) :: (la, W.listOf va.toArray na) :: rest))
    (hva : NatL va (k1 :: ra)) (hvb : NatL vb (n1 :: rb)) (hrb : rb.length ≤ 200) (hr6 : ∀ c ∈ rb, c ≤ 6) (hn1 : n1 < 128) (hlook : look < 8)
    (hrec : RecIn w (InB g rest) (.ref x4) rec) (hb : hR rec ≤ 190 ∧ okR rec = true ∧ wtR rec ≤ 100000) (hs : strR rec = PySem.Builtin.Str.glued (Str.ofString "\n") (rowsW [Str.ofString "root", Str.ofString "*"] n1 look rb))
    (k : ∀ h' tk', Fr g L' h' (mp11 l0 lc x1 x2 x3 x4 ll dv u1 u2 u3 tL n1 n2 look k1) → News g L' h' ((ll, W.listOf #[.ref la, .ref lb] 0) :: (lb, W.listOf vb.toArray nb) :: (la, W.listOf va.toArray na) :: rest) →
      LawC w L' fa cdv (execs (lawBody w 14) (lawEnv w L' fa cdv)) Q { mS with heap := h', toks := tk' }) :
    LawC w L' fa cdv (execs (lawBody w 13) (lawEnv w L' fa cdv)) Q { mS with heap := h, toks := tk } := by
  refine law_next (st := ?st) (rest := ?rest) ?hb (fun s' => ∃ h' tk', s' = { mS with heap := h', toks := tk' } ∧ Fr g L' h' (mp11 l0 lc x1 x2 x3 x4 ll dv u1 u2 u3 tL n1 n2 look k1) ∧ News g L' h' ((ll, W.listOf #[.ref la, .ref lb] 0) :: (lb, W.listOf vb.toArray nb) :: (la, W.listOf va.toArray na) :: rest)) ?_ (fun s' e => by refine p2_3 ?_ e; (try clear e); intro h' tk' hq2 F' N'; subst hq2; exact k h' tk' F' N')
  case hb => exact rfl
  clear k
  delta LawC lawEnv lawScope scopeOf
  revert X P; k_fill; intro X P
  refine (let AE : Env := _; let AA : Around := Around.deeper _ AE; let QQ : Flow → Shared → Prop := _; (?kL : wpC _ AA (exec _ AE) QQ _ _))
  (try (refine (let mm : Str → Option Value := _; have Fx : Fr _ _ _ mm := F; ?_); clear F; rename Fr _ _ _ _ => F))
  refine wpC_of ?_
  refine wpAny_If (wpAny_isTrue_Compare1 ?_)
  repeat ((fail_if_success (with_reducible show wpAny _ _ (PySem.call (Value.type "str") _ _) _ _ _)); (first | (k_unfold; (try dsimp only)) | ((try dsimp only); walk1) | (leave1; (try dsimp only))))
  refine str_rec (f := 190) hb.1 hb.2.1 (Nat.le_trans hb.2.2 (by decide)) B F X N P rfl (hrec.at F (news_sub N (by intro q hq; simp [hq]))) (by decide +kernel) (by decide +kernel) fun t h2 tk2 F2 N2 k2 => ?_
  try dsimp only
  repeat ((fail_if_success (with_reducible show wpAny _ _ (subscriptTail (Expr.Name _ _) (Expr.Slice _ _ _ _) _ _) _ _ _)); (first | (k_unfold; (try dsimp only)) | ((try dsimp only); walk1) | (leave1; (try dsimp only))))
  rename Fr _ _ _ _ => F3
  rename News _ _ _ _ => N3
  rename Addr => lg
  refine kmk_slice_ints (s := ⟨_, _, _, _, _⟩) (vs := vb) F3 N3 ?q1 (by constructor) (by constructor) hvb.ints (kmk_from hvb.ints (by decide)) rfl ?q2 (by with_unfolding_all rfl) (by intro _; with_unfolding_all rfl) ?q3
  case q1 => exact ⟨_, (N3 (lb, W.listOf vb.toArray nb) (by first | walk_at "mine sub" | simp)).1, rfl, nb, rfl⟩
  case q3 => rw [List.size_toArray, hvb.length, List.length_cons, sizeLine_eq]; walk_at "mine omega"
  intro D1 ws1 h4 F4 N4 l4 hws hwl hwx
  have hws' : NatL ws1 rb := natL_of_ints hws
  try dsimp only
  repeat ((fail_if_success (with_reducible show wpAny _ _ (PySem.call (Value.ref 180) _ _) _ _ _)); (first | (k_unfold; (try dsimp only)) | ((try dsimp only); walk1) | (leave1; (try dsimp only))))
  refine Spec.call (spec_written [Str.ofString "root", Str.ofString "*"] rb n1 look lg D1 _ ws1 0 0 _ _ (.cons _ _ (.cons _ _ .nil)) hws' (by decide) (by decide +kernel) (by walk_at "mine omega") (fun n hn => by have := hr6 n hn; walk_at "mine omega") (by walk_at "mine omega") hlook) B F4 X N4 P rfl
    ⟨(N4 (lg, _) (.tail _ (.head _))).1, (N4 (D1, _) (.head _)).1⟩ (by decide +kernel) (by decide +kernel) fun r h5 tk5 F5 N5 k5 post => ?_
  (try refine opg fun gG hgG => ?_); (obtain ⟨t5, rfl⟩ := post); (try (refine hgG ?_; clear hgG gG))
  rw [hs]
  repeat ((fail_if_success (with_reducible show wpAny _ _ (compareOp CmpOp.NotEq _ _) _ _ _)); (first | (k_unfold; (try dsimp only)) | ((try dsimp only); walk1) | (leave1; (try dsimp only))))
  iterate 1 (first | (k_unfold; (try dsimp only)) | walk1 | (dsimp only; walk1) | (leave1; (try dsimp only)))
  rw [bne_self_eq_false]
  walk_at "mine steps"
  show _ ∧ _
  exact ⟨rfl, _, _, rfl, F5, news_sub N5 (by intro q hq; exact .tail _ (.tail _ hq))⟩
end
end Mine
end
section
theorem Mine.fresh54 : True := by w_top off; trivial
open PySem PySem.W PyProof.Rows PySem.Calls
set_option maxRecDepth 100000
set_option maxHeartbeats 8000000
namespace Mine
section
variable {w : World} {p : Program} {loose : List Str} {mean : ExcName → Option Value} {mg mb : Str → Option Value} {base g : Heap} {L' fa : Addr} {cdv : Value} {mS : Shared} {h : Heap} {tk : Nat} {Q : Flow → Shared → Prop}
noncomputable abbrev mp14 (sz : Nat) (ts : Tok) (m : Str → Option Value) : Str → Option Value := fun y => if y = Str.ofString "size" then some (Value.int (sz : Int) ts) else m y
theorem seg14 {l0 lc x1 x2 x3 x4 ll la lb : Addr} {dv : Value} {u1 u2 u3 tL : Tok} {n1 n2 look k1 : Nat} {va vb : List Value} {na nb : Nat} {ra rb : List Nat} {rest : List (Addr × Obj)}
    (B : Below callerA base [] g) (X : (hd.heap_1 w.params).In g) (P : Top p loose mean mg mb g)
    (F : Fr g L' h (mp11 l0 lc x1 x2 x3 x4 ll dv u1 u2 u3 tL n1 n2 look k1)) (N : News g L' h ((ll, W.listOf #[.ref la, .ref lb] 0) :: (lb, W.listOf vb.toArray nb) :: (la, W.listOf va.toArray na) :: rest))
    (hva : NatL va (k1 :: ra)) (hvb : NatL vb (n1 :: rb)) (hra : ra.length ≤ 200)
    (k : ∀ h' tk' ts, Fr g L' h' (mp14 ra.length ts (mp11 l0 lc x1 x2 x3 x4 ll dv u1 u2 u3 tL n1 n2 look k1)) → News g L' h' ((ll, W.listOf #[.ref la, .ref lb] 0) :: (lb, W.listOf vb.toArray nb) :: (la, W.listOf va.toArray na) :: rest) →
      LawC w L' fa cdv (execs (lawBody w 15) (lawEnv w L' fa cdv)) Q { mS with heap := h', toks := tk' }) :
    LawC w L' fa cdv (execs (lawBody w 14) (lawEnv w L' fa cdv)) Q { mS with heap := h, toks := tk } := by
  refine law_next (st := ?st) (rest := ?rest) ?hb (fun s' => ∃ h' tk' ts, s' = { mS with heap := h', toks := tk' } ∧ Fr g L' h' (mp14 ra.length ts (mp11 l0 lc x1 x2 x3 x4 ll dv u1 u2 u3 tL n1 n2 look k1)) ∧ News g L' h' ((ll, W.listOf #[.ref la, .ref lb] 0) :: (lb, W.listOf vb.toArray nb) :: (la, W.listOf va.toArray na) :: rest)) ?_ (fun s' e => by refine p3_3 ?_ e; (try clear e); intro h' tk' ts hq1 F' N'; subst hq1; exact k h' tk' ts F' N')
  case hb => exact rfl
  clear k
  delta LawC lawEnv lawScope scopeOf
  revert X P; k_fill; intro X P
  refine (let AE : Env := _; let AA : Around := Around.deeper _ AE; let QQ : Flow → Shared → Prop := _; (?kL : wpC _ AA (exec _ AE) QQ _ _))
  (try (refine (let mm : Str → Option Value := _; have Fx : Fr _ _ _ mm := F; ?_); clear F; rename Fr _ _ _ _ => F))
  refine wpC_of ?_
  walk_at "mine steps"
  refine len_list ⟨_, (N (la, W.listOf va.toArray na) (by first | walk_at "mine sub" | simp)).1, rfl, na, rfl⟩ (by rw [List.size_toArray, hva.length, List.length_cons]; walk_at "mine omega") ?_
  rw [show ((va.toArray.size : Nat) : Int) = (ra.length : Int) + 1 by rw [List.size_toArray, hva.length]; simp]
  walk_at "mine steps"
  rename Fr _ _ _ _ => F1
  rename News _ _ _ _ => N1
  rw [show (ra.length : Int) + 1 - 1 = (ra.length : Int) by walk_at "mine omega"] at F1
  show _ ∧ _
  exact ⟨by first | rfl | trivial, _, _, _, rfl, F1, N1⟩
end
end Mine
end
section
theorem Mine.fresh55 : True := by w_top off; trivial
open PySem PySem.W PyProof.Rows PySem.Calls
set_option maxRecDepth 100000
set_option maxHeartbeats 8000000
namespace Mine
section
variable {w : World} {p : Program} {loose : List Str} {mean : ExcName → Option Value} {mg mb : Str → Option Value} {base g : Heap} {L' fa : Addr} {cdv : Value} {mS : Shared} {h : Heap} {tk : Nat} {Q : Flow → Shared → Prop}
noncomputable abbrev mp15 (bs : Array UInt8) (tb : Tok) (m : Str → Option Value) : Str → Option Value := fun y => if y = Str.ofString "turned" then some (Value.bytes bs tb) else m y
theorem seg15 {l0 lc x1 x2 x3 x4 ll la lb : Addr} {dv : Value} {u1 u2 u3 tL ts : Tok} {n1 n2 look k1 : Nat} {va vb : List Value} {na nb : Nat} {ra rb : List Nat} {rest : List (Addr × Obj)}
    (B : Below callerA base [] g) (X : (hd.heap_1 w.params).In g) (P : Top p loose mean mg mb g) (XB : (hd.heap_1 w.params).In base) (TB : Top p loose mean mg mb base) (D : KtsDicts (([] : List Env).filterMap (·.frame)) g)
    (F : Fr g L' h (mp14 ra.length ts (mp11 l0 lc x1 x2 x3 x4 ll dv u1 u2 u3 tL n1 n2 look k1))) (N : News g L' h ((ll, W.listOf #[.ref la, .ref lb] 0) :: (lb, W.listOf vb.toArray nb) :: (la, W.listOf va.toArray na) :: rest))
    (hva : NatL va (k1 :: ra)) (hvb : NatL vb (n1 :: rb)) (hra : ra.length ≤ 200) (hrb : rb.length = ra.length) (hne : ra ≠ []) (ha6 : ∀ c ∈ ra, c ≤ 6) (hb6 : ∀ c ∈ rb, c ≤ 6)
    (k : ∀ h' tk' tb, Fr g L' h' (mp15 ((ra.reverse ++ rb.reverse).map UInt8.ofNat).toArray tb (mp14 ra.length ts (mp11 l0 lc x1 x2 x3 x4 ll dv u1 u2 u3 tL n1 n2 look k1))) → News g L' h' ((ll, W.listOf #[.ref la, .ref lb] 0) :: (lb, W.listOf vb.toArray nb) :: (la, W.listOf va.toArray na) :: rest) →
      LawC w L' fa cdv (execs (lawBody w 16) (lawEnv w L' fa cdv)) Q { mS with heap := h', toks := tk' }) :
    LawC w L' fa cdv (execs (lawBody w 15) (lawEnv w L' fa cdv)) Q { mS with heap := h, toks := tk } := by
  refine law_next (st := ?st) (rest := ?rest) ?hb (fun s' => ∃ h' tk' tb, s' = { mS with heap := h', toks := tk' } ∧ Fr g L' h' (mp15 ((ra.reverse ++ rb.reverse).map UInt8.ofNat).toArray tb (mp14 ra.length ts (mp11 l0 lc x1 x2 x3 x4 ll dv u1 u2 u3 tL n1 n2 look k1))) ∧ News g L' h' ((ll, W.listOf #[.ref la, .ref lb] 0) :: (lb, W.listOf vb.toArray nb) :: (la, W.listOf va.toArray na) :: rest)) ?_ (fun s' e => by refine p3_3 ?_ e; (try clear e); intro h' tk' tb hq1 F' N'; subst hq1; exact k h' tk' tb F' N')
  case hb => exact rfl
  clear k
  delta LawC lawEnv lawScope scopeOf
  revert X P; k_fill; intro X P
  refine (let AE : Env := _; let AA : Around := Around.deeper _ AE; let QQ : Flow → Shared → Prop := _; (?kL : wpC _ AA (exec _ AE) QQ _ _))
  (try (refine (let mm : Str → Option Value := _; have Fx : Fr _ _ _ mm := F; ?_); clear F; rename Fr _ _ _ _ => F))
  refine wpC_Assign_Name (wpC_Call_Name (wpC_of ?_))
  walk_at "mine steps"
  refine callWithC_function rfl (wpC_of ?_)
  refine evalArgs_pos ⟨_, _, rfl⟩ ?_
  repeat' (first | (k_unfold; (try dsimp only)) | (k_end; wrow_close) | ((fail_if_success (with_reducible show wpAny _ _ (subscriptTail (Expr.Name _ _) (Expr.Slice _ _ _ _) _ _) _ _ _)); (try dsimp only); walk1) | (leave1; (try dsimp only)))
  refine kmk_slice_ints (s := ⟨_, _, _, _, _⟩) (vs := va) F N ?q1 (by constructor) (by constructor) hva.ints (kmk_from hva.ints (by decide)) rfl ?q2 (by with_unfolding_all rfl) (by intro _; with_unfolding_all rfl) ?q3
  case q1 => exact ⟨_, (N (la, W.listOf va.toArray na) (by first | walk_at "mine sub" | simp)).1, rfl, na, rfl⟩
  case q3 => rw [List.size_toArray, hva.length, List.length_cons, sizeLine_eq]; walk_at "mine omega"
  intro D1 ws1 h2 F2 N2 l2 hws hwl hwx
  try dsimp only
  repeat' (first | (k_unfold; (try dsimp only)) | (k_end; wrow_close) | ((fail_if_success (with_reducible show wpAny _ _ (subscriptTail (Expr.Name _ _) (Expr.Slice _ _ _ _) _ _) _ _ _)); (try dsimp only); walk1) | (leave1; (try dsimp only)))
  refine kmk_slice_ints (s := ⟨_, _, _, _, _⟩) (vs := vb) F2 N2 ?q4 (by constructor) (by constructor) hvb.ints (kmk_from hvb.ints (by decide)) rfl ?q5 (by with_unfolding_all rfl) (by intro _; with_unfolding_all rfl) ?q6
  case q4 => exact ⟨_, (N2 (lb, W.listOf vb.toArray nb) (by first | walk_at "mine sub" | simp)).1, rfl, nb, rfl⟩
  case q6 => rw [List.size_toArray, hvb.length, List.length_cons, sizeLine_eq]; walk_at "mine omega"
  intro D2 ws2 h3 F3 N3 l3 hws2 hwl2 hwx2
  try dsimp only
  have hw1 : IntsAre ws1 (ra.map fun (x : Nat) => (x : Int)) := hws
  have hw2 : IntsAre ws2 (rb.map fun (x : Nat) => (x : Int)) := hws2
  refine add_lists_ints F3 N3 ⟨_, (N3 (D1, _) (.tail _ (.head _))).1, rfl, _, rfl⟩ ⟨_, (N3 (D2, _) (.head _)).1, rfl, _, rfl⟩ hw1 hw2 ?q7 ?q8
  case q8 => rw [List.length_map, List.length_map, sizeLine_eq]; walk_at "mine omega"
  intro h4 F4 N4 hw
  walk_at "mine steps"
  refine call_bytes_ints (vs := ws1 ++ ws2) ⟨_, (N4 (h3.objs.size, _) (.head _)).1, rfl, _, rfl⟩ hw ?q9 ?q10 rfl ?_
  case q9 =>
    intro n hn
    rcases List.mem_append.mp hn with hn | hn
    · obtain ⟨c, hc, rfl⟩ := List.mem_map.mp hn; have := ha6 c hc; walk_at "mine omega"
    · obtain ⟨c, hc, rfl⟩ := List.mem_map.mp hn; have := hb6 c hc; walk_at "mine omega"
  case q10 => rw [hw.length, List.length_append, List.length_map, List.length_map, sizeLine_eq]; walk_at "mine omega"
  intro h5 t5 tk5 k5
  have F5 := F4.keeps k5
  have N5 := N4.grown k5
  have e1 : byteArr (List.map (fun (x : Nat) => (x : Int)) ra ++ List.map (fun (x : Nat) => (x : Int)) rb) = (ra.map UInt8.ofNat ++ rb.map UInt8.ofNat).toArray := by
    unfold byteArr
    rw [List.map_append, List.map_map, List.map_map]
    rfl
  rw [e1]
  try dsimp only
  walk_at "mine steps"
  try dsimp only
  refine ⟨⟨_, _, F5.keep _ _ (X 128 _ rfl), rfl⟩, ?_⟩
  have hz : (ra.map UInt8.ofNat ++ rb.map UInt8.ofNat).length = 2 * ra.length := by rw [List.length_append, List.length_map, List.length_map, hrb]; walk_at "mine omega"
  have hpos : 0 < ra.length := List.length_pos_iff.mpr hne
  refine SpecG.call (spec_swap (ra.map UInt8.ofNat ++ rb.map UInt8.ofNat) ra.length 2 _ _ (by rw [List.size_toArray, hz]) hpos (by walk_at "mine omega") (by rw [List.size_toArray, hz]; walk_at "mine omega")) B F5 XB N5 TB D rfl trivial (by decide +kernel) (by decide +kernel) fun r h6 tk6 F6 N6 k6 post => ?_
  (try refine opg fun gG hgG => ?_); (obtain ⟨t6, rfl⟩ := post); (try (refine hgG ?_; clear hgG gG))
  have e2 := swO_two (l1 := ra.map UInt8.ofNat) (l2 := rb.map UInt8.ofNat) (by rw [List.length_map, List.length_map, hrb])
  rw [List.length_map] at e2
  rw [e2, ← List.map_reverse, ← List.map_reverse, ← List.map_append]
  refine wpC_of ?_
  walk_at "mine steps"
  rename Fr _ _ _ _ => F7
  rename News _ _ _ _ => N7
  show _ ∧ _
  exact ⟨by first | rfl | trivial, _, _, _, rfl, F7, news_sub N7 (by intro q hq; exact .tail _ (.tail _ (.tail _ hq)))⟩
end
end Mine
end
section
theorem Mine.fresh56 : True := by w_top off; trivial
open PySem PySem.W PyProof.Rows PySem.Calls
set_option maxRecDepth 100000
set_option maxHeartbeats 8000000
namespace Mine
section
variable {w : World} {p : Program} {loose : List Str} {mean : ExcName → Option Value} {mg mb : Str → Option Value} {base g : Heap} {L' fa : Addr} {cdv : Value} {mS : Shared} {h : Heap} {tk : Nat} {Q : Flow → Shared → Prop}
noncomputable abbrev mp15all (l0 lc x1 x2 x3 x4 ll : Addr) (dv : Value) (u1 u2 u3 tL : Tok) (n1 n2 look k1 sz : Nat) (ts : Tok) (bs : Array UInt8) (tb : Tok) : Str → Option Value := mp15 bs tb (mp14 sz ts (mp11 l0 lc x1 x2 x3 x4 ll dv u1 u2 u3 tL n1 n2 look k1))
noncomputable abbrev mp16 (lt : Addr) (m : Str → Option Value) : Str → Option Value := fun y => if y = Str.ofString "tables" then some (Value.ref lt) else m y
noncomputable abbrev IsTab (w : World) (o : Obj) (tab : List (Nat × Nat)) : Prop := ∃ τ, o.IsDictOf (intKind PP w) (kvsOf τ tab)
theorem seg16 {l0 lc x1 x2 x3 x4 ll : Addr} {dv : Value} {u1 u2 u3 tL ts tb : Tok} {n1 n2 look k1 sz : Nat} {bs : Array UInt8} {rest : List (Addr × Obj)}
    (B : Below callerA base [] g) (X : (hd.heap_1 w.params).In g) (P : Top p loose mean mg mb g)
    (F : Fr g L' h (mp15all l0 lc x1 x2 x3 x4 ll dv u1 u2 u3 tL n1 n2 look k1 sz ts bs tb)) (N : News g L' h rest) (h1 : n1 < 128) (h2 : n2 < 128)
    (k : ∀ h' tk' lt d1 d2 o1 o2 n, (d1 == sysModules) = false → (d2 == sysModules) = false → IsTab w o1 (tabOf n1) → IsTab w o2 (tabOf n2) → Fr g L' h' (mp16 lt (mp15all l0 lc x1 x2 x3 x4 ll dv u1 u2 u3 tL n1 n2 look k1 sz ts bs tb)) → News g L' h' ((lt, W.listOf #[.ref d1, .ref d2] n) :: (d2, o2) :: (d1, o1) :: rest) →
      LawC w L' fa cdv (execs (lawBody w 17) (lawEnv w L' fa cdv)) Q { mS with heap := h', toks := tk' }) :
    LawC w L' fa cdv (execs (lawBody w 16) (lawEnv w L' fa cdv)) Q { mS with heap := h, toks := tk } := by
  refine law_next (st := ?st) (rest := ?rest) ?hb (fun s' => ∃ h' tk' lt d1 d2 o1 o2 n, (d1 == sysModules) = false ∧ (d2 == sysModules) = false ∧ IsTab w o1 (tabOf n1) ∧ IsTab w o2 (tabOf n2) ∧ s' = { mS with heap := h', toks := tk' } ∧ Fr g L' h' (mp16 lt (mp15all l0 lc x1 x2 x3 x4 ll dv u1 u2 u3 tL n1 n2 look k1 sz ts bs tb)) ∧ News g L' h' ((lt, W.listOf #[.ref d1, .ref d2] n) :: (d2, o2) :: (d1, o1) :: rest)) ?_
    (fun s' e => by refine p8_7 ?_ e; (try clear e); intro h' tk' lt d1 d2 o1 o2 n a b c d hq3 F' N'; subst hq3; exact k h' tk' lt d1 d2 o1 o2 n a b c d F' N')
  case hb => exact rfl
  clear k
  delta LawC lawEnv lawScope scopeOf
  revert X P; k_fill; intro X P
  refine (let AE : Env := _; let AA : Around := Around.deeper _ AE; let QQ : Flow → Shared → Prop := _; (?kL : wpC _ AA (exec _ AE) QQ _ _))
  (try (refine (let mm : Str → Option Value := _; have Fx : Fr _ _ _ mm := F; ?_); clear F; rename Fr _ _ _ _ => F))
  refine wpC_of ?_
  repeat ((fail_if_success (with_reducible show wpAny _ _ (PySem.call (Value.ref 149) _ _) _ _ _)); (first | (k_unfold; (try dsimp only)) | ((try dsimp only); walk1) | (leave1; (try dsimp only))))
  (try refine opg fun gG hgG => ?_); (obtain ⟨hU1, _⟩ := numOk_spec h1); (try (refine hgG ?_; clear hgG gG))
  (try refine opg fun gG hgG => ?_); (obtain ⟨hV1, _⟩ := numOk_spec h2); (try (refine hgG ?_; clear hgG gG))
  refine Spec.call (spec_table n1 _ (tabOf n1) (by walk_at "mine omega") hU1) B F X N P rfl trivial (by decide +kernel) (by decide +kernel) fun r h3 tk3 F3 N3 k3 post => ?_
  refine p3_5 ?_ post
  (try clear post)
  intro d1 o1 τ1 hq1 hlo1 hd10 hd11 hi1
  subst hq1
  have N4 := news_app ((NewCells.one hd10 hd11).news F) N3
  (try clear N3)
  try dsimp only
  repeat ((fail_if_success (with_reducible show wpAny _ _ (PySem.call (Value.ref 149) _ _) _ _ _)); (first | (k_unfold; (try dsimp only)) | ((try dsimp only); walk1) | (leave1; (try dsimp only))))
  refine Spec.call (spec_table n2 _ (tabOf n2) (by walk_at "mine omega") hV1) B F3 X N4 P rfl trivial (by decide +kernel) (by decide +kernel) fun r h5 tk5 F5 N5 k5 post => ?_
  refine p3_5 ?_ post
  (try clear post)
  intro d2 o2 τ2 hq2 hlo2 hd20 hd21 hi2
  subst hq2
  have N6 := news_app ((NewCells.one hd20 hd21).news F3) N5
  clear N F; (try clear N5); (try clear N4); (try clear F3)
  try dsimp only
  walk_at "mine steps"
  rename Fr _ _ _ _ => F7
  rename News _ _ _ _ => N7
  rename Addr => lt
  show _ ∧ _
  exact ⟨by first | rfl | trivial, _, _, lt, d1, d2, o1, o2, 0, hlo1, hlo2, ⟨τ1, hi1⟩, ⟨τ2, hi2⟩, rfl, F7, N7⟩
end
end Mine
end
section
theorem Mine.fresh57 : True := by w_top off; trivial
open PySem PySem.W PyProof.Rows PySem.Calls
set_option maxRecDepth 100000
set_option maxHeartbeats 8000000
namespace Mine
section
variable {prog : Program} {w : World} {A : Around} {E : Value → Shared → Prop} {R : Result → Shared → Prop} {s : Shared}
noncomputable abbrev two (elt i1 i2 : Expr) (x y : Str) (px py : Pos) (scope : Scope) (pos : Pos) : Expr := .ListComp elt [⟨.Name x px, i1, [], 0⟩, ⟨.Name y py, i2, [], 0⟩] scope pos
theorem compTurn_two0 (elt i1 i2 : Expr) (x y : Str) (px py : Pos) (scope : Scope) (pos : Pos) (it acc : Value) (env : Env) :
    compTurn (two elt i1 i2 x y px py scope pos) 0 it acc env = (standAt i1.pos >>= fun _ => pyNext it >>= fun r => match r with
      | none => pure (.done .next)
      | some v => letOwnedTupleGo (.Name x px) it v >>= fun _ => assign (.Name x px) env v >>= fun _ =>
        (eval i2 env >>= fun z => standAt i2.pos >>= fun _ => foldedSetIterable i2 env z >>= fun z => holding [z] (pyIter z) >>= fun j => runOwn (.compStart (two elt i1 i2 x y px py scope pos) 1 j acc env) env >>= fun _ =>
          again (.compLoop (two elt i1 i2 x y px py scope pos) 0 it acc env))) := by rfl
theorem compTurn_two1 (elt i1 i2 : Expr) (x y : Str) (px py : Pos) (scope : Scope) (pos : Pos) (it acc : Value) (env : Env) :
    compTurn (two elt i1 i2 x y px py scope pos) 1 it acc env = (standAt i2.pos >>= fun _ => pyNext it >>= fun r => match r with
      | none => pure (.done .next)
      | some v => letOwnedTupleGo (.Name y py) it v >>= fun _ => assign (.Name y py) env v >>= fun _ =>
        (eval elt env >>= fun z => call (.builtin "list.append") [acc, z] >>= fun _ => pure ()) >>= fun _ =>
          again (.compLoop (two elt i1 i2 x y px py scope pos) 1 it acc env)) := by rfl
/-- the inner loop: the same item, again and again -/
theorem loop_in {elt i1 i2 : Expr} {x y : Str} {px py : Pos} {scope : Scope} {pos : Pos} {J D : Addr} {fp wr : List Addr} {n : Nat} {P : Nat → Value → Prop} {St : Nat → Heap → Prop} {cenv : Env} {m : Str → Option Value} {v : Value} {ys : Array Value}
    (W : Walks prog w A J fp wr n P St) (hy : cenv.kindOf y = some .local) (hp : (cenv.scope.kind == .class || (cenv.scope.kind == .module && cenv.locals != cenv.globals)) = false)
    (hDC : D ≠ cenv.locals) (hDf : D ∉ fp) (hCf : cenv.locals ∉ fp) (hst : St 0 s.heap) (hD : s.heap.PlainList D ys) (hn : s.heap.Ns cenv.locals m) (hm : m x = some v) (hxy : x ≠ y)
    (helt : ∀ B s₂ m₂ E' Q, s₂.heap.Ns cenv.locals m₂ → m₂ x = some v → Q v s₂ → wpAny (model prog w) B (eval elt cenv) Q E' s₂) (hsz : ys.size + n ≤ sizeLine)
    (hR : ∀ h' tk m', h'.Ns cenv.locals m' → h'.PlainList D (ys ++ Array.replicate n v) → (∀ b o, b ≠ cenv.locals → b ∉ wr → b ≠ D → s.heap.get? b = some o → h'.get? b = some o) → R (.ok .next) { s with heap := h', toks := tk }) :
    codeAny (model prog w) A (.compLoop (two elt i1 i2 x y px py scope pos) 1 (.ref J) (.ref D) cenv) R s := by
  have hCw : cenv.locals ∉ wr := fun h => hCf (W.sub _ h)
  have hDw : D ∉ wr := fun h => hDf (W.sub _ h)
  refine codeAny_loop rfl (fun k s' => ∃ h' tk m' i, s' = { s with heap := h', toks := tk } ∧ i ≤ n ∧ k = n + 1 - i ∧ St i h' ∧ h'.PlainList D (ys ++ Array.replicate i v) ∧ h'.Ns cenv.locals m' ∧ m' x = some v ∧
      ∀ b o, b ≠ cenv.locals → b ∉ wr → b ≠ D → s.heap.get? b = some o → h'.get? b = some o) ?_ (n + 1) ⟨s.heap, s.toks, m, 0, rfl, Nat.zero_le _, rfl, hst, by simpa using hD, hn, hm, fun _ _ _ _ _ e => e⟩
  rintro k s' hj1
  refine p4_8 ?_ hj1
  (try clear hj1)
  intro h' tk m' i hq2 hi hq3 hst' hD' hn' hm' hk
  subst hq2
  subst hq3
  show wpAny _ A ((compTurn (two elt i1 i2 x y px py scope pos) 1 (.ref J) (.ref D) cenv).onRaise (fun x => do noteFrame x cenv; theTreesLotGoes x)) _ _ _
  refine wpAny_noted ?_
  rw [compTurn_two1]
  refine wpAny_bind (wpAny_standAt (wpAny_bind ?_))
  by_cases hlt : i < n
  · refine W.item i _ _ _ hlt hst' fun u h₁ tk₁ _ hst₁ hk₁ => ?_
    refine wpAny_bind (wpAny_of_eq (show letOwnedTupleGo (.Name y py) (.ref J) u = pure () from rfl) ?_)
    refine wpAny_bind (wpAny_assign_Name (wpAny_storeName_local hy (hn'.at' fun o e => hk₁ _ o hCw e) (fun h₂ hn₂ hs₂ => ?_) hp))
    have hx₂ : (fun z => if z = y then some u else m' z) x = some v := by simp [hxy, hm']
    refine wpAny_bind (wpAny_bind (helt _ _ _ _ _ hn₂ hx₂ ?_))
    have up₂ : ∀ b o, b ≠ cenv.locals → b ∉ wr → h'.get? b = some o → h₂.get? b = some o := fun b o hbC hbf e => hs₂.extBut b o hbC (hk₁ b o hbf e)
    have hst₂ : St (i + 1) h₂ := W.frame _ _ _ hst₁ fun b hb o e => hs₂.extBut b o (fun h => hCf (h ▸ hb)) e
    refine wpAny_bind (wpAny_list_append_plain (hsz := by rw [Array.size_append, Array.size_replicate]; (first | lia | omega)) (hD'.at fun o e => up₂ _ o hDC hDw e) fun h₃ hl₃ hs₃ => wpAny_pure (wpAny_pure ⟨rfl, n + 1 - (i + 1), by (first | lia | omega), ?_⟩))
    refine ⟨h₃, _, _, i + 1, rfl, hlt, rfl, W.frame _ _ _ hst₂ fun b hb o e => hs₃.extBut b o (fun h => hDf (h ▸ hb)) e, ?_, hn₂.sameBut hs₃ (Ne.symm hDC), hx₂, fun b o hbC hbf hbD e => hs₃.extBut b o hbD (up₂ b o hbC hbf (hk b o hbC hbf hbD e))⟩
    have e : ys ++ Array.replicate (i + 1) v = (ys ++ Array.replicate i v).push v := by rw [Array.replicate_succ, Array.append_push]
    rw [e]; exact hl₃
  · obtain rfl : i = n := Nat.le_antisymm hi (Nat.not_lt.mp hlt)
    refine W.done _ _ _ hst' fun h₁ tk₁ hk₁ => wpAny_pure ?_
    exact hR h₁ tk₁ m' (hn'.at' fun o e => hk₁ _ o hCw e) (hD'.at fun o e => hk₁ _ o hDw e) fun b o hbC hbf hbD e => hk₁ b o hbf (hk b o hbC hbf hbD e)
theorem fitsN {i : Int} (h : -4000000000 ≤ i) (h' : i ≤ 4000000000) : Builtin.Range.rangeFitsLong i = true := by
  unfold Builtin.Range.rangeFitsLong
  rw [Bool.and_eq_true]
  exact ⟨decide_eq_true (Int.le_trans (by decide) h), decide_eq_true (Int.lt_of_le_of_lt h' (by decide))⟩
theorem range_up (n : Nat) (h : n ≤ 1000) : Builtin.Range.small 0 ((n : Nat) : Int) 1 = true ∧ Builtin.Range.rangeSize 0 ((n : Nat) : Int) 1 = (n : Int) := by
  have hs : Builtin.Range.rangeSize 0 ((n : Nat) : Int) 1 = (n : Int) := by
    unfold Builtin.Range.rangeSize
    rw [if_pos (by decide)]
    split <;> (first | lia | omega)
  refine ⟨?_, hs⟩
  unfold Builtin.Range.small
  rw [hs, if_pos (by decide), fitsN (by (first | lia | omega)) (by (first | lia | omega)), fitsN (by (first | lia | omega)) (by (first | lia | omega)), fitsN (by (first | lia | omega)) (by (first | lia | omega)), fitsN (by (first | lia | omega)) (by (first | lia | omega)), Bool.or_true]
  rfl
theorem start_in {elt i1 i2 : Expr} {x y : Str} {px py : Pos} {scope : Scope} {pos : Pos} {it acc : Value} {env : Env}
    (h0 : codeAny (model prog w) A (.compLoop (two elt i1 i2 x y px py scope pos) 1 it acc env) R s)
    (h : wpAny (model prog w) A (pyIter it) (fun it' s' => codeAny (model prog w) A (.compLoop (two elt i1 i2 x y px py scope pos) 1 it' acc env) R s') (notedBy (model prog w) A env fun x s' => R (.error x) s') s) :
    codeAny (model prog w) A (.compStart (two elt i1 i2 x y px py scope pos) 1 it acc env) R s := by
  refine codeAny_of_tree ?_
  show wpAny _ _ ((compStart (two elt i1 i2 x y px py scope pos) 1 it acc env).onRaise (fun x => do noteFrame x env; standAt theWindowsPlace)) _ _ s
  refine wpAny_notedAt ?_
  unfold compStart
  show wpAny _ _ (ask >>= _) _ _ s
  refine wpAny_bind (wpAny_askSetting (wpAny_ite ?_))
  split
  · exact wpAny_pure (And.intro rfl h0)
  · refine wpAny_bind (wpAny_rule ?_)
    show wpAny _ _ (standAt i2.pos >>= _) _ _ s
    exact wpAny_bind (wpAny_standAt (wpAny_bind (wpAny_mono h (fun it' s' h' => wpAny_pure (And.intro rfl h')) fun _ _ x => x)))
/-- the outer loop: of each item as many as c says -/
theorem loop_out {elt i1 i2 : Expr} {x y : Str} {px py : Pos} {scope : Scope} {pos : Pos} {I D : Addr} {fp wr : List Addr} {n : Nat} {P : Nat → Value → Prop} {St : Nat → Heap → Prop} {cenv : Env} {m : Str → Option Value}
    (G : Nat → List Value → Prop) (c : Nat → Nat) (hh : A.handled = none)
    (W : Walks prog w A I fp wr n P St) (hx : cenv.kindOf x = some .local) (hy : cenv.kindOf y = some .local) (hp : (cenv.scope.kind == .class || (cenv.scope.kind == .module && cenv.locals != cenv.globals)) = false)
    (hDC : D ≠ cenv.locals) (hDf : D ∉ fp) (hCf : cenv.locals ∉ fp) (hst : St 0 s.heap) (hD : s.heap.PlainList D #[]) (hn : s.heap.Ns cenv.locals m) (hxy : x ≠ y)
    (helt : ∀ B v s₂ m₂ E' Q, s₂.heap.Ns cenv.locals m₂ → m₂ x = some v → Q v s₂ → wpAny (model prog w) B (eval elt cenv) Q E' s₂)
    (hi2 : ∀ i v s₂ m₂ E', i < n → P i v → s₂.heap.Ns cenv.locals m₂ → m₂ x = some v → (∀ b o, b ≠ cenv.locals → b ∉ wr → b ≠ D → s.heap.get? b = some o → s₂.heap.get? b = some o) →
      wpAny (model prog w) A (eval i2 cenv) (fun r s₃ => Keeps s₂ s₃ ∧ ∃ q t u z, r = .ref q ∧ IsRange s₃.heap q 0 ((c i : Nat) : Int) 1 t u z) E' s₂)
    (hs2 : ∀ z, foldedSetIterable i2 cenv z = pure z)
    (hc : ∀ i, c i ≤ 1000) (hG0 : G 0 []) (hGs : ∀ i v ys, i < n → P i v → G i ys → G (i + 1) (ys ++ List.replicate (c i) v)) (hGz : ∀ i ys, G i ys → ys.length ≤ 1000)
    (hR : ∀ h' tk m' ys, h'.Ns cenv.locals m' → h'.PlainList D (ys : List Value).toArray → G n ys → (∀ b o, b ≠ cenv.locals → b ∉ wr → b ≠ D → s.heap.get? b = some o → h'.get? b = some o) → R (.ok .next) { s with heap := h', toks := tk }) :
    codeAny (model prog w) A (.compLoop (two elt i1 i2 x y px py scope pos) 0 (.ref I) (.ref D) cenv) R s := by
  have hCw : cenv.locals ∉ wr := fun h => hCf (W.sub _ h)
  have hDw : D ∉ wr := fun h => hDf (W.sub _ h)
  refine codeAny_loop rfl (fun k s' => ∃ h' tk m' i ys, s' = { s with heap := h', toks := tk } ∧ i ≤ n ∧ k = n + 1 - i ∧ St i h' ∧ h'.PlainList D (ys : List Value).toArray ∧ G i ys ∧ h'.Ns cenv.locals m' ∧
      ∀ b o, b ≠ cenv.locals → b ∉ wr → b ≠ D → s.heap.get? b = some o → h'.get? b = some o) ?_ (n + 1) ⟨s.heap, s.toks, m, 0, [], rfl, Nat.zero_le _, rfl, hst, hD, hG0, hn, fun _ _ _ _ _ e => e⟩
  rintro k s' hj4
  refine p5_8 ?_ hj4
  (try clear hj4)
  intro h' tk m' i ys hq5 hi hq6 hst' hD' hG hn' hk
  subst hq5
  subst hq6
  show wpAny _ A ((compTurn (two elt i1 i2 x y px py scope pos) 0 (.ref I) (.ref D) cenv).onRaise (fun x => do noteFrame x cenv; theTreesLotGoes x)) _ _ _
  refine wpAny_noted ?_
  rw [compTurn_two0]
  refine wpAny_bind (wpAny_standAt (wpAny_bind ?_))
  by_cases hlt : i < n
  · refine W.item i _ _ _ hlt hst' fun v h₁ tk₁ hP hst₁ hk₁ => ?_
    refine wpAny_bind (wpAny_of_eq (show letOwnedTupleGo (.Name x px) (.ref I) v = pure () from rfl) ?_)
    refine wpAny_bind (wpAny_assign_Name (wpAny_storeName_local hx (hn'.at' fun o e => hk₁ _ o hCw e) (fun h₂ hn₂ hs₂ => ?_) hp))
    have hx₂ : (fun z => if z = x then some v else m' z) x = some v := by simp
    have up₂ : ∀ b o, b ≠ cenv.locals → b ∉ wr → h'.get? b = some o → h₂.get? b = some o := fun b o hbC hbf e => hs₂.extBut b o hbC (hk₁ b o hbf e)
    have hst₂ : St (i + 1) h₂ := W.frame _ _ _ hst₁ fun b hb o e => hs₂.extBut b o (fun h => hCf (h ▸ hb)) e
    refine wpAny_bind (wpAny_mono (hi2 i v _ _ _ hlt hP hn₂ hx₂ fun b o hbC hbf hbD e => up₂ b o hbC hbf (hk b o hbC hbf hbD e)) (fun r s₃ h₃ => ?_) fun _ _ x => x)
    obtain ⟨⟨h₃, tk₃, rfl, hk₃⟩, q, t, u, z, rfl, hr⟩ := h₃
    refine wpAny_bind (wpAny_standAt (wpAny_bind (wpAny_of_eq (hs2 _) (wpAny_bind (wpAny_holding ?_)))))
    obtain ⟨hsm, hsz⟩ := range_up (c i) (hc i)
    refine wpAny_pyIter_range hr hsm ?_
    rw [hsz]
    have hk4 : ∀ b o, h₂.get? b = some o → (h₃.push { cls := .type "range_iterator", data := .fields #[rawInt 0, rawInt ((c i : Nat) : Int), rawInt 1] }).get? b = some o := fun b o e => Heap.get?_push_of_some _ (hk₃ b o e)
    have hD2 : h₂.PlainList D ys.toArray := hD'.at fun o e => up₂ _ o hDC hDw e
    have hDlt : D < h₃.objs.size := by obtain ⟨nn, e⟩ := hD2; exact Heap.lt_size (hk₃ _ _ e)
    have hn4 := hn₂.keeps hk4
    have hClt : cenv.locals < h₃.objs.size := (hn₂.keeps hk₃).lt
    have hst3 := W.frame _ _ _ hst₂ fun b _ o e => hk₃ b o e
    have hD3 : h₃.PlainList D ys.toArray := hD2.at fun o e => hk₃ _ o e
    have hup : ∀ b o, h₃.get? b = some o → (h₃.push { cls := .type "range_iterator", data := .fields #[rawInt 0, rawInt ((c i : Nat) : Int), rawInt 1] }).get? b = some o := fun b o e => Heap.get?_push_of_some _ e
    refine wpAny_bind (wpAny_runOwn ?_)
    have WJ := Walks.range (prog := prog) (w := w) (A := A) hh h₃.objs.size 0 1 (c i)
    have J0 : IsRangeIter (h₃.push { cls := .type "range_iterator", data := .fields #[rawInt 0, rawInt ((c i : Nat) : Int), rawInt 1] }) h₃.objs.size (0 + ((0 : Nat) : Int) * 1) (((c i : Nat) : Int) - ((0 : Nat) : Int)) 1 := by
      show Heap.get? _ _ = _
      rw [Heap.get?_push_size _ rfl]
      simp
    have hcg := hGz i ys hG
    have loop := fun (R' : Result → Shared → Prop) hR' => loop_in (R := R') (s := { s with heap := h₃.push { cls := .type "range_iterator", data := .fields #[rawInt 0, rawInt ((c i : Nat) : Int), rawInt 1] }, toks := tk₃ }) (elt := elt) (i1 := i1) (i2 := i2) (px := px) (py := py) (scope := scope) (pos := pos) WJ hy hp hDC (fun hm => by rw [List.mem_singleton.mp hm] at hDlt; exact Nat.lt_irrefl _ hDlt)
      (fun hm => by rw [List.mem_singleton.mp hm] at hClt; exact Nat.lt_irrefl _ hClt) J0 (hD3.at fun o e => hup _ o e) hn4 hx₂ hxy (fun B => helt B v) (by have := hc i; rw [List.size_toArray, sizeLine_eq]; (first | lia | omega)) hR'
    refine start_in (loop _ ?_) (WJ.self 0 _ _ _ J0 (loop _ ?_)) <;>
    · intro h₅ tk₅ m₅ hn₅ hl₅ hk₅
      have hk35 : ∀ b o, b ≠ cenv.locals → b ≠ D → h₃.get? b = some o → h₅.get? b = some o := fun b o hbC hbD e => hk₅ b o hbC (fun hm => by rw [List.mem_singleton.mp hm] at e; exact Nat.lt_irrefl _ (Heap.lt_size e)) hbD (hup b o e)
      refine wpAny_pure ⟨rfl, n + 1 - (i + 1), by (first | lia | omega), h₅, tk₅, m₅, i + 1, ys ++ List.replicate (c i) v, rfl, hlt, rfl, W.frame _ _ _ hst3 fun b hb o e => hk35 b o (fun q => hCf (q ▸ hb)) (fun q => hDf (q ▸ hb)) e, ?_, hGs i v ys hlt hP hG, hn₅, ?_⟩
      · rw [show (ys ++ List.replicate (c i) v).toArray = ys.toArray ++ Array.replicate (c i) v from Array.ext' (by simp)]; exact hl₅
      · exact fun b o hbC hbf hbD e => hk35 b o hbC hbD (hk₃ b o (up₂ b o hbC hbf (hk b o hbC hbf hbD e)))
  · obtain rfl : i = n := Nat.le_antisymm hi (Nat.not_lt.mp hlt)
    refine W.done _ _ _ hst' fun h₁ tk₁ hk₁ => wpAny_pure ?_
    exact hR h₁ tk₁ m' ys (hn'.at' fun o e => hk₁ _ o hCw e) (hD'.at fun o e => hk₁ _ o hDw e) hG fun b o hbC hbf hbD e => hk₁ b o hbf (hk b o hbC hbf hbD e)
/-- a comprehension of two loops, the inner one over a range, as an expression: what stood is kept -/
theorem comp_two {elt i1 i2 : Expr} {x y : Str} {px py : Pos} {scope : Scope} {cl : List (Str × Addr)} {pos : Pos} {env : Env} {Q : Value → Shared → Prop} (G : Nat → List Value → Prop) (c : Nat → Nat) (n : Nat) (P : Nat → Value → Prop) (hh : A.handled = none)
    (hclos : closureFor scope env = pure cl) (hcell : ∀ y ∈ scope.names, y.2 ≠ .cell) (hkind : scope.kind = .function)
    (hnames : ∀ y ∈ scope.names, y.2 = .local → scope.names.lookup y.1 = some .local) (hx : scope.names.lookup x = some .local) (hy : scope.names.lookup y = some .local) (hxy : x ≠ y)
    (hc : ∀ i, c i ≤ 1000) (hG0 : G 0 []) (hGs : ∀ i v ys, i < n → P i v → G i ys → G (i + 1) (ys ++ List.replicate (c i) v)) (hGz : ∀ i ys, G i ys → ys.length ≤ 1000)
    (h : wpAny (model prog w) A (eval i1 env) (fun xv s₁ => wpAny (model prog w) A (pyIter xv) (fun it s₂ => ∃ I fp St, it = .ref I ∧ Walks prog w A I fp [I] n P St ∧ St 0 s₂.heap ∧ (∀ b ∈ fp, b < s₂.heap.objs.size) ∧
      (∀ b o, s₁.heap.get? b = some o → b ≠ I ∧ s₂.heap.get? b = some o) ∧
      (∀ B C v s₂ m₂ E' Q, s₂.heap.Ns C m₂ → m₂ x = some v → Q v s₂ → wpAny (model prog w) B (eval elt (compEnvC scope cl C env)) Q E' s₂) ∧
      (∀ C i v s₃ m₂ E', i < n → P i v → s₃.heap.Ns C m₂ → m₂ x = some v → (∀ b o, s₁.heap.get? b = some o → s₃.heap.get? b = some o) →
        wpAny (model prog w) A (eval i2 (compEnvC scope cl C env)) (fun r s₄ => Keeps s₃ s₄ ∧ ∃ q t u z, r = .ref q ∧ IsRange s₄.heap q 0 ((c i : Nat) : Int) 1 t u z) E' s₃) ∧
      (∀ C z, foldedSetIterable i2 (compEnvC scope cl C env) z = pure z) ∧
      (∀ D h' tk ys, s₁.heap.get? D = none → h'.PlainList D (ys : List Value).toArray → G n ys → (∀ b o, s₁.heap.get? b = some o → h'.get? b = some o) → Q (.ref D) { s₂ with heap := h', toks := tk })) E s₁) E s)
    (hs : ∀ x, foldedSetIterable i1 env x = pure x := by intro _; rfl) :
    wpAny (model prog w) A (eval (two elt i1 i2 x y px py scope pos) env) Q E s := by
  rw [eval_ListComp]
  refine wpAny_comprehension_free (use := none) rfl hs hclos hkind hnames (wpAny_mono h (fun xv s₁ h₁ => wpAny_mono h₁ (fun it s₂ h₂ => ?_) fun _ _ e => e) fun _ _ e => e)
  refine p3_9 ?_ h₂
  (try clear h₂)
  intro I fp St hq9 W hst hfp h12 helt hi2 hs2 hQ
  subst hq9
  refine wpAny_newObj_type (wpAny_newFunctionEnv hcell (by intro y hy; simp at hy) (fun h₁ hns₁ hsb₁ => ?_) hkind)
  dsimp only at hns₁ hsb₁ ⊢
  generalize hH2 : s₂.heap.push { cls := .type "list", dict := none, data := .seq ([] : List Value).toArray } = H2 at hns₁ hsb₁ ⊢
  have hC : H2.objs.size = s₂.heap.objs.size + 1 := by rw [← hH2, Heap.size_push]
  have hDC : s₂.heap.objs.size ≠ H2.objs.size := by rw [hC]; exact Nat.ne_of_lt (Nat.lt_succ_self _)
  have below : ∀ b, b < s₂.heap.objs.size → b ≠ H2.objs.size ∧ b ≠ s₂.heap.objs.size := fun b hb => ⟨by rw [hC]; exact Nat.ne_of_lt (Nat.lt_succ_of_lt hb), Nat.ne_of_lt hb⟩
  have hDf : s₂.heap.objs.size ∉ fp := fun hm => Nat.lt_irrefl _ (hfp _ hm)
  have hCf : H2.objs.size ∉ fp := fun hm => by have := hfp _ hm; rw [hC] at this; exact Nat.lt_irrefl _ (Nat.lt_of_succ_lt this)
  have old : ∀ b o, s₂.heap.get? b = some o → h₁.get? b = some o := fun b o e => hsb₁.extBut b o (below b (Heap.lt_size e)).1 (Heap.get?_push_of_some _ (hH2 ▸ Heap.get?_push_of_some _ e))
  have hacc : h₁.PlainList s₂.heap.objs.size #[] := ⟨_, hsb₁.extBut _ _ hDC (Heap.get?_push_of_some _ (hH2 ▸ Heap.get?_push_size _ rfl))⟩
  have hst₁ : St 0 h₁ := W.frame _ _ _ hst fun b _ o e => old b o e
  have hD1 : s₁.heap.get? s₂.heap.objs.size = none := by
    cases e : s₁.heap.get? s₂.heap.objs.size with
    | none => rfl
    | some o => exact absurd (Heap.lt_size (h12 _ _ e).2) (Nat.lt_irrefl _)
  have hC1 : s₁.heap.get? H2.objs.size = none := by
    cases e : s₁.heap.get? H2.objs.size with
    | none => rfl
    | some o => have := Heap.lt_size (h12 _ _ e).2; rw [hC] at this; exact absurd (Nat.lt_of_succ_lt this) (Nat.lt_irrefl _)
  have loop : ∀ s₃ : Shared, s₃ = { s₂ with heap := h₁, toks := s₂.toks + ([] : List (Str × Value)).length } →
      codeAny (model prog w) A (.compLoop (two elt i1 i2 x y px py scope pos) 0 (.ref I) (.ref s₂.heap.objs.size) (compEnvC scope cl H2.objs.size env))
        (compPost (model prog w) A E none Q (.ref s₂.heap.objs.size) H2.objs.size) s₃ := by
    rintro s₃ rfl
    refine loop_out (cenv := compEnvC scope cl H2.objs.size env) G c hh W (lookup_relabel_local hx) (lookup_relabel_local hy) (by simp [compEnvC, relabel, hkind]) hDC hDf hCf hst₁ hacc hns₁ hxy
      (fun B v s₂ m₂ E' Q hn hm hq => helt B _ v s₂ m₂ E' Q hn hm hq)
      (fun i v s₃ m₃ E' hi hv hn hm hk => hi2 _ i v s₃ m₃ E' hi hv hn hm fun b o e => hk b o (below b (Heap.lt_size (h12 b o e).2)).1 (by simp [(h12 b o e).1]) (below b (Heap.lt_size (h12 b o e).2)).2 (old b o (h12 b o e).2))
      (fun z => hs2 _ z) hc hG0 hGs hGz fun h' tk m' ys hn hl hG hk => ?_
    refine ⟨m', hn, fun h'' hs'' => hQ _ h'' tk ys hD1 (hl.extBut hs''.extBut hDC) hG fun b o e => ?_⟩
    have hb := below b (Heap.lt_size (h12 b o e).2)
    exact hs''.extBut b o hb.1 (hk b o hb.1 (by simp [(h12 b o e).1]) hb.2 (old b o (h12 b o e).2))
  exact codeAny_compStart_list (loop _ rfl) (W.self 0 _ _ _ hst₁ (loop _ rfl))
/-- the frame of a comprehension whose one name is kept in a cell -/
noncomputable def cellEnv (scope : Scope) (x : Str) (C K : Addr) (env : Env) : Env :=
  { scope := relabel scope env, locals := C, globals := env.globals, cells := [(x, K)], qual := env.qual, func := none, code := env.code, frame := env.frame, builtins := env.builtins }
theorem newEnv_cell {scope : Scope} {x n0 : Str} {env : Env} {Q : Env → Shared → Prop} (hnm : scope.names = [(n0, .local), (x, .cell)])
    (h : ∀ h', h'.Ns s.heap.objs.size (fun _ => none) → h'.IsCell (s.heap.objs.size + 1) none → (∀ b o, s.heap.get? b = some o → h'.get? b = some o) → s.heap.get? (s.heap.objs.size + 1) = none →
      Q { scope := scope, locals := s.heap.objs.size, globals := env.globals, cells := [(x, s.heap.objs.size + 1)], qual := env.qual, func := none, code := env.code, frame := env.frame, builtins := env.builtins } { s with heap := h' }) :
    wpAny (model prog w) A (newFunctionEnv scope env.globals [] [] env.qual none .none (some env)) Q E s := by
  simp only [newFunctionEnv, Option.isSome_some, if_true]
  refine wpAny_bind (wpAny_alloc ?_)
  refine wpAny_bind (wpAny_layCells _ (fun name kind cells => by cases hkc : kind == NameKind.cell <;> simp [hkc]) _ _ _ _ ?_)
  simp only [List.forIn_nil]
  refine wpAny_bind (wpAny_pure (wpAny_pure ?_))
  have hz : (s.heap.push { cls := .type "dict", data := .dict #[] }).objs.size = s.heap.objs.size + 1 := Heap.size_push ..
  have e1 : cellsFrom (s.heap.push { cls := .type "dict", data := .dict #[] }).objs.size scope.names [] = [(x, s.heap.objs.size + 1)] := by rw [hnm, hz]; rfl
  have e2 : pushCells (s.heap.push { cls := .type "dict", data := .dict #[] }) scope.names = (s.heap.push { cls := .type "dict", data := .dict #[] }).push { cls := .type "cell", data := .cell none } := by rw [hnm]; rfl
  have e3 : s.heap.get? (s.heap.objs.size + 1) = none := by
    cases e : s.heap.get? (s.heap.objs.size + 1) with
    | none => rfl
    | some o => exact absurd (Heap.lt_size e) (by show ¬ (s.heap.objs.size + 1 : Nat) < s.heap.objs.size; (first | lia | omega))
  have := h ((s.heap.push { cls := .type "dict", data := .dict #[] }).push { cls := .type "cell", data := .cell none }) ((Heap.Ns.new s.heap (.type "dict")).keeps fun b o e => Heap.get?_push_of_some _ e)
    ⟨_, by rw [← hz]; exact Heap.get?_push_size _ rfl, rfl⟩ (fun b o e => Heap.get?_push_of_some _ (Heap.get?_push_of_some _ e)) e3
  rw [e1, e2]
  exact this
/-- a comprehension over a list whose name is kept in a cell: each element a new object, what stood is kept -/
theorem cell_block {elt iter : Expr} {x n0 : Str} {px : Pos} {scope : Scope} {pos : Pos} {env : Env} {s₂ : Shared} {I lt : Addr} {its : List Value} {RR : Value → Addr → Result → Shared → Prop} (G : Nat → Addr → Obj → Prop)
    (hh : A.handled = none) (hI : s₂.heap.IsListIter I lt 0) (hl : s₂.heap.IsList lt its.toArray) (hne : lt ≠ I) (hz : its.length ≤ 1000)
    (hnm : scope.names = [(n0, .local), (x, .cell)]) (hkind : scope.kind = .function) (hx : ∀ C K, (cellEnv scope x C K env).kindOf x = some .cell)
    (helt : ∀ C K i v s₃ E', its[i]? = some v → (∀ b o, b ≠ I → s₂.heap.get? b = some o → s₃.heap.get? b = some o) → s₃.heap.IsCell K (some v) →
      wpAny (model prog w) A (eval elt (cellEnv scope x C K env)) (fun y s₄ => (∃ a o, y = .ref a ∧ s₃.heap.get? a = none ∧ s₄.heap.get? a = some o ∧ G i a o) ∧ Keeps s₃ s₄) E' s₃)
    (hRR : ∀ D C h' tk m' (as : List (Addr × Obj)), s₂.heap.get? D = none → s₂.heap.get? C = none → D ≠ C → h'.Ns C m' → h'.PlainList D (as.map fun p => Value.ref p.1).toArray → as.length = its.length →
      (∀ (i : Nat) p, as[i]? = some p → h'.get? p.1 = some p.2 ∧ s₂.heap.get? p.1 = none ∧ p.1 ≠ C ∧ p.1 ≠ D ∧ G i p.1 p.2) → (∀ b o, b ≠ I → s₂.heap.get? b = some o → h'.get? b = some o) → RR (.ref D) C (.ok .next) { s₂ with heap := h', toks := tk }) :
    wpAny (model prog w) A (newList []) (fun acc s₃ => wpAny (model prog w) A (newFunctionEnv scope env.globals [] [] env.qual none .none (some env)) (fun cenv s₄ =>
      codeAny (model prog w) A (.compStart (.ListComp elt [⟨.Name x px, iter, [], 0⟩] scope pos) 0 (.ref I) acc { cenv with scope := relabel scope env }) (RR acc cenv.locals) s₄) E s₃) E s₂ := by
  refine wpAny_newObj_type (newEnv_cell hnm fun h₁ hns₁ hK₁ hk₁ hK₀ => ?_)
  dsimp only at hns₁ hK₁ hk₁ hK₀ ⊢
  generalize hH2 : s₂.heap.push { cls := .type "list", dict := none, data := .seq ([] : List Value).toArray } = H2 at hns₁ hK₁ hk₁ hK₀ ⊢
  have hC : H2.objs.size = s₂.heap.objs.size + 1 := by rw [← hH2, Heap.size_push]
  have none_of : ∀ a, s₂.heap.objs.size ≤ a → s₂.heap.get? a = none := fun a ha => by
    cases e : s₂.heap.get? a with
    | none => rfl
    | some o' => exact absurd (Heap.lt_size e) (Nat.not_lt.mpr ha)
  have old : ∀ b o, s₂.heap.get? b = some o → h₁.get? b = some o := fun b o e => hk₁ _ _ (hH2 ▸ Heap.get?_push_of_some _ e)
  have hacc : h₁.PlainList s₂.heap.objs.size #[] := ⟨_, hk₁ _ _ (hH2 ▸ Heap.get?_push_size _ rfl)⟩
  have hIlt : I < s₂.heap.objs.size := by obtain ⟨o, e, _⟩ := hI; exact Heap.lt_size e
  have hDC : s₂.heap.objs.size ≠ H2.objs.size := by rw [hC]; exact Nat.ne_of_lt (Nat.lt_succ_self _)
  have hDK : s₂.heap.objs.size ≠ H2.objs.size + 1 := by rw [hC]; show ¬ (s₂.heap.objs.size : Nat) = _; (first | lia | omega)
  have hCK : H2.objs.size ≠ H2.objs.size + 1 := by show ¬ (H2.objs.size : Nat) = _; (first | lia | omega)
  have hID : I ≠ s₂.heap.objs.size := Nat.ne_of_lt hIlt
  have hIC : I ≠ H2.objs.size := by rw [hC]; exact Nat.ne_of_lt (Nat.lt_succ_of_lt hIlt)
  have hIK : I ≠ H2.objs.size + 1 := by rw [hC]; exact Nat.ne_of_lt (Nat.lt_succ_of_lt (Nat.lt_succ_of_lt hIlt))
  have hltD : lt < s₂.heap.objs.size := by obtain ⟨o, e, _⟩ := hl; exact Heap.lt_size e
  have hlD : lt ≠ s₂.heap.objs.size := Nat.ne_of_lt hltD
  have hlK : lt ≠ H2.objs.size + 1 := by rw [hC]; exact Nat.ne_of_lt (Nat.lt_succ_of_lt (Nat.lt_succ_of_lt hltD))
  have W := Walks.list (prog := prog) (w := w) hh I lt hne its.toArray
  have hbelow : ∀ b o, s₂.heap.get? b = some o → b ≠ H2.objs.size + 1 ∧ b ≠ s₂.heap.objs.size := fun b o e => by
    have := Heap.lt_size e
    exact ⟨by rw [hC]; exact Nat.ne_of_lt (Nat.lt_succ_of_lt (Nat.lt_succ_of_lt this)), Nat.ne_of_lt this⟩
  have hzz : its.toArray.size = its.length := by simp
  have loop : ∀ s₃ : Shared, s₃ = { s₂ with heap := h₁ } → codeAny (model prog w) A (.compLoop (.ListComp elt [⟨.Name x px, iter, [], 0⟩] scope pos) 0 (.ref I) (.ref s₂.heap.objs.size) (cellEnv scope x H2.objs.size (H2.objs.size + 1) env)) (RR (.ref s₂.heap.objs.size) H2.objs.size) s₃ := by
    rintro s₃ rfl
    refine codeAny_compLoop_tests (fun k s' => ∃ h' tk i m' cv, ∃ as : List (Addr × Obj), s' = { s₂ with heap := h', toks := tk } ∧ i ≤ its.length ∧ k = its.length + 1 - i ∧ as.length = i ∧ (h'.IsListIter I lt i ∧ h'.IsList lt its.toArray) ∧
        h'.PlainList s₂.heap.objs.size (as.map fun p => Value.ref p.1).toArray ∧ h'.Ns H2.objs.size m' ∧ h'.IsCell (H2.objs.size + 1) cv ∧
        (∀ (j : Nat) p, as[j]? = some p → h'.get? p.1 = some p.2 ∧ s₂.heap.get? p.1 = none ∧ p.1 ≠ I ∧ p.1 ≠ H2.objs.size ∧ p.1 ≠ H2.objs.size + 1 ∧ p.1 ≠ s₂.heap.objs.size ∧ G j p.1 p.2) ∧ ∀ b o, b ≠ I → s₂.heap.get? b = some o → h'.get? b = some o) ?_ (its.length + 1)
      ⟨h₁, s₂.toks, 0, _, _, [], rfl, Nat.zero_le _, rfl, rfl, ⟨hI.at fun o e => old _ o e, hl.at fun o e => old _ o e⟩, hacc, hns₁, hK₁, fun j p hp => by simp at hp, fun b o _ e => old b o e⟩
    rintro k s' hj10
    refine p6_10 ?_ hj10
    (try clear hj10)
    intro h' tk i m' cv as hq11 hi hq12 hal hst' hD' hn' hK' has hk
    subst hq11
    subst hq12
    by_cases hlt : i < its.length
    · refine W.item i _ _ _ (by rw [hzz]; exact hlt) hst' fun v h₂ tk₂ hP hst₂ hk₂ => ?_
      have hk₂' : ∀ b o, b ≠ I → h'.get? b = some o → h₂.get? b = some o := fun b o hb e => hk₂ b o (by simpa using hb) e
      have hK₂ : h₂.IsCell (H2.objs.size + 1) cv := by obtain ⟨o, e, d⟩ := hK'; exact ⟨o, hk₂' _ _ (Ne.symm hIK) e, d⟩
      refine wpAny_assign_Name (wpAny_storeName_cell (c := H2.objs.size + 1) (by simp [cellEnv, relabel, hkind]) (hx _ _) (by simp [cellEnv]) hK₂ fun h₃ hK₃ hs₃ => ?_)
      refine wpAny_tests_nil ?_
      simp only [if_true]
      have hv : its[i]? = some v := by simpa using hP
      have up₃ : ∀ b o, b ≠ I → b ≠ H2.objs.size + 1 → h'.get? b = some o → h₃.get? b = some o := fun b o hb hbK e => hs₃.extBut b o hbK (hk₂' b o hb e)
      refine wpAny_mono (helt H2.objs.size (H2.objs.size + 1) i v _ _ hv (fun b o hb e => up₃ b o hb (hbelow b o e).1 (hk b o hb e)) hK₃) (fun y s₄ h₄ => ?_) fun _ _ x => x
      obtain ⟨⟨a, oa, rfl, ha0, ha1, hGa⟩, h₄, tk₄, rfl, hk₄⟩ := h₄
      have hD₄ : h₄.PlainList s₂.heap.objs.size (as.map fun p => Value.ref p.1).toArray := hD'.at fun o e => hk₄ _ o (up₃ _ o (Ne.symm hID) hDK e)
      refine wpAny_list_append_plain (hsz := by rw [List.size_toArray, List.length_map, hal, sizeLine_eq]; (first | lia | omega)) hD₄ fun h₅ hl₅ hs₅ => ?_
      have hst₃ : h₃.IsListIter I lt (i + 1) ∧ h₃.IsList lt its.toArray := ⟨hst₂.1.at fun o e => hs₃.extBut _ o hIK e, hst₂.2.at fun o e => hs₃.extBut _ o hlK e⟩
      have hst₅ : h₅.IsListIter I lt (i + 1) ∧ h₅.IsList lt its.toArray := ⟨hst₃.1.at fun o e => hs₅.extBut _ o hID (hk₄ _ o e), hst₃.2.at fun o e => hs₅.extBut _ o hlD (hk₄ _ o e)⟩
      have up₅ : ∀ b o, b ≠ I → b ≠ H2.objs.size + 1 → b ≠ s₂.heap.objs.size → h'.get? b = some o → h₅.get? b = some o := fun b o hb hbK hbD e => hs₅.extBut b o hbD (hk₄ b o (up₃ b o hb hbK e))
      have ne_a : ∀ b o, h₃.get? b = some o → a ≠ b := fun b o e q => by rw [q] at ha0; rw [e] at ha0; cases ha0
      have aI : a ≠ I := by obtain ⟨o, e, _⟩ := hst₃.1; exact ne_a _ _ e
      have aK : a ≠ H2.objs.size + 1 := by obtain ⟨o, e, _⟩ := hK₃; exact ne_a _ _ e
      have aD : a ≠ s₂.heap.objs.size := by obtain ⟨nn, e⟩ := hD'; exact ne_a _ _ (up₃ _ _ (Ne.symm hID) hDK e)
      have hn₃ : h₃.Ns H2.objs.size m' := hn'.at' fun o e => up₃ _ o (Ne.symm hIC) hCK e
      have aC : a ≠ H2.objs.size := by obtain ⟨o, es, ep, e, _⟩ := hn₃; exact ne_a _ _ e
      have a2 : s₂.heap.get? a = none := by
        cases e : s₂.heap.get? a with
        | none => rfl
        | some o => exact absurd rfl (ne_a a o (up₃ a o aI aK (hk a o aI e)))
      refine ⟨its.length + 1 - (i + 1), by (first | lia | omega), h₅, tk₄, i + 1, _, _, as ++ [(a, oa)], rfl, hlt, rfl, by rw [List.length_append, hal]; rfl, hst₅, ?_, (hn₃.keeps hk₄).sameBut hs₅ (Ne.symm hDC), (hK₃.keeps hk₄).sameBut hs₅ (Ne.symm hDK), ?_, fun b o hb e => up₅ b o hb (hbelow b o e).1 (hbelow b o e).2 (hk b o hb e)⟩
      · rw [show ((as ++ [(a, oa)]).map fun p => Value.ref p.1).toArray = (as.map fun p => Value.ref p.1).toArray.push (.ref a) by simp]
        exact hl₅
      · intro j p hp
        rcases Nat.lt_trichotomy j as.length with hj | hj | hj
        · rw [List.getElem?_append_left hj] at hp
          have hp16 := has j p hp
          refine p0_7 ?_ hp16
          (try clear hp16)
          intro q1 q2 q3 q4 q5 q6 q7
          exact ⟨up₅ _ _ q3 q5 q6 q1, q2, q3, q4, q5, q6, q7⟩
        · subst hj
          simp at hp
          subst hp
          exact ⟨hs₅.extBut _ _ aD ha1, a2, aI, aC, aK, aD, hal ▸ hGa⟩
        · rw [List.getElem?_eq_none (by rw [List.length_append, List.length_singleton]; (first | lia | omega))] at hp; cases hp
    · obtain rfl : i = its.length := Nat.le_antisymm hi (Nat.not_lt.mp hlt)
      refine W.done _ _ _ (by rw [hzz]; exact hst') fun h₂ tk₂ hk₂ => ?_
      have hk₂' : ∀ b o, b ≠ I → h'.get? b = some o → h₂.get? b = some o := fun b o hb e => hk₂ b o (by simpa using hb) e
      refine hRR _ _ h₂ tk₂ m' as (none_of _ (Nat.le_refl _)) (none_of _ (by rw [hC]; exact Nat.le_succ _)) hDC (hn'.at' fun o e => hk₂' _ o (Ne.symm hIC) e) (hD'.at fun o e => hk₂' _ o (Ne.symm hID) e) hal (fun j p hp => ?_) fun b o hb e => hk₂' b o hb (hk b o hb e)
      have hp17 := has j p hp
      refine p0_7 ?_ hp17
      (try clear hp17)
      intro q1 q2 q3 q4 q5 q6 q7
      exact ⟨hk₂' _ _ q3 q1, q2, q4, q6, q7⟩
  exact codeAny_compStart_list (loop _ rfl) (W.self 0 _ _ _ ⟨hI.at fun o e => old _ o e, hl.at fun o e => old _ o e⟩ (loop _ rfl))
variable {h₀ : Heap} {env : Env}
/-- what such a comprehension asks of what it goes over -/
noncomputable def CellOf (prog : Program) (w : World) (A : Around) (env : Env) (h₀ : Heap) (elt : Expr) (x : Str) (scope : Scope) (G : Nat → Addr → Obj → Prop) (mf : (Str → Option Value) → Addr → Str → Option Value) (Ret : Addr → Shared → Prop) (xv : Value) (s₁ : Shared) : Prop :=
  ∃ lt its m led, xv = .ref lt ∧ s₁.heap.IsList lt (its : List Value).toArray ∧ its.length ≤ 1000 ∧ Fr h₀ env.locals s₁.heap m ∧ News h₀ env.locals s₁.heap led ∧
    (∀ C K i v s₃ E', its[i]? = some v → (∀ b o, s₁.heap.get? b = some o → s₃.heap.get? b = some o) → s₃.heap.IsCell K (some v) →
      wpAny (model prog w) A (eval elt (cellEnv scope x C K env)) (fun y s₄ => (∃ a o, y = .ref a ∧ s₃.heap.get? a = none ∧ s₄.heap.get? a = some o ∧ G i a o) ∧ Keeps s₃ s₄) E' s₃) ∧
    (∀ D h' tk n (as : List (Addr × Obj)), Fr h₀ env.locals h' (mf m D) → News h₀ env.locals h' ((D, W.listOf (as.map fun p => Value.ref p.1).toArray n) :: (as ++ led)) → as.length = its.length → (∀ (i : Nat) p, as[i]? = some p → G i p.1 p.2) → Ret D { s₁ with heap := h', toks := tk })
theorem comp_cell_asg {elt iter : Expr} {x y n0 : Str} {px py : Pos} {scope : Scope} {pos spos : Pos} {Q : Flow → Shared → Prop} (G : Nat → Addr → Obj → Prop) (hh : A.handled = none)
    (hsw : swapsWith (.ListComp elt [⟨.Name x px, iter, [], 0⟩] scope pos) (some (.Name y py)) spos.line env = pure true)
    (hclos : closureFor scope env = pure []) (hnm : scope.names = [(n0, .local), (x, .cell)]) (hkind : scope.kind = .function) (hx : ∀ C K, (cellEnv scope x C K env).kindOf x = some .cell)
    (hnames : ∀ z ∈ scope.names, z.2 = .local → scope.names.lookup z.1 = some .local)
    (hy : env.kindOf y = some .local) (hp : (env.scope.kind == .class || (env.scope.kind == .module && env.locals != env.globals)) = false)
    (h : wpAny (model prog w) A (eval iter env) (CellOf prog w A env h₀ elt x scope G (fun m D z => if z = y then some (.ref D) else m z) (fun _ s => Q .next s)) E s)
    (hs : ∀ x, foldedSetIterable iter env x = pure x := by intro _; rfl) :
    wpAny (model prog w) A (exec (.Assign [.Name y py] (.ListComp elt [⟨.Name x px, iter, [], 0⟩] scope pos) spos) env) Q E s := by
  rw [exec_Assign_Name_used _ _ _ _ hsw]
  refine wpAny_bind (wpAny_standAt (wpAny_bind ?_))
  show wpAny _ A (do let _ ← comprehension (.ListComp elt [⟨.Name x px, iter, [], 0⟩] scope pos) scope env _ (newList []) false (eval iter env) (some (assign (.Name y py) env))) _ _ s
  refine wpAny_bind (wpAny_mono (wpAny_comprehension_free (use := some (assign (.Name y py) env)) (Q := fun _ s' => Q .next s') rfl hs hclos hkind hnames
    (wpAny_mono h (fun xv s₁ h₁ => ?_) fun _ _ e => e)) (fun _ s' hq => wpAny_pure (wpAny_pure hq)) fun _ _ e => e)
  refine p4_7 ?_ h₁
  (try clear h₁)
  intro lt its m led hq18 hl hz F N helt hret
  subst hq18
  have hlt : lt < s₁.heap.objs.size := by obtain ⟨_, e, _⟩ := hl; exact Heap.lt_size e
  refine wpAny_pyIter_list hl ?_
  have up : ∀ b o, s₁.heap.get? b = some o → b ≠ s₁.heap.objs.size ∧ (s₁.heap.push { cls := .type "list_iterator", data := .fields #[.ref lt, .int 0 0] }).get? b = some o := fun b o e => ⟨Nat.ne_of_lt (Heap.lt_size e), Heap.get?_push_of_some _ e⟩
  refine cell_block (RR := fun acc C => compPost (model prog w) A E (some (assign (.Name y py) env)) (fun _ s' => Q .next s') acc C) (its := its) G hh ⟨_, Heap.get?_push_size _ rfl, rfl, rfl⟩ (hl.push _) (Nat.ne_of_lt hlt) hz hnm hkind hx
    (fun C K i v s₃ E' hi hk hc => helt C K i v s₃ E' hi (fun b o e => hk b o (up b o e).1 (up b o e).2) hc) ?_
  intro D C h' tk m' as hD hC hDC hnC hlD hlen has hk
  have hk' : ∀ b o, s₁.heap.get? b = some o → h'.get? b = some o := fun b o e => hk b o (up b o e).1 (up b o e).2
  have F' := F.keeps hk'
  have h1 : ∀ a, (s₁.heap.push { cls := .type "list_iterator", data := .fields #[.ref lt, .int 0 0] }).get? a = none → s₁.heap.get? a = none ∧ h₀.get? a = none ∧ a ≠ env.locals := fun a e => by
    have e1 : s₁.heap.get? a = none := by
      cases q : s₁.heap.get? a with
      | none => rfl
      | some o => rw [(up _ _ q).2] at e; cases e
    refine ⟨e1, ?_, ?_⟩
    · cases q : h₀.get? a with
      | none => rfl
      | some o => rw [F.keep _ _ q] at e1; cases e1
    · rintro rfl
      have hp19 := F.ns
      refine p3_2 ?_ hp19
      (try clear hp19)
      intro o es ep ho _
      rw [ho] at e1; cases e1
  have hLC := Ne.symm (h1 C hC).2.2
  have hLD := Ne.symm (h1 D hD).2.2
  show wpAny _ A (assign (.Name y py) env (.ref D)) _ _ _
  refine wpAny_assign_Name (wpAny_storeName_local hy F'.ns (fun h₂ hn₂ hs₂ => ?_) hp)
  refine ⟨m', hnC.sameBut hs₂ (Ne.symm hLC), fun h₃ hs₃ => ?_⟩
  obtain ⟨nD, hDo⟩ := hlD
  have up3 : ∀ b o, b ≠ env.locals → b ≠ C → h'.get? b = some o → h₃.get? b = some o := fun b o hbL hbC e => hs₃.extBut b o hbC (hs₂.extBut b o hbL e)
  refine hret D h₃ _ nD as ⟨hn₂.sameBut hs₃ hLC, fun b o e => ?_, F.above⟩ ?_ hlen fun i p hp => (has i p hp).2.2.2.2
  · have e1 := F.keep b o e
    refine up3 b o (fun q => ?_) (fun q => ?_) (hk' b o e1)
    · exact Nat.lt_irrefl _ (Nat.lt_of_lt_of_le (Heap.lt_size e) (q ▸ F.above))
    · rw [q, (h1 C hC).1] at e1; cases e1
  · intro q hq
    rcases List.mem_cons.mp hq with rfl | hq
    · exact ⟨up3 _ _ (Ne.symm hLD) hDC hDo, Ne.symm hLD, (h1 D hD).2.1⟩
    rcases List.mem_append.mp hq with hq | hq
    · obtain ⟨i, hi⟩ := List.getElem?_of_mem hq
      have hp20 := has i q hi
      refine p0_5 ?_ hp20
      (try clear hp20)
      intro q1 q2 q3 q4 q5
      exact ⟨up3 _ _ (h1 _ q2).2.2 q3 q1, (h1 _ q2).2.2, (h1 _ q2).2.1⟩
    · obtain ⟨n1, n2, n3⟩ := N q hq
      refine ⟨up3 _ _ n2 (fun e => ?_) (hk' _ _ n1), n2, n3⟩
      rw [e, (h1 C hC).1] at n1; cases n1
theorem comp_cell_val {elt iter : Expr} {x n0 : Str} {px : Pos} {scope : Scope} {pos : Pos} {Q : Value → Shared → Prop} (G : Nat → Addr → Obj → Prop) (hh : A.handled = none)
    (hclos : closureFor scope env = pure []) (hnm : scope.names = [(n0, .local), (x, .cell)]) (hkind : scope.kind = .function) (hx : ∀ C K, (cellEnv scope x C K env).kindOf x = some .cell)
    (hnames : ∀ z ∈ scope.names, z.2 = .local → scope.names.lookup z.1 = some .local)
    (h : wpAny (model prog w) A (eval iter env) (CellOf prog w A env h₀ elt x scope G (fun m _ => m) (fun D s => Q (.ref D) s)) E s)
    (hs : ∀ x, foldedSetIterable iter env x = pure x := by intro _; rfl) :
    wpAny (model prog w) A (eval (.ListComp elt [⟨.Name x px, iter, [], 0⟩] scope pos) env) Q E s := by
  rw [eval_ListComp]
  refine wpAny_comprehension_free (use := none) rfl hs hclos hkind hnames (wpAny_mono h (fun xv s₁ h₁ => ?_) fun _ _ e => e)
  refine p4_7 ?_ h₁
  (try clear h₁)
  intro lt its m led hq21 hl hz F N helt hret
  subst hq21
  have hlt : lt < s₁.heap.objs.size := by obtain ⟨_, e, _⟩ := hl; exact Heap.lt_size e
  refine wpAny_pyIter_list hl ?_
  have up : ∀ b o, s₁.heap.get? b = some o → b ≠ s₁.heap.objs.size ∧ (s₁.heap.push { cls := .type "list_iterator", data := .fields #[.ref lt, .int 0 0] }).get? b = some o := fun b o e => ⟨Nat.ne_of_lt (Heap.lt_size e), Heap.get?_push_of_some _ e⟩
  refine cell_block (RR := fun acc C => compPost (model prog w) A E none Q acc C) (its := its) G hh ⟨_, Heap.get?_push_size _ rfl, rfl, rfl⟩ (hl.push _) (Nat.ne_of_lt hlt) hz hnm hkind hx
    (fun C K i v s₃ E' hi hk hc => helt C K i v s₃ E' hi (fun b o e => hk b o (up b o e).1 (up b o e).2) hc) ?_
  intro D C h' tk m' as hD hC hDC hnC hlD hlen has hk
  have hk' : ∀ b o, s₁.heap.get? b = some o → h'.get? b = some o := fun b o e => hk b o (up b o e).1 (up b o e).2
  have h1 : ∀ a, (s₁.heap.push { cls := .type "list_iterator", data := .fields #[.ref lt, .int 0 0] }).get? a = none → s₁.heap.get? a = none ∧ h₀.get? a = none ∧ a ≠ env.locals := fun a e => by
    have e1 : s₁.heap.get? a = none := by
      cases q : s₁.heap.get? a with
      | none => rfl
      | some o => rw [(up _ _ q).2] at e; cases e
    refine ⟨e1, ?_, ?_⟩
    · cases q : h₀.get? a with
      | none => rfl
      | some o => rw [F.keep _ _ q] at e1; cases e1
    · rintro rfl
      have hp22 := F.ns
      refine p3_2 ?_ hp22
      (try clear hp22)
      intro o es ep ho _
      rw [ho] at e1; cases e1
  refine ⟨m', hnC, fun h₃ hs₃ => ?_⟩
  obtain ⟨nD, hDo⟩ := hlD
  have up3 : ∀ b o, s₁.heap.get? b = some o → h₃.get? b = some o := fun b o e => hs₃.extBut b o (fun q => by rw [q, (h1 C hC).1] at e; cases e) (hk' b o e)
  refine hret D h₃ _ nD as (F.keeps up3) ?_ hlen fun i p hp => (has i p hp).2.2.2.2
  intro q hq
  rcases List.mem_cons.mp hq with rfl | hq
  · exact ⟨hs₃.extBut _ _ hDC hDo, (h1 D hD).2.2, (h1 D hD).2.1⟩
  rcases List.mem_append.mp hq with hq | hq
  · obtain ⟨i, hi⟩ := List.getElem?_of_mem hq
    have hp23 := has i q hi
    refine p0_5 ?_ hp23
    (try clear hp23)
    intro q1 q2 q3 q4 q5
    exact ⟨hs₃.extBut _ _ q3 q1, (h1 _ q2).2.2, (h1 _ q2).2.1⟩
  · obtain ⟨n1, n2, n3⟩ := N q hq
    exact ⟨up3 _ _ n1, n2, n3⟩
end
end Mine
end
section
theorem Mine.fresh58 : True := by w_top off; trivial
open PySem PySem.W PyProof.Rows PySem.Calls
set_option maxRecDepth 100000
set_option maxHeartbeats 8000000
namespace Mine
section
variable {w : World} {p : Program} {loose : List Str} {mean : ExcName → Option Value} {mg mb : Str → Option Value} {base g : Heap} {L' fa : Addr} {cdv : Value} {mS : Shared} {h : Heap} {tk : Nat} {Q : Flow → Shared → Prop}
noncomputable abbrev mp17 (lk : Addr) (m : Str → Option Value) : Str → Option Value := fun y => if y = Str.ofString "kids" then some (Value.ref lk) else m y
noncomputable abbrev IsKid (o : Obj) (l : List Nat) : Prop := ∃ vs n, o = W.listOf (vs : List Value).toArray n ∧ NatL vs l
theorem NatL.app {vs us : List Value} {xs ys : List Nat} (h : NatL vs xs) (h' : NatL us ys) : NatL (vs ++ us) (xs ++ ys) := by
  induction h with
  | nil => exact h'
  | cons x t h ih => exact .cons x t ih
theorem natL_rep (n : Nat) (t : Tok) : ∀ c : Nat, NatL (List.replicate c (.int (n : Int) t)) (List.replicate c n)
  | 0 => .nil
  | c + 1 => .cons n t (natL_rep n t c)
theorem kid_c {tab : List (Nat × Nat)} (h : cnt tab ≤ 6) (i : Nat) : ((tab[i]?).map (·.2)).getD 0 ≤ 1000 := by
  cases q : tab[i]? with
  | none => exact Nat.zero_le _
  | some r =>
    have h1 := cnt_take_succ q
    have h2 := cnt_take_le tab (i + 1)
    show r.2 ≤ 1000
    walk_at "mine omega"
theorem kid_step {w : World} {τ : Nat → Tok} {tab : List (Nat × Nat)} {i : Nat} {v : Value} {ys : List Value} (hi : i < tab.length) (hP : ∃ k x, (kvsOf τ tab)[i]? = some (k, x) ∧ (intKind PP w).is k v = true) (hG : i ≤ tab.length ∧ NatL ys (rep (tab.take i))) :
    i + 1 ≤ tab.length ∧ NatL (ys ++ List.replicate (((tab[i]?).map (·.2)).getD 0) v) (rep (tab.take (i + 1))) := by
  (try refine opg fun gG hgG => ?_); (obtain ⟨k, x, hk, hv⟩ := hP); (try (refine hgG ?_; clear hgG gG))
  (try refine opg fun gG hgG => ?_); (obtain ⟨q, hq, rfl, _⟩ := kvs_get hk); (try (refine hgG ?_; clear hgG gG))
  (try refine opg fun gG hgG => ?_); (obtain ⟨t, rfl⟩ := Value.isInt_shape hv); (try (refine hgG ?_; clear hgG gG))
  refine ⟨hi, ?_⟩
  rw [rep_succ hq, hq]
  exact hG.2.app (natL_rep _ _ _)
theorem kid_len {tab : List (Nat × Nat)} (h : cnt tab ≤ 6) {i : Nat} {ys : List Value} (hG : i ≤ tab.length ∧ NatL ys (rep (tab.take i))) : ys.length ≤ 1000 := by
  rw [hG.2.length, rep_length]
  have := cnt_take_le tab i
  walk_at "mine omega"
theorem dictAt_of {prog : Program} {w : World} {K : Type} [DecidableEq K] {knd : KeyKind prog w K} {h : Heap} {d : Addr} {kvs : List (K × Value)} (x : h.DictOf knd d kvs) : ∃ ep, h.DictAt knd d kvs ep := by
  (try refine opg fun gG hgG => ?_); (obtain ⟨o, es, ep, r⟩ := x); (try (refine hgG ?_; clear hgG gG))
  exact ⟨ep, o, es, r⟩
theorem two_of {α : Type} {as : List α} (h : as.length = 2) : ∃ a b, as = [a, b] := by
  match as, h with
  | [a, b], _ => exact ⟨a, b, rfl⟩
theorem seg17 {l0 lc x1 x2 x3 x4 ll lt d1 d2 : Addr} {o1 o2 : Obj} {nt : Nat} {dv : Value} {u1 u2 u3 tL ts tb : Tok} {n1 n2 look k1 sz : Nat} {bs : Array UInt8} {rest : List (Addr × Obj)}
    (B : Below callerA base [] g) (X : (hd.heap_1 w.params).In g) (P : Top p loose mean mg mb g)
    (F : Fr g L' h (mp16 lt (mp15all l0 lc x1 x2 x3 x4 ll dv u1 u2 u3 tL n1 n2 look k1 sz ts bs tb))) (N : News g L' h ((lt, W.listOf #[.ref d1, .ref d2] nt) :: (d2, o2) :: (d1, o1) :: rest)) (h1 : n1 < 128) (h2 : n2 < 128)
    (hs1 : (d1 == sysModules) = false) (hs2 : (d2 == sysModules) = false) (i1 : IsTab w o1 (tabOf n1)) (i2 : IsTab w o2 (tabOf n2))
    (k : ∀ h' tk' lk ka kb p1 p2 n, IsKid p1 (rep (tabOf n1)) → IsKid p2 (rep (tabOf n2)) → Fr g L' h' (mp17 lk (mp16 lt (mp15all l0 lc x1 x2 x3 x4 ll dv u1 u2 u3 tL n1 n2 look k1 sz ts bs tb))) →
      News g L' h' ((lk, W.listOf #[.ref ka, .ref kb] n) :: (ka, p1) :: (kb, p2) :: (lt, W.listOf #[.ref d1, .ref d2] nt) :: (d2, o2) :: (d1, o1) :: rest) →
      LawC w L' fa cdv (execs (lawBody w 18) (lawEnv w L' fa cdv)) Q { mS with heap := h', toks := tk' }) :
    LawC w L' fa cdv (execs (lawBody w 17) (lawEnv w L' fa cdv)) Q { mS with heap := h, toks := tk } := by
  refine law_next (st := ?st) (rest := ?rest) ?hb (fun s' => ∃ h' tk' lk ka kb p1 p2 n, IsKid p1 (rep (tabOf n1)) ∧ IsKid p2 (rep (tabOf n2)) ∧ s' = { mS with heap := h', toks := tk' } ∧ Fr g L' h' (mp17 lk (mp16 lt (mp15all l0 lc x1 x2 x3 x4 ll dv u1 u2 u3 tL n1 n2 look k1 sz ts bs tb))) ∧ News g L' h' ((lk, W.listOf #[.ref ka, .ref kb] n) :: (ka, p1) :: (kb, p2) :: (lt, W.listOf #[.ref d1, .ref d2] nt) :: (d2, o2) :: (d1, o1) :: rest)) ?_
    (fun s' e => by refine p8_5 ?_ e; (try clear e); intro h' tk' lk ka kb p1 p2 n a b hq2 F' N'; subst hq2; exact k h' tk' lk ka kb p1 p2 n a b F' N')
  case hb => exact rfl
  clear k
  delta LawC lawEnv lawScope scopeOf
  revert X P; k_fill; intro X P
  refine (let AE : Env := _; let AA : Around := Around.deeper _ AE; let QQ : Flow → Shared → Prop := _; (?kL : wpC _ AA (exec _ AE) QQ _ _))
  (try (refine (let mm : Str → Option Value := _; have Fx : Fr _ _ _ mm := F; ?_); clear F; rename Fr _ _ _ _ => F))
  refine wpC_of ?_
  refine comp_cell_asg (n0 := Str.ofString ".0") (h₀ := g) (fun i _ o => IsKid o (rep (([tabOf n1, tabOf n2] : List (List (Nat × Nat))).getD i []))) rfl ?a1 ?a2 ?a3 ?a4 ?a5 ?a6 ?a7 ?a8 ?_ (by intro _; rfl)
  case a1 => rfl
  case a2 => rfl
  case a3 => rfl
  case a4 => rfl
  case a5 => intro C K; rfl
  case a6 => decide
  case a7 => rfl
  case a8 => rfl
  refine wpAny_Name (wpAny_loadName_local rfl rfl F.ns (v := .ref lt) rfl ?_) (by decide)
  refine ⟨lt, [.ref d1, .ref d2], mp16 lt (mp15all l0 lc x1 x2 x3 x4 ll dv u1 u2 u3 tL n1 n2 look k1 sz ts bs tb), (lt, W.listOf #[.ref d1, .ref d2] nt) :: (d2, o2) :: (d1, o1) :: rest, rfl, ?z1, by show 2 ≤ 1000; decide, ?z2, ?z3, ?z4, ?z5⟩
  case z1 => exact ⟨_, (N (lt, W.listOf #[.ref d1, .ref d2] nt) (.head _)).1, rfl, nt, rfl⟩
  case z2 => exact F
  case z3 => exact N
  case z5 =>
    intro D h' tk' n as F' N' hlen has
    (try refine opg fun gG hgG => ?_); (obtain ⟨ka, kb, rfl⟩ := two_of hlen); (try (refine hgG ?_; clear hgG gG))
    exact ⟨rfl, h', tk', D, ka.1, kb.1, ka.2, kb.2, n, has 0 ka rfl, has 1 kb rfl, rfl, F', N'⟩
  case z4 =>
    intro C K i v s₃ E' hv hk3 hK
    obtain ⟨d, o, tab, rfl, hdo, hslo, ⟨τ, hio⟩, etab, hnt⟩ : ∃ d o tab, v = .ref d ∧ (s₃.heap.get? d = some o) ∧ (d == sysModules) = false ∧ IsTab w o tab ∧ ([tabOf n1, tabOf n2] : List (List (Nat × Nat))).getD i [] = tab ∧ tab.length ≤ 3 ∧ cnt tab ≤ 6 ∧ (tab.map (·.1)).Nodup := by
      cases i with
      | zero =>
        have hv' : Value.ref d1 = v := Option.some.inj hv
        exact ⟨d1, o1, tabOf n1, hv'.symm, hk3 d1 o1 (N (d1, o1) (.tail _ (.tail _ (.head _)))).1, hs1, i1, rfl, (numOk_spec h1).2.2.2.1, (numOk_spec h1).2.2.1, (numOk_spec h1).2.2.2.2⟩
      | succ j =>
        cases j with
        | zero =>
          have hv' : Value.ref d2 = v := Option.some.inj hv
          exact ⟨d2, o2, tabOf n2, hv'.symm, hk3 d2 o2 (N (d2, o2) (.tail _ (.head _))).1, hs2, i2, rfl, (numOk_spec h2).2.2.2.1, (numOk_spec h2).2.2.1, (numOk_spec h2).2.2.2.2⟩
        | succ j => cases hv
    refine wpAny_mono (Q := fun y s₄ => (∃ a o, y = .ref a ∧ s₃.heap.get? a = none ∧ s₄.heap.get? a = some o ∧ IsKid o (rep tab)) ∧ Keeps s₃ s₄) ?z6 (fun y s₄ hq => ?z7) (fun _ _ x => x)
    case z7 =>
      (try refine opg fun gG hgG => ?_); (obtain ⟨⟨a, o', e1, e2, e3, e4⟩, kk⟩ := hq); (try (refine hgG ?_; clear hgG gG))
      exact ⟨⟨a, o', e1, e2, e3, (show IsKid o' _ by rw [etab]; exact e4)⟩, kk⟩
    case z6 =>
    have F3 := F.keeps hk3
    clear hv etab hk3
    refine comp_two (cl := [(Str.ofString "table", K)]) (fun i ys => i ≤ tab.length ∧ NatL ys (rep (tab.take i))) (fun i => ((tab[i]?).map (·.2)).getD 0) tab.length (fun i v => ∃ k x, (kvsOf τ tab)[i]? = some (k, x) ∧ (intKind PP w).is k v = true) rfl ?b1 ?b2 ?b3 ?b4 ?b5 ?b6 ?b7 ?b8 ?b9 ?b10 ?b11 ?_ (by intro _; rfl)
    case b1 => rfl
    case b2 => decide
    case b3 => rfl
    case b4 => decide
    case b5 => rfl
    case b6 => rfl
    case b7 => decide +kernel
    case b8 => exact kid_c hnt.2.1
    case b9 => exact ⟨Nat.zero_le _, .nil⟩
    case b10 => exact fun i v ys hi hP hG => kid_step hi hP hG
    case b11 => exact fun i ys hG => kid_len hnt.2.1 hG
    refine wpAny_Name (wpAny_loadName_cell rfl rfl rfl hK ?_) (by decide)
    have hdi : s₃.heap.DictOf (intKind PP w) d (kvsOf τ tab) := Heap.dictOf_iff.mpr ⟨o, hdo, hio⟩
    (try refine opg fun gG hgG => ?_); (obtain ⟨ep, hat⟩ := dictAt_of hdi); (try (refine hgG ?_; clear hgG gG))
    refine wpAny_pyIter_dict hslo hat ?_
    have up : ∀ b o, s₃.heap.get? b = some o → b ≠ s₃.heap.objs.size ∧ (s₃.heap.push { cls := .type "dict_keyiterator", data := .fields #[.ref d, .int 0 0, .int ((kvsOf τ tab).length : Nat) 0, .int ep 0] }).get? b = some o := fun b o e => ⟨Nat.ne_of_lt (Heap.lt_size e), Heap.get?_push_of_some _ e⟩
    have hlt : d < s₃.heap.objs.size := Heap.lt_size hdo
    have hW := Walks.dictKeys (prog := PP) (w := w) (knd := intKind PP w) (A := callerA.deeper (lawEnv w L' fa cdv)) rfl s₃.heap.objs.size d (Nat.ne_of_lt hlt) (kvsOf τ tab) ep
    rw [kvsOf_length] at hW
    refine ⟨s₃.heap.objs.size, [s₃.heap.objs.size, d], _, rfl, hW, ?c1, ?c2, up, ?c3, ?c4, ?c5, ?c6⟩
    case c1 =>
      refine ⟨?_, hat.push _⟩
      rw [← kvsOf_length τ tab]
      exact ⟨_, Heap.get?_push_size _ rfl, rfl, rfl⟩
    case c2 =>
      intro b hb
      rw [Heap.size_push]
      rcases List.mem_cons.mp hb with rfl | hb
      · exact Nat.lt_succ_self _
      · rw [List.mem_singleton.mp hb]; exact Nat.lt_succ_of_lt hlt
    case c3 =>
      intro B' C' v' s' m' E'' Q' hn hm hq
      exact wpAny_Name (wpAny_loadName_local rfl rfl hn hm hq) (by decide)
    case c5 => intro _ _; rfl
    case c6 =>
      rintro D h' tk' ys hD hj1 hG hk
      (try refine opg fun gG hgG => ?_); (obtain ⟨n, hl⟩ := hj1); (try (refine hgG ?_; clear hgG gG))
      refine ⟨⟨D, _, rfl, hD, hl, ys, n, rfl, ?_⟩, h', tk', rfl, hk⟩
      have := hG.2
      rw [List.take_length] at this
      exact this
    case c4 =>
      intro C' j v' s' m' E'' hj hP hn hm hk
      have F4 := F3.keeps hk
      (try refine opg fun gG hgG => ?_); (obtain ⟨kk, xx, hkv, hvk⟩ := hP); (try (refine hgG ?_; clear hgG gG))
      (try refine opg fun gG hgG => ?_); (obtain ⟨q, hq, rfl, rfl⟩ := kvs_get hkv); (try (refine hgG ?_; clear hgG gG))
      (try refine opg fun gG hgG => ?_); (obtain ⟨tv, rfl⟩ := Value.isInt_shape hvk); (try (refine hgG ?_; clear hgG gG))
      have hK' := hK.keeps hk
      have hd' := dictOf_keep hk hdi
      have hcq : ((tab[j]?).map (·.2)).getD 0 = q.2 := by rw [hq]; rfl
      rw [hcq]
      clear F N; (try clear F3)
      iterate 1 (first | (k_unfold; (try dsimp only)) | walk1 | (dsimp only; walk1) | (leave1; (try dsimp only)))
      refine LCgL.ld_built F4 X P (by k_is) (by boot_by_name) (by decide) ?_
      iterate 2 (first | (k_unfold; (try dsimp only)) | walk1 | (dsimp only; walk1) | (leave1; (try dsimp only)))
      with_reducible refine Subscript_ ?_
      refine wpAny_Name (wpAny_loadName_cell rfl rfl rfl hK' ?_) (by decide)
      refine wpAny_Name (wpAny_loadName_local rfl rfl hn hm ?_) (by decide)
      refine item_dictI (v := .int (q.2 : Int) (τ q.1)) hd' hvk (by rw [valueAt_kvs, find_nodup hnt.2.2 hq]; rfl) ?_
      refine wpAny_pure ?_
      refine call_range_1 ?_
      exact ⟨⟨_, _, rfl, fun b o e => Heap.get?_push_of_some _ e⟩, _, _, _, _, rfl, Heap.get?_push_size _ rfl⟩
end
end Mine
end
section
theorem Mine.fresh59 : True := by w_top off; trivial
open PySem PySem.W PyProof.Rows PySem.Calls
set_option maxRecDepth 100000
set_option maxHeartbeats 8000000
namespace Mine
section
variable {w : World} {p : Program} {loose : List Str} {mean : ExcName → Option Value} {mg mb : Str → Option Value} {base g : Heap} {L' fa : Addr} {cdv : Value} {mS : Shared} {h : Heap} {tk : Nat} {Q : Flow → Shared → Prop}
noncomputable abbrev mp17all (l0 lc x1 x2 x3 x4 ll : Addr) (dv : Value) (u1 u2 u3 tL : Tok) (n1 n2 look k1 sz : Nat) (ts : Tok) (bs : Array UInt8) (tb : Tok) (lt lk : Addr) : Str → Option Value := mp17 lk (mp16 lt (mp15all l0 lc x1 x2 x3 x4 ll dv u1 u2 u3 tL n1 n2 look k1 sz ts bs tb))
noncomputable abbrev cellO (v : Option Value) : Obj := { cls := .type "cell", data := .cell v }
noncomputable abbrev NoCell (o : Obj) : Prop := ∀ c, o.data ≠ .cell c
theorem picked_fst (l1 l2 : List UInt8) : KBy.picked (l1 ++ l2).toArray none (some (l1.length : Int)) = l1.toArray := by
  rw [KBc.picked_eq]
  simp only [Option.elim, clipAt_nat, List.drop_zero, Nat.sub_zero]
  congr 1
  rw [List.size_toArray, List.length_append]
  show (l1 ++ l2).take (min l1.length (l1.length + l2.length)) = l1
  rw [Nat.min_eq_left (Nat.le_add_right _ _), List.take_left']
  rfl
theorem picked_snd (l1 l2 : List UInt8) : KBy.picked (l1 ++ l2).toArray (some (l1.length : Int)) none = l2.toArray := by
  rw [KBc.picked_eq]
  simp only [Option.elim, clipAt_nat]
  congr 1
  rw [List.size_toArray, List.length_append]
  show ((l1 ++ l2).drop (min l1.length (l1.length + l2.length))).take (l1.length + l2.length - min l1.length (l1.length + l2.length)) = l2
  rw [Nat.min_eq_left (Nat.le_add_right _ _), List.drop_left', Nat.add_sub_cancel_left, List.take_length]
  rfl
theorem bytes_nats {l : List Nat} (h : ∀ c ∈ l, c ≤ 6) : ((l.map UInt8.ofNat).toArray.toList.map UInt8.toNat) = l := by
  rw [List.toList_toArray, List.map_map]
  refine Eq.trans (List.map_congr_left fun c hc => ?_) (List.map_id l)
  have := h c hc
  show (UInt8.ofNat c).toNat = c
  rw [UInt8.toNat_ofNat']
  walk_at "mine omega"
theorem store_cell {M : Model} {A : Around} {E : Value → Shared → Prop} {s : Shared} {env : Env} {name : Str} {c L : Addr} {h₀ : Heap} {m : Str → Option Value} {oc : Obj} {v₀ : Option Value} {v : Value} {news : List (Addr × Obj)} {Q : Unit → Shared → Prop}
    (hk : env.scope.kind = .function) (hl : env.kindOf name = some .cell) (hc : env.cells.lookup name = some c) (F : Fr h₀ L s.heap m) (N : News h₀ L s.heap ((c, oc) :: news)) (hoc : oc.data = .cell v₀) (hn : ∀ q ∈ news, NoCell q.2)
    (h : ∀ h' oc', oc'.data = .cell (some v) → Fr h₀ L h' m → News h₀ L h' ((c, oc') :: news) → Q () { s with heap := h' }) : wpAny M A (storeName env name v) Q E s := by
  (try refine opg fun gG hgG => ?_); (obtain ⟨n1, n2, n3⟩ := N (c, oc) (.head _)); (try (refine hgG ?_; clear hgG gG))
  refine wpAny_storeName_cell hk hl hc ⟨oc, n1, hoc⟩ fun h' hv hs => ?_
  (try refine opg fun gG hgG => ?_); (obtain ⟨oc', e1, e2⟩ := hv); (try (refine hgG ?_; clear hgG gG))
  refine h h' oc' e2 (F.change hs n2 n3) fun q hq => ?_
  rcases List.mem_cons.mp hq with rfl | hq
  · exact ⟨e1, n2, n3⟩
  · (try refine opg fun gG hgG => ?_); (obtain ⟨m1, m2, m3⟩ := N q (.tail _ hq)); (try (refine hgG ?_; clear hgG gG))
    refine ⟨hs.extBut _ _ (fun e => ?_) m1, m2, m3⟩
    rw [e, n1] at m1
    obtain rfl := Option.some.inj m1
    exact hn q hq _ hoc
theorem seg18 {l0 lc x1 x2 x3 x4 ll lt lk : Addr} {dv : Value} {u1 u2 u3 tL ts tb : Tok} {n1 n2 look k1 : Nat} {rest : List (Addr × Obj)} {ra rb outA outB : List Nat} {oc : Obj}
    (B : Below callerA base [] g) (X : (hd.heap_1 w.params).In g) (P : Top p loose mean mg mb g)
    (F : Fr g L' h (mp17all l0 lc x1 x2 x3 x4 ll dv u1 u2 u3 tL n1 n2 look k1 ra.length ts ((ra.reverse ++ rb.reverse).map UInt8.ofNat).toArray tb lt lk)) (N : News g L' h ((L' + 1, oc) :: rest)) (hoc : oc.data = .cell none) (hrest : ∀ q ∈ rest, NoCell q.2)
    (ha6 : ∀ c ∈ ra, c ≤ 6) (hb6 : ∀ c ∈ rb, c ≤ 6) (hra : ra.length ≤ 200) (hrb : rb.length = ra.length) (hA : runP ra.reverse [] = some outA) (hB : runP rb.reverse [] = some outB)
    (k : ∀ h' tk' lp pa pb p1 p2 oc' n, IsKid p1 outA → IsKid p2 outB → oc'.data = .cell (some (.ref lp)) → Fr g L' h' (mp17all l0 lc x1 x2 x3 x4 ll dv u1 u2 u3 tL n1 n2 look k1 ra.length ts ((ra.reverse ++ rb.reverse).map UInt8.ofNat).toArray tb lt lk) →
      News g L' h' ((lp, W.listOf #[.ref pa, .ref pb] n) :: (pb, p2) :: (pa, p1) :: (L' + 1, oc') :: rest) →
      LawC w L' fa cdv (execs (lawBody w 19) (lawEnv w L' fa cdv)) Q { mS with heap := h', toks := tk' }) :
    LawC w L' fa cdv (execs (lawBody w 18) (lawEnv w L' fa cdv)) Q { mS with heap := h, toks := tk } := by
  refine law_next (st := ?st) (rest := ?rest) ?hb (fun s' => ∃ h' tk' lp pa pb p1 p2 oc' n, IsKid p1 outA ∧ IsKid p2 outB ∧ oc'.data = .cell (some (.ref lp)) ∧ s' = { mS with heap := h', toks := tk' } ∧ Fr g L' h' (mp17all l0 lc x1 x2 x3 x4 ll dv u1 u2 u3 tL n1 n2 look k1 ra.length ts ((ra.reverse ++ rb.reverse).map UInt8.ofNat).toArray tb lt lk) ∧
      News g L' h' ((lp, W.listOf #[.ref pa, .ref pb] n) :: (pb, p2) :: (pa, p1) :: (L' + 1, oc') :: rest)) ?_
    (fun s' e => by refine p9_6 ?_ e; (try clear e); intro h' tk' lp pa pb p1 p2 oc' n a b c hq3 F' N'; subst hq3; exact k h' tk' lp pa pb p1 p2 oc' n a b c F' N')
  case hb => exact rfl
  clear k
  delta LawC lawEnv lawScope scopeOf
  revert X P; k_fill; intro X P
  refine (let AE : Env := _; let AA : Around := Around.deeper _ AE; let QQ : Flow → Shared → Prop := _; (?kL : wpC _ AA (exec _ AE) QQ _ _))
  (try (refine (let mm : Str → Option Value := _; have Fx : Fr _ _ _ mm := F; ?_); clear F; rename Fr _ _ _ _ => F))
  refine wpC_of ?_
  repeat ((fail_if_success (with_reducible show wpAny _ _ (PySem.call (Value.ref 187) _ _) _ _ _)); (first | (k_unfold; (try dsimp only)) | ((try dsimp only); walk1) | (leave1; (try dsimp only))))
  have hbs : ((ra.reverse ++ rb.reverse).map UInt8.ofNat).toArray = (ra.reverse.map UInt8.ofNat ++ rb.reverse.map UInt8.ofNat).toArray := by rw [List.map_append]
  have hla : (ra.length : Int) = ((ra.reverse.map UInt8.ofNat).length : Int) := by rw [List.length_map, List.length_reverse]
  have hsz : (KBw.bInts ((ra.reverse ++ rb.reverse).map UInt8.ofNat).toArray).length ≤ 16777216 := by rw [KBw.ints_length, List.size_toArray, List.length_map, List.length_append, List.length_reverse, List.length_reverse]; walk_at "mine omega"
  have hp1 : KBy.picked ((ra.reverse ++ rb.reverse).map UInt8.ofNat).toArray none (some (ra.length : Int)) = (ra.reverse.map UInt8.ofNat).toArray := by rw [hbs, hla]; exact picked_fst _ _
  have hp2 : KBy.picked ((ra.reverse ++ rb.reverse).map UInt8.ofNat).toArray (some (ra.length : Int)) none = (rb.reverse.map UInt8.ofNat).toArray := by rw [hbs, hla]; exact picked_snd _ _
  refine KBc.slice_K (s := ⟨_, _, _, _, _⟩) F N rfl (by constructor) (by constructor) hsz ?_
  intro h2 t2 tk2 F2 N2 _
  rw [hp1]
  try dsimp only
  repeat ((fail_if_success (with_reducible show wpAny _ _ (PySem.call (Value.ref 187) _ _) _ _ _)); (first | (k_unfold; (try dsimp only)) | ((try dsimp only); walk1) | (leave1; (try dsimp only))))
  refine Spec.call (spec_pile _ _ outA (by rw [List.size_toArray, List.length_map, List.length_reverse]; walk_at "mine omega") (by rw [bytes_nats (fun c hc => ha6 c (List.mem_reverse.mp hc))]; exact hA)) B F2 X N2 P rfl trivial (by decide +kernel) (by decide +kernel) fun r h3 tk3 F3 N3 k3 post => ?_
  refine p3_4 ?_ post
  (try clear post)
  intro pa va na hq1 hpa0 hpa1 hva
  subst hq1
  have N4 := news_app ((NewCells.one hpa0 hpa1).news F2) N3
  (try clear N3); (try clear N2); (try clear F2)
  try dsimp only
  repeat ((fail_if_success (with_reducible show wpAny _ _ (PySem.call (Value.ref 187) _ _) _ _ _)); (first | (k_unfold; (try dsimp only)) | ((try dsimp only); walk1) | (leave1; (try dsimp only))))
  refine KBc.slice_K (s := ⟨_, _, _, _, _⟩) F3 N4 rfl (by constructor) (by constructor) hsz ?_
  intro h5 t5 tk5 F5 N5 _
  rw [hp2]
  try dsimp only
  repeat ((fail_if_success (with_reducible show wpAny _ _ (PySem.call (Value.ref 187) _ _) _ _ _)); (first | (k_unfold; (try dsimp only)) | ((try dsimp only); walk1) | (leave1; (try dsimp only))))
  refine Spec.call (spec_pile _ _ outB (by rw [List.size_toArray, List.length_map, List.length_reverse]; walk_at "mine omega") (by rw [bytes_nats (fun c hc => hb6 c (List.mem_reverse.mp hc))]; exact hB)) B F5 X N5 P rfl trivial (by decide +kernel) (by decide +kernel) fun r h6 tk6 F6 N6 k6 post => ?_
  refine p3_4 ?_ post
  (try clear post)
  intro pb vb nb hq2 hpb0 hpb1 hvb
  subst hq2
  have N7 := news_app ((NewCells.one hpb0 hpb1).news F5) N6
  (try clear N6); (try clear N5); (try clear F5); (try clear N4); (try clear F3)
  try dsimp only
  repeat ((fail_if_success (with_reducible show wpAny _ _ (storeName _ _ _) _ _ _)); (first | (k_unfold; (try dsimp only)) | ((try dsimp only); walk1) | (leave1; (try dsimp only))))
  rename Fr _ _ _ _ => F8
  rename News _ _ _ _ => N8
  rename Addr => lp
  refine store_cell rfl rfl rfl F8 (news := (lp, W.listOf #[Value.ref pa, Value.ref pb] 0) :: (pb, W.listOf vb.toArray nb) :: (pa, W.listOf va.toArray na) :: rest) (news_sub N8 ?n1) hoc ?n2 ?_
  case n1 => first | walk_at "mine sub" | (intro q hq; simp only [List.mem_cons, List.mem_append, List.not_mem_nil, or_false] at hq ⊢; rcases hq with e | e | e | e | e <;> simp only [e, true_or, or_true])
  case n2 =>
    intro q hq c e
    simp only [List.mem_cons] at hq
    rcases hq with rfl | rfl | rfl | hq
    · cases e
    · cases e
    · cases e
    · exact hrest q hq c e
  intro h9 oc' hoc' F9 N9
  show _ ∧ _
  exact ⟨by first | rfl | trivial, h9, _, lp, pa, pb, _, _, oc', 0, ⟨va, na, rfl, hva⟩, ⟨vb, nb, rfl, hvb⟩, hoc', rfl, F9, news_sub N9 (by first | walk_at "mine sub" | (intro q hq; simp only [List.mem_cons] at hq ⊢; rcases hq with e | e | e | e | e <;> simp only [e, true_or, or_true]))⟩
end
end Mine
end
section
theorem Mine.fresh60 : True := by w_top off; trivial
open PySem PySem.W PyProof.Rows PySem.Calls
set_option maxRecDepth 100000
set_option maxHeartbeats 8000000
namespace Mine
section
variable {w : World} {p : Program} {loose : List Str} {mean : ExcName → Option Value} {mg mb : Str → Option Value} {base g : Heap} {L' fa : Addr} {cdv : Value} {mS : Shared} {h : Heap} {tk : Nat} {Q : Flow → Shared → Prop}
theorem dat_ok1 (l : List Nat) : kqdOk 8 (.list (l.map fun (n : Nat) => Dat.int (n : Int))) = true := by
  show (l.map fun (n : Nat) => Dat.int (n : Int)).all (kqdOk 7) = true
  rw [List.all_map]
  exact List.all_eq_true.mpr fun _ _ => rfl
theorem dat_ok2 {a b : List Nat} : ∀ d ∈ [Dat.list (a.map fun (n : Nat) => Dat.int (n : Int)), Dat.list (b.map fun (n : Nat) => Dat.int (n : Int))], kqdOk 8 d = true := by
  intro d hd
  simp only [List.mem_cons, List.not_mem_nil, or_false] at hd
  rcases hd with rfl | rfl
  · exact dat_ok1 _
  · exact dat_ok1 _
theorem seg19 {l0 lc x1 x2 x3 x4 ll lt lk lp pa pb ka kb : Addr} {dv : Value} {u1 u2 u3 tL ts tb : Tok} {n1 n2 look k1 sz np nk : Nat} {bs : Array UInt8} {rest : List (Addr × Obj)} {l1 l2 : List Nat} {oc p1 p2 q1 q2 : Obj}
    (B : Below callerA base [] g) (X : (hd.heap_1 w.params).In g) (P : Top p loose mean mg mb g)
    (F : Fr g L' h (mp17all l0 lc x1 x2 x3 x4 ll dv u1 u2 u3 tL n1 n2 look k1 sz ts bs tb lt lk))
    (N : News g L' h ((lp, W.listOf #[.ref pa, .ref pb] np) :: (pb, p2) :: (pa, p1) :: (L' + 1, oc) :: (lk, W.listOf #[.ref ka, .ref kb] nk) :: (ka, q1) :: (kb, q2) :: rest)) (hoc : oc.data = .cell (some (.ref lp)))
    (hp1 : IsKid p1 (l1 ++ l2)) (hp2 : IsKid p2 (l2 ++ l1)) (hq1 : IsKid q1 l1) (hq2 : IsKid q2 l2) (hl1 : l1.length ≤ 6) (hl2 : l2.length ≤ 6)
    (k : ∀ h' tk', Fr g L' h' (mp17all l0 lc x1 x2 x3 x4 ll dv u1 u2 u3 tL n1 n2 look k1 sz ts bs tb lt lk) →
      News g L' h' ((lp, W.listOf #[.ref pa, .ref pb] np) :: (pb, p2) :: (pa, p1) :: (L' + 1, oc) :: (lk, W.listOf #[.ref ka, .ref kb] nk) :: (ka, q1) :: (kb, q2) :: rest) →
      LawC w L' fa cdv (execs (lawBody w 20) (lawEnv w L' fa cdv)) Q { mS with heap := h', toks := tk' }) :
    LawC w L' fa cdv (execs (lawBody w 19) (lawEnv w L' fa cdv)) Q { mS with heap := h, toks := tk } := by
  refine law_next (st := ?st) (rest := ?rest) ?hb (fun s' => ∃ h' tk', s' = { mS with heap := h', toks := tk' } ∧ Fr g L' h' (mp17all l0 lc x1 x2 x3 x4 ll dv u1 u2 u3 tL n1 n2 look k1 sz ts bs tb lt lk) ∧
      News g L' h' ((lp, W.listOf #[.ref pa, .ref pb] np) :: (pb, p2) :: (pa, p1) :: (L' + 1, oc) :: (lk, W.listOf #[.ref ka, .ref kb] nk) :: (ka, q1) :: (kb, q2) :: rest)) ?_
    (fun s' e => by refine p2_3 ?_ e; (try clear e); intro h' tk' hq1 F' N'; subst hq1; exact k h' tk' F' N')
  case hb => exact rfl
  clear k
  (try refine opg fun gG hgG => ?_); (obtain ⟨va1, na1, rfl, hva1⟩ := hp1); (try (refine hgG ?_; clear hgG gG))
  (try refine opg fun gG hgG => ?_); (obtain ⟨va2, na2, rfl, hva2⟩ := hp2); (try (refine hgG ?_; clear hgG gG))
  (try refine opg fun gG hgG => ?_); (obtain ⟨vb1, nb1, rfl, hvb1⟩ := hq1); (try (refine hgG ?_; clear hgG gG))
  (try refine opg fun gG hgG => ?_); (obtain ⟨vb2, nb2, rfl, hvb2⟩ := hq2); (try (refine hgG ?_; clear hgG gG))
  delta LawC lawEnv lawScope scopeOf
  revert X P; k_fill; intro X P
  refine (let AE : Env := _; let AA : Around := Around.deeper _ AE; let QQ : Flow → Shared → Prop := _; (?kL : wpC _ AA (exec _ AE) QQ _ _))
  (try (refine (let mm : Str → Option Value := _; have Fx : Fr _ _ _ mm := F; ?_); clear F; rename Fr _ _ _ _ => F))
  refine wpC_of ?_
  refine wpAny_If ?_
  repeat ((fail_if_success (with_reducible show wpAny _ _ (eval (.Name (Str.ofString "piles") _) _) _ _ _)); (first | (k_unfold; (try dsimp only)) | ((try dsimp only); walk1) | (leave1; (try dsimp only))))
  refine wpAny_Name (wpAny_loadName_cell rfl rfl rfl ⟨oc, (N (L' + 1, oc) (.tail _ (.tail _ (.tail _ (.head _))))).1, hoc⟩ ?_) (by decide)
  repeat ((fail_if_success (with_reducible show wpAny _ _ (binaryOp _ _ _) _ _ _)); (first | (k_unfold; (try dsimp only)) | ((try dsimp only); walk1) | (leave1; (try dsimp only))))
  have hi1 := hvb1.ints
  have hi2 := hvb2.ints
  refine add_lists_ints F N ⟨_, (N (ka, W.listOf vb1.toArray nb1) (by first | walk_at "mine sub" | simp)).1, rfl, _, rfl⟩ ⟨_, (N (kb, W.listOf vb2.toArray nb2) (by first | walk_at "mine sub" | simp)).1, rfl, _, rfl⟩ hi1 hi2 ?q7 ?q8
  case q8 => rw [List.length_map, List.length_map, sizeLine_eq]; walk_at "mine omega"
  intro h4 F4 N4 hw1
  repeat ((fail_if_success (with_reducible show wpAny _ _ (binaryOp _ _ _) _ _ _)); (first | (k_unfold; (try dsimp only)) | ((try dsimp only); walk1) | (leave1; (try dsimp only))))
  refine add_lists_ints F4 N4 ⟨_, (N4 (kb, W.listOf vb2.toArray nb2) (by first | walk_at "mine sub" | simp)).1, rfl, _, rfl⟩ ⟨_, (N4 (ka, W.listOf vb1.toArray nb1) (by first | walk_at "mine sub" | simp)).1, rfl, _, rfl⟩ hi2 hi1 ?q9 ?q10
  case q10 => rw [List.length_map, List.length_map, sizeLine_eq]; walk_at "mine omega"
  intro h5 F5 N5 hw2
  repeat ((fail_if_success (with_reducible show wpAny _ _ (compareOp .NotEq _ _) _ _ _)); (first | (k_unfold; (try dsimp only)) | ((try dsimp only); walk1) | (leave1; (try dsimp only))))
  rename Fr _ _ _ _ => F6
  rename News _ _ _ _ => N6
  refine ne_same N6 (.tail _ (.tail _ (.tail _ (.head _)))) (.head _) (ds := [.list ((l1 ++ l2).map fun (n : Nat) => Dat.int (n : Int)), .list ((l2 ++ l1).map fun (n : Nat) => Dat.int (n : Int))]) ?e1 ?e2 ?e3 ?e4 ?_
  case e1 => exact .cons (.list (.tail _ (.tail _ (.tail _ (.tail _ (.tail _ (.head _)))))) (dat_nats hva1)) (.cons (.list (.tail _ (.tail _ (.tail _ (.tail _ (.head _))))) (dat_nats hva2)) .nil)
  case e2 => exact .cons (.list (.tail _ (.tail _ (.head _))) (dat_nats (hvb1.app hvb2))) (.cons (.list (.tail _ (.head _)) (dat_nats (hvb2.app hvb1))) .nil)
  case e3 => exact dat_ok2
  case e4 => exact of_decide_eq_true rfl
  walk_at "mine steps"
  show _ ∧ _
  exact ⟨by first | rfl | trivial, _, _, rfl, F6, news_sub N6 (by intro q hq; exact .tail _ (.tail _ (.tail _ hq)))⟩
end
end Mine
end
section
theorem Mine.fresh61 : True := by w_top off; trivial
open PySem PySem.W PyProof.Rows PySem.Calls
set_option maxRecDepth 100000
set_option maxHeartbeats 8000000
namespace Mine
section
variable {w : World} {p : Program} {loose : List Str} {mean : ExcName → Option Value} {mg mb : Str → Option Value} {base g : Heap} {L' fa : Addr} {cdv : Value} {mS : Shared} {h : Heap} {tk : Nat} {Q : Flow → Shared → Prop}
noncomputable abbrev mp20 (nm : Nat) (tn : Tok) (m : Str → Option Value) : Str → Option Value := fun y => if y = Str.ofString "number" then some (Value.int (nm : Int) tn) else m y
noncomputable abbrev mp21 (u : Option Value) (m : Str → Option Value) : Str → Option Value := fun y => if y = Str.ofString "kid" then u else m y
theorem seg20 {l0 lc x1 x2 x3 x4 ll lt lk : Addr} {dv : Value} {u1 u2 u3 tL ts tb : Tok} {n1 n2 look k1 sz : Nat} {bs : Array UInt8} {rest : List (Addr × Obj)}
    (B : Below callerA base [] g) (X : (hd.heap_1 w.params).In g) (P : Top p loose mean mg mb g)
    (F : Fr g L' h (mp17all l0 lc x1 x2 x3 x4 ll dv u1 u2 u3 tL n1 n2 look k1 sz ts bs tb lt lk)) (N : News g L' h rest)
    (k : ∀ h' tk' tn, Fr g L' h' (mp20 1 tn (mp17all l0 lc x1 x2 x3 x4 ll dv u1 u2 u3 tL n1 n2 look k1 sz ts bs tb lt lk)) → News g L' h' rest →
      LawC w L' fa cdv (execs (lawBody w 21) (lawEnv w L' fa cdv)) Q { mS with heap := h', toks := tk' }) :
    LawC w L' fa cdv (execs (lawBody w 20) (lawEnv w L' fa cdv)) Q { mS with heap := h, toks := tk } := by
  refine law_next (st := ?st) (rest := ?rest) ?hb (fun s' => ∃ h' tk' tn, s' = { mS with heap := h', toks := tk' } ∧ Fr g L' h' (mp20 1 tn (mp17all l0 lc x1 x2 x3 x4 ll dv u1 u2 u3 tL n1 n2 look k1 sz ts bs tb lt lk)) ∧ News g L' h' rest) ?_
    (fun s' e => by refine p3_3 ?_ e; (try clear e); intro h' tk' tn hq4 F' N'; subst hq4; exact k h' tk' tn F' N')
  case hb => exact rfl
  clear k
  delta LawC lawEnv lawScope scopeOf
  revert X P; k_fill; intro X P
  refine (let AE : Env := _; let AA : Around := Around.deeper _ AE; let QQ : Flow → Shared → Prop := _; (?kL : wpC _ AA (exec _ AE) QQ _ _))
  (try (refine (let mm : Str → Option Value := _; have Fx : Fr _ _ _ mm := F; ?_); clear F; rename Fr _ _ _ _ => F))
  refine wpC_of ?_
  walk_at "mine steps"
  rename Fr _ _ _ _ => F1
  rename News _ _ _ _ => N1
  show _ ∧ _
  exact ⟨by first | rfl | trivial, _, _, _, rfl, F1, N1⟩
theorem prodP_app (a b : List Nat) (x : Nat) : prodP (a ++ b) x = prodP b (prodP a x) := by unfold prodP; rw [List.foldl_append]
theorem prodP_le {l : List Nat} (h : ∀ k ∈ l, ∃ q, primesN[k - 1]? = some q ∧ 1 ≤ q) : ∀ x : Nat, x ≤ prodP l x := by
  induction l with
  | nil => intro x; exact Nat.le_refl _
  | cons k l ih =>
    intro x
    (try refine opg fun gG hgG => ?_); (obtain ⟨q, hq, h1⟩ := h k (.head _)); (try (refine hgG ?_; clear hgG gG))
    have e : primesN.getD (k - 1) 0 = q := by rw [List.getD_eq_getElem?_getD, hq]; rfl
    have := ih (fun y hy => h y (.tail _ hy)) (x * q)
    show x ≤ prodP l (x * primesN.getD (k - 1) 0)
    rw [e]
    exact Nat.le_trans (Nat.le_mul_of_pos_right x h1) this
theorem prodP_take {l : List Nat} (h : ∀ k ∈ l, ∃ q, primesN[k - 1]? = some q ∧ 1 ≤ q) (i : Nat) : prodP (l.take i) 1 ≤ prodP l 1 := by
  have e : prodP l 1 = prodP (l.drop i) (prodP (l.take i) 1) := by rw [← prodP_app, List.take_append_drop]
  rw [e]
  exact prodP_le (fun k hk => h k (List.mem_of_mem_drop hk)) _
theorem prodP_succ {l : List Nat} {i k q : Nat} (hk : l[i]? = some k) (hq : primesN[k - 1]? = some q) : prodP (l.take (i + 1)) 1 = prodP (l.take i) 1 * q := by
  rw [List.take_add_one, hk, prodP_app]
  show prodP (l.take i) 1 * primesN.getD (k - 1) 0 = _
  rw [List.getD_eq_getElem?_getD, hq]; rfl
theorem seg21 {l0 lc x1 x2 x3 x4 ll lt lk lp pa pb : Addr} {dv : Value} {u1 u2 u3 tL ts tb tn0 : Tok} {n1 n2 look k1 sz np : Nat} {bs : Array UInt8} {rest : List (Addr × Obj)} {l : List Nat} {oc p1 : Obj}
    (B : Below callerA base [] g) (X : (hd.heap_1 w.params).In g) (P : Top p loose mean mg mb g)
    (F : Fr g L' h (mp20 1 tn0 (mp17all l0 lc x1 x2 x3 x4 ll dv u1 u2 u3 tL n1 n2 look k1 sz ts bs tb lt lk)))
    (N : News g L' h ((pa, p1) :: (lp, W.listOf #[.ref pa, .ref pb] np) :: (L' + 1, oc) :: rest)) (hoc : oc.data = .cell (some (.ref lp)))
    (hp1 : IsKid p1 l) (hlen : l.length ≤ 12) (hprim : ∀ k ∈ l, 1 ≤ k ∧ ∃ q, primesN[k - 1]? = some q ∧ 1 ≤ q) (hz : prodP l 1 ≤ 100000)
    (k : ∀ h' tk' tn u, Fr g L' h' (mp21 u (mp20 (prodP l 1) tn (mp17all l0 lc x1 x2 x3 x4 ll dv u1 u2 u3 tL n1 n2 look k1 sz ts bs tb lt lk))) → News g L' h' ((pa, p1) :: (lp, W.listOf #[.ref pa, .ref pb] np) :: (L' + 1, oc) :: rest) →
      LawC w L' fa cdv (execs (lawBody w 22) (lawEnv w L' fa cdv)) Q { mS with heap := h', toks := tk' }) :
    LawC w L' fa cdv (execs (lawBody w 21) (lawEnv w L' fa cdv)) Q { mS with heap := h, toks := tk } := by
  refine law_next (st := ?st) (rest := ?rest) ?hb (fun s' => ∃ h' tk' tn u, s' = { mS with heap := h', toks := tk' } ∧ Fr g L' h' (mp21 u (mp20 (prodP l 1) tn (mp17all l0 lc x1 x2 x3 x4 ll dv u1 u2 u3 tL n1 n2 look k1 sz ts bs tb lt lk))) ∧ News g L' h' ((pa, p1) :: (lp, W.listOf #[.ref pa, .ref pb] np) :: (L' + 1, oc) :: rest)) ?_
    (fun s' e => by refine p4_3 ?_ e; (try clear e); intro h' tk' tn u hq5 F' N'; subst hq5; exact k h' tk' tn u F' N')
  case hb => exact rfl
  clear k
  (try refine opg fun gG hgG => ?_); (obtain ⟨va, na, rfl, hva⟩ := hp1); (try (refine hgG ?_; clear hgG gG))
  have hpr : ∀ k ∈ l, ∃ q, primesN[k - 1]? = some q ∧ 1 ≤ q := fun k hk => (hprim k hk).2
  have hvl : va.length ≤ 12 := by rw [hva.length]; exact hlen
  delta LawC lawEnv lawScope scopeOf
  revert X P; k_fill; intro X P
  refine (let AE : Env := _; let AA : Around := Around.deeper _ AE; let QQ : Flow → Shared → Prop := _; (?kL : wpC _ AA (exec _ AE) QQ _ _))
  (try (refine (let mm : Str → Option Value := _; have Fx : Fr _ _ _ mm := F; ?_); clear F; rename Fr _ _ _ _ => F))
  refine wpC_of ?_
  refine For_turns F ?_
  with_reducible refine Subscript_ ?_
  refine wpAny_Name (wpAny_loadName_cell rfl rfl rfl ⟨oc, (N (L' + 1, oc) (.tail _ (.tail _ (.head _)))).1, hoc⟩ ?_) (by decide)
  iterate 2 (first | (k_unfold; (try dsimp only)) | walk1 | (dsimp only; walk1) | (leave1; (try dsimp only)))
  refine iter_list (vs := va) [(pa, W.listOf va.toArray na)] rfl ⟨_, (N (pa, _) (.head _)).1, rfl, na, rfl⟩ Stood.kept F (led := (lp, W.listOf #[.ref pa, .ref pb] np) :: (L' + 1, oc) :: rest) (news_sub N ?n1) (news_sub N ?n2)
    (fun i m led => ∃ (tn : Tok) (u : Option Value), led = (lp, W.listOf #[.ref pa, .ref pb] np) :: (L' + 1, oc) :: rest ∧ m = mp21 u (mp20 (prodP (l.take i) 1) tn (mp17all l0 lc x1 x2 x3 x4 ll dv u1 u2 u3 tL n1 n2 look k1 sz ts bs tb lt lk)))
    ⟨tn0, none, rfl, by rw [show prodP (l.take 0) 1 = 1 from rfl]; (first | (refine map1 (Str.ofString "kid") rfl ?_; intro y h0; ((repeat (first | with_reducible rfl | refine Eq.trans (if_neg (by assumption)) ?_ | refine Eq.trans ?_ (if_neg (by assumption)).symm)); done)) | (funext y; by_cases h0 : y = Str.ofString "kid"; (subst h0; rfl); simp only [if_neg h0]))⟩ ?_ ?_
  case n1 => intro q hq; exact .tail _ hq
  case n2 => intro q hq; rw [List.mem_singleton.mp hq]; exact .head _
  · rintro i v m₁ led₁ h2 tk2 I oI hI hi hP hj1 hn' F6 N6 gs ds oss Qt hQt
    (try refine opg fun gG hgG => ?_); (obtain ⟨tn, u, rfl, rfl⟩ := hj1); (try (refine hgG ?_; clear hgG gG))
    (try replace F6 : Fr _ L' _ _ := F6); (try replace N6 : News _ L' _ _ := N6)
    (try refine opg fun gG hgG => ?_); (obtain ⟨c, tc, hc, rfl⟩ := hva.get hP); (try (refine hgG ?_; clear hgG gG))
    (try refine opg fun gG hgG => ?_); (obtain ⟨hc1, q, hq, hq1⟩ := hprim c (List.mem_of_getElem? hc)); (try (refine hgG ?_; clear hgG gG))
    have hs := prodP_succ hc hq
    have hle := Nat.le_trans (prodP_take hpr (i + 1)) hz
    have hle0 := Nat.le_trans (prodP_take hpr i) hz
    generalize prodP (l.take i) 1 = num at *
    rw [hs] at hle
    clear F N
    dsimp only [mp21, mp20, mp17all, mp17, mp16, mp15all, mp15, mp14, mp11] at F6
    repeat ((fail_if_success (with_reducible show wpAny _ _ (PySem.call (Value.ref 142) _ _) _ _ _)); (first | (k_unfold; (try dsimp only)) | ((try dsimp only); walk1) | (leave1; (try dsimp only))))
    rename Fr _ _ _ _ => F7
    rename News _ _ _ _ => N7
    refine wpAny_loadName_local rfl rfl F7.ns (v := .int (num : Int) tn) rfl ?_
    repeat ((fail_if_success (with_reducible show wpAny _ _ (PySem.call (Value.ref 142) _ _) _ _ _)); (first | (k_unfold; (try dsimp only)) | ((try dsimp only); walk1) | (leave1; (try dsimp only))))
    refine Spec.call spec_primes B F7 X N7 P rfl trivial (by decide +kernel) (by decide +kernel) fun r h8 tk8 F8 N8 k8 post => ?_
    refine p2_4 ?_ post
    (try clear post)
    intro lq vs hq2 hlq0 hlq hvs
    subst hq2
    have N9 := news_app ((NewCells.one hlq0 hlq).news F7) N8
    (try clear N8); (try clear N7); (try clear F7)
    try dsimp only
    repeat ((fail_if_success (with_reducible show wpAny _ _ (subscriptTail _ _ _ _) _ _ _)); (first | (k_unfold; (try dsimp only)) | ((try dsimp only); walk1) | (leave1; (try dsimp only))))
    rw [show ((c : Int) - 1) = ((c - 1 : Nat) : Int) from by walk_at "mine omega"]
    have hk31 : c - 1 < 31 := (List.getElem?_eq_some_iff.mp hq).1
    (try refine opg fun gG hgG => ?_); (obtain ⟨tqq, hvq⟩ := hvs.get (c - 1) (q : Int) (primesI_get hq)); (try (refine hgG ?_; clear hgG gG))
    refine item_list (vs := vs) (list_led N9 (.head _)) (by walk_at "mine omega") hvq ?_
    try dsimp only
    have hle' : (num : Int) * (q : Int) ≤ 100000 := by rw [← Int.natCast_mul]; walk_at "mine omega"
    have hq127 : q ≤ 127 := by
      have : ∀ x ∈ primesN, x ≤ 127 := by decide
      exact this q (List.mem_of_getElem? hq)
    repeat ((fail_if_success (with_reducible show wpAny _ _ (binaryOp _ _ _) _ _ _)); (first | (k_unfold; (try dsimp only)) | ((try dsimp only); walk1) | (leave1; (try dsimp only))))
    walk_at "mine steps"
    rename Fr _ _ _ _ => F13
    rename News _ _ _ _ => N13
    rw [show ((num : Int) * (q : Int)) = ((num * q : Nat) : Int) from (Int.natCast_mul num q).symm] at F13
    refine hQt _ _ ?_
    refine TurnEnd.next F13 (news_sub N13 ?n3) (news_sub (l' := (lp, W.listOf #[.ref pa, .ref pb] np) :: (L' + 1, oc) :: rest) N13 ?n4) hn' ⟨_, some (.int (c : Int) tc), rfl, by rw [hs]; (first | (refine map2 (Str.ofString "kid") (Str.ofString "number") rfl rfl ?_; intro y h0 h1; ((repeat (first | with_reducible rfl | refine Eq.trans (if_neg (by assumption)) ?_ | refine Eq.trans ?_ (if_neg (by assumption)).symm)); done)) | (funext y; by_cases h0 : y = Str.ofString "kid"; (subst h0; rfl); by_cases h1 : y = Str.ofString "number"; (subst h1; rfl); simp only [if_neg h0, if_neg h1]))⟩
    case n3 => first | walk_at "mine sub" | (intro x hx; simp only [List.mem_cons, List.mem_append, List.not_mem_nil, or_false] at hx ⊢; rcases hx with e | e <;> simp only [e, true_or, or_true])
    case n4 => first | walk_at "mine sub" | (intro x hx; simp only [List.mem_cons, List.mem_append, List.not_mem_nil, or_false] at hx ⊢; rcases hx with e | e | e <;> simp only [e, true_or, or_true])
  · rintro h5 tk5 m5 led5 F15 N15 hj3
    (try refine opg fun gG hgG => ?_); (obtain ⟨tn, u, rfl, rfl⟩ := hj3); (try (refine hgG ?_; clear hgG gG))
    (try replace F15 : Fr _ L' _ _ := F15); (try replace N15 : News _ L' _ _ := N15)
    show _ ∧ _
    rw [hva.length, List.take_length] at F15
    exact ⟨by first | rfl | trivial, _, _, _, _, rfl, F15, N15⟩
end
end Mine
end
section
theorem Mine.fresh62 : True := by w_top off; trivial
open PySem PySem.W PyProof.Rows PySem.Calls
set_option maxRecDepth 100000
set_option maxHeartbeats 8000000
namespace Mine
section
variable {w : World} {p : Program} {loose : List Str} {mean : ExcName → Option Value} {mg mb : Str → Option Value} {base g : Heap} {L' fa : Addr} {cdv : Value} {mS : Shared} {h : Heap} {tk : Nat} {Q : Flow → Shared → Prop}
noncomputable abbrev mp21all (l0 lc x1 x2 x3 x4 ll : Addr) (dv : Value) (u1 u2 u3 tL : Tok) (n1 n2 look k1 sz : Nat) (ts : Tok) (bs : Array UInt8) (tb : Tok) (lt lk : Addr) (nm : Nat) (tn : Tok) (u : Option Value) : Str → Option Value := mp21 u (mp20 nm tn (mp17all l0 lc x1 x2 x3 x4 ll dv u1 u2 u3 tL n1 n2 look k1 sz ts bs tb lt lk))
noncomputable abbrev mp22 (lb : Addr) (m : Str → Option Value) : Str → Option Value := fun y => if y = Str.ofString "both" then some (Value.ref lb) else m y
theorem seg22 {l0 lc x1 x2 x3 x4 ll lt lk d1 d2 : Addr} {dv : Value} {u1 u2 u3 tL ts tb tn : Tok} {n1 n2 look k1 sz nt nm : Nat} {bs : Array UInt8} {u : Option Value} {rest : List (Addr × Obj)} {o1 o2 : Obj} {t1 t2 : List (Nat × Nat)}
    (B : Below callerA base [] g) (X : (hd.heap_1 w.params).In g) (P : Top p loose mean mg mb g)
    (F : Fr g L' h (mp21all l0 lc x1 x2 x3 x4 ll dv u1 u2 u3 tL n1 n2 look k1 sz ts bs tb lt lk nm tn u)) (N : News g L' h ((lt, W.listOf #[.ref d1, .ref d2] nt) :: (d2, o2) :: (d1, o1) :: rest))
    (hs1 : (d1 == sysModules) = false) (hs2 : (d2 == sysModules) = false) (i1 : IsTab w o1 t1) (i2 : IsTab w o2 t2) (hz1 : t1.length ≤ 3) (hz2 : t2.length ≤ 3) (hnd : (t1.map (·.1)).Nodup)
    (k : ∀ h' tk' d3 o3, (d3 == sysModules) = false → IsTab w o3 (addTab t1 t2) → Fr g L' h' (mp22 d3 (mp21all l0 lc x1 x2 x3 x4 ll dv u1 u2 u3 tL n1 n2 look k1 sz ts bs tb lt lk nm tn u)) → News g L' h' ((d3, o3) :: (lt, W.listOf #[.ref d1, .ref d2] nt) :: (d2, o2) :: (d1, o1) :: rest) →
      LawC w L' fa cdv (execs (lawBody w 23) (lawEnv w L' fa cdv)) Q { mS with heap := h', toks := tk' }) :
    LawC w L' fa cdv (execs (lawBody w 22) (lawEnv w L' fa cdv)) Q { mS with heap := h, toks := tk } := by
  refine law_next (st := ?st) (rest := ?rest) ?hb (fun s' => ∃ h' tk' d3 o3, (d3 == sysModules) = false ∧ IsTab w o3 (addTab t1 t2) ∧ s' = { mS with heap := h', toks := tk' } ∧ Fr g L' h' (mp22 d3 (mp21all l0 lc x1 x2 x3 x4 ll dv u1 u2 u3 tL n1 n2 look k1 sz ts bs tb lt lk nm tn u)) ∧ News g L' h' ((d3, o3) :: (lt, W.listOf #[.ref d1, .ref d2] nt) :: (d2, o2) :: (d1, o1) :: rest)) ?_
    (fun s' e => by refine p4_5 ?_ e; (try clear e); intro h' tk' d3 o3 a b hq2 F' N'; subst hq2; exact k h' tk' d3 o3 a b F' N')
  case hb => exact rfl
  clear k
  (try refine opg fun gG hgG => ?_); (obtain ⟨τ1, i1⟩ := i1); (try (refine hgG ?_; clear hgG gG))
  (try refine opg fun gG hgG => ?_); (obtain ⟨τ2, i2⟩ := i2); (try (refine hgG ?_; clear hgG gG))
  delta LawC lawEnv lawScope scopeOf
  revert X P; k_fill; intro X P
  refine (let AE : Env := _; let AA : Around := Around.deeper _ AE; let QQ : Flow → Shared → Prop := _; (?kL : wpC _ AA (exec _ AE) QQ _ _))
  (try (refine (let mm : Str → Option Value := _; have Fx : Fr _ _ _ mm := F; ?_); clear F; rename Fr _ _ _ _ => F))
  refine wpC_of ?_
  repeat ((fail_if_success (with_reducible show wpAny _ _ (PySem.call (Value.ref 52) _ _) _ _ _)); (first | (k_unfold; (try dsimp only)) | ((try dsimp only); walk1) | (leave1; (try dsimp only))))
  refine Spec.call (spec_add d1 d2 τ1 τ2 t1 t2 hs1 hs2 (by walk_at "mine omega") (by walk_at "mine omega") hnd) B F X N P rfl ⟨dictOf_led N (.tail _ (.tail _ (.head _))) i1, dictOf_led N (.tail _ (.head _)) i2⟩ (by decide +kernel) (by decide +kernel) fun r h3 tk3 F3 N3 k3 post => ?_
  refine p3_5 ?_ post
  (try clear post)
  intro d3 o3 τ3 hq1 hlo3 hd30 hd31 hi3
  subst hq1
  have N4 := news_app ((NewCells.one hd30 hd31).news F) N3
  clear N F; (try clear N3)
  try dsimp only
  walk_at "mine steps"
  rename Fr _ _ _ _ => F7
  rename News _ _ _ _ => N7
  show _ ∧ _
  exact ⟨by first | rfl | trivial, _, _, d3, o3, hlo3, ⟨τ3, hi3⟩, rfl, F7, N7⟩
end
end Mine
end
section
theorem Mine.fresh63 : True := by w_top off; trivial
open PySem PySem.W PyProof.Rows PySem.Calls
set_option maxRecDepth 100000
set_option maxHeartbeats 8000000
namespace Mine
noncomputable abbrev cntF (L K : List Nat) : List (Nat × Nat) := K.map fun k => (k, L.count k)
theorem stored_ins (L K : List Nat) (τ : Nat → Tok) (c : Nat) (t : Tok) : stored (kvsOf τ (cntF L K)) (c : Int) (.int ((L.count c : Nat) : Int) t) = kvsOf (fun k => if k = c then t else τ k) (cntF L (ins K c)) := by
  unfold stored kvsOf ins cntF
  have ha : ((K.map fun k => (k, L.count k)).map fun (q : Nat × Nat) => ((q.1 : Int), Value.int (q.2 : Int) (τ q.1))).any (fun kv => decide (kv.1 = (c : Int))) = K.contains c := by
    rw [Bool.eq_iff_iff, List.any_eq_true, List.contains_iff_mem]
    constructor
    · rintro ⟨kv, hm, e⟩
      rw [List.map_map] at hm
      obtain ⟨k, hk, rfl⟩ := List.mem_map.mp hm
      have := of_decide_eq_true e
      have : (k : Int) = c := this
      rw [show c = k by (first | lia | omega)]; exact hk
    · intro h
      refine ⟨((c : Int), .int ((L.count c : Nat) : Int) (τ c)), ?_, decide_eq_true rfl⟩
      rw [List.map_map]
      exact List.mem_map.mpr ⟨c, h, rfl⟩
  rw [ha]
  by_cases h : K.contains c = true
  · rw [if_pos h, if_pos h, List.map_map, List.map_map, List.map_map]
    refine List.map_congr_left fun k _ => ?_
    show (if (k : Int) = (c : Int) then ((k : Int), Value.int ((L.count c : Nat) : Int) t) else ((k : Int), Value.int ((L.count k : Nat) : Int) (τ k))) = ((k : Int), Value.int ((L.count k : Nat) : Int) (if k = c then t else τ k))
    by_cases e : k = c
    · subst e; rw [if_pos rfl, if_pos rfl]
    · rw [if_neg (by (first | lia | omega)), if_neg e]
  · rw [if_neg h, if_neg h, List.map_append, List.map_append, List.map_map, List.map_map]
    congr 1
    · refine List.map_congr_left fun k hk => ?_
      show ((k : Int), Value.int ((L.count k : Nat) : Int) (τ k)) = ((k : Int), Value.int ((L.count k : Nat) : Int) (if k = c then t else τ k))
      rw [if_neg (fun e : k = c => h (List.contains_iff_mem.mpr (by rw [← e]; exact hk)))]
    · show [((c : Int), Value.int ((L.count c : Nat) : Int) t)] = [((c : Int), Value.int ((L.count c : Nat) : Int) (if c = c then t else τ c))]
      rw [if_pos rfl]
theorem NatL.snoc_inv {vs : List Value} {v : Value} {xs : List Nat} (h : NatL (vs ++ [v]) xs) : ∃ (ys : List Nat) (c : Nat) (t : Tok), xs = ys ++ [c] ∧ v = .int (c : Int) t ∧ NatL vs ys := by
  induction vs generalizing xs with
  | nil => cases h with | cons x t h => cases h; exact ⟨[], x, t, rfl, rfl, .nil⟩
  | cons u us ih => cases h with | cons x t h =>
                    have hp3 := ih h
                    refine p3_3 ?_ hp3
                    (try clear hp3)
                    intro ys c t' hq1 hq2 h'
                    subst hq1
                    subst hq2
                    exact ⟨x :: ys, c, t', rfl, rfl, .cons x t h'⟩
theorem cnt_kvs {L : List Nat} {vs : List Value} {kvs : List (Int × Value)} (h : StoredAll (fun v k => ∃ (c : Nat) (t : Tok), v = .int (c : Int) t ∧ k = (c : Int)) (fun v y => ∃ (c : Nat) (t t' : Tok), v = .int (c : Int) t ∧ y = .int ((L.count c : Nat) : Int) t') vs kvs) :
    ∀ l : List Nat, NatL vs l → ∃ τ, kvs = kvsOf τ (cntF L (l.foldl ins [])) := by
  induction h with
  | nil => intro l hl; cases hl; exact ⟨fun _ => 0, rfl⟩
  | snoc h1 hk hv ih =>
    intro l hl
    have hp6 := hl.snoc_inv
    refine p3_3 ?_ hp6
    (try clear hp6)
    intro ys c t hq4 hq5 hy
    subst hq4
    subst hq5
    obtain ⟨τ, rfl⟩ := ih ys hy
    obtain ⟨c1, t1, e1, rfl⟩ := hk
    refine p3_2 ?_ hv
    (try clear hv)
    intro c2 t2 t3 e2 hq7
    subst hq7
    injection e1 with e1 _
    injection e2 with e2 _
    have e1 : c = c1 := by (first | lia | omega)
    have e2 : c = c2 := by (first | lia | omega)
    subst e1 e2
    refine ⟨fun k => if k = c then t3 else τ k, ?_⟩
    rw [List.foldl_append, List.foldl_cons, List.foldl_nil]
    exact stored_ins L _ τ c t3
theorem hits_same {A : Around} {s : Shared} {τ τ' : Nat → Tok} {T : List (Nat × Nat)} (hn : (T.map (·.1)).Nodup) : ∀ R : List (Nat × Nat), (∀ q ∈ R, q ∈ T) → KeqHits A s (kvsOf τ' T) (kvsOf τ R) true
  | [], _ => .nil
  | q :: R, h => by
    obtain ⟨i, hi⟩ := List.getElem?_of_mem (h q (.head _))
    have hv : valueAt (kvsOf τ' T) (q.1 : Int) = some (.int (q.2 : Int) (τ' q.1)) := by rw [valueAt_kvs, find_nodup hn hi]; rfl
    have he : SeqAt.EqAt A s (.int (q.2 : Int) (τ q.1)) (.int (q.2 : Int) (τ' q.1)) true := by
      have := SeqAt.EqAt.int_int (A := A) (s := s) (q.2 : Int) (τ q.1) (q.2 : Int) (τ' q.1)
      rw [beq_self_eq_true] at this
      exact this
    exact KeqHits.hit hv he (hits_same hn R fun x hx => h x (.tail _ hx))
section
variable {prog : Program} {w : World} {A : Around} {E : Value → Shared → Prop} {s : Shared} {a b : Addr} {Q : Value → Shared → Prop} {τ τ' : Nat → Tok} {T : List (Nat × Nat)}
/-- two dicts of the same table -/
theorem dict_ne_same (ha : (a == sysModules) = false) (hb : (b == sysModules) = false) (hn : (T.map (·.1)).Nodup) (da : s.heap.DictOf (intKind prog w) a (kvsOf τ T)) (db : s.heap.DictOf (intKind prog w) b (kvsOf τ' T)) (hu : A.units < cLine)
    (h : Q (.bool false) s) : wpAny (model prog w) A (compareOp .NotEq (.ref a) (.ref b)) Q E s := by
  refine keq_ne (r := true) ha hb da db hu (fun _ => hits_same hn T fun _ h => h) ?_
  rw [kvsOf_length, kvsOf_length, beq_self_eq_true]
  exact h
theorem pairs_any {prog' : Program} {w' : World} {es : List DictEntry} {kvs : List (Int × Value)} (h : Pairs (intKind prog w) es kvs) : Pairs (intKind prog' w') es kvs := by
  induction h with
  | nil => exact .nil
  | cons a b _ ih => exact .cons a b ih
theorem dictOf_any {prog' : Program} {w' : World} {h : Heap} {a : Addr} {kvs : List (Int × Value)} (x : h.DictOf (intKind prog w) a kvs) : h.DictOf (intKind prog' w') a kvs := by
  refine p3_6 ?_ x
  (try clear x)
  intro o es ep h1 h2 h3 h4 h5 h6
  exact ⟨o, es, ep, h1, h2, h3, h4, pairs_any h5, h6⟩
theorem dict_eqAt (ha : (a == sysModules) = false) (hb : (b == sysModules) = false) (hn : (T.map (·.1)).Nodup) (da : s.heap.DictOf (intKind prog w) a (kvsOf τ T)) (db : s.heap.DictOf (intKind prog w) b (kvsOf τ' T)) (hu : A.units < cLine) (hab : a ≠ b) :
    SeqAt.EqAt A s (.ref a) (.ref b) true := by
  refine SeqAt.EqAt.of_refs hab fun prog' w' E' Q' h => ?_
  refine keq_eq (knd := intKind prog' w') (r := true) ha hb (dictOf_any da) (dictOf_any db) hu (fun _ => hits_same hn T fun _ h => h) ?_
  rw [kvsOf_length, kvsOf_length, beq_self_eq_true]
  exact h
end
theorem count_cast (l : List Nat) (c : Nat) : (l.map fun (x : Nat) => (x : Int)).count (c : Int) = l.count c := by
  induction l with
  | nil => rfl
  | cons x l ih =>
    rw [List.map_cons, List.count_cons, List.count_cons, ih]
    congr 1
    by_cases h : x = c
    · subst h; simp
    · have : ¬ ((x : Int) = (c : Int)) := by (first | lia | omega)
      simp only [beq_iff_eq, h, this]
end Mine
namespace Mine
section
variable {prog : Program} {w : World} {A : Around} {E : Value → Shared → Prop} {s : Shared} {env : Env}
/-- {k: l.count(k) for k in l}: what stood is kept -/
noncomputable def CountOf (prog : Program) (w : World) (A : Around) (env : Env) (kx vx : Expr) (x : Str) (scope : Scope) (cl : List (Str × Addr)) (l : List Nat) (Ret : Addr → Shared → Prop) (xv : Value) (s₁ : Shared) : Prop :=
  ∃ lt vs, xv = .ref lt ∧ s₁.heap.IsList lt (vs : List Value).toArray ∧ NatL vs l ∧ l.length ≤ 1000 ∧
    (∀ C v s₃ m₃ E', s₃.heap.Ns C m₃ → m₃ x = some v → wpAny (model prog w) A (eval kx (compEnvC scope cl C env)) (fun key s₄ => key = v ∧ Keeps s₃ s₄) E' s₃) ∧
    (∀ C (c : Nat) (t : Tok) s₃ m₃ E', s₃.heap.Ns C m₃ → m₃ x = some (.int (c : Int) t) → (∀ b o, s₁.heap.get? b = some o → s₃.heap.get? b = some o) →
      wpAny (model prog w) A (eval vx (compEnvC scope cl C env)) (fun y s₄ => (∃ t', y = .int ((l.count c : Nat) : Int) t') ∧ Keeps s₃ s₄) E' s₃) ∧
    (∀ D h' tk o τ, s₁.heap.objs.size ≤ D → s₁.heap.get? D = none → h'.get? D = some o → o.IsDictOf (intKind prog w) (kvsOf τ (cntT l)) → (∀ b o, s₁.heap.get? b = some o → h'.get? b = some o) → Ret D { s₁ with heap := h', toks := tk })
theorem count_comp {kx vx iter : Expr} {x : Str} {px : Pos} {scope : Scope} {cl : List (Str × Addr)} {pos : Pos} {Q : Value → Shared → Prop} {l : List Nat} (hh : A.handled = none)
    (hclos : closureFor scope env = pure cl) (hcell : ∀ y ∈ scope.names, y.2 ≠ .cell) (hkind : scope.kind = .function)
    (hnames : ∀ y ∈ scope.names, y.2 = .local → scope.names.lookup y.1 = some .local) (hx : scope.names.lookup x = some .local)
    (h : wpAny (model prog w) A (eval iter env) (CountOf prog w A env kx vx x scope cl l (fun D s => Q (.ref D) s)) E s)
    (hs : ∀ x, foldedSetIterable iter env x = pure x := by intro _; rfl) :
    wpAny (model prog w) A (eval (.DictComp kx vx [⟨.Name x px, iter, [], 0⟩] scope pos) env) Q E s := by
  rw [arm_eval_DictComp]
  refine wpAny_comprehension_free (use := none) rfl hs hclos hkind hnames (wpAny_mono h (fun xv s₁ h₁ => ?_) fun _ _ e => e)
  refine p2_7 ?_ h₁
  (try clear h₁)
  intro lt vs hq8 hl hv hz hk hval hret
  subst hq8
  have hlt : lt < s₁.heap.objs.size := by obtain ⟨_, e, _⟩ := hl; exact Heap.lt_size e
  refine wpAny_pyIter_list hl ?_
  have up : ∀ b o, s₁.heap.get? b = some o → b ≠ s₁.heap.objs.size ∧ (s₁.heap.push { cls := .type "list_iterator", data := .fields #[.ref lt, .int 0 0] }).get? b = some o := fun b o e => ⟨Nat.ne_of_lt (Heap.lt_size e), Heap.get?_push_of_some _ e⟩
  have hW := Walks.list (prog := prog) (w := w) hh s₁.heap.objs.size lt (Nat.ne_of_lt hlt) vs.toArray
  have hsz : vs.toArray.size = vs.length := by simp
  have old : ∀ s₃ : Shared, (∀ b o, b ∉ [s₁.heap.objs.size] → (s₁.heap.push { cls := .type "list_iterator", data := .fields #[.ref lt, .int 0 0] }).get? b = some o → s₃.heap.get? b = some o) → ∀ b o, s₁.heap.get? b = some o → s₃.heap.get? b = some o :=
    fun s₃ hk b o e => hk b o (fun hm => (up b o e).1 (List.mem_singleton.mp hm)) (up b o e).2
  have hgetv : ∀ (i : Nat) v, vs.toArray[i]? = some v → ∃ (c : Nat) (t : Tok), v = .int (c : Int) t := fun i v e => by
    have e' : vs[i]? = some v := by simpa using e
    obtain ⟨c, t, _, rfl⟩ := hv.get e'
    exact ⟨c, t, rfl⟩
  have hst : (s₁.heap.push { cls := .type "list_iterator", data := .fields #[.ref lt, .int 0 0] }).IsListIter s₁.heap.objs.size lt 0 ∧ (s₁.heap.push { cls := .type "list_iterator", data := .fields #[.ref lt, .int 0 0] }).IsList lt vs.toArray := ⟨⟨_, Heap.get?_push_size _ rfl, rfl, rfl⟩, hl.push _⟩
  have hI : (s₁.heap.push { cls := .type "list_iterator", data := .fields #[.ref lt, .int 0 0] }).objs.size = s₁.heap.objs.size + 1 := Heap.size_push ..
  generalize hH1 : s₁.heap.push { cls := .type "list_iterator", data := .fields #[.ref lt, .int 0 0] } = H1 at up old hst hI ⊢
  refine wpAny_newObj_type (wpAny_newFunctionEnv hcell (by intro y hy; simp at hy) (fun h₁ hns₁ hsb₁ => ?_) hkind)
  dsimp only at hns₁ hsb₁ ⊢
  have hnew : (H1.push { cls := .type "dict", dict := none, data := .dict #[] }).DictOf (intKind prog w) H1.objs.size [] := Heap.DictOf.new H1
  generalize hH2 : H1.push { cls := .type "dict", dict := none, data := .dict #[] } = H2 at hns₁ hsb₁ hnew ⊢
  have hC : H2.objs.size = H1.objs.size + 1 := by rw [← hH2, Heap.size_push]
  have hDC : H1.objs.size ≠ H2.objs.size := by rw [hC]; exact Nat.ne_of_lt (Nat.lt_succ_self _)
  have below : ∀ b, b < H1.objs.size → b ≠ H2.objs.size ∧ b ≠ H1.objs.size := fun b hb => ⟨by rw [hC]; exact Nat.ne_of_lt (Nat.lt_succ_of_lt hb), Nat.ne_of_lt hb⟩
  have hfp : ∀ b ∈ [s₁.heap.objs.size, lt], b < H1.objs.size := fun b hb => by
    rw [hI]
    rcases List.mem_cons.mp hb with rfl | hb
    · exact Nat.lt_succ_self _
    · rw [List.mem_singleton.mp hb]; exact Nat.lt_succ_of_lt hlt
  have hDf : H1.objs.size ∉ [s₁.heap.objs.size, lt] := fun hm => Nat.lt_irrefl _ (hfp _ hm)
  have hCf : H2.objs.size ∉ [s₁.heap.objs.size, lt] := fun hm => by have := hfp _ hm; rw [hC] at this; exact Nat.lt_irrefl _ (Nat.lt_of_succ_lt this)
  have old1 : ∀ b o, H1.get? b = some o → h₁.get? b = some o := fun b o e => hsb₁.extBut b o (below b (Heap.lt_size e)).1 (Heap.get?_push_of_some _ (hH2 ▸ Heap.get?_push_of_some _ e))
  have hacc : h₁.DictOf (intKind prog w) H1.objs.size [] := hnew.at fun o e => hsb₁.extBut _ _ hDC (Heap.get?_push_of_some _ e)
  have hst₁ := hW.frame _ _ h₁ hst fun b _ o e => old1 b o e
  have keep : ∀ h : Heap, (∀ b o, b ≠ H2.objs.size → b ∉ [s₁.heap.objs.size] → b ≠ H1.objs.size → h₁.get? b = some o → h.get? b = some o) → ∀ b o, s₁.heap.get? b = some o → h.get? b = some o := fun h hk b o e => by
    have hb := below b (Heap.lt_size (up b o e).2)
    exact hk b o hb.1 (fun hm => (up b o e).1 (List.mem_singleton.mp hm)) hb.2 (old1 b o (up b o e).2)
  have loop : ∀ s₃ : Shared, s₃ = { s₁ with heap := h₁, toks := s₁.toks + ([] : List (Str × Value)).length } →
      codeAny (model prog w) A (.compLoop (.DictComp kx vx [⟨.Name x px, iter, [], 0⟩] scope pos) 0 (.ref s₁.heap.objs.size) (.ref H1.objs.size) (compEnvC scope cl H2.objs.size env))
        (compPost (model prog w) A E none Q (.ref H1.objs.size) H2.objs.size) s₃ := by
    rintro s₃ rfl
    refine codeAny_compLoop_walkD (hsz := by rw [hsz, hv.length, sizeLine_eq]; (first | lia | omega)) (knd := intKind prog w) (cenv := compEnvC scope cl H2.objs.size env) hW (fun _ => true) (fun v k => ∃ (c : Nat) (t : Tok), v = .int (c : Int) t ∧ k = (c : Int)) (fun v y => ∃ (c : Nat) (t t' : Tok), v = .int (c : Int) t ∧ y = .int ((l.count c : Nat) : Int) t')
      (lookup_relabel_local hx) (by simp [compEnvC, relabel, hkind]) hDC hDf hCf hst₁ hacc hns₁ ?_ ?_ ?_ ?_
    · intro i v s₃ m₃ _ _ _ _
      exact wpAny_pure ⟨rfl, s₃.heap, s₃.toks, rfl, fun _ _ e => e⟩
    · intro i v s₃ m₃ hP _ hn hm _
      obtain ⟨c, t, rfl⟩ := hgetv i v hP
      refine wpAny_mono (hk _ _ s₃ m₃ _ hn hm) (fun key s₄ hq => ?_) fun _ _ e => e
      obtain ⟨rfl, hq⟩ := hq
      exact ⟨⟨(c : Int), (by show Value.isInt (c : Int) (.int (c : Int) t) = true; simp [Value.isInt]), c, t, rfl, rfl⟩, hq⟩
    · intro i v s₃ m₃ hP _ hn hm hk3
      obtain ⟨c, t, rfl⟩ := hgetv i v hP
      refine wpAny_mono (hval _ c t s₃ m₃ _ hn hm (keep s₃.heap hk3)) (fun y s₄ hq => ?_) fun _ _ e => e
      obtain ⟨⟨t', rfl⟩, hq⟩ := hq
      exact ⟨⟨c, t, t', rfl, rfl⟩, hq⟩
    · intro h' tk m' kvs ws hn hdict hwl hP hst2 hk'
      have hws : ws = vs := by
        refine List.ext_getElem? fun j => ?_
        by_cases hj : j < ws.length
        · have := hP j ws[j] (List.getElem?_eq_getElem hj)
          rw [List.getElem?_eq_getElem hj]
          simpa using this.symm
        · rw [List.getElem?_eq_none (by (first | lia | omega)), List.getElem?_eq_none (by rw [hwl, hsz] at hj; (first | lia | omega))]
      subst hws
      have hf : ws.filter (fun _ => true) = ws := List.filter_eq_self.mpr fun _ _ => rfl
      rw [hf] at hst2
      obtain ⟨τ, rfl⟩ := cnt_kvs hst2 l hv
      refine ⟨m', hn, fun h'' hs'' => ?_⟩
      obtain ⟨o, ho, hd⟩ := Heap.dictOf_iff.mp hdict
      have hge : s₁.heap.objs.size ≤ H1.objs.size := by rw [hI]; exact Nat.le_succ _
      refine hret H1.objs.size h'' tk o τ hge ?_ (hs''.extBut _ _ hDC ho) hd fun b o e => hs''.extBut b o (below b (Heap.lt_size (up b o e).2)).1 (keep h' hk' b o e)
      cases q : s₁.heap.get? H1.objs.size with
      | none => rfl
      | some o' => exact absurd (Heap.lt_size q) (Nat.not_lt.mpr hge)
  exact codeAny_compStart_dict (loop _ rfl) (hW.self 0 _ _ _ hst₁ (loop _ rfl))
end
end Mine
end
section
theorem Mine.fresh64 : True := by w_top off; trivial
open PySem PySem.W PyProof.Rows PySem.Calls
set_option maxRecDepth 100000
set_option maxHeartbeats 8000000
namespace Mine
section
variable {w : World} {p : Program} {loose : List Str} {mean : ExcName → Option Value} {mg mb : Str → Option Value} {base g : Heap} {L' fa : Addr} {cdv : Value} {mS : Shared} {h : Heap} {tk : Nat} {Q : Flow → Shared → Prop}
theorem not_sys {s : Shared} {D c : Addr} {o : Obj} (hD : s.heap.objs.size ≤ D) (hc : s.heap.get? (c + 1) = some o) : (D == sysModules) = false := by
  have h1 := Heap.lt_size hc
  have h2 : (c + 1 : Nat) < D := Nat.lt_of_lt_of_le h1 hD
  have h3 : ¬ (D = sysModules) := fun e => by rw [e] at h2; exact absurd h2 (Nat.not_lt.mpr (Nat.succ_le_succ (Nat.zero_le c)))
  simpa using h3
noncomputable abbrev mp22all (l0 lc x1 x2 x3 x4 ll : Addr) (dv : Value) (u1 u2 u3 tL : Tok) (n1 n2 look k1 sz : Nat) (ts : Tok) (bs : Array UInt8) (tb : Tok) (lt lk : Addr) (nm : Nat) (tn : Tok) (u : Option Value) (d3 : Addr) : Str → Option Value := mp22 d3 (mp21all l0 lc x1 x2 x3 x4 ll dv u1 u2 u3 tL n1 n2 look k1 sz ts bs tb lt lk nm tn u)
theorem seg23 {l0 lc x1 x2 x3 x4 ll lt lk lp pa pb d3 : Addr} {dv : Value} {u1 u2 u3 tL ts tb tn : Tok} {n1 n2 look k1 sz np : Nat} {bs : Array UInt8} {u : Option Value} {rest : List (Addr × Obj)} {oc p1 o3 : Obj} {l : List Nat} {T : List (Nat × Nat)}
    (B : Below callerA base [] g) (X : (hd.heap_1 w.params).In g) (P : Top p loose mean mg mb g)
    (F : Fr g L' h (mp22all l0 lc x1 x2 x3 x4 ll dv u1 u2 u3 tL n1 n2 look k1 sz ts bs tb lt lk (n1 * n2) tn u d3)) (N : News g L' h ((d3, o3) :: (pa, p1) :: (lp, W.listOf #[.ref pa, .ref pb] np) :: (L' + 1, oc) :: rest)) (hoc : oc.data = .cell (some (.ref lp)))
    (hs3 : (d3 == sysModules) = false) (i3 : IsTab w o3 T) (hT : cntT l = T) (hnd : (T.map (·.1)).Nodup) (hp1 : IsKid p1 l) (hlen : l.length ≤ 12) (h1 : n1 < 128) (h2 : n2 < 128)
    (k : ∀ h' tk', Fr g L' h' (mp22all l0 lc x1 x2 x3 x4 ll dv u1 u2 u3 tL n1 n2 look k1 sz ts bs tb lt lk (n1 * n2) tn u d3) → News g L' h' ((d3, o3) :: (pa, p1) :: (lp, W.listOf #[.ref pa, .ref pb] np) :: (L' + 1, oc) :: rest) →
      LawC w L' fa cdv (execs (lawBody w 24) (lawEnv w L' fa cdv)) Q { mS with heap := h', toks := tk' }) :
    LawC w L' fa cdv (execs (lawBody w 23) (lawEnv w L' fa cdv)) Q { mS with heap := h, toks := tk } := by
  refine law_next (st := ?st) (rest := ?rest) ?hb (fun s' => ∃ h' tk', s' = { mS with heap := h', toks := tk' } ∧ Fr g L' h' (mp22all l0 lc x1 x2 x3 x4 ll dv u1 u2 u3 tL n1 n2 look k1 sz ts bs tb lt lk (n1 * n2) tn u d3) ∧ News g L' h' ((d3, o3) :: (pa, p1) :: (lp, W.listOf #[.ref pa, .ref pb] np) :: (L' + 1, oc) :: rest)) ?_
    (fun s' e => by refine p2_3 ?_ e; (try clear e); intro h' tk' hq1 F' N'; subst hq1; exact k h' tk' F' N')
  case hb => exact rfl
  clear k
  (try refine opg fun gG hgG => ?_); (obtain ⟨τ3, i3⟩ := i3); (try (refine hgG ?_; clear hgG gG))
  (try refine opg fun gG hgG => ?_); (obtain ⟨va, na, rfl, hva⟩ := hp1); (try (refine hgG ?_; clear hgG gG))
  have hb1 : (0 : Int) ≤ n1 ∧ (n1 : Int) ≤ 127 := ⟨by walk_at "mine omega", by walk_at "mine omega"⟩
  have hb2 : (0 : Int) ≤ n2 ∧ (n2 : Int) ≤ 127 := ⟨by walk_at "mine omega", by walk_at "mine omega"⟩
  have hcell := (N (L' + 1, oc) (.tail _ (.tail _ (.tail _ (.head _))))).1
  delta LawC lawEnv lawScope scopeOf
  revert X P; k_fill; intro X P
  refine (let AE : Env := _; let AA : Around := Around.deeper _ AE; let QQ : Flow → Shared → Prop := _; (?kL : wpC _ AA (exec _ AE) QQ _ _))
  (try (refine (let mm : Str → Option Value := _; have Fx : Fr _ _ _ mm := F; ?_); clear F; rename Fr _ _ _ _ => F))
  refine wpC_of ?_
  refine wpAny_If ?_
  repeat ((fail_if_success (with_reducible show wpAny _ _ (compareOp .NotEq _ _) _ _ _)); (first | (k_unfold; (try dsimp only)) | ((try dsimp only); walk1) | (leave1; (try dsimp only))))
  refine ne_int ?_
  rw [Int.natCast_mul, bne_self_eq_false]
  repeat ((fail_if_success (with_reducible show wpAny _ _ (eval (.DictComp _ _ _ _ _) _) _ _ _)); (first | (k_unfold; (try dsimp only)) | ((try dsimp only); walk1) | (leave1; (try dsimp only))))
  refine count_comp (cl := [(Str.ofString "piles", L' + 1)]) (l := l) rfl ?a1 ?a2 ?a3 ?a4 ?a5 ?_ (by intro _; rfl)
  case a1 => rfl
  case a2 => decide
  case a3 => rfl
  case a4 => decide
  case a5 => rfl
  with_reducible refine Subscript_ ?_
  refine wpAny_Name (wpAny_loadName_cell rfl rfl rfl ⟨oc, hcell, hoc⟩ ?_) (by decide)
  iterate 2 (first | (k_unfold; (try dsimp only)) | walk1 | (dsimp only; walk1) | (leave1; (try dsimp only)))
  have hl0 : Heap.IsList h pa va.toArray := ⟨_, (N (pa, W.listOf va.toArray na) (.tail _ (.head _))).1, rfl, na, rfl⟩
  refine ⟨pa, va, rfl, hl0, hva, by walk_at "mine omega", ?b1, ?b2, ?b3⟩
  case b1 =>
    intro C v s₃ m₃ E' hn hm
    exact wpAny_Name (wpAny_loadName_local rfl rfl hn hm ⟨rfl, s₃.heap, s₃.toks, rfl, fun _ _ e => e⟩) (by decide)
  case b2 =>
    intro C c t s₃ m₃ E' hn hm hk3
    have F3 := F.keeps hk3
    have N3 := N.grown hk3
    have hl3 : s₃.heap.IsList pa va.toArray := ⟨_, hk3 _ _ (N (pa, W.listOf va.toArray na) (.tail _ (.head _))).1, rfl, na, rfl⟩
    clear F N
    refine MethodCall_ ?_
    with_reducible refine Subscript_ ?_
    refine wpAny_Name (wpAny_loadName_cell rfl rfl rfl ⟨oc, hk3 _ _ hcell, hoc⟩ ?_) (by decide)
    iterate 2 (first | (k_unfold; (try dsimp only)) | walk1 | (dsimp only; walk1) | (leave1; (try dsimp only)))
    refine getMethod_list_of PySem.F.slot_list_count PySem.F.type_list_count hl3 (show Heap.NoDictAt s₃.heap (.ref pa) from ⟨_, (N3 (pa, W.listOf va.toArray na) (.tail _ (.head _))).1, rfl⟩) ?_
    iterate 2 (first | (k_unfold; (try dsimp only)) | walk1 | (dsimp only; walk1) | (leave1; (try dsimp only)))
    refine wpAny_Name (wpAny_loadName_local rfl rfl hn hm ?_) (by decide)
    refine wpAny_pure ?_
    refine count_list_ints hl3 hva.ints ?_
    rw [count_cast]
    exact ⟨⟨_, rfl⟩, _, _, rfl, fun _ _ e => e⟩
  case b3 =>
    intro D h' tk' o τ hge hD ho hd hk
    have F' := F.keeps hk
    have N' := N.grown hk
    rw [hT] at hd
    have hda : h'.DictOf (intKind PP w) d3 (kvsOf τ3 T) := Heap.dictOf_iff.mpr ⟨o3, (N' (d3, o3) (.head _)).1, i3⟩
    have hdb : h'.DictOf (intKind PP w) D (kvsOf τ T) := Heap.dictOf_iff.mpr ⟨o, ho, hd⟩
    have hsD : (D == sysModules) = false := not_sys hge hcell
    clear F N
    repeat ((fail_if_success (with_reducible show wpAny _ _ (compareOp .NotEq _ _) _ _ _)); (first | (k_unfold; (try dsimp only)) | ((try dsimp only); walk1) | (leave1; (try dsimp only))))
    refine dict_ne_same hs3 hsD hnd hda hdb (of_decide_eq_true rfl) ?_
    walk_at "mine steps"
    show _ ∧ _
    exact ⟨by first | rfl | trivial, _, _, rfl, F', N'⟩
end
end Mine
end
section
theorem Mine.fresh65 : True := by w_top off; trivial
open PySem PySem.W PyProof.Rows PySem.Calls
set_option maxRecDepth 100000
set_option maxHeartbeats 8000000
namespace Mine
section
variable {w : World} {p : Program} {loose : List Str} {mean : ExcName → Option Value} {mg mb : Str → Option Value} {base g : Heap} {L' fa : Addr} {cdv : Value} {mS : Shared} {h : Heap} {tk : Nat} {Q : Flow → Shared → Prop}
noncomputable abbrev Led24 (L' : Addr) (d3 pa pb lp lt d1 d2 lk ka kb : Addr) (o3 p1 oc o1 o2 q1 q2 : Obj) (np nt nk : Nat) (rest : List (Addr × Obj)) : List (Addr × Obj) :=
  (d3, o3) :: (pa, p1) :: (lp, W.listOf #[.ref pa, .ref pb] np) :: (L' + 1, oc) :: (lt, W.listOf #[.ref d1, .ref d2] nt) :: (d2, o2) :: (d1, o1) :: (lk, W.listOf #[.ref ka, .ref kb] nk) :: (ka, q1) :: (kb, q2) :: rest
theorem lists_ne_two {prog : Program} {w : World} {A : Around} {E : Value → Shared → Prop} {s : Shared} {Q : Value → Shared → Prop} {a b : Addr} {x y x' y' : Value} (hl : s.heap.IsList a #[x, y]) (hb : s.heap.IsList b #[x', y']) (hu : A.units < cLine)
    (h1 : SeqAt.EqAt A.in1 s x x' true) (h2 : SeqAt.EqAt A.in1 s y y' true) (h : Q (.bool false) s) : wpAny (model prog w) A (compareOp .NotEq (.ref a) (.ref b)) Q E s := by
  refine SeqAt.RcNeAt.lists (e := fun _ => true) hl hb rfl hu ?_ prog w E Q h
  intro j i1 i2
  have i1 : j < 2 := i1
  match j, i1 with
  | 0, _ => exact h1
  | 1, _ => exact h2
theorem seg24 {l0 lc x1 x2 x3 x4 ll lt lk lp pa pb d1 d2 d3 ka kb : Addr} {dv : Value} {u1 u2 u3 tL ts tb tn : Tok} {n1 n2 look k1 sz np nt nk nm : Nat} {bs : Array UInt8} {u : Option Value} {rest : List (Addr × Obj)} {oc p1 o1 o2 o3 q1 q2 : Obj} {l l1 l2 : List Nat} {T T1 T2 : List (Nat × Nat)}
    (B : Below callerA base [] g) (X : (hd.heap_1 w.params).In g) (P : Top p loose mean mg mb g)
    (F : Fr g L' h (mp22all l0 lc x1 x2 x3 x4 ll dv u1 u2 u3 tL n1 n2 look k1 sz ts bs tb lt lk nm tn u d3)) (N : News g L' h (Led24 L' d3 pa pb lp lt d1 d2 lk ka kb o3 p1 oc o1 o2 q1 q2 np nt nk rest)) (hoc : oc.data = .cell (some (.ref lp)))
    (hs1 : (d1 == sysModules) = false) (hs2 : (d2 == sysModules) = false) (hs3 : (d3 == sysModules) = false) (i1 : IsTab w o1 T1) (i2 : IsTab w o2 T2) (i3 : IsTab w o3 T) (hT1 : cntT l1 = T1) (hT2 : cntT l2 = T2) (hnd1 : (T1.map (·.1)).Nodup) (hnd2 : (T2.map (·.1)).Nodup)
    (hp1 : IsKid p1 l) (hq1 : IsKid q1 l1) (hq2 : IsKid q2 l2) (hlen : l.length ≤ 12) (hl1 : l1.length ≤ 6) (hl2 : l2.length ≤ 6) (hcnt : cnt T = l.length)
    (k : ∀ h' tk', Fr g L' h' (mp22all l0 lc x1 x2 x3 x4 ll dv u1 u2 u3 tL n1 n2 look k1 sz ts bs tb lt lk nm tn u d3) → News g L' h' (Led24 L' d3 pa pb lp lt d1 d2 lk ka kb o3 p1 oc o1 o2 q1 q2 np nt nk rest) →
      LawC w L' fa cdv (execs (lawBody w 25) (lawEnv w L' fa cdv)) Q { mS with heap := h', toks := tk' }) :
    LawC w L' fa cdv (execs (lawBody w 24) (lawEnv w L' fa cdv)) Q { mS with heap := h, toks := tk } := by
  refine law_next (st := ?st) (rest := ?rest) ?hb (fun s' => ∃ h' tk', s' = { mS with heap := h', toks := tk' } ∧ Fr g L' h' (mp22all l0 lc x1 x2 x3 x4 ll dv u1 u2 u3 tL n1 n2 look k1 sz ts bs tb lt lk nm tn u d3) ∧ News g L' h' (Led24 L' d3 pa pb lp lt d1 d2 lk ka kb o3 p1 oc o1 o2 q1 q2 np nt nk rest)) ?_
    (fun s' e => by refine p2_3 ?_ e; (try clear e); intro h' tk' hq1 F' N'; subst hq1; exact k h' tk' F' N')
  case hb => exact rfl
  clear k
  (try refine opg fun gG hgG => ?_); (obtain ⟨τ1, i1⟩ := i1); (try (refine hgG ?_; clear hgG gG))
  (try refine opg fun gG hgG => ?_); (obtain ⟨τ2, i2⟩ := i2); (try (refine hgG ?_; clear hgG gG))
  (try refine opg fun gG hgG => ?_); (obtain ⟨τ3, i3⟩ := i3); (try (refine hgG ?_; clear hgG gG))
  (try refine opg fun gG hgG => ?_); (obtain ⟨va, na, rfl, hva⟩ := hp1); (try (refine hgG ?_; clear hgG gG))
  (try refine opg fun gG hgG => ?_); (obtain ⟨vb1, nb1, rfl, hvb1⟩ := hq1); (try (refine hgG ?_; clear hgG gG))
  (try refine opg fun gG hgG => ?_); (obtain ⟨vb2, nb2, rfl, hvb2⟩ := hq2); (try (refine hgG ?_; clear hgG gG))
  have m1 := (N (d1, o1) (by first | (repeat' (first | exact mem_h | refine mem_t ?_)) | simp [Led24])).1
  have m2 := (N (d2, o2) (by first | (repeat' (first | exact mem_h | refine mem_t ?_)) | simp [Led24])).1
  have m3 := (N (d3, o3) (.head _)).1
  have mk := (N (lk, W.listOf #[.ref ka, .ref kb] nk) (by first | (repeat' (first | exact mem_h | refine mem_t ?_)) | simp [Led24])).1
  have mka := (N (ka, W.listOf vb1.toArray nb1) (by first | (repeat' (first | exact mem_h | refine mem_t ?_)) | simp [Led24])).1
  have mkb := (N (kb, W.listOf vb2.toArray nb2) (by first | (repeat' (first | exact mem_h | refine mem_t ?_)) | simp [Led24])).1
  have mlt := (N (lt, W.listOf #[.ref d1, .ref d2] nt) (by first | (repeat' (first | exact mem_h | refine mem_t ?_)) | simp [Led24])).1
  have mpa := (N (pa, W.listOf va.toArray na) (.tail _ (.head _))).1
  have hcell := (N (L' + 1, oc) (.tail _ (.tail _ (.tail _ (.head _))))).1
  delta LawC lawEnv lawScope scopeOf
  revert X P; k_fill; intro X P
  refine (let AE : Env := _; let AA : Around := Around.deeper _ AE; let QQ : Flow → Shared → Prop := _; (?kL : wpC _ AA (exec _ AE) QQ _ _))
  (try (refine (let mm : Str → Option Value := _; have Fx : Fr _ _ _ mm := F; ?_); clear F; rename Fr _ _ _ _ => F))
  refine wpC_of ?_
  refine wpAny_If ?_
  repeat ((fail_if_success (with_reducible show wpAny _ _ (eval (.ListComp _ _ _ _) _) _ _ _)); (first | (k_unfold; (try dsimp only)) | ((try dsimp only); walk1) | (leave1; (try dsimp only))))
  refine comp_cell_val (n0 := Str.ofString ".0") (h₀ := g) (fun i a o => (a == sysModules) = false ∧ a ≠ d1 ∧ a ≠ d2 ∧ ∃ τ, o.IsDictOf (intKind PP w) (kvsOf τ (([T1, T2] : List (List (Nat × Nat))).getD i []))) rfl ?a2 ?a3 ?a4 ?a5 ?a6 ?_ (by intro _; rfl)
  case a2 => rfl
  case a3 => rfl
  case a4 => rfl
  case a5 => intro C K; rfl
  case a6 => decide
  refine wpAny_Name (wpAny_loadName_local rfl rfl F.ns (v := .ref lk) rfl ?_) (by decide)
  refine ⟨lk, [.ref ka, .ref kb], mp22all l0 lc x1 x2 x3 x4 ll dv u1 u2 u3 tL n1 n2 look k1 sz ts bs tb lt lk nm tn u d3, Led24 L' d3 pa pb lp lt d1 d2 lk ka kb o3 (W.listOf va.toArray na) oc o1 o2 (W.listOf vb1.toArray nb1) (W.listOf vb2.toArray nb2) np nt nk rest, rfl, ⟨_, mk, rfl, nk, rfl⟩, by show 2 ≤ 1000; decide, F, N, ?z4, ?z5⟩
  case z4 =>
    intro C K i v s₃ E' hv hk3 hK
    obtain ⟨lr, lv, nv, L0, T0, rfl, hlr, hlv, eT, hcT, hz⟩ : ∃ lr lv nv L0 T0, v = .ref lr ∧ s₃.heap.get? lr = some (W.listOf (lv : List Value).toArray nv) ∧ NatL lv L0 ∧ ([T1, T2] : List (List (Nat × Nat))).getD i [] = T0 ∧ cntT L0 = T0 ∧ L0.length ≤ 6 := by
      cases i with
      | zero =>
        have hv' : Value.ref ka = v := Option.some.inj hv
        exact ⟨ka, vb1, nb1, l1, T1, hv'.symm, hk3 _ _ mka, hvb1, rfl, hT1, hl1⟩
      | succ j =>
        cases j with
        | zero =>
          have hv' : Value.ref kb = v := Option.some.inj hv
          exact ⟨kb, vb2, nb2, l2, T2, hv'.symm, hk3 _ _ mkb, hvb2, rfl, hT2, hl2⟩
        | succ j => cases hv
    have hn1 := hk3 _ _ m1
    have hn2 := hk3 _ _ m2
    have hcell3 := hk3 _ _ hcell
    refine wpAny_mono (Q := fun y s₄ => (∃ a o, y = .ref a ∧ s₃.heap.get? a = none ∧ s₄.heap.get? a = some o ∧ (a == sysModules) = false ∧ a ≠ d1 ∧ a ≠ d2 ∧ ∃ τ, o.IsDictOf (intKind PP w) (kvsOf τ T0)) ∧ Keeps s₃ s₄) ?z6 (fun y s₄ hq => ?z7) (fun _ _ x => x)
    case z7 =>
      (try refine opg fun gG hgG => ?_); (obtain ⟨⟨a, o', e1, e2, e3, e4, e5, e6, e7⟩, kk⟩ := hq); (try (refine hgG ?_; clear hgG gG))
      exact ⟨⟨a, o', e1, e2, e3, e4, e5, e6, (by rw [eT]; exact e7)⟩, kk⟩
    case z6 =>
    clear hv eT
    refine count_comp (cl := [(Str.ofString "row", K)]) (l := L0) rfl ?b1 ?b2 ?b3 ?b4 ?b5 ?_ (by intro _; rfl)
    case b1 => rfl
    case b2 => decide
    case b3 => rfl
    case b4 => decide
    case b5 => rfl
    refine wpAny_Name (wpAny_loadName_cell rfl rfl rfl hK ?_) (by decide)
    have hl3 : s₃.heap.IsList lr lv.toArray := ⟨_, hlr, rfl, nv, rfl⟩
    refine ⟨lr, lv, rfl, hl3, hlv, by walk_at "mine omega", ?c1, ?c2, ?c3⟩
    case c1 =>
      intro C' v' s' m' E'' hn hm
      exact wpAny_Name (wpAny_loadName_local rfl rfl hn hm ⟨rfl, s'.heap, s'.toks, rfl, fun _ _ e => e⟩) (by decide)
    case c2 =>
      intro C' c t s' m' E'' hn hm hk
      have hl4 : s'.heap.IsList lr lv.toArray := ⟨_, hk _ _ hlr, rfl, nv, rfl⟩
      refine MethodCall_ ?_
      refine wpAny_Name (wpAny_loadName_cell rfl rfl rfl (hK.keeps hk) ?_) (by decide)
      refine getMethod_list_of PySem.F.slot_list_count PySem.F.type_list_count hl4 (show Heap.NoDictAt s'.heap (.ref lr) from ⟨_, hk _ _ hlr, rfl⟩) ?_
      have F4 := F.keeps fun b o e => hk b o (hk3 b o e)
      clear F N
      iterate 2 (first | (k_unfold; (try dsimp only)) | walk1 | (dsimp only; walk1) | (leave1; (try dsimp only)))
      refine wpAny_Name (wpAny_loadName_local rfl rfl hn hm ?_) (by decide)
      refine wpAny_pure ?_
      refine count_list_ints hl4 hlv.ints ?_
      rw [count_cast]
      exact ⟨⟨_, rfl⟩, _, _, rfl, fun _ _ e => e⟩
    case c3 =>
      intro D h' tk' o τ hge hD ho hd hk
      rw [hcT] at hd
      refine ⟨⟨D, o, rfl, hD, ho, not_sys hge hcell3, ?d1, ?d2, τ, hd⟩, h', tk', rfl, hk⟩
      case d1 => intro e; rw [e, hn1] at hD; cases hD
      case d2 => intro e; rw [e, hn2] at hD; cases hD
  case z5 =>
    intro D h' tk' n as F' N' hlen' has
    (try refine opg fun gG hgG => ?_); (obtain ⟨ea, eb, rfl⟩ := two_of hlen'); (try (refine hgG ?_; clear hgG gG))
    (try refine opg fun gG hgG => ?_); (obtain ⟨ga1, ga2, _, τa, ga4⟩ := has 0 ea rfl); (try (refine hgG ?_; clear hgG gG))
    (try refine opg fun gG hgG => ?_); (obtain ⟨gb1, _, gb3, τb, gb4⟩ := has 1 eb rfl); (try (refine hgG ?_; clear hgG gG))
    have hk' : ∀ q ∈ Led24 L' d3 pa pb lp lt d1 d2 lk ka kb o3 (W.listOf va.toArray na) oc o1 o2 (W.listOf vb1.toArray nb1) (W.listOf vb2.toArray nb2) np nt nk rest, h'.get? q.1 = some q.2 := fun q hq => (N' q (.tail _ (.tail _ (.tail _ hq)))).1
    have hda1 : h'.DictOf (intKind PP w) d1 (kvsOf τ1 T1) := Heap.dictOf_iff.mpr ⟨o1, hk' (d1, o1) (by first | (repeat' (first | exact mem_h | refine mem_t ?_)) | simp [Led24]), i1⟩
    have hda2 : h'.DictOf (intKind PP w) d2 (kvsOf τ2 T2) := Heap.dictOf_iff.mpr ⟨o2, hk' (d2, o2) (by first | (repeat' (first | exact mem_h | refine mem_t ?_)) | simp [Led24]), i2⟩
    have hdb1 : h'.DictOf (intKind PP w) ea.1 (kvsOf τa T1) := Heap.dictOf_iff.mpr ⟨ea.2, (N' ea (.tail _ (.head _))).1, ga4⟩
    have hdb2 : h'.DictOf (intKind PP w) eb.1 (kvsOf τb T2) := Heap.dictOf_iff.mpr ⟨eb.2, (N' eb (.tail _ (.tail _ (.head _)))).1, gb4⟩
    have hll : h'.IsList lt #[.ref d1, .ref d2] := ⟨_, hk' (lt, W.listOf #[.ref d1, .ref d2] nt) (by first | (repeat' (first | exact mem_h | refine mem_t ?_)) | simp [Led24]), rfl, nt, rfl⟩
    have hlr : h'.IsList D #[.ref ea.1, .ref eb.1] := ⟨_, (N' (D, _) (.head _)).1, rfl, n, rfl⟩
    have N2 : News g L' h' (Led24 L' d3 pa pb lp lt d1 d2 lk ka kb o3 (W.listOf va.toArray na) oc o1 o2 (W.listOf vb1.toArray nb1) (W.listOf vb2.toArray nb2) np nt nk rest) := fun q hq => N' q (.tail _ (.tail _ (.tail _ hq)))
    clear F N N'
    repeat ((fail_if_success (with_reducible show wpAny _ _ (compareOp .NotEq _ _) _ _ _)); (first | (k_unfold; (try dsimp only)) | ((try dsimp only); walk1) | (leave1; (try dsimp only))))
    refine lists_ne_two hll hlr (of_decide_eq_true rfl) (dict_eqAt hs1 ga1 hnd1 hda1 hdb1 (of_decide_eq_true rfl) (Ne.symm ga2)) (dict_eqAt hs2 gb1 hnd2 hda2 hdb2 (of_decide_eq_true rfl) (Ne.symm gb3)) ?_
    repeat ((fail_if_success (with_reducible show wpAny _ _ (PySem.call (Value.ref 59) _ _) _ _ _)); (first | (k_unfold; (try dsimp only)) | ((try dsimp only); walk1) | (leave1; (try dsimp only))))
    have hd3 : h'.DictOf (intKind PP w) d3 (kvsOf τ3 T) := Heap.dictOf_iff.mpr ⟨o3, (N2 (d3, o3) (.head _)).1, i3⟩
    (try refine opg fun gG hgG => ?_); (obtain ⟨ep, hat⟩ := dictAt_of hd3); (try (refine hgG ?_; clear hgG gG))
    refine Spec.call (spec_count d3 τ3 T ep hs3 (by walk_at "mine omega")) B F' X N2 P rfl hat (by decide +kernel) (by decide +kernel) fun r h7 tk7 F7 N7 k7 post => ?_
    (try refine opg fun gG hgG => ?_); (obtain ⟨t7, rfl⟩ := post); (try (refine hgG ?_; clear hgG gG))
    clear F'; (try clear N2)
    try dsimp only
    repeat ((fail_if_success (with_reducible show wpAny _ _ (eval (.Name (Str.ofString "piles") _) _) _ _ _)); (first | (k_unfold; (try dsimp only)) | ((try dsimp only); walk1) | (leave1; (try dsimp only))))
    have hcell7 := (N7 (L' + 1, oc) (.tail _ (.tail _ (.tail _ (.head _))))).1
    refine wpAny_Name (wpAny_loadName_cell rfl rfl rfl ⟨oc, hcell7, hoc⟩ ?_) (by decide)
    repeat ((fail_if_success (with_reducible show wpAny _ _ (PySem.call (Value.builtin "len") _ _) _ _ _)); (first | (k_unfold; (try dsimp only)) | ((try dsimp only); walk1) | (leave1; (try dsimp only))))
    refine len_list ⟨_, (N7 (pa, W.listOf va.toArray na) (.tail _ (.head _))).1, rfl, na, rfl⟩ (by rw [List.size_toArray, hva.length]; walk_at "mine omega") ?_
    rw [show ((va.toArray.size : Nat) : Int) = (cnt T : Int) by rw [List.size_toArray, hva.length, hcnt]]
    repeat ((fail_if_success (with_reducible show wpAny _ _ (compareOp .NotEq _ _) _ _ _)); (first | (k_unfold; (try dsimp only)) | ((try dsimp only); walk1) | (leave1; (try dsimp only))))
    refine ne_int ?_
    rw [bne_self_eq_false]
    walk_at "mine steps"
    show _ ∧ _
    exact ⟨by first | rfl | trivial, _, _, rfl, F7, N7⟩
end
end Mine
end
section
theorem Mine.fresh66 : True := by w_top off; trivial
open PySem PySem.W PyProof.Rows PySem.Calls
set_option maxRecDepth 100000
set_option maxHeartbeats 8000000
namespace Mine
section
variable {w : World} {p : Program} {loose : List Str} {mean : ExcName → Option Value} {mg mb : Str → Option Value} {base g : Heap} {L' : Addr} {m : Str → Option Value} {s : Shared} {A : Around} {E Q : Value → Shared → Prop}
theorem get_ua {x : Addr} {rec : Rec} {expr : Bool} (F : Fr g L' s.heap m) (X : (hd.heap_1 w.params).In g) (hrec : RecIn w (At s.heap) (.ref x) rec)
    (h : ∀ lu us n tk, s.heap.get? lu = some (W.listOf (us : List Value).toArray n) → StrL us (agsOf rec) → Q (.ref lu) { s with toks := tk }) : wpAny (model PySem.Challenge.rw_jc0012_01.row.prog w) A (getAttr (.ref x) (Str.ofString "useragents") expr) Q E s := by
  revert X; k_fill; intro X
  cases hrec with
  | @mk _ dx lu lr t1 t2 t3 t4 dv us rs n1 n2 ags dl rules hx hdx hlu hlr hus hdl hrs =>
  refine get_own F X (attr := none) (C := 110) (InstAt.mk hx rfl rfl hdx) ?k1 ?k2 ?k3 ?k4 ?k5 ?k6 (h lu us n1 _ hlu hus)
  case k1 => k_is
  case k2 => k_is
  case k3 => k_is
  case k4 => k_is
  case k5 => k_get
  case k6 => k_handed
theorem get_dl {x : Addr} {rec : Rec} {expr : Bool} (F : Fr g L' s.heap m) (X : (hd.heap_1 w.params).In g) (hrec : RecIn w (At s.heap) (.ref x) rec)
    (h : ∀ dv tk, DelV dv (delOf rec) → Q dv { s with toks := tk }) : wpAny (model PySem.Challenge.rw_jc0012_01.row.prog w) A (getAttr (.ref x) (Str.ofString "delay") expr) Q E s := by
  revert X; k_fill; intro X
  cases hrec with
  | @mk _ dx lu lr t1 t2 t3 t4 dv us rs n1 n2 ags dl rules hx hdx hlu hlr hus hdl hrs =>
  refine get_own F X (attr := none) (C := 110) (InstAt.mk hx rfl rfl hdx) ?k1 ?k2 ?k3 ?k4 ?k5 ?k6 (h dv _ hdl)
  case k1 => k_is
  case k2 => k_is
  case k3 => k_is
  case k4 => k_is
  case k5 => k_get
  case k6 => cases dv <;> first | rfl | exact hdl.elim
theorem get_rl {x : Addr} {rec : Rec} {expr : Bool} (F : Fr g L' s.heap m) (X : (hd.heap_1 w.params).In g) (hrec : RecIn w (At s.heap) (.ref x) rec)
    (h : ∀ lr rs n tk, s.heap.get? lr = some (W.listOf (rs : List Value).toArray n) → rs.length = (rulesOf rec).length → Q (.ref lr) { s with toks := tk }) : wpAny (model PySem.Challenge.rw_jc0012_01.row.prog w) A (getAttr (.ref x) (Str.ofString "rulelines") expr) Q E s := by
  revert X; k_fill; intro X
  cases hrec with
  | @mk _ dx lu lr t1 t2 t3 t4 dv us rs n1 n2 ags dl rules hx hdx hlu hlr hus hdl hrs =>
  refine get_own F X (attr := none) (C := 110) (InstAt.mk hx rfl rfl hdx) ?k1 ?k2 ?k3 ?k4 ?k5 ?k6 (h lr rs n2 _ hlr hrs.length)
  case k1 => k_is
  case k2 => k_is
  case k3 => k_is
  case k4 => k_is
  case k5 => k_get
  case k6 => k_handed
theorem reads_strl {h : Heap} {vs : List Value} {xs : List Str} (H : StrL vs xs) : ∃ as, ReadsAll h vs (xs.map PyData.str) as := by
  induction H with
  | nil => exact ⟨_, .nil⟩
  | cons x t _ ih => obtain ⟨as, r⟩ := ih; exact ⟨_, .cons (.str x t) r⟩
end
end Mine
end
section
theorem Mine.fresh67 : True := by w_top off; trivial
open PySem PySem.W PyProof.Rows PySem.Calls
set_option maxRecDepth 100000
set_option maxHeartbeats 8000000
namespace Mine
section
variable {w : World} {p : Program} {loose : List Str} {mean : ExcName → Option Value} {mg mb : Str → Option Value} {base g : Heap} {L' fa : Addr} {cdv : Value} {mS : Shared} {h : Heap} {tk : Nat} {Q : Flow → Shared → Prop}
noncomputable abbrev mp25 (x5 : Addr) (m : Str → Option Value) : Str → Option Value := fun y => if y = Str.ofString "bare" then some (Value.ref x5) else m y
noncomputable abbrev mp26 (x6 : Addr) (m : Str → Option Value) : Str → Option Value := fun y => if y = Str.ofString "met" then some (Value.ref x6) else m y
noncomputable abbrev bareR (look : Nat) : Rec := topOf 1 [] (some 0) look
theorem seg25 {l0 lc x1 x2 x3 x4 ll lt lk d3 : Addr} {dv : Value} {u1 u2 u3 tL ts tb tn : Tok} {n1 n2 look k1 sz nm : Nat} {bs : Array UInt8} {u : Option Value} {rest : List (Addr × Obj)}
    (B : Below callerA base [] g) (X : (hd.heap_1 w.params).In g) (P : Top p loose mean mg mb g) (hlook : look < 8)
    (F : Fr g L' h (mp22all l0 lc x1 x2 x3 x4 ll dv u1 u2 u3 tL n1 n2 look k1 sz ts bs tb lt lk nm tn u d3)) (N : News g L' h rest)
    (k : ∀ h' tk' x5 tl5, RecIn w (InB g tl5) (.ref x5) (bareR look) → Fr g L' h' (mp25 x5 (mp22all l0 lc x1 x2 x3 x4 ll dv u1 u2 u3 tL n1 n2 look k1 sz ts bs tb lt lk nm tn u d3)) → News g L' h' (rest ++ tl5) →
      LawC w L' fa cdv (execs (lawBody w 26) (lawEnv w L' fa cdv)) Q { mS with heap := h', toks := tk' }) :
    LawC w L' fa cdv (execs (lawBody w 25) (lawEnv w L' fa cdv)) Q { mS with heap := h, toks := tk } := by
  refine law_next (st := ?st) (rest := ?rest) ?hb (fun s' => ∃ h' tk' x5 tl5, RecIn w (InB g tl5) (.ref x5) (bareR look) ∧ s' = { mS with heap := h', toks := tk' } ∧ Fr g L' h' (mp25 x5 (mp22all l0 lc x1 x2 x3 x4 ll dv u1 u2 u3 tL n1 n2 look k1 sz ts bs tb lt lk nm tn u d3)) ∧ News g L' h' (rest ++ tl5)) ?_
    (fun s' e => by refine p4_4 ?_ e; (try clear e); intro h' tk' x5 tl5 a hq1 F' N'; subst hq1; exact k h' tk' x5 tl5 a F' N')
  case hb => exact rfl
  clear k
  delta LawC lawEnv lawScope scopeOf
  revert X P; k_fill; intro X P
  refine (let AE : Env := _; let AA : Around := Around.deeper _ AE; let QQ : Flow → Shared → Prop := _; (?kL : wpC _ AA (exec _ AE) QQ _ _))
  (try (refine (let mm : Str → Option Value := _; have Fx : Fr _ _ _ mm := F; ?_); clear F; rename Fr _ _ _ _ => F))
  refine wpC_of ?_
  repeat ((fail_if_success (with_reducible show wpAny _ _ (PySem.call (Value.ref 170) _ _) _ _ _)); (first | (k_unfold; (try dsimp only)) | ((try dsimp only); walk1) | (leave1; (try dsimp only))))
  rename Fr _ _ _ _ => F1
  rename News _ _ _ _ => N1
  rename Addr => le
  refine Spec.call (spec_top look 1 hlook (by decide) le _ _ [] [] 0 (.int 0 _) (some 0) .nil (by decide) rfl) B F1 X N1 P rfl (N1 (le, _) (.head _)).1 (by decide +kernel) (by decide +kernel) fun r h7 tk7 F7 N7 k7 post => ?_
  (try refine opg fun gG hgG => ?_); (obtain ⟨x5, rfl, hx5, hrec5⟩ := post); (try (refine hgG ?_; clear hgG gG))
  replace hrec5 : RecIn w (At h7) (.ref x5) _ := hrec5.mono fun a o q => q.2
  (try refine opg fun gG hgG => ?_); (obtain ⟨tl5, NR5, hrec5⟩ := hrec5.led F7 (fun e => by cases e)); (try (refine hgG ?_; clear hgG gG))
  have N8 := news_app (news_sub (l' := rest) N7 (fun q hq => .tail _ hq)) NR5
  clear NR5; (try clear F1); (try clear N1); (try clear N7)
  try dsimp only
  walk_at "mine steps"
  rename Fr _ _ _ _ => F9
  rename News _ _ _ _ => N9
  show _ ∧ _
  exact ⟨by first | rfl | trivial, _, _, x5, tl5, hrec5, rfl, F9, N9⟩
theorem seg26 {l0 lc x1 x2 x3 x4 x5 ll lt lk d3 : Addr} {dv : Value} {u1 u2 u3 tL ts tb tn : Tok} {n1 n2 look k1 sz nm : Nat} {bs : Array UInt8} {u : Option Value} {rest : List (Addr × Obj)} {r1 r2 : Rec}
    (B : Below callerA base [] g) (X : (hd.heap_1 w.params).In g) (P : Top p loose mean mg mb g) (hrec1 : RecIn w (InB g rest) (.ref x1) r1) (hrec5 : RecIn w (InB g rest) (.ref x5) r2)
    (ha1 : (agsOf r1).length < 1000) (ha2 : (agsOf r2).length < 1000) (hr1 : (rulesOf r1).length < 1000) (hr2 : (rulesOf r2).length < 1000)
    (F : Fr g L' h (mp25 x5 (mp22all l0 lc x1 x2 x3 x4 ll dv u1 u2 u3 tL n1 n2 look k1 sz ts bs tb lt lk nm tn u d3))) (N : News g L' h rest)
    (k : ∀ h' tk' x6 tl6, RecIn w (InB g tl6) (.ref x6) (mergeR r1 r2) → Fr g L' h' (mp26 x6 (mp25 x5 (mp22all l0 lc x1 x2 x3 x4 ll dv u1 u2 u3 tL n1 n2 look k1 sz ts bs tb lt lk nm tn u d3))) → News g L' h' (rest ++ tl6) →
      LawC w L' fa cdv (execs (lawBody w 27) (lawEnv w L' fa cdv)) Q { mS with heap := h', toks := tk' }) :
    LawC w L' fa cdv (execs (lawBody w 26) (lawEnv w L' fa cdv)) Q { mS with heap := h, toks := tk } := by
  refine law_next (st := ?st) (rest := ?rest) ?hb (fun s' => ∃ h' tk' x6 tl6, RecIn w (InB g tl6) (.ref x6) (mergeR r1 r2) ∧ s' = { mS with heap := h', toks := tk' } ∧ Fr g L' h' (mp26 x6 (mp25 x5 (mp22all l0 lc x1 x2 x3 x4 ll dv u1 u2 u3 tL n1 n2 look k1 sz ts bs tb lt lk nm tn u d3))) ∧ News g L' h' (rest ++ tl6)) ?_
    (fun s' e => by refine p4_4 ?_ e; (try clear e); intro h' tk' x6 tl6 a hq2 F' N'; subst hq2; exact k h' tk' x6 tl6 a F' N')
  case hb => exact rfl
  clear k
  delta LawC lawEnv lawScope scopeOf
  revert X P; k_fill; intro X P
  refine (let AE : Env := _; let AA : Around := Around.deeper _ AE; let QQ : Flow → Shared → Prop := _; (?kL : wpC _ AA (exec _ AE) QQ _ _))
  (try (refine (let mm : Str → Option Value := _; have Fx : Fr _ _ _ mm := F; ?_); clear F; rename Fr _ _ _ _ => F))
  refine wpC_of ?_
  repeat ((fail_if_success (with_reducible show wpAny _ _ (PySem.call (Value.ref 121) _ _) _ _ _)); (first | (k_unfold; (try dsimp only)) | ((try dsimp only); walk1) | (leave1; (try dsimp only))))
  refine Spec.call (spec_merge x1 x5 _ _ ha1 ha2 hr1 hr2) B F X N P rfl ⟨hrec1.at F N, hrec5.at F N⟩ (by decide +kernel) (by decide +kernel) fun r h7 tk7 F7 N7 k7 post => ?_
  (try refine opg fun gG hgG => ?_); (obtain ⟨x6, rfl, hrec6⟩ := post); (try (refine hgG ?_; clear hgG gG))
  (try refine opg fun gG hgG => ?_); (obtain ⟨tl6, NR6, hrec6⟩ := hrec6.led F7 (fun e => by cases e)); (try (refine hgG ?_; clear hgG gG))
  have N8 := news_app N7 NR6
  clear F N NR6; (try clear N7)
  try dsimp only
  walk_at "mine steps"
  rename Fr _ _ _ _ => F9
  rename News _ _ _ _ => N9
  show _ ∧ _
  exact ⟨by first | rfl | trivial, _, _, x6, tl6, hrec6, rfl, F9, N9⟩
end
end Mine
end
section
theorem Mine.fresh68 : True := by w_top off; trivial
open PySem PySem.W PyProof.Rows PySem.Calls
set_option maxRecDepth 100000
set_option maxHeartbeats 8000000
namespace Mine
section
variable {w : World} {p : Program} {loose : List Str} {mean : ExcName → Option Value} {mg mb : Str → Option Value} {base g : Heap} {L' fa : Addr} {cdv : Value} {mS : Shared} {h : Heap} {tk : Nat} {Q : Flow → Shared → Prop}
noncomputable abbrev mp26all (l0 lc x1 x2 x3 x4 ll : Addr) (dv : Value) (u1 u2 u3 tL : Tok) (n1 n2 look k1 sz : Nat) (ts : Tok) (bs : Array UInt8) (tb : Tok) (lt lk : Addr) (nm : Nat) (tn : Tok) (u : Option Value) (d3 x5 x6 : Addr) : Str → Option Value := mp26 x6 (mp25 x5 (mp22all l0 lc x1 x2 x3 x4 ll dv u1 u2 u3 tL n1 n2 look k1 sz ts bs tb lt lk nm tn u d3))
theorem ne_dat {prog : Program} {A : Around} {E : Value → Shared → Prop} {s : Shared} {Q : Value → Shared → Prop} {a b : Value} {d : Dat} {as bs : List Addr} (ra : Reads s.heap a (kqdP d) as) (rb : Reads s.heap b (kqdP d) bs) (ok : kqdOk 9 d = true) (hu : A.units + 64 < cLine) (h : Q (.bool false) s) :
    wpAny (model prog w) A (compareOp .NotEq a b) Q E s := by
  have la := kqd_lay 9 d ok
  have hsh : SeqAt.shaped (kqdP d) = true := by unfold SeqAt.shaped; rw [la.1, Bool.true_and]; exact decide_eq_true (Nat.le_trans la.2 (by decide))
  refine ne_dataH ra rb hsh hsh hu ?_
  rw [(kqd_eqv 9 d d 9 ok ok).mpr rfl]
  exact h
theorem delV_some {v : Value} {n : Nat} (h : DelV v (some n)) : ∃ t, v = .int (n : Int) t := by
  cases v <;> first | exact h.elim | exact ⟨_, by rw [show _ = (n : Int) from h]⟩
theorem seg27 {l0 lc x1 x2 x3 x4 x5 x6 ll lt lk d3 : Addr} {dv : Value} {u1 u2 u3 tL ts tb tn : Tok} {n1 n2 look k1 sz nm : Nat} {bs : Array UInt8} {u : Option Value} {rest : List (Addr × Obj)} {r5 r6 : Rec}
    (B : Below callerA base [] g) (X : (hd.heap_1 w.params).In g) (P : Top p loose mean mg mb g) (hrec5 : RecIn w (InB g rest) (.ref x5) r5) (hrec6 : RecIn w (InB g rest) (.ref x6) r6)
    (hb : hR r5 ≤ 190 ∧ okR r5 = true ∧ wtR r5 ≤ 100000) (hs : strR r5 = Str.ofString "") (ha : agsOf r6 = []) (hdl : delOf r6 = some 0)
    (F : Fr g L' h (mp26all l0 lc x1 x2 x3 x4 ll dv u1 u2 u3 tL n1 n2 look k1 sz ts bs tb lt lk nm tn u d3 x5 x6)) (N : News g L' h rest)
    (k : ∀ h' tk', Fr g L' h' (mp26all l0 lc x1 x2 x3 x4 ll dv u1 u2 u3 tL n1 n2 look k1 sz ts bs tb lt lk nm tn u d3 x5 x6) → News g L' h' rest →
      LawC w L' fa cdv (execs (lawBody w 28) (lawEnv w L' fa cdv)) Q { mS with heap := h', toks := tk' }) :
    LawC w L' fa cdv (execs (lawBody w 27) (lawEnv w L' fa cdv)) Q { mS with heap := h, toks := tk } := by
  refine law_next (st := ?st) (rest := ?rest) ?hb (fun s' => ∃ h' tk', s' = { mS with heap := h', toks := tk' } ∧ Fr g L' h' (mp26all l0 lc x1 x2 x3 x4 ll dv u1 u2 u3 tL n1 n2 look k1 sz ts bs tb lt lk nm tn u d3 x5 x6) ∧ News g L' h' rest) ?_
    (fun s' e => by refine p2_3 ?_ e; (try clear e); intro h' tk' hq1 F' N'; subst hq1; exact k h' tk' F' N')
  case hb => exact rfl
  clear k
  delta LawC lawEnv lawScope scopeOf
  revert X P; k_fill; intro X P
  refine (let AE : Env := _; let AA : Around := Around.deeper _ AE; let QQ : Flow → Shared → Prop := _; (?kL : wpC _ AA (exec _ AE) QQ _ _))
  (try (refine (let mm : Str → Option Value := _; have Fx : Fr _ _ _ mm := F; ?_); clear F; rename Fr _ _ _ _ => F))
  refine wpC_of ?_
  refine wpAny_If (wpAny_isTrue_Compare1 ?_)
  repeat ((fail_if_success (with_reducible show wpAny _ _ (PySem.call (Value.type "str") _ _) _ _ _)); (first | (k_unfold; (try dsimp only)) | ((try dsimp only); walk1) | (leave1; (try dsimp only))))
  refine str_rec (f := 190) hb.1 hb.2.1 (Nat.le_trans hb.2.2 (by decide)) B F X N P rfl (hrec5.at F N) (by decide +kernel) (by decide +kernel) fun t h2 tk2 F2 N2 k2 => ?_
  try dsimp only
  rw [hs]
  repeat ((fail_if_success (with_reducible show wpAny _ _ (getAttr _ _ _) _ _ _)); (first | (k_unfold; (try dsimp only)) | ((try dsimp only); walk1) | (leave1; (try dsimp only))))
  refine get_ua F2 X (hrec6.at F2 N2) fun lu us nu tk3 hlu hus => ?_
  rw [ha] at hus
  cases hus
  try dsimp only
  repeat ((fail_if_success (with_reducible show wpAny _ _ (getAttr _ _ _) _ _ _)); (first | (k_unfold; (try dsimp only)) | ((try dsimp only); walk1) | (leave1; (try dsimp only))))
  refine get_dl F2 X (hrec6.at F2 N2) fun dv6 tk4 hdv => ?_
  rw [hdl] at hdv
  try dsimp only
  (try refine opg fun gG hgG => ?_); (obtain ⟨t6, rfl⟩ := delV_some hdv); (try (refine hgG ?_; clear hgG gG))
  obtain ⟨tl, NL, hor⟩ := cell_led F2 (by intro e; cases e) hlu (fun es ep q => by cases q)
  have N3 := news_app NL N2
  clear F N NL hlu k2; (try clear N2)
  repeat ((fail_if_success (with_reducible show wpAny _ _ (compareOp .NotEq _ _) _ _ _)); (first | (k_unfold; (try dsimp only)) | ((try dsimp only); walk1) | (leave1; (try dsimp only))))
  rename Fr _ _ _ _ => F8
  rename News _ _ _ _ => N8
  rename Addr => le
  have hlu8 := hor.elim (fun q => F8.keep _ _ q) (fun q => (N8 (lu, _) (.tail _ (.tail _ (.tail _ (List.mem_append_left _ q))))).1)
  have hl1 := (N8 _ (.tail _ (.tail _ (.head _)))).1
  have hl2 := (N8 _ (.head _)).1
  have hl3 := (N8 _ (.tail _ (.head _))).1
  refine ne_dat (d := .list [.str (Str.ofString ""), .list [], .int 0]) (.list hl1 rfl rfl (.cons (.str _ _) (.cons (.list hlu8 rfl rfl .nil) (.cons (.int _ _) .nil)))) (.list hl2 rfl rfl (.cons (.str _ _) (.cons (.list hl3 rfl rfl .nil) (.cons (.int _ _) .nil)))) (by decide +kernel) (of_decide_eq_true rfl) ?_
  walk_at "mine steps"
  show _ ∧ _
  exact ⟨by first | rfl | trivial, _, _, rfl, F8, news_sub N8 (by intro q hq; exact .tail _ (.tail _ (.tail _ (List.mem_append_right _ hq))))⟩
end
end Mine
end
section
theorem Mine.fresh69 : True := by w_top off; trivial
open PySem PySem.W PyProof.Rows PySem.Calls
set_option maxRecDepth 100000
set_option maxHeartbeats 8000000
namespace Mine
section
variable {w : World} {p : Program} {loose : List Str} {mean : ExcName → Option Value} {mg mb : Str → Option Value} {base g : Heap} {L' fa : Addr} {cdv : Value} {mS : Shared} {h : Heap} {tk : Nat} {Q : Flow → Shared → Prop}
theorem rootR_all : ∀ look : Fin 8, strR (topOf 1 [Str.ofString "root"] (some 0) look.val) = Str.ofString "User-agent: root\nCrawl-delay: 0\nAllow:" := by decide +kernel
theorem bareR_str (look : Nat) : strR (bareR look) = Str.ofString "" := rfl
theorem top1_ok : ∀ look : Fin 8, hR (topOf 1 [Str.ofString "root"] (some 0) look.val) ≤ 190 ∧ okR (topOf 1 [Str.ofString "root"] (some 0) look.val) = true ∧ wtR (topOf 1 [Str.ofString "root"] (some 0) look.val) ≤ 100000 := by decide +kernel
theorem bare_ok : ∀ look : Fin 8, hR (bareR look.val) ≤ 190 ∧ okR (bareR look.val) = true ∧ wtR (bareR look.val) ≤ 100000 := by decide +kernel
theorem seg28 {l0 lc x1 x2 x3 x4 x5 x6 ll lt lk d3 : Addr} {dv : Value} {u1 u2 u3 tL ts tb tn : Tok} {n1 n2 look k1 sz nm : Nat} {bs : Array UInt8} {u : Option Value} {rest : List (Addr × Obj)}
    (B : Below callerA base [] g) (X : (hd.heap_1 w.params).In g) (P : Top p loose mean mg mb g) (hlook : look < 8)
    (F : Fr g L' h (mp26all l0 lc x1 x2 x3 x4 ll dv u1 u2 u3 tL n1 n2 look k1 sz ts bs tb lt lk nm tn u d3 x5 x6)) (N : News g L' h rest)
    (k : ∀ h' tk', Fr g L' h' (mp26all l0 lc x1 x2 x3 x4 ll dv u1 u2 u3 tL n1 n2 look k1 sz ts bs tb lt lk nm tn u d3 x5 x6) → News g L' h' rest →
      LawC w L' fa cdv (execs (lawBody w 29) (lawEnv w L' fa cdv)) Q { mS with heap := h', toks := tk' }) :
    LawC w L' fa cdv (execs (lawBody w 28) (lawEnv w L' fa cdv)) Q { mS with heap := h, toks := tk } := by
  refine law_next (st := ?st) (rest := ?rest) ?hb (fun s' => ∃ h' tk', s' = { mS with heap := h', toks := tk' } ∧ Fr g L' h' (mp26all l0 lc x1 x2 x3 x4 ll dv u1 u2 u3 tL n1 n2 look k1 sz ts bs tb lt lk nm tn u d3 x5 x6) ∧ News g L' h' rest) ?_
    (fun s' e => by refine p2_3 ?_ e; (try clear e); intro h' tk' hq1 F' N'; subst hq1; exact k h' tk' F' N')
  case hb => exact rfl
  clear k
  have hs := rootR_all ⟨look, hlook⟩
  have hb := top1_ok ⟨look, hlook⟩
  delta LawC lawEnv lawScope scopeOf
  revert X P; k_fill; intro X P
  refine (let AE : Env := _; let AA : Around := Around.deeper _ AE; let QQ : Flow → Shared → Prop := _; (?kL : wpC _ AA (exec _ AE) QQ _ _))
  (try (refine (let mm : Str → Option Value := _; have Fx : Fr _ _ _ mm := F; ?_); clear F; rename Fr _ _ _ _ => F))
  refine wpC_of ?_
  refine wpAny_If (wpAny_isTrue_Compare1 ?_)
  repeat ((fail_if_success (with_reducible show wpAny _ _ (PySem.call (Value.ref 170) _ _) _ _ _)); (first | (k_unfold; (try dsimp only)) | ((try dsimp only); walk1) | (leave1; (try dsimp only))))
  rename Fr _ _ _ _ => F1
  rename News _ _ _ _ => N1
  rename Addr => le
  refine Spec.call (spec_top look 1 hlook (by decide) le _ _ _ [Str.ofString "root"] 0 (.int 0 _) (some 0) (.cons _ _ .nil) (by show 1 < 1000; decide) rfl) B F1 X N1 P rfl (N1 (le, _) (.head _)).1 (by decide +kernel) (by decide +kernel) fun r h7 tk7 F7 N7 k7 post => ?_
  (try refine opg fun gG hgG => ?_); (obtain ⟨x7, rfl, hx7, hrec7⟩ := post); (try (refine hgG ?_; clear hgG gG))
  replace hrec7 : RecIn w (At h7) (.ref x7) _ := hrec7.mono fun a o q => q.2
  try dsimp only
  repeat ((fail_if_success (with_reducible show wpAny _ _ (PySem.call (Value.type "str") _ _) _ _ _)); (first | (k_unfold; (try dsimp only)) | ((try dsimp only); walk1) | (leave1; (try dsimp only))))
  refine str_rec (f := 190) hb.1 hb.2.1 (Nat.le_trans hb.2.2 (by decide)) B F7 X N7 P rfl hrec7 (by decide +kernel) (by decide +kernel) fun t h2 tk2 F2 N2 k2 => ?_
  try dsimp only
  rw [hs]
  repeat ((fail_if_success (with_reducible show wpAny _ _ (compareOp CmpOp.NotEq _ _) _ _ _)); (first | (k_unfold; (try dsimp only)) | ((try dsimp only); walk1) | (leave1; (try dsimp only))))
  iterate 1 (first | (k_unfold; (try dsimp only)) | walk1 | (dsimp only; walk1) | (leave1; (try dsimp only)))
  rw [bne_self_eq_false]
  (try clear F1); (try clear N1); (try clear F7); (try clear N7)
  walk_at "mine steps"
  show _ ∧ _
  exact ⟨by first | rfl | trivial, _, _, rfl, F2, news_sub N2 (by intro q hq; exact .tail _ hq)⟩
end
end Mine
end
section
theorem Mine.fresh70 : True := by w_top off; trivial
open PySem PySem.W PyProof.Rows PySem.Calls
set_option maxRecDepth 100000
set_option maxHeartbeats 8000000
namespace Mine
section
variable {w : World} {p : Program} {loose : List Str} {mean : ExcName → Option Value} {mg mb : Str → Option Value} {base g : Heap} {L' fa : Addr} {cdv : Value} {mS : Shared} {h : Heap} {tk : Nat} {Q : Flow → Shared → Prop}
theorem reads_strl' {h : Heap} {vs : List Value} {xs : List Str} (H : StrL vs xs) : ∃ as, ReadsAll h vs (kqdPs (xs.map Dat.str)) as := by
  induction H with
  | nil => exact ⟨_, .nil⟩
  | cons x t _ ih => obtain ⟨as, r⟩ := ih; exact ⟨_, .cons (.str x t) r⟩
theorem seg29 {l0 lc x1 x2 x3 x4 x5 x6 ll lt lk d3 : Addr} {dv : Value} {u1 u2 u3 tL ts tb tn : Tok} {n1 n2 look k1 sz nm : Nat} {bs : Array UInt8} {u : Option Value} {rest : List (Addr × Obj)} {r1 r2 : Rec}
    (B : Below callerA base [] g) (X : (hd.heap_1 w.params).In g) (P : Top p loose mean mg mb g) (hrec1 : RecIn w (InB g rest) (.ref x1) r1) (hrec2 : RecIn w (InB g rest) (.ref x2) r2) (ha1 : agsOf r1 = agA) (ha2 : agsOf r2 = agB)
    (F : Fr g L' h (mp26all l0 lc x1 x2 x3 x4 ll dv u1 u2 u3 tL n1 n2 look k1 sz ts bs tb lt lk nm tn u d3 x5 x6)) (N : News g L' h rest)
    (k : ∀ h' tk', Fr g L' h' (mp26all l0 lc x1 x2 x3 x4 ll dv u1 u2 u3 tL n1 n2 look k1 sz ts bs tb lt lk nm tn u d3 x5 x6) → News g L' h' rest →
      LawC w L' fa cdv (execs (lawBody w 30) (lawEnv w L' fa cdv)) Q { mS with heap := h', toks := tk' }) :
    LawC w L' fa cdv (execs (lawBody w 29) (lawEnv w L' fa cdv)) Q { mS with heap := h, toks := tk } := by
  refine law_next (st := ?st) (rest := ?rest) ?hb (fun s' => ∃ h' tk', s' = { mS with heap := h', toks := tk' } ∧ Fr g L' h' (mp26all l0 lc x1 x2 x3 x4 ll dv u1 u2 u3 tL n1 n2 look k1 sz ts bs tb lt lk nm tn u d3 x5 x6) ∧ News g L' h' rest) ?_
    (fun s' e => by refine p2_3 ?_ e; (try clear e); intro h' tk' hq1 F' N'; subst hq1; exact k h' tk' F' N')
  case hb => exact rfl
  clear k
  delta LawC lawEnv lawScope scopeOf
  revert X P; k_fill; intro X P
  refine (let AE : Env := _; let AA : Around := Around.deeper _ AE; let QQ : Flow → Shared → Prop := _; (?kL : wpC _ AA (exec _ AE) QQ _ _))
  (try (refine (let mm : Str → Option Value := _; have Fx : Fr _ _ _ mm := F; ?_); clear F; rename Fr _ _ _ _ => F))
  refine wpC_of ?_
  refine wpAny_If ?_
  repeat ((fail_if_success (with_reducible show wpAny _ _ (getAttr _ _ _) _ _ _)); (first | (k_unfold; (try dsimp only)) | ((try dsimp only); walk1) | (leave1; (try dsimp only))))
  refine get_ua F X (hrec1.at F N) fun lu us nu tk3 hlu hus => ?_
  rw [ha1] at hus
  try dsimp only
  obtain ⟨tl, NL, hor⟩ := cell_led F (by intro e; cases e) hlu (fun es ep q => by cases q)
  have N3 := news_app N NL
  clear N NL hlu
  repeat ((fail_if_success (with_reducible show wpAny _ _ (compareOp .NotEq _ _) _ _ _)); (first | (k_unfold; (try dsimp only)) | ((try dsimp only); walk1) | (leave1; (try dsimp only))))
  rename Fr _ _ _ _ => F4
  rename News _ _ _ _ => N4
  rename Addr => le
  have hlu4 := hor.elim (fun q => F4.keep _ _ q) (fun q => (N4 (lu, _) (.tail _ (List.mem_append_right _ q))).1)
  have hl4 := (N4 _ (.head _)).1
  obtain ⟨as1, ra1⟩ := reads_strl' (h := _) hus
  obtain ⟨bs1, rb1⟩ := reads_strl' (.cons _ _ (.cons _ _ (.cons _ _ (.cons _ _ .nil))) : StrL _ agA)
  refine ne_dat (d := .list (agA.map Dat.str)) (.list hlu4 rfl rfl ra1) (.list hl4 rfl rfl rb1) (by decide +kernel) (of_decide_eq_true rfl) ?_
  have N5 := news_sub (l' := rest) N4 (fun q hq => .tail _ (List.mem_append_left _ hq))
  clear hlu4 hl4 ra1 rb1 hor; (try clear N4)
  repeat ((fail_if_success (with_reducible show wpAny _ _ (getAttr _ _ _) _ _ _)); (first | (k_unfold; (try dsimp only)) | ((try dsimp only); walk1) | (leave1; (try dsimp only))))
  refine get_ua F4 X (hrec2.at F4 N5) fun lu2 us2 nu2 tk5 hlu2 hus2 => ?_
  rw [ha2] at hus2
  try dsimp only
  obtain ⟨tl2, NL2, hor2⟩ := cell_led F4 (by intro e; cases e) hlu2 (fun es ep q => by cases q)
  have N6 := news_app N5 NL2
  clear NL2 hlu2; (try clear N5)
  repeat ((fail_if_success (with_reducible show wpAny _ _ (compareOp .NotEq _ _) _ _ _)); (first | (k_unfold; (try dsimp only)) | ((try dsimp only); walk1) | (leave1; (try dsimp only))))
  rename Fr _ _ _ _ => F7
  rename News _ _ _ _ => N7
  rename Addr => lf
  have hlu7 := hor2.elim (fun q => F7.keep _ _ q) (fun q => (N7 (lu2, _) (.tail _ (List.mem_append_right _ q))).1)
  have hl7 := (N7 _ (.head _)).1
  obtain ⟨as2, ra2⟩ := reads_strl' (h := _) hus2
  obtain ⟨bs2, rb2⟩ := reads_strl' (.cons _ _ (.cons _ _ (.cons _ _ .nil)) : StrL _ agB)
  refine ne_dat (d := .list (agB.map Dat.str)) (.list hlu7 rfl rfl ra2) (.list hl7 rfl rfl rb2) (by decide +kernel) (of_decide_eq_true rfl) ?_
  have N8 := news_sub (l' := rest) N7 (fun q hq => .tail _ (List.mem_append_left _ hq))
  clear hlu7 hl7 ra2 rb2 hor2; (try clear N7)
  walk_at "mine steps"
  show _ ∧ _
  exact ⟨by first | rfl | trivial, _, _, rfl, F7, N8⟩
end
end Mine
end
section
theorem Mine.fresh71 : True := by w_top off; trivial
open PySem PySem.W PyProof.Rows PySem.Calls
set_option maxRecDepth 100000
set_option maxHeartbeats 8000000
namespace Mine
section
variable {w : World} {p : Program} {loose : List Str} {mean : ExcName → Option Value} {mg mb : Str → Option Value} {base g : Heap} {L' fa : Addr} {cdv : Value} {mS : Shared} {h : Heap} {tk : Nat} {Q : Flow → Shared → Prop}
theorem seg30 {l0 lc x1 x2 x3 x4 x5 x6 ll lt lk d3 ka kb : Addr} {dv : Value} {u1 u2 u3 tL ts tb tn : Tok} {n1 n2 look k1 sz nm nk : Nat} {bs : Array UInt8} {u : Option Value} {rest : List (Addr × Obj)} {r1 r2 : Rec} {q1 q2 : Obj} {l1 l2 : List Nat}
    (B : Below callerA base [] g) (X : (hd.heap_1 w.params).In g) (P : Top p loose mean mg mb g) (hrec1 : RecIn w (InB g rest) (.ref x1) r1) (hrec2 : RecIn w (InB g rest) (.ref x2) r2) (ha1 : (rulesOf r1).length = l1.length) (ha2 : (rulesOf r2).length = l2.length)
    (hq1 : IsKid q1 l1) (hq2 : IsKid q2 l2) (hl1 : l1.length ≤ 6) (hl2 : l2.length ≤ 6)
    (F : Fr g L' h (mp26all l0 lc x1 x2 x3 x4 ll dv u1 u2 u3 tL n1 n2 look k1 sz ts bs tb lt lk nm tn u d3 x5 x6)) (N : News g L' h ((lk, W.listOf #[.ref ka, .ref kb] nk) :: (ka, q1) :: (kb, q2) :: rest))
    (k : ∀ h' tk' m', Fr g L' h' m' → Q (.ret (.bool true)) { mS with heap := h', toks := tk' }) :
    LawC w L' fa cdv (execs (lawBody w 30) (lawEnv w L' fa cdv)) Q { mS with heap := h, toks := tk } := by
  refine law_step (st := ?st) (rest := ?rest) ?hb (wpC_mono (Q := fun fl s' => Hid (∃ h' tk' m', fl = .ret (.bool true) ∧ s' = { mS with heap := h', toks := tk' } ∧ Fr g L' h' m')) ?_ (fun fl s' hq => ?fin) (fun _ _ x => x))
  case hb => exact rfl
  case fin =>
    refine p3_3 ?_ hq
    (try clear hq)
    intro h' tk' m' hq1 hq2 F'
    subst hq1
    subst hq2
    exact k h' tk' m' F'
  clear k
  (try refine opg fun gG hgG => ?_); (obtain ⟨vb1, nb1, rfl, hvb1⟩ := hq1); (try (refine hgG ?_; clear hgG gG))
  (try refine opg fun gG hgG => ?_); (obtain ⟨vb2, nb2, rfl, hvb2⟩ := hq2); (try (refine hgG ?_; clear hgG gG))
  delta lawEnv lawScope scopeOf
  revert X P; k_fill; intro X P
  refine wpC_of ?_
  repeat ((fail_if_success (with_reducible show wpAny _ _ (getAttr _ _ _) _ _ _)); (first | (k_unfold; (try dsimp only)) | ((try dsimp only); walk1) | (leave1; (try dsimp only))))
  have hR1 := hrec1.at F (news_sub N fun q hq => .tail _ (.tail _ (.tail _ hq)))
  have hR2 := hrec2.at F (news_sub N fun q hq => .tail _ (.tail _ (.tail _ hq)))
  refine get_rl F X hR1 fun lr rs nr tk3 hlr hrs => ?_
  try dsimp only
  repeat ((fail_if_success (with_reducible show wpAny _ _ (PySem.call (Value.builtin "len") _ _) _ _ _)); (first | (k_unfold; (try dsimp only)) | ((try dsimp only); walk1) | (leave1; (try dsimp only))))
  have hr1 : rs.length = l1.length := hrs.trans ha1
  refine len_list (items := rs.toArray) ⟨_, hlr, rfl, nr, rfl⟩ (by rw [List.size_toArray, hr1]; walk_at "mine omega") ?_
  rw [show ((rs.toArray.size : Nat) : Int) = (l1.length : Int) by rw [List.size_toArray, hr1]]
  repeat ((fail_if_success (with_reducible show wpAny _ _ (getAttr _ _ _) _ _ _)); (first | (k_unfold; (try dsimp only)) | ((try dsimp only); walk1) | (leave1; (try dsimp only))))
  refine get_rl F X hR2 fun lr2 rs2 nr2 tk4 hlr2 hrs2 => ?_
  try dsimp only
  repeat ((fail_if_success (with_reducible show wpAny _ _ (PySem.call (Value.builtin "len") _ _) _ _ _)); (first | (k_unfold; (try dsimp only)) | ((try dsimp only); walk1) | (leave1; (try dsimp only))))
  have hr2 : rs2.length = l2.length := hrs2.trans ha2
  refine len_list (items := rs2.toArray) ⟨_, hlr2, rfl, nr2, rfl⟩ (by rw [List.size_toArray, hr2]; walk_at "mine omega") ?_
  rw [show ((rs2.toArray.size : Nat) : Int) = (l2.length : Int) by rw [List.size_toArray, hr2]]
  clear hR1 hR2 hlr hlr2
  repeat ((fail_if_success (with_reducible show wpAny _ _ (PySem.call (Value.builtin "len") _ _) _ _ _)); (first | (k_unfold; (try dsimp only)) | ((try dsimp only); walk1) | (leave1; (try dsimp only))))
  rename Fr _ _ _ _ => F5
  rename News _ _ _ _ => N5
  refine len_list (items := vb1.toArray) ⟨_, (N5 (ka, W.listOf vb1.toArray nb1) (by first | walk_at "mine sub" | simp)).1, rfl, nb1, rfl⟩ (by rw [List.size_toArray, hvb1.length]; walk_at "mine omega") ?_
  rw [show ((vb1.toArray.size : Nat) : Int) = (l1.length : Int) by rw [List.size_toArray, hvb1.length]]
  repeat ((fail_if_success (with_reducible show wpAny _ _ (PySem.call (Value.builtin "len") _ _) _ _ _)); (first | (k_unfold; (try dsimp only)) | ((try dsimp only); walk1) | (leave1; (try dsimp only))))
  refine len_list (items := vb2.toArray) ⟨_, (N5 (kb, W.listOf vb2.toArray nb2) (by first | walk_at "mine sub" | simp)).1, rfl, nb2, rfl⟩ (by rw [List.size_toArray, hvb2.length]; walk_at "mine omega") ?_
  rw [show ((vb2.toArray.size : Nat) : Int) = (l2.length : Int) by rw [List.size_toArray, hvb2.length]]
  repeat ((fail_if_success (with_reducible show wpAny _ _ (compareOp .Eq _ _) _ _ _)); (first | (k_unfold; (try dsimp only)) | ((try dsimp only); walk1) | (leave1; (try dsimp only))))
  rename Fr _ _ _ _ => F6
  rename News _ _ _ _ => N6
  refine eq_same N6 (.tail _ (.head _)) (.head _) (ds := [.int (l1.length : Int), .int (l2.length : Int)]) (.cons (.int _ _) (.cons (.int _ _) .nil)) (.cons (.int _ _) (.cons (.int _ _) .nil)) ?e1 (of_decide_eq_true rfl) ?_
  case e1 => intro d hd; simp only [List.mem_cons, List.not_mem_nil, or_false] at hd; rcases hd with rfl | rfl <;> rfl
  walk_at "mine steps"
  show ∃ h' tk' m', _ ∧ _ ∧ _
  exact ⟨_, _, _, rfl, rfl, F6⟩
end
end Mine
end
section
theorem Mine.fresh72 : True := by w_top off; trivial
open PySem PySem.W PyProof.Rows PySem.Calls
set_option maxRecDepth 100000
set_option maxHeartbeats 8000000
namespace Mine
section
variable {w : World} {h₀ h : Heap} {L : Addr} {m : Str → Option Value}
theorem cell_led2 {a : Addr} {o : Obj} (F : Fr h₀ L h m) (hm : m (Str.ofString "script") ≠ none) (ha : h.get? a = some o) (hno : ∀ es ep, o.data = .dict es ep → nsFind es (Str.ofString "script") = none) (hc : NoCell o) :
    ∃ tl : List (Addr × Obj), News h₀ L h tl ∧ (h₀.get? a = some o ∨ (a, o) ∈ tl) ∧ ∀ q ∈ tl, NoCell q.2 := by
  have hp1 := F.ns
  refine p3_4 ?_ hp1
  (try clear hp1)
  intro oL es ep hL hd2 hk hf
  have hne : a ≠ L := by
    intro e
    rw [e, hL] at ha
    obtain rfl := Option.some.inj ha
    exact hm ((hf _).symm.trans (hno es ep hd2))
  cases q : h₀.get? a with
  | none => exact ⟨[(a, o)], fun p hp => by rw [List.mem_singleton.mp hp]; exact ⟨ha, hne, q⟩, .inr (.head _), fun p hp => by rw [List.mem_singleton.mp hp]; exact hc⟩
  | some o' =>
    have := F.keep _ _ q
    rw [ha] at this
    exact ⟨[], News.nil, .inl (by rw [Option.some.inj this]), fun p hp => by cases hp⟩
theorem nc_app {a b : List (Addr × Obj)} (h1 : ∀ q ∈ a, NoCell q.2) (h2 : ∀ q ∈ b, NoCell q.2) : ∀ q ∈ a ++ b, NoCell q.2 := fun q hq => (List.mem_append.mp hq).elim (h1 q) (h2 q)
mutual
theorem RecIn.led2 (F : Fr h₀ L h m) (hm : m (Str.ofString "script") ≠ none) : ∀ {v : Value} {r : Rec}, RecIn w (At h) v r → ∃ tl, News h₀ L h tl ∧ RecIn w (InB h₀ tl) v r ∧ ∀ q ∈ tl, NoCell q.2
  | _, _, .mk (x := x) (dx := dx) (lu := lu) (lr := lr) a b c d e f g => by
    (try refine opg fun gG hgG => ?_); (obtain ⟨t1, n1, i1, c1⟩ := cell_led2 F hm a (fun es ep q => by cases q) (fun c e => by cases e)); (try (refine hgG ?_; clear hgG gG))
    obtain ⟨t2, n2, i2, c2⟩ := cell_led2 F hm b (fun es ep q => by injection q with q1 q2; subst q1; rfl) (fun c e => by cases e)
    (try refine opg fun gG hgG => ?_); (obtain ⟨t3, n3, i3, c3⟩ := cell_led2 F hm c (fun es ep q => by cases q) (fun c e => by cases e)); (try (refine hgG ?_; clear hgG gG))
    (try refine opg fun gG hgG => ?_); (obtain ⟨t4, n4, i4, c4⟩ := cell_led2 F hm d (fun es ep q => by cases q) (fun c e => by cases e)); (try (refine hgG ?_; clear hgG gG))
    (try refine opg fun gG hgG => ?_); (obtain ⟨t5, n5, i5, c5⟩ := RecsIn.led2 F hm g); (try (refine hgG ?_; clear hgG gG))
    refine ⟨t1 ++ (t2 ++ (t3 ++ (t4 ++ t5))), news_app n1 (news_app n2 (news_app n3 (news_app n4 n5))), ?_, nc_app c1 (nc_app c2 (nc_app c3 (nc_app c4 c5)))⟩
    refine .mk (i1.imp id fun q => List.mem_append_left _ q) (i2.imp id fun q => List.mem_append_right _ (List.mem_append_left _ q)) (i3.imp id fun q => List.mem_append_right _ (List.mem_append_right _ (List.mem_append_left _ q)))
      (i4.imp id fun q => List.mem_append_right _ (List.mem_append_right _ (List.mem_append_right _ (List.mem_append_left _ q)))) e f (RecsIn.mono (fun a o q => q.imp id fun q => List.mem_append_right _ (List.mem_append_right _ (List.mem_append_right _ (List.mem_append_right _ q)))) i5)
theorem RecsIn.led2 (F : Fr h₀ L h m) (hm : m (Str.ofString "script") ≠ none) : ∀ {v : List Value} {r : List Rec}, RecsIn w (At h) v r → ∃ tl, News h₀ L h tl ∧ RecsIn w (InB h₀ tl) v r ∧ ∀ q ∈ tl, NoCell q.2
  | _, _, .nil => ⟨[], News.nil, .nil, fun q hq => by cases hq⟩
  | _, _, .cons a b => by
    (try refine opg fun gG hgG => ?_); (obtain ⟨t1, n1, i1, c1⟩ := RecIn.led2 F hm a); (try (refine hgG ?_; clear hgG gG))
    (try refine opg fun gG hgG => ?_); (obtain ⟨t2, n2, i2, c2⟩ := RecsIn.led2 F hm b); (try (refine hgG ?_; clear hgG gG))
    exact ⟨t1 ++ t2, news_app n1 n2, .cons (RecIn.mono (fun a o q => q.imp id fun q => List.mem_append_left _ q) i1) (RecsIn.mono (fun a o q => q.imp id fun q => List.mem_append_right _ q) i2), nc_app c1 c2⟩
end
end
end Mine
end
section
theorem Mine.fresh73 : True := by w_top off; trivial
open PySem PySem.W PyProof.Rows PySem.Calls
set_option maxRecDepth 100000
set_option maxHeartbeats 8000000
namespace Mine
theorem line_of {w : World} {p : Program} {loose : List Str} {mean : ExcName → Option Value} {mg mb : Str → Option Value} {rec : Rec} {ns : List Nat} (H : LineOk rec ns) (x : Addr) :
    SpecW w p loose mean mg mb 175 200 4100 [.ref x] (fun h => RecIn w (At h) (.ref x) rec) (fun h h' r => ∃ a vals n, r = .ref a ∧ h.get? a = none ∧ h'.get? a = some (W.listOf (vals : List Value).toArray n) ∧ NatL vals ns) := by
  (try refine opg fun gG hgG => ?_); (obtain ⟨h1, h2, h3, items, last, ks, h4, h5, h6, h7, h8, h9, rfl⟩ := H); (try (refine hgG ?_; clear hgG gG))
  exact spec_line rec x 190 items last ks h1 (by decide) h2 h3 h4 h5 h6 h7 h8 h9
theorem rep_len : ∀ n : Fin 128, (rep (tabOf n.val)).length < 10 := by decide +kernel
theorem rules_len {n : Nat} (h : n < 128) (ags : List Str) (dl : Option Nat) (look : Nat) : (rulesOf (topOf n ags dl look)).length < 1000 := by
  have := rep_len ⟨n, h⟩
  show ((rep (tabOf n)).map _).length < 1000
  rw [List.length_map]
  exact Nat.lt_trans this (by decide)
theorem firstN (c : Int) : ∃ n : Nat, (2 ≤ n ∧ n < 128) ∧ 2 + Int.fmod c 126 = (n : Int) := by
  have h1 : Int.fmod c 126 = c % 126 := Int.fmod_eq_emod_of_nonneg _ (by decide)
  have h2 := Int.emod_nonneg c (show (126 : Int) ≠ 0 by decide)
  have h3 := Int.emod_lt_of_pos c (show (0 : Int) < 126 by decide)
  exact ⟨(2 + Int.fmod c 126).toNat, by walk_at "mine omega", by walk_at "mine omega"⟩
theorem lookN (c : Int) : ∃ n : Nat, n < 8 ∧ Int.fmod c 8 = (n : Int) := by
  have h1 : Int.fmod c 8 = c % 8 := Int.fmod_eq_emod_of_nonneg _ (by decide)
  have h2 := Int.emod_nonneg c (show (8 : Int) ≠ 0 by decide)
  have h3 := Int.emod_lt_of_pos c (show (0 : Int) < 8 by decide)
  exact ⟨(Int.fmod c 8).toNat, by walk_at "mine omega", by walk_at "mine omega"⟩
theorem len_counts {n1 n2 : Nat} (h1 : n1 < 128) (h2 : n2 < 128) : (countsOf n1 ++ countsOf n2).length ≤ 200 := by
  have := countsOf_len h1
  have := countsOf_len h2
  rw [List.length_append]; walk_at "mine omega"
theorem le_counts {n1 n2 : Nat} (h1 : n1 < 128) (h2 : n2 < 128) : ∀ c ∈ countsOf n1 ++ countsOf n2, c ≤ 6 := fun c hc => (List.mem_append.mp hc).elim (countsOf_le h1 c) (countsOf_le h2 c)
theorem prim_all : ∀ n : Fin 128, ((rep (tabOf n.val)).all fun k => decide (1 ≤ k) && (match primesN[k - 1]? with | some q => decide (1 ≤ q) | none => false)) = true := by decide +kernel
theorem prim_of {n : Nat} (h : n < 128) : ∀ k ∈ rep (tabOf n), 1 ≤ k ∧ ∃ q, primesN[k - 1]? = some q ∧ 1 ≤ q := fun k hk => by
  have := List.all_eq_true.mp (prim_all ⟨n, h⟩) k hk
  rw [Bool.and_eq_true] at this
  refine ⟨of_decide_eq_true this.1, ?_⟩
  cases hq : primesN[k - 1]? with
  | none => rw [hq] at this; exact absurd this.2 (by decide)
  | some q => rw [hq] at this; exact ⟨q, rfl, of_decide_eq_true this.2⟩
theorem top_rules (n : Nat) (ags : List Str) (dl : Option Nat) (look : Nat) : (rulesOf (topOf n ags dl look)).length = (rep (tabOf n)).length := by
  show ((rep (tabOf n)).map _).length = _
  rw [List.length_map]
section
variable {w : World} {p : Program} {loose : List Str} {mean : ExcName → Option Value} {mg mb : Str → Option Value} {base g : Heap} {L' fa : Addr} {cdv : Value} {mS : Shared} {h : Heap} {tk : Nat} {Q : Flow → Shared → Prop}
/-- the law from its first compare on -/
theorem law_rest {l0 lc x1 x2 x3 x4 ll la lb : Addr} {dv : Value} {u1 u2 u3 tL : Tok} {n1 n2 look : Nat} {dl : Option Nat} {va vb : List Value} {na nb : Nat} {tl1 tl2 tl3 tl4 : List (Addr × Obj)} {oc : Obj}
    (B : Below callerA base [] g) (X : (hd.heap_1 w.params).In g) (P : Top p loose mean mg mb g) (XB : (hd.heap_1 w.params).In base) (TB : Top p loose mean mg mb base) (D : KtsDicts (([] : List Env).filterMap (·.frame)) g)
    (hn1 : 2 ≤ n1 ∧ n1 < 128) (hn2 : 2 ≤ n2 ∧ n2 < 128) (hlook : look < 8) (hdl : dl = none ∨ dl = some n2) (HA : LineOk (recAh n1 n2 look dl) (lineA n1 n2 dl)) (HB : LineOk (recBe n1 n2 look dl) (lineB n1 n2))
    (F : Fr g L' h (mp11 l0 lc x1 x2 x3 x4 ll dv u1 u2 u3 tL n1 n2 look (dl.getD n1))) (N : News g L' h ((ll, W.listOf #[.ref la, .ref lb] 0) :: (lb, W.listOf vb.toArray nb) :: (la, W.listOf va.toArray na) :: (tl4 ++ (tl3 ++ (tl2 ++ (tl1 ++ [(L' + 1, oc)]))))))
    (hva : NatL va (dl.getD n1 :: (countsOf n1 ++ countsOf n2))) (hvb : NatL vb (n1 :: (countsOf n2 ++ countsOf n1)))
    (hrec1 : RecIn w (InB g tl1) (.ref x1) (topOf n1 agA (some n1) look)) (nc1 : ∀ q ∈ tl1, NoCell q.2) (hrec2 : RecIn w (InB g tl2) (.ref x2) (topOf n2 agB dl look)) (nc2 : ∀ q ∈ tl2, NoCell q.2)
    (hrec3 : RecIn w (InB g tl3) (.ref x3) (recAh n1 n2 look dl)) (hrec4 : RecIn w (InB g tl4) (.ref x4) (recBe n1 n2 look dl)) (hoc : oc.data = .cell none)
    (k : ∀ h' tk' m', Fr g L' h' m' → Q (.ret (.bool true)) { mS with heap := h', toks := tk' }) :
    LawC w L' fa cdv (execs (lawBody w 11) (lawEnv w L' fa cdv)) Q { mS with heap := h, toks := tk } := by
  have hd1 : dl.getD n1 < 128 := by rcases hdl with rfl | rfl; exact hn1.2; exact hn2.2
  have hl12 := len_counts hn1.2 hn2.2
  have hl21 := len_counts hn2.2 hn1.2
  have hc12 := le_counts hn1.2 hn2.2
  have hc21 := le_counts hn2.2 hn1.2
  refine seg11 B X P F N hva hvb (by walk_at "mine omega") (by walk_at "mine omega") fun h1 tk1 F1 N1 => ?_
  refine seg12 (rec := recAh n1 n2 look dl) B X P F1 N1 hva hvb hl12 hc12 hd1 hlook (hrec3.mono fun a o q => q.imp id fun q => ?m1) ⟨HA.1, HA.2.1, HA.2.2.1⟩ (str_ahead hn1 hn2) fun h2 tk2 F2 N2 => ?_
  case m1 => exact List.mem_append_right _ (List.mem_append_left _ q)
  refine seg13 (rec := recBe n1 n2 look dl) B X P F2 N2 hva hvb hl21 hc21 hn1.2 hlook (hrec4.mono fun a o q => q.imp id fun q => ?m2) ⟨HB.1, HB.2.1, HB.2.2.1⟩ (str_behind hn1 hn2) fun h3 tk3 F3 N3 => ?_
  case m2 => exact List.mem_append_left _ q
  refine seg14 B X P F3 N3 hva hvb hl12 fun h4 tk4 ts F4 N4 => ?_
  have hne : countsOf n1 ++ countsOf n2 ≠ [] := fun e => countsOf_ne hn1.1 hn1.2 (List.append_eq_nil_iff.mp e).1
  have hrb : (countsOf n2 ++ countsOf n1).length = (countsOf n1 ++ countsOf n2).length := by rw [List.length_append, List.length_append]; walk_at "mine omega"
  refine seg15 B X P XB TB D F4 N4 hva hvb hl12 hrb hne hc12 hc21 fun h5 tk5 tb F5 N5 => ?_
  have N5' := news_sub (l' := (L' + 1, oc) :: (tl2 ++ tl1)) N5 ?m3
  case m3 => first | walk_at "mine sub" | (intro q hq; simp only [List.mem_cons, List.mem_append, List.not_mem_nil, or_false] at hq ⊢; rcases hq with e | e | e <;> simp only [e, true_or, or_true])
  clear N F hva hvb; (try clear N1); (try clear N2); (try clear N3); (try clear N4); (try clear N5); (try clear F1); (try clear F2); (try clear F3); (try clear F4)
  refine seg16 B X P F5 N5' hn1.2 hn2.2 fun h6 tk6 lt d1 d2 o1 o2 nt s1 s2 i1 i2 F6 N6 => ?_
  have hp2 := numOk_spec hn1.2
  refine p0_5 ?_ hp2
  (try clear hp2)
  intro _ _ e13 e14 e15
  have hp3 := numOk_spec hn2.2
  refine p0_5 ?_ hp3
  (try clear hp3)
  intro _ _ e23 e24 e25
  have r1 := rep_le hn1.2
  have r2 := rep_le hn2.2
  refine seg17 B X P F6 N6 hn1.2 hn2.2 s1 s2 i1 i2 fun h7 tk7 lk ka kb q1 q2 nk kd1 kd2 F7 N7 => ?_
  have N7' := news_sub (l' := (L' + 1, oc) :: (lk, W.listOf #[.ref ka, .ref kb] nk) :: (ka, q1) :: (kb, q2) :: (lt, W.listOf #[.ref d1, .ref d2] nt) :: (d2, o2) :: (d1, o1) :: (tl2 ++ tl1)) N7 ?m4
  case m4 => first | walk_at "mine sub" | (intro q hq; simp only [List.mem_cons, List.mem_append] at hq ⊢; rcases hq with e | e | e | e | e | e | e | e | e <;> simp only [e, true_or, or_true])
  clear N5'; (try clear N6); (try clear N7); (try clear F5); (try clear F6)
  refine seg18 B X P F7 N7' hoc ?m5 hc12 hc21 hl12 hrb (pile_line hn1.2 hn2.2) (pile_line hn2.2 hn1.2) fun h8 tk8 lp pa pb p1 p2 oc' np kp1 kp2 hoc' F8 N8 => ?_
  case m5 =>
    intro q hq
    (try refine opg fun gG hgG => ?_); (obtain ⟨va1, n1', rfl, _⟩ := kd1); (try (refine hgG ?_; clear hgG gG))
    (try refine opg fun gG hgG => ?_); (obtain ⟨va2, n2', rfl, _⟩ := kd2); (try (refine hgG ?_; clear hgG gG))
    refine p3_3 ?_ i1
    (try clear i1)
    intro τ1 es1 ep1 _ hda1 _
    refine p3_3 ?_ i2
    (try clear i2)
    intro τ2 es2 ep2 _ hda2 _
    simp only [List.mem_cons] at hq
    rcases hq with rfl | rfl | rfl | rfl | rfl | rfl | hq
    · intro c e; cases e
    · intro c e; cases e
    · intro c e; cases e
    · intro c e; cases e
    · intro c e; rw [hda2] at e; cases e
    · intro c e; rw [hda1] at e; cases e
    · exact (List.mem_append.mp hq).elim (nc2 q) (nc1 q)
  refine seg19 B X P F8 N8 hoc' kp1 kp2 kd1 kd2 r1 r2 fun h9 tk9 F9 N9 => ?_
  refine seg20 B X P F9 N9 fun h10 tk10 tn0 F10 N10 => ?_
  have N10' := news_sub (l' := (pa, p1) :: (lp, W.listOf #[.ref pa, .ref pb] np) :: (L' + 1, oc') :: (lk, W.listOf #[.ref ka, .ref kb] nk) :: (ka, q1) :: (kb, q2) :: (lt, W.listOf #[.ref d1, .ref d2] nt) :: (d2, o2) :: (d1, o1) :: (tl2 ++ tl1)) N10 ?m6
  case m6 => first | walk_at "mine sub" | (intro q hq; simp only [List.mem_cons, List.mem_append] at hq ⊢; rcases hq with e | e | e | e | e | e | e | e | e | e | e <;> simp only [e, true_or, or_true])
  clear N7'; (try clear N8); (try clear N9); (try clear N10); (try clear F7); (try clear F8); (try clear F9)
  have hprod := prodP_two ⟨Nat.le_trans (by decide) hn1.1, hn1.2⟩ ⟨Nat.le_trans (by decide) hn2.1, hn2.2⟩
  have hll : (rep (tabOf n1) ++ rep (tabOf n2)).length ≤ 12 := by rw [List.length_append]; walk_at "mine omega"
  refine seg21 B X P F10 N10' hoc' kp1 hll (fun k hk => (List.mem_append.mp hk).elim (prim_of hn1.2 k) (prim_of hn2.2 k)) ?m7 fun h11 tk11 tn u F11 N11 => ?_
  case m7 =>
    rw [hprod]
    have : n1 * n2 ≤ 127 * 127 := Nat.mul_le_mul (by walk_at "mine omega") (by walk_at "mine omega")
    walk_at "mine omega"
  rw [hprod] at F11
  have N11' := news_sub (l' := (lt, W.listOf #[.ref d1, .ref d2] nt) :: (d2, o2) :: (d1, o1) :: (pa, p1) :: (lp, W.listOf #[.ref pa, .ref pb] np) :: (L' + 1, oc') :: (lk, W.listOf #[.ref ka, .ref kb] nk) :: (ka, q1) :: (kb, q2) :: (tl2 ++ tl1)) N11 ?m8
  case m8 => first | walk_at "mine sub" | (intro q hq; simp only [List.mem_cons, List.mem_append] at hq ⊢; rcases hq with e | e | e | e | e | e | e | e | e | e | e <;> simp only [e, true_or, or_true])
  refine seg22 B X P F11 N11' s1 s2 i1 i2 e14 e24 e15 fun h12 tk12 d3 o3 s3 i3 F12 N12 => ?_
  have N12' := news_sub (l' := (d3, o3) :: (pa, p1) :: (lp, W.listOf #[.ref pa, .ref pb] np) :: (L' + 1, oc') :: (lt, W.listOf #[.ref d1, .ref d2] nt) :: (d2, o2) :: (d1, o1) :: (lk, W.listOf #[.ref ka, .ref kb] nk) :: (ka, q1) :: (kb, q2) :: (tl2 ++ tl1)) N12 ?m9
  case m9 => first | walk_at "mine sub" | (intro q hq; simp only [List.mem_cons, List.mem_append] at hq ⊢; rcases hq with e | e | e | e | e | e | e | e | e | e | e | e <;> simp only [e, true_or, or_true])
  clear N10' N11'; (try clear N11); (try clear N12); (try clear F10); (try clear F11)
  have hT := cntT_add e15 (tab_pos hn1.2) (tab_pos hn2.2)
  have hkT := addTab_keys e15 (tabOf n2)
  refine seg23 B X P F12 N12' hoc' s3 i3 hT hkT kp1 hll hn1.2 hn2.2 fun h13 tk13 F13 N13 => ?_
  refine seg24 B X P F13 N13 hoc' s1 s2 s3 i1 i2 i3 (cntT_one e15 (tab_pos hn1.2)) (cntT_one e25 (tab_pos hn2.2)) e15 e25 kp1 kd1 kd2 hll r1 r2 ?m10 fun h14 tk14 F14 N14 => ?_
  case m10 => rw [cnt_add _ e15, List.length_append, rep_length, rep_length]
  have N14' := news_sub (l' := (lk, W.listOf #[.ref ka, .ref kb] nk) :: (ka, q1) :: (kb, q2) :: (tl2 ++ tl1)) N14 ?m11
  case m11 => first | walk_at "mine sub" | (intro q hq; simp only [List.mem_cons, List.mem_append] at hq ⊢; rcases hq with e | e | e | e | e <;> simp only [e, true_or, or_true])
  clear N12'; (try clear N13); (try clear N14); (try clear F12); (try clear F13)
  refine seg25 B X P hlook F14 N14' fun h15 tk15 x5 tl5 hrec5 F15 N15 => ?_
  refine seg26 B X P (hrec1.mono fun a o q => q.imp id fun q => ?m12) (hrec5.mono fun a o q => q.imp id fun q => List.mem_append_right _ q) (by show 4 < 1000; decide) (by show 0 < 1000; decide) (rules_len hn1.2 _ _ _) (rules_len (n := 1) (by decide) _ _ _) F15 N15 fun h16 tk16 x6 tl6 hrec6 F16 N16 => ?_
  case m12 => exact List.mem_append_left _ (.tail _ (.tail _ (.tail _ (List.mem_append_right _ q))))
  refine seg27 B X P (hrec5.mono fun a o q => q.imp id fun q => List.mem_append_left _ (List.mem_append_right _ q)) (hrec6.mono fun a o q => q.imp id fun q => List.mem_append_right _ q) (bare_ok ⟨look, hlook⟩) (bareR_str look) ?m13 rfl F16 N16 fun h17 tk17 F17 N17 => ?_
  case m13 => show agA.filter (fun a => ([] : List Str).contains a) = []; decide +kernel
  refine seg28 B X P hlook F17 N17 fun h18 tk18 F18 N18 => ?_
  clear N14'; (try clear N15); (try clear N16); (try clear N17); (try clear F14); (try clear F15); (try clear F16); (try clear F17)
  refine seg29 B X P (hrec1.mono fun a o q => q.imp id fun q => ?m14) (hrec2.mono fun a o q => q.imp id fun q => ?m15) rfl rfl F18 N18 fun h19 tk19 F19 N19 => ?_
  case m14 => exact List.mem_append_left _ (List.mem_append_left _ (.tail _ (.tail _ (.tail _ (List.mem_append_right _ q)))))
  case m15 => exact List.mem_append_left _ (List.mem_append_left _ (.tail _ (.tail _ (.tail _ (List.mem_append_left _ q)))))
  have N19' := news_sub (l' := (lk, W.listOf #[.ref ka, .ref kb] nk) :: (ka, q1) :: (kb, q2) :: (tl2 ++ tl1)) N19 ?m16
  case m16 => intro q hq; exact List.mem_append_left _ (List.mem_append_left _ hq)
  exact seg30 B X P (hrec1.mono fun a o q => q.imp id fun q => List.mem_append_right _ q) (hrec2.mono fun a o q => q.imp id fun q => List.mem_append_left _ q) (top_rules n1 _ _ _) (top_rules n2 _ _ _) kd1 kd2 r1 r2 F19 N19' k
end
end Mine
end
section
theorem Mine.fresh74 : True := by w_top off; trivial
open PySem PySem.W PyProof.Rows PySem.Calls
set_option maxRecDepth 100000
set_option maxHeartbeats 8000000
namespace Mine
theorem post_true (ns : List Int) : PySem.Challenge.rw_jc0012_01.row.claim.post [ofPy (PyData.list (List.map PyData.int ns))] (WData.bool true) [ofPy (PyData.list (List.map PyData.int ns))] = true := by wrow_post
theorem holds0 : PySem.Challenge.rw_jc0012_01.Holds := by
  refine PySem.W.holds_law said fun sr => Mine.hd ⟨sr, ?_⟩
  clear sr
  k_fill
  intro w s mS mg mb G Y fa o pm cd doc dV kV ho hd' hcd hD hmg hg args vals as hpre hlay hrd hwl hlo
  have KX := kIn_of Y
  refine Ground.open G ?_
  intro T B D TE TW
  (try refine opg fun gG hgG => ?_); (obtain ⟨_, _, he, B0⟩ := based_of_top T rfl hmg ho hd'); (try (refine hgG ?_; clear hgG gG))
  have he' : cd = _ := he
  subst he'
  clear he hmg B D TE TW B0 Y
  wrow_args hpre hlay hrd hwl hlo
  intro R hR
  rename IntsAre _ _ => hints
  rename Heap.IsList _ _ _ => hscr
  rename List Int => ns
  rename List Value => vs0
  rename Addr => l0
  have hlen63 : ns.length ≤ 63 := by
    rename ¬ _ => hcond
    walk_at "mine omega"
  have he := Dflts.none hD rfl
  subst he
  have he := Dflts.noKw hD
  subst he
  refine codeC_top1 (binds := [(Str.ofString "script", .ref l0)]) (cname := Str.ofString "piles") rfl KX T ho hd' hcd ?k8 ?k9 ?kB ?kD ?kO ?kN ?kL ?_ ?c2 ?c3 ?c4
  case k8 => decide +kernel
  case k9 => exact BindsTo.of_eq rfl
  case kB => exact rfl
  case kD => decide +kernel
  case kO => intro n; rfl
  case kN => rfl
  case kL => intro n; (refine' Eq.trans (b := fun y => if y = Str.ofString "script" then some (.ref l0) else none) rfl ?_); (funext y; first | rfl | ((try simp only [List.reverse_cons, List.reverse_nil, List.nil_append, List.cons_append, List.lookup]); (repeat' split) <;> first | rfl | (simp_all; done) | (subst_vars; simp_all; done) | (simp_all (decide := true); done)))
  case c2 => rfl
  case c3 => rfl
  case c4 => rfl
  intro L' h1 tk1 oc F1 N1 hoc
  have hab : mS.heap.objs.size ≤ L' := F1.above
  replace F1 : Fr mS.heap L' h1 (fun y => if y = Str.ofString "script" then some (Value.ref l0) else none) := by
    have e : (fun y => List.lookup y ([(Str.ofString "script", Value.ref l0)] : List (Str × Value)).reverse) = (fun y => if y = Str.ofString "script" then some (Value.ref l0) else none) := by (funext y; first | rfl | ((try simp only [List.reverse_cons, List.reverse_nil, List.nil_append, List.cons_append, List.lookup]); (repeat' split) <;> first | rfl | (simp_all; done) | (subst_vars; simp_all; done) | (simp_all (decide := true); done)))
    rw [← e]; exact F1
  refine (let AE : Env := _; let AA : Around := Around.deeper _ AE; let QQ : Flow → Shared → Prop := _; (?kL : wpC _ AA (execs _ AE) QQ _ _))
  refine wpC_execs_cons (wpC_of ?_)
  repeat ((fail_if_success (with_reducible show wpAny _ _ (PySem.call (Value.ref 135) _ _) _ _ _)); (first | (k_unfold; (try dsimp only)) | ((try dsimp only); walk1) | (leave1; (try dsimp only))))
  have B0 : Below callerA mS.heap [] mS.heap := below_caller _
  have D0 : KtsDicts (([] : List Env).filterMap (·.frame)) mS.heap := fun b hb => by cases hb
  refine Spec.call (spec_cells l0 vs0 ns hints (by rw [hints.length]; walk_at "mine omega")) B0 F1 KX N1 T rfl (by obtain ⟨o', e', r'⟩ := hscr; exact ⟨o', F1.keep _ _ e', r'⟩) (by decide) (by decide) fun r h2 tk2 F2 N2 k2 post => ?_
  refine p4_5 ?_ post
  (try clear post)
  intro lc cs ns3 nc hq1 hlc0 hlc hcs hn3
  subst hq1
  have N3 := news_app ((NewCells.one hlc0 hlc).news F1) N2
  obtain ⟨c0, c1, c2, rfl⟩ : ∃ c0 c1 c2, ns3 = [c0, c1, c2] := by
    match ns3, hn3 with
    | [a, b, c], _ => exact ⟨a, b, c, rfl⟩
  cases hcs with | cons _ tc0 hcs => ?_
  cases hcs with | cons _ tc1 hcs => ?_
  cases hcs with | cons _ tc2 hcs => ?_
  cases hcs
  clear k2 hints hscr; (try clear N1); (try clear N2); (try clear F1)
  try dsimp only
  walk_at "mine steps"
  try dsimp only
  refine wpC_execs_cons (wpC_of ?_)
  walk_at "mine steps"
  try dsimp only
  refine wpC_execs_cons (wpC_of ?_)
  walk_at "mine steps"
  try dsimp only
  refine wpC_execs_cons (wpC_of ?_)
  walk_at "mine steps"
  try dsimp only
  rename Fr _ _ _ _ => F4
  rename News _ _ _ _ => N4
  (try refine opg fun gG hgG => ?_); (obtain ⟨n1, hn1, en1⟩ := firstN ([c0, c1, c2].getD (Int.toNat 0) 0)); (try (refine hgG ?_; clear hgG gG))
  (try refine opg fun gG hgG => ?_); (obtain ⟨n2, hn2, en2⟩ := firstN ([c0, c1, c2].getD (Int.toNat 1) 0)); (try (refine hgG ?_; clear hgG gG))
  (try refine opg fun gG hgG => ?_); (obtain ⟨look, hlook, elook⟩ := lookN ([c0, c1, c2].getD (Int.toNat 2) 0)); (try (refine hgG ?_; clear hgG gG))
  rename Heap => hq
  obtain ⟨u1, u2, u3, F4, N4⟩ : ∃ u1 u2 u3, Fr mS.heap L' hq (fun y => if y = Str.ofString "look" then some (Value.int (look : Int) u3) else if y = Str.ofString "second" then some (Value.int (n2 : Int) u2) else if y = Str.ofString "first" then some (Value.int (n1 : Int) u1) else if y = Str.ofString "cells" then some (Value.ref lc) else if y = Str.ofString "script" then some (Value.ref l0) else none) ∧
      News mS.heap L' hq [(lc, W.listOf #[Value.int c0 tc0, Value.int c1 tc1, Value.int c2 tc2] nc), (L' + 1, oc)] := ⟨_, _, _, by rw [← en1, ← en2, ← elook]; exact F4, N4⟩
  refine wpC_execs_cons (wpC_mono (Q := fun fl s' => Hide (fl = .next ∧ ∃ dv dl h' tk, DelV dv dl ∧ (dl = none ∨ dl = some n2) ∧ s' = { mS with heap := h', toks := tk } ∧ News mS.heap L' h' [(L' + 1, oc)] ∧ Fr mS.heap L' h' (fun y => if y = Str.ofString "delay" then some dv else if y = Str.ofString "look" then some (Value.int (look : Int) u3) else if y = Str.ofString "second" then some (Value.int (n2 : Int) u2) else if y = Str.ofString "first" then some (Value.int (n1 : Int) u1) else if y = Str.ofString "cells" then some (Value.ref lc) else if y = Str.ofString "script" then some (Value.ref l0) else none))) (wpC_of ?stmt) ?cont (fun _ _ x => x))
  case stmt =>
    refine (let QS : Flow → Shared → Prop := _; (?kS : wpAny _ _ _ QS _ _))
    walk_at "mine steps"
    · rename Fr _ _ _ _ => F5
      rename News _ _ _ _ => N5
      show _ ∧ _
      exact ⟨rfl, .int (n2 : Int) u2, some n2, _, _, rfl, .inr rfl, rfl, news_sub N5 (by first | walk_at "mine sub" | simp), F5⟩
    · rename Fr _ _ _ _ => F5
      rename News _ _ _ _ => N5
      show _ ∧ _
      exact ⟨rfl, .none, none, _, _, trivial, .inl rfl, rfl, news_sub N5 (by first | walk_at "mine sub" | simp), F5⟩
  case cont =>
  rintro fl s' hj2
  (try refine opg fun gG hgG => ?_); (obtain ⟨rfl, dv, dl, h5, tk5, hdv, hdl, rfl, N5, F5⟩ := hj2); (try (refine hgG ?_; clear hgG gG))
  clear en1 en2 elook; (try clear N4); (try clear F4)
  dsimp only
  refine (let mm : Str → Option Value := _; have Fx : Fr _ L' _ mm := F5; ?_); clear F5; rename Fr _ _ _ _ => F5
  have hS : ∀ (b : Option Value) (z : Str → Option Value), (fun y => if y = Str.ofString "one" then b else z y) (Str.ofString "script") = z (Str.ofString "script") := fun b z => rfl
  refine wpC_execs_cons (wpC_of ?_)
  repeat ((fail_if_success (with_reducible show wpAny _ _ (PySem.call (Value.ref 170) _ _) _ _ _)); (first | (k_unfold; (try dsimp only)) | ((try dsimp only); walk1) | (leave1; (try dsimp only))))
  rename Fr _ _ _ _ => F6
  rename News _ _ _ _ => N6
  refine Spec.call (spec_top look n1 hlook hn1.2 _ _ _ _ [Str.ofString "*", Str.ofString "root", Str.ofString "one", Str.ofString "root"] 0 (.int (n1 : Int) u1) (some n1) (.cons _ _ (.cons _ _ (.cons _ _ (.cons _ _ .nil)))) (by show 4 < 1000; decide) rfl) B0 F6 KX N6 T rfl (N6 _ (.head _)).1 (by decide +kernel) (by decide +kernel) fun r h7 tk7 F7 N7 k7 post => ?_
  (try refine opg fun gG hgG => ?_); (obtain ⟨x1, rfl, hx1, hrec1⟩ := post); (try (refine hgG ?_; clear hgG gG))
  replace hrec1 : RecIn w (At h7) (.ref x1) _ := hrec1.mono fun a o q => q.2
  (try refine opg fun gG hgG => ?_); (obtain ⟨tl1, NR1, hrec1, nc1⟩ := hrec1.led2 F7 (fun e => by cases e)); (try (refine hgG ?_; clear hgG gG))
  have N8 := news_app NR1 (news_sub (l' := [(L' + 1, oc)]) N7 (by first | walk_at "mine sub" | simp))
  clear NR1; (try clear F6); (try clear N6); (try clear N7)
  try dsimp only
  walk_at "mine steps"
  try dsimp only
  refine wpC_execs_cons (wpC_of ?_)
  repeat ((fail_if_success (with_reducible show wpAny _ _ (PySem.call (Value.ref 170) _ _) _ _ _)); (first | (k_unfold; (try dsimp only)) | ((try dsimp only); walk1) | (leave1; (try dsimp only))))
  rename Fr _ _ _ _ => F6
  rename News _ _ _ _ => N6
  refine Spec.call (spec_top look n2 hlook hn2.2 _ _ _ _ [Str.ofString "two", Str.ofString "root", Str.ofString "*"] 0 dv dl (.cons _ _ (.cons _ _ (.cons _ _ .nil))) (by show 3 < 1000; decide) hdv) B0 F6 KX N6 T rfl (N6 _ (.head _)).1 (by decide +kernel) (by decide +kernel) fun r h9 tk9 F9 N9 k9 post => ?_
  (try refine opg fun gG hgG => ?_); (obtain ⟨x2, rfl, hx2, hrec2⟩ := post); (try (refine hgG ?_; clear hgG gG))
  replace hrec2 : RecIn w (At h9) (.ref x2) _ := hrec2.mono fun a o q => q.2
  (try refine opg fun gG hgG => ?_); (obtain ⟨tl2, NR2, hrec2, nc2⟩ := hrec2.led2 F9 (fun e => by cases e)); (try (refine hgG ?_; clear hgG gG))
  have N10 := news_app NR2 (news_sub (l' := tl1 ++ [(L' + 1, oc)]) N9 (by intro q hq; exact .tail _ hq))
  clear NR2; (try clear F6); (try clear N6); (try clear N9)
  try dsimp only
  walk_at "mine steps"
  try dsimp only
  refine wpC_execs_cons (wpC_of ?_)
  repeat ((fail_if_success (with_reducible show wpAny _ _ (PySem.call (Value.ref 121) _ _) _ _ _)); (first | (k_unfold; (try dsimp only)) | ((try dsimp only); walk1) | (leave1; (try dsimp only))))
  rename Fr _ _ _ _ => F11
  rename News _ _ _ _ => N11
  have hR1 := hrec1.at F11 (news_sub N11 (by intro q hq; simp [hq]))
  have hR2 := hrec2.at F11 (news_sub N11 (by intro q hq; simp [hq]))
  refine Spec.call (spec_merge x1 x2 _ _ (by show 4 < 1000; decide) (by show 3 < 1000; decide) (rules_len hn1.2 _ _ _) (rules_len hn2.2 _ _ _)) B0 F11 KX N11 T rfl ⟨hR1, hR2⟩ (by decide +kernel) (by decide +kernel) fun r h12 tk12 F12 N12 k12 post => ?_
  (try refine opg fun gG hgG => ?_); (obtain ⟨x3, rfl, hrec3⟩ := post); (try (refine hgG ?_; clear hgG gG))
  (try refine opg fun gG hgG => ?_); (obtain ⟨tl3, NR3, hrec3⟩ := hrec3.led F12 (fun e => by cases e)); (try (refine hgG ?_; clear hgG gG))
  have N13 := news_app NR3 N12
  clear NR3 hR1 hR2; (try clear F11); (try clear N11); (try clear N12)
  try dsimp only
  walk_at "mine steps"
  try dsimp only
  refine wpC_execs_cons (wpC_of ?_)
  repeat ((fail_if_success (with_reducible show wpAny _ _ (PySem.call (Value.ref 121) _ _) _ _ _)); (first | (k_unfold; (try dsimp only)) | ((try dsimp only); walk1) | (leave1; (try dsimp only))))
  rename Fr _ _ _ _ => F11
  rename News _ _ _ _ => N11
  have hR1 := hrec1.at F11 (news_sub N11 (by intro q hq; simp [hq]))
  have hR2 := hrec2.at F11 (news_sub N11 (by intro q hq; simp [hq]))
  refine Spec.call (spec_merge x2 x1 _ _ (by show 3 < 1000; decide) (by show 4 < 1000; decide) (rules_len hn2.2 _ _ _) (rules_len hn1.2 _ _ _)) B0 F11 KX N11 T rfl ⟨hR2, hR1⟩ (by decide +kernel) (by decide +kernel) fun r h14 tk14 F14 N14 k14 post => ?_
  (try refine opg fun gG hgG => ?_); (obtain ⟨x4, rfl, hrec4⟩ := post); (try (refine hgG ?_; clear hgG gG))
  (try refine opg fun gG hgG => ?_); (obtain ⟨tl4, NR4, hrec4⟩ := hrec4.led F14 (fun e => by cases e)); (try (refine hgG ?_; clear hgG gG))
  have N15 := news_app NR4 N14
  clear NR4 hR1 hR2; (try clear F11); (try clear N11); (try clear N14)
  try dsimp only
  walk_at "mine steps"
  try dsimp only
  refine wpC_execs_cons (wpC_Assign_Name (wpC_List ?_))
  rename Fr _ _ _ _ => F16
  rename News _ _ _ _ => N16
  have HA : LineOk (mergeR (topOf n1 [Str.ofString "*", Str.ofString "root", Str.ofString "one", Str.ofString "root"] (some n1) look) (topOf n2 [Str.ofString "two", Str.ofString "root", Str.ofString "*"] dl look)) (lineA n1 n2 dl) := plain_ahead hn1 hn2 hlook hdl
  have HB : LineOk (mergeR (topOf n2 [Str.ofString "two", Str.ofString "root", Str.ofString "*"] dl look) (topOf n1 [Str.ofString "*", Str.ofString "root", Str.ofString "one", Str.ofString "root"] (some n1) look)) (lineB n1 n2) := plain_behind hn1 hn2 hlook hdl
  refine wpC_items_call (wpC_Call_Name (wpC_of ?_))
  walk_at "mine steps"
  refine callWithC_function rfl (wpC_of ?_)
  refine evalArgs_pos ⟨_, _, rfl⟩ ?_
  walk_at "mine steps"
  refine ⟨⟨_, _, F16.keep _ _ (KX 175 _ rfl), rfl⟩, ?_⟩
  refine SpecW.call (line_of HA x3) B0 F16 KX N16 T D0 KtsTurn.refl rfl (hrec3.at F16 (news_sub N16 (by intro q hq; simp [hq]))) (by decide +kernel) (by decide +kernel) fun r h17 tk17 g17 g17' T17 F17 N17 B17 D17 T17' k17 post hnew17 => ?_
  refine p3_4 ?_ post
  (try clear post)
  intro la va na hq5 hla0 hla hva
  subst hq5
  have NT17 : News g17 L' h17 [(la, W.listOf va.toArray na)] := fun q hq => by rw [List.mem_singleton.mp hq]; exact ⟨hla, (hnew17 _ hla0).1, (hnew17 _ hla0).2⟩
  have N18 := news_app NT17 N17
  clear NT17; (try clear F16); (try clear N16); (try clear N17)
  dsimp only
  have X17 := KX.keeps B17.stays
  have P17 := T.keeps B17.stays
  refine wpC_items_call (wpC_Call_Name (wpC_of ?_))
  walk_at "mine steps"
  refine callWithC_function rfl (wpC_of ?_)
  refine evalArgs_pos ⟨_, _, rfl⟩ ?_
  walk_at "mine steps"
  refine ⟨⟨_, _, F17.keep _ _ (X17 175 _ rfl), rfl⟩, ?_⟩
  refine SpecW.call (line_of HB x4) B17 F17 KX N18 T D17 T17 rfl ((hrec4.mono (fun a o q => q.imp (B17.stays a o) id)).at F17 (news_sub N18 (by intro q hq; simp [hq]))) (by decide +kernel) (by decide +kernel) fun r h19 tk19 g19 g19' T19 F19 N19 B19 D19 T19' k19 post hnew19 => ?_
  refine p3_4 ?_ post
  (try clear post)
  intro lb vb nb hq6 hlb0 hlb hvb
  subst hq6
  have NT19 : News g19 L' h19 [(lb, W.listOf vb.toArray nb)] := fun q hq => by rw [List.mem_singleton.mp hq]; exact ⟨hlb, (hnew19 _ hlb0).1, (hnew19 _ hlb0).2⟩
  have N20 := news_app NT19 N19
  have X19 := KX.keeps B19.stays
  have P19 := T.keeps B19.stays
  clear NT19 X17 P17 T17' B17 D17; (try clear F17); (try clear N18); (try clear N19)
  dsimp only
  refine wpC_items_nil ?_
  refine wpC_of ?_
  walk_at "mine steps"
  try dsimp only
  rename Addr => ll
  refine wpC_of ?_
  walk_at "mine steps"
  try dsimp only
  rename Fr _ _ _ _ => F21
  rename News _ _ _ _ => N21
  refine wpC_execs_cons (wpC_mono (Q := fun fl s' => Hide (fl = .next ∧ ∃ tL h' tk, s' = { mS with heap := h', toks := tk } ∧ News g19 L' h' ((ll, W.listOf #[Value.ref la, Value.ref lb] 0) :: ([(lb, W.listOf vb.toArray nb)] ++ ([(la, W.listOf va.toArray na)] ++ (tl4 ++ (tl3 ++ (tl2 ++ (tl1 ++ [(L' + 1, oc)]))))))) ∧ Fr g19 L' h' (fun y => if y = Str.ofString "latest" then some (Value.int ((dl.getD n1 : Nat) : Int) tL) else if y = Str.ofString "lines" then some (Value.ref ll) else if y = Str.ofString "behind" then some (Value.ref x4) else if y = Str.ofString "ahead" then some (Value.ref x3) else if y = Str.ofString "two" then some (Value.ref x2) else if y = Str.ofString "one" then some (Value.ref x1) else if y = Str.ofString "delay" then some dv else if y = Str.ofString "look" then some (Value.int (look : Int) u3) else if y = Str.ofString "second" then some (Value.int (n2 : Int) u2) else if y = Str.ofString "first" then some (Value.int (n1 : Int) u1) else if y = Str.ofString "cells" then some (Value.ref lc) else if y = Str.ofString "script" then some (Value.ref l0) else none))) (wpC_of ?stmt) ?cont (fun _ _ x => x))
  case stmt =>
    refine (let QS : Flow → Shared → Prop := _; (?kS2 : wpAny _ _ _ QS _ _))
    rcases hdl with rfl | rfl
    · cases dv <;> first | exact hdv.elim | skip
      walk_at "mine steps"
      rename Fr _ _ _ _ => F22
      rename News _ _ _ _ => N22
      show _ ∧ _
      exact ⟨rfl, u1, _, _, rfl, N22, F22⟩
    · cases dv <;> first | exact hdv.elim | skip
      walk_at "mine steps"
      rename Fr _ _ _ _ => F22
      rename News _ _ _ _ => N22
      show _ ∧ _
      exact ⟨rfl, u2, _, _, rfl, N22, F22⟩
  case cont =>
  rintro fl s' hj7
  (try refine opg fun gG hgG => ?_); (obtain ⟨rfl, tL, h23, tk23, rfl, N23, F23⟩ := hj7); (try (refine hgG ?_; clear hgG gG))
  (try clear F21); (try clear N21)
  dsimp only
  refine (show LawC w L' fa _ (execs (lawBody w 11) (lawEnv w L' fa _)) (fun fl s' => R (.ok (.ret (match fl with | .ret v => v | _ => .none))) s') { mS with heap := h23, toks := tk23 } from ?_)
  exact law_rest B19 X19 P19 KX T D19 hn1 hn2 hlook hdl HA HB F23 N23 hva hvb (hrec1.mono fun a o q => q.imp (B19.stays a o) id) nc1 (hrec2.mono fun a o q => q.imp (B19.stays a o) id) nc2 (hrec3.mono fun a o q => q.imp (B19.stays a o) id) (hrec4.mono fun a o q => q.imp (B19.stays a o) id) hoc
    fun h' tk' m' F' => hR _ _ (goodW_bool (F := ⟨F'.ns, fun b o e => F'.keep b o (B19.stays b o e), hab⟩) hg (fun _ => rfl) (post_true ns))
end Mine
end
end
theorem PySem.Challenge.cw_jc0012_01_holds : PySem.Challenge.rw_jc0012_01.Holds :=
  Mine.holds0
