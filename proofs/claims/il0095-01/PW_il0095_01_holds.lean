import PyProof.Rows.All
import Wide.All
import OpenK.AllK
import Wide.FinOn
import PyProof.AttrMissHeap
import KE.KDictOf
import KE.KDictList
import KE.KLcPair
import KE.KxStill
import PyProof.StrLawsTight
import Lean
import PySem.Challenge.RW_il0095_01
open PySem PySem.W PySem.Calls PyProof.Rows PyProof.Rows.LCg PyProof.Rows.LCt
set_option Elab.async false
set_option maxRecDepth 100000
set_option linter.unusedVariables false
set_option linter.unusedSimpArgs false
set_option maxHeartbeats 1000000
local macro_rules | `(tactic| walk_at $s:str) => `(tactic| k_extra $s)
local macro_rules | `(tactic| k_qdec) => `(tactic| decide +kernel)
namespace Mine
theorem rm0 {x r D : Nat} (h : x + D < r) : x < r := Nat.lt_of_le_of_lt (Nat.le_add_right x D) h
theorem rm1 {x r a D : Nat} (h : x + D < r) (e : Nat.ble a D = true) : x + a < r := Nat.lt_of_le_of_lt (Nat.add_le_add_left (Nat.le_of_ble_eq_true e) x) h
theorem rm2 {x r a b D : Nat} (h : x + D < r) (e : Nat.ble (a + b) D = true) : x + a + b < r := by rw [Nat.add_assoc]; exact rm1 h e
theorem rm3 {x r a b c D : Nat} (h : x + D < r) (e : Nat.ble (a + b + c) D = true) : x + a + b + c < r := by rw [Nat.add_assoc, Nat.add_assoc, ← Nat.add_assoc a]; exact rm1 h e
theorem exE1 {α1 : Type} {P : α1 → Prop} {G : Prop} (h : ∃ a1, P a1) (g : ∀ a1, P a1 → G) : G := h.elim g
theorem exI1 {α1 : Type} {P : α1 → Prop} (a1 : α1) (h : P a1) : ∃ a1, P a1 := ⟨a1, h⟩
theorem exE2 {α1 α2 : Type} {P : α1 → α2 → Prop} {G : Prop} (h : ∃ a1 a2, P a1 a2) (g : ∀ a1 a2, P a1 a2 → G) : G := h.elim fun a h => exE1 h (g a)
theorem exI2 {α1 α2 : Type} {P : α1 → α2 → Prop} (a1 : α1) (a2 : α2) (h : P a1 a2) : ∃ a1 a2, P a1 a2 := ⟨a1, exI1 a2 h⟩
theorem exE3 {α1 α2 α3 : Type} {P : α1 → α2 → α3 → Prop} {G : Prop} (h : ∃ a1 a2 a3, P a1 a2 a3) (g : ∀ a1 a2 a3, P a1 a2 a3 → G) : G := h.elim fun a h => exE2 h (g a)
theorem exI3 {α1 α2 α3 : Type} {P : α1 → α2 → α3 → Prop} (a1 : α1) (a2 : α2) (a3 : α3) (h : P a1 a2 a3) : ∃ a1 a2 a3, P a1 a2 a3 := ⟨a1, exI2 a2 a3 h⟩
theorem exE4 {α1 α2 α3 α4 : Type} {P : α1 → α2 → α3 → α4 → Prop} {G : Prop} (h : ∃ a1 a2 a3 a4, P a1 a2 a3 a4) (g : ∀ a1 a2 a3 a4, P a1 a2 a3 a4 → G) : G := h.elim fun a h => exE3 h (g a)
theorem exI4 {α1 α2 α3 α4 : Type} {P : α1 → α2 → α3 → α4 → Prop} (a1 : α1) (a2 : α2) (a3 : α3) (a4 : α4) (h : P a1 a2 a3 a4) : ∃ a1 a2 a3 a4, P a1 a2 a3 a4 := ⟨a1, exI3 a2 a3 a4 h⟩
theorem exE5 {α1 α2 α3 α4 α5 : Type} {P : α1 → α2 → α3 → α4 → α5 → Prop} {G : Prop} (h : ∃ a1 a2 a3 a4 a5, P a1 a2 a3 a4 a5) (g : ∀ a1 a2 a3 a4 a5, P a1 a2 a3 a4 a5 → G) : G := h.elim fun a h => exE4 h (g a)
theorem exI5 {α1 α2 α3 α4 α5 : Type} {P : α1 → α2 → α3 → α4 → α5 → Prop} (a1 : α1) (a2 : α2) (a3 : α3) (a4 : α4) (a5 : α5) (h : P a1 a2 a3 a4 a5) : ∃ a1 a2 a3 a4 a5, P a1 a2 a3 a4 a5 := ⟨a1, exI4 a2 a3 a4 a5 h⟩
theorem exE6 {α1 α2 α3 α4 α5 α6 : Type} {P : α1 → α2 → α3 → α4 → α5 → α6 → Prop} {G : Prop} (h : ∃ a1 a2 a3 a4 a5 a6, P a1 a2 a3 a4 a5 a6) (g : ∀ a1 a2 a3 a4 a5 a6, P a1 a2 a3 a4 a5 a6 → G) : G := h.elim fun a h => exE5 h (g a)
theorem exI6 {α1 α2 α3 α4 α5 α6 : Type} {P : α1 → α2 → α3 → α4 → α5 → α6 → Prop} (a1 : α1) (a2 : α2) (a3 : α3) (a4 : α4) (a5 : α5) (a6 : α6) (h : P a1 a2 a3 a4 a5 a6) : ∃ a1 a2 a3 a4 a5 a6, P a1 a2 a3 a4 a5 a6 := ⟨a1, exI5 a2 a3 a4 a5 a6 h⟩
theorem exE7 {α1 α2 α3 α4 α5 α6 α7 : Type} {P : α1 → α2 → α3 → α4 → α5 → α6 → α7 → Prop} {G : Prop} (h : ∃ a1 a2 a3 a4 a5 a6 a7, P a1 a2 a3 a4 a5 a6 a7) (g : ∀ a1 a2 a3 a4 a5 a6 a7, P a1 a2 a3 a4 a5 a6 a7 → G) : G := h.elim fun a h => exE6 h (g a)
theorem exI7 {α1 α2 α3 α4 α5 α6 α7 : Type} {P : α1 → α2 → α3 → α4 → α5 → α6 → α7 → Prop} (a1 : α1) (a2 : α2) (a3 : α3) (a4 : α4) (a5 : α5) (a6 : α6) (a7 : α7) (h : P a1 a2 a3 a4 a5 a6 a7) : ∃ a1 a2 a3 a4 a5 a6 a7, P a1 a2 a3 a4 a5 a6 a7 := ⟨a1, exI6 a2 a3 a4 a5 a6 a7 h⟩
theorem exE8 {α1 α2 α3 α4 α5 α6 α7 α8 : Type} {P : α1 → α2 → α3 → α4 → α5 → α6 → α7 → α8 → Prop} {G : Prop} (h : ∃ a1 a2 a3 a4 a5 a6 a7 a8, P a1 a2 a3 a4 a5 a6 a7 a8) (g : ∀ a1 a2 a3 a4 a5 a6 a7 a8, P a1 a2 a3 a4 a5 a6 a7 a8 → G) : G := h.elim fun a h => exE7 h (g a)
theorem exI8 {α1 α2 α3 α4 α5 α6 α7 α8 : Type} {P : α1 → α2 → α3 → α4 → α5 → α6 → α7 → α8 → Prop} (a1 : α1) (a2 : α2) (a3 : α3) (a4 : α4) (a5 : α5) (a6 : α6) (a7 : α7) (a8 : α8) (h : P a1 a2 a3 a4 a5 a6 a7 a8) : ∃ a1 a2 a3 a4 a5 a6 a7 a8, P a1 a2 a3 a4 a5 a6 a7 a8 := ⟨a1, exI7 a2 a3 a4 a5 a6 a7 a8 h⟩
theorem exE9 {α1 α2 α3 α4 α5 α6 α7 α8 α9 : Type} {P : α1 → α2 → α3 → α4 → α5 → α6 → α7 → α8 → α9 → Prop} {G : Prop} (h : ∃ a1 a2 a3 a4 a5 a6 a7 a8 a9, P a1 a2 a3 a4 a5 a6 a7 a8 a9) (g : ∀ a1 a2 a3 a4 a5 a6 a7 a8 a9, P a1 a2 a3 a4 a5 a6 a7 a8 a9 → G) : G := h.elim fun a h => exE8 h (g a)
theorem exI9 {α1 α2 α3 α4 α5 α6 α7 α8 α9 : Type} {P : α1 → α2 → α3 → α4 → α5 → α6 → α7 → α8 → α9 → Prop} (a1 : α1) (a2 : α2) (a3 : α3) (a4 : α4) (a5 : α5) (a6 : α6) (a7 : α7) (a8 : α8) (a9 : α9) (h : P a1 a2 a3 a4 a5 a6 a7 a8 a9) : ∃ a1 a2 a3 a4 a5 a6 a7 a8 a9, P a1 a2 a3 a4 a5 a6 a7 a8 a9 := ⟨a1, exI8 a2 a3 a4 a5 a6 a7 a8 a9 h⟩
theorem exE10 {α1 α2 α3 α4 α5 α6 α7 α8 α9 α10 : Type} {P : α1 → α2 → α3 → α4 → α5 → α6 → α7 → α8 → α9 → α10 → Prop} {G : Prop} (h : ∃ a1 a2 a3 a4 a5 a6 a7 a8 a9 a10, P a1 a2 a3 a4 a5 a6 a7 a8 a9 a10) (g : ∀ a1 a2 a3 a4 a5 a6 a7 a8 a9 a10, P a1 a2 a3 a4 a5 a6 a7 a8 a9 a10 → G) : G := h.elim fun a h => exE9 h (g a)
theorem exI10 {α1 α2 α3 α4 α5 α6 α7 α8 α9 α10 : Type} {P : α1 → α2 → α3 → α4 → α5 → α6 → α7 → α8 → α9 → α10 → Prop} (a1 : α1) (a2 : α2) (a3 : α3) (a4 : α4) (a5 : α5) (a6 : α6) (a7 : α7) (a8 : α8) (a9 : α9) (a10 : α10) (h : P a1 a2 a3 a4 a5 a6 a7 a8 a9 a10) : ∃ a1 a2 a3 a4 a5 a6 a7 a8 a9 a10, P a1 a2 a3 a4 a5 a6 a7 a8 a9 a10 := ⟨a1, exI9 a2 a3 a4 a5 a6 a7 a8 a9 a10 h⟩
theorem exE11 {α1 α2 α3 α4 α5 α6 α7 α8 α9 α10 α11 : Type} {P : α1 → α2 → α3 → α4 → α5 → α6 → α7 → α8 → α9 → α10 → α11 → Prop} {G : Prop} (h : ∃ a1 a2 a3 a4 a5 a6 a7 a8 a9 a10 a11, P a1 a2 a3 a4 a5 a6 a7 a8 a9 a10 a11) (g : ∀ a1 a2 a3 a4 a5 a6 a7 a8 a9 a10 a11, P a1 a2 a3 a4 a5 a6 a7 a8 a9 a10 a11 → G) : G := h.elim fun a h => exE10 h (g a)
theorem exE12 {α1 α2 α3 α4 α5 α6 α7 α8 α9 α10 α11 α12 : Type} {P : α1 → α2 → α3 → α4 → α5 → α6 → α7 → α8 → α9 → α10 → α11 → α12 → Prop} {G : Prop} (h : ∃ a1 a2 a3 a4 a5 a6 a7 a8 a9 a10 a11 a12, P a1 a2 a3 a4 a5 a6 a7 a8 a9 a10 a11 a12) (g : ∀ a1 a2 a3 a4 a5 a6 a7 a8 a9 a10 a11 a12, P a1 a2 a3 a4 a5 a6 a7 a8 a9 a10 a11 a12 → G) : G := h.elim fun a h => exE11 h (g a)
theorem andE2 {p1 p2 G : Prop} (h : p1 ∧ p2) (g : p1 → p2 → G) : G := g h.1 h.2
theorem andI2 {p1 p2 : Prop} (h1 : p1) (h2 : p2) : p1 ∧ p2 := ⟨h1, h2⟩
theorem andE3 {p1 p2 p3 G : Prop} (h : p1 ∧ p2 ∧ p3) (g : p1 → p2 → p3 → G) : G := andE2 h.2 (g h.1)
theorem andI3 {p1 p2 p3 : Prop} (h1 : p1) (h2 : p2) (h3 : p3) : p1 ∧ p2 ∧ p3 := ⟨h1, andI2 h2 h3⟩
theorem andE4 {p1 p2 p3 p4 G : Prop} (h : p1 ∧ p2 ∧ p3 ∧ p4) (g : p1 → p2 → p3 → p4 → G) : G := andE3 h.2 (g h.1)
theorem andI4 {p1 p2 p3 p4 : Prop} (h1 : p1) (h2 : p2) (h3 : p3) (h4 : p4) : p1 ∧ p2 ∧ p3 ∧ p4 := ⟨h1, andI3 h2 h3 h4⟩
theorem andE5 {p1 p2 p3 p4 p5 G : Prop} (h : p1 ∧ p2 ∧ p3 ∧ p4 ∧ p5) (g : p1 → p2 → p3 → p4 → p5 → G) : G := andE4 h.2 (g h.1)
theorem andI5 {p1 p2 p3 p4 p5 : Prop} (h1 : p1) (h2 : p2) (h3 : p3) (h4 : p4) (h5 : p5) : p1 ∧ p2 ∧ p3 ∧ p4 ∧ p5 := ⟨h1, andI4 h2 h3 h4 h5⟩
theorem andE6 {p1 p2 p3 p4 p5 p6 G : Prop} (h : p1 ∧ p2 ∧ p3 ∧ p4 ∧ p5 ∧ p6) (g : p1 → p2 → p3 → p4 → p5 → p6 → G) : G := andE5 h.2 (g h.1)
theorem andI6 {p1 p2 p3 p4 p5 p6 : Prop} (h1 : p1) (h2 : p2) (h3 : p3) (h4 : p4) (h5 : p5) (h6 : p6) : p1 ∧ p2 ∧ p3 ∧ p4 ∧ p5 ∧ p6 := ⟨h1, andI5 h2 h3 h4 h5 h6⟩
theorem andE7 {p1 p2 p3 p4 p5 p6 p7 G : Prop} (h : p1 ∧ p2 ∧ p3 ∧ p4 ∧ p5 ∧ p6 ∧ p7) (g : p1 → p2 → p3 → p4 → p5 → p6 → p7 → G) : G := andE6 h.2 (g h.1)
theorem andI7 {p1 p2 p3 p4 p5 p6 p7 : Prop} (h1 : p1) (h2 : p2) (h3 : p3) (h4 : p4) (h5 : p5) (h6 : p6) (h7 : p7) : p1 ∧ p2 ∧ p3 ∧ p4 ∧ p5 ∧ p6 ∧ p7 := ⟨h1, andI6 h2 h3 h4 h5 h6 h7⟩
theorem andE8 {p1 p2 p3 p4 p5 p6 p7 p8 G : Prop} (h : p1 ∧ p2 ∧ p3 ∧ p4 ∧ p5 ∧ p6 ∧ p7 ∧ p8) (g : p1 → p2 → p3 → p4 → p5 → p6 → p7 → p8 → G) : G := andE7 h.2 (g h.1)
theorem andI8 {p1 p2 p3 p4 p5 p6 p7 p8 : Prop} (h1 : p1) (h2 : p2) (h3 : p3) (h4 : p4) (h5 : p5) (h6 : p6) (h7 : p7) (h8 : p8) : p1 ∧ p2 ∧ p3 ∧ p4 ∧ p5 ∧ p6 ∧ p7 ∧ p8 := ⟨h1, andI7 h2 h3 h4 h5 h6 h7 h8⟩
theorem andE9 {p1 p2 p3 p4 p5 p6 p7 p8 p9 G : Prop} (h : p1 ∧ p2 ∧ p3 ∧ p4 ∧ p5 ∧ p6 ∧ p7 ∧ p8 ∧ p9) (g : p1 → p2 → p3 → p4 → p5 → p6 → p7 → p8 → p9 → G) : G := andE8 h.2 (g h.1)
theorem andI9 {p1 p2 p3 p4 p5 p6 p7 p8 p9 : Prop} (h1 : p1) (h2 : p2) (h3 : p3) (h4 : p4) (h5 : p5) (h6 : p6) (h7 : p7) (h8 : p8) (h9 : p9) : p1 ∧ p2 ∧ p3 ∧ p4 ∧ p5 ∧ p6 ∧ p7 ∧ p8 ∧ p9 := ⟨h1, andI8 h2 h3 h4 h5 h6 h7 h8 h9⟩
theorem andE10 {p1 p2 p3 p4 p5 p6 p7 p8 p9 p10 G : Prop} (h : p1 ∧ p2 ∧ p3 ∧ p4 ∧ p5 ∧ p6 ∧ p7 ∧ p8 ∧ p9 ∧ p10) (g : p1 → p2 → p3 → p4 → p5 → p6 → p7 → p8 → p9 → p10 → G) : G := andE9 h.2 (g h.1)
theorem andI10 {p1 p2 p3 p4 p5 p6 p7 p8 p9 p10 : Prop} (h1 : p1) (h2 : p2) (h3 : p3) (h4 : p4) (h5 : p5) (h6 : p6) (h7 : p7) (h8 : p8) (h9 : p9) (h10 : p10) : p1 ∧ p2 ∧ p3 ∧ p4 ∧ p5 ∧ p6 ∧ p7 ∧ p8 ∧ p9 ∧ p10 := ⟨h1, andI9 h2 h3 h4 h5 h6 h7 h8 h9 h10⟩
theorem andE11 {p1 p2 p3 p4 p5 p6 p7 p8 p9 p10 p11 G : Prop} (h : p1 ∧ p2 ∧ p3 ∧ p4 ∧ p5 ∧ p6 ∧ p7 ∧ p8 ∧ p9 ∧ p10 ∧ p11) (g : p1 → p2 → p3 → p4 → p5 → p6 → p7 → p8 → p9 → p10 → p11 → G) : G := andE10 h.2 (g h.1)
theorem andI11 {p1 p2 p3 p4 p5 p6 p7 p8 p9 p10 p11 : Prop} (h1 : p1) (h2 : p2) (h3 : p3) (h4 : p4) (h5 : p5) (h6 : p6) (h7 : p7) (h8 : p8) (h9 : p9) (h10 : p10) (h11 : p11) : p1 ∧ p2 ∧ p3 ∧ p4 ∧ p5 ∧ p6 ∧ p7 ∧ p8 ∧ p9 ∧ p10 ∧ p11 := ⟨h1, andI10 h2 h3 h4 h5 h6 h7 h8 h9 h10 h11⟩
theorem andE12 {p1 p2 p3 p4 p5 p6 p7 p8 p9 p10 p11 p12 G : Prop} (h : p1 ∧ p2 ∧ p3 ∧ p4 ∧ p5 ∧ p6 ∧ p7 ∧ p8 ∧ p9 ∧ p10 ∧ p11 ∧ p12) (g : p1 → p2 → p3 → p4 → p5 → p6 → p7 → p8 → p9 → p10 → p11 → p12 → G) : G := andE11 h.2 (g h.1)
theorem andI12 {p1 p2 p3 p4 p5 p6 p7 p8 p9 p10 p11 p12 : Prop} (h1 : p1) (h2 : p2) (h3 : p3) (h4 : p4) (h5 : p5) (h6 : p6) (h7 : p7) (h8 : p8) (h9 : p9) (h10 : p10) (h11 : p11) (h12 : p12) : p1 ∧ p2 ∧ p3 ∧ p4 ∧ p5 ∧ p6 ∧ p7 ∧ p8 ∧ p9 ∧ p10 ∧ p11 ∧ p12 := ⟨h1, andI11 h2 h3 h4 h5 h6 h7 h8 h9 h10 h11 h12⟩
theorem andE13 {p1 p2 p3 p4 p5 p6 p7 p8 p9 p10 p11 p12 p13 G : Prop} (h : p1 ∧ p2 ∧ p3 ∧ p4 ∧ p5 ∧ p6 ∧ p7 ∧ p8 ∧ p9 ∧ p10 ∧ p11 ∧ p12 ∧ p13) (g : p1 → p2 → p3 → p4 → p5 → p6 → p7 → p8 → p9 → p10 → p11 → p12 → p13 → G) : G := andE12 h.2 (g h.1)
theorem andI13 {p1 p2 p3 p4 p5 p6 p7 p8 p9 p10 p11 p12 p13 : Prop} (h1 : p1) (h2 : p2) (h3 : p3) (h4 : p4) (h5 : p5) (h6 : p6) (h7 : p7) (h8 : p8) (h9 : p9) (h10 : p10) (h11 : p11) (h12 : p12) (h13 : p13) : p1 ∧ p2 ∧ p3 ∧ p4 ∧ p5 ∧ p6 ∧ p7 ∧ p8 ∧ p9 ∧ p10 ∧ p11 ∧ p12 ∧ p13 := ⟨h1, andI12 h2 h3 h4 h5 h6 h7 h8 h9 h10 h11 h12 h13⟩
structure Hid (p : Prop) : Prop where
  out : p
example : True := by
  k_with "omx" => (first | with_reducible assumption | lia | omega)
  trivial

example : True := by
  k_with "c_room1" => (first | exact Nat.le_of_ble_eq_true rfl | (rename (_ + _ < recursionLimit) => hR9; first | exact rm0 hR9 | exact rm1 hR9 rfl | exact rm2 hR9 rfl | exact rm3 hR9 rfl))
  trivial

example : True := by
  k_with "c_units1" => (first | exact Nat.le_of_ble_eq_true rfl | (rename (_ + _ < cLine) => hR9; first | exact rm0 hR9 | exact rm1 hR9 rfl | exact rm2 hR9 rfl | exact rm3 hR9 rfl))
  trivial

noncomputable def Held (p : Prop) : Prop := p
theorem held_out {p : Prop} (h : Held p) : p := h
theorem held_in {p : Prop} (h : p) : Held p := h
section
variable {α β γ : Type} {prog : Program} {w : World} {A : Around} {E E' : Value → Shared → Prop} {s : Shared}
theorem absJ3 {G : Prop} (J₀ : α → β → γ → Prop) (h : ∀ J : α → β → γ → Prop, (∀ a b c, J a b c → J₀ a b c) → (∀ a b c, J₀ a b c → J a b c) → G) : G := h J₀ (fun _ _ _ h => h) (fun _ _ _ h => h)
theorem opq {c : Sem α} {Q : α → Shared → Prop} (h : ∀ Q' : α → Shared → Prop, (∀ v s, Q v s → Q' v s) → wpAny (model prog w) A c Q' E s) : wpAny (model prog w) A c Q E s := h Q fun _ _ h => h
theorem opqT {c : Sem α} {d : Sem β} {Q : β → Shared → Prop} (h : ∀ Q' : β → Shared → Prop, (∀ v s, Q v s → Q' v s) → wpAny (model prog w) A c (fun _ s₂ => wpAny (model prog w) A d Q' E' s₂) E s) :
    wpAny (model prog w) A c (fun _ s₂ => wpAny (model prog w) A d Q E' s₂) E s := h Q fun _ _ h => h
theorem opqC {c : Sem Bool} {d : Sem α} {Q : α → Shared → Prop} {P : Shared → Prop} (h : ∀ (Q' : α → Shared → Prop) (P' : Shared → Prop), (∀ v s, Q v s → Q' v s) → (∀ s, P s → P' s) → wpAny (model prog w) A c (fun ok s₂ => if ok = true then wpAny (model prog w) A d Q' E' s₂ else P' s₂) E s) :
    wpAny (model prog w) A c (fun ok s₂ => if ok = true then wpAny (model prog w) A d Q E' s₂ else P s₂) E s := h Q P (fun _ _ h => h) fun _ h => h
theorem opqW {c : Sem Bool} {d e : Sem Flow} {Q P : Flow → Shared → Prop} (h : ∀ Q' P' : Flow → Shared → Prop, (∀ v s, Q v s → Q' v s) → (∀ v s, P v s → P' v s) → wpAny (model prog w) A c (fun b s₂ => WhlIf b (wpAny (model prog w) A d Q' E' s₂) (wpAny (model prog w) A e P' E' s₂)) E s) :
    wpAny (model prog w) A c (fun b s₂ => WhlIf b (wpAny (model prog w) A d Q E' s₂) (wpAny (model prog w) A e P E' s₂)) E s := h Q P (fun _ _ h => h) fun _ _ h => h
end
noncomputable abbrev pw : Program := PySem.Challenge.pw_il0095_01
noncomputable def topS (i : Nat) : Stmt := (PySem.Challenge.pw_il0095_01.main.body[i]?).getD (.Pass default)
noncomputable def clsS (i j : Nat) : Stmt := match topS i with
  | .ClassDef _ _ _ b _ _ _ _ _ _ _ => (b[j]?).getD (.Pass default)
  | s => s
noncomputable def fd (s : Stmt) (qual : Str) (g : Addr) (df kd dc pm cd ct : Value) (b : Addr) : Data := match s with
  | .FunctionDef n a body _ _ _ sc _ _ _ => .func { name := n, qualname := qual, params := a, body := .stmts body, scope := sc, globals := g, closure := [], defaults := df, kwdefaults := kd, doc := dc, pyModule := pm, annotations := none, code := cd, closureTuple := ct, builtins := b }
  | _ => .plain
noncomputable def en (P : Params) (k : Str) (t : Tok) (v : Value) : DictEntry := ⟨PyData.keyHash P k, .str k t, v⟩
set_option linter.unusedVariables false
noncomputable def o0 (P : Params) : Obj := ⟨.type "dict", none, (.dict #[en P "__name__" 1 (.str "builtins" 160), en P "__doc__" 2 (.builtin "builtins.__doc__:str#opaque"), en P "__package__" 3 (.builtin "builtins.__package__:str#opaque"), en P "__loader__" 4 (.builtin "builtins.__loader__:shared#opaque"), en P "__spec__" 5 (.builtin "builtins.__spec__#opaque"), en P "__build_class__" 6 (.builtin "__build_class__"), en P "__import__" 7 (.builtin "__import__"), en P "abs" 8 (.builtin "abs"), en P "all" 9 (.builtin "all"), en P "any" 10 (.builtin "any"), en P "ascii" 11 (.builtin "ascii"), en P "bin" 12 (.builtin "bin"), en P "breakpoint" 13 (.builtin "breakpoint"), en P "callable" 14 (.builtin "callable"), en P "chr" 15 (.builtin "chr"), en P "compile" 16 (.builtin "compile"), en P "delattr" 17 (.builtin "delattr"), en P "dir" 18 (.builtin "dir"), en P "divmod" 19 (.builtin "divmod"), en P "eval" 20 (.builtin "eval"), en P "exec" 21 (.builtin "exec"), en P "format" 22 (.builtin "format"), en P "getattr" 23 (.builtin "getattr"), en P "globals" 24 (.builtin "globals"), en P "hasattr" 25 (.builtin "hasattr"), en P "hash" 26 (.builtin "hash"), en P "hex" 27 (.builtin "hex"), en P "id" 28 (.builtin "id"), en P "input" 29 (.builtin "input"), en P "isinstance" 30 (.builtin "isinstance"), en P "issubclass" 31 (.builtin "issubclass"), en P "iter" 32 (.builtin "iter"), en P "aiter" 33 (.builtin "aiter"), en P "len" 34 (.builtin "len"), en P "locals" 35 (.builtin "locals"), en P "max" 36 (.builtin "max"), en P "min" 37 (.builtin "min"), en P "next" 38 (.builtin "next"), en P "anext" 39 (.builtin "anext"), en P "oct" 40 (.builtin "oct"), en P "ord" 41 (.builtin "ord"), en P "pow" 42 (.builtin "pow"), en P "print" 43 (.builtin "print"), en P "repr" 44 (.builtin "repr"), en P "round" 45 (.builtin "round"), en P "setattr" 46 (.builtin "setattr"), en P "sorted" 47 (.builtin "sorted"), en P "sum" 48 (.builtin "sum"), en P "vars" 49 (.builtin "vars"), en P "None" 50 (.none), en P "Ellipsis" 51 (.ellipsis), en P "NotImplemented" 52 (.notImplemented), en P "False" 53 (.bool false), en P "True" 54 (.bool true), en P "bool" 55 (.type "bool"), en P "memoryview" 56 (.type "memoryview"), en P "bytearray" 57 (.type "bytearray"), en P "bytes" 58 (.type "bytes"), en P "classmethod" 59 (.type "classmethod"), en P "complex" 60 (.type "complex"), en P "dict" 61 (.type "dict"), en P "enumerate" 62 (.type "enumerate"), en P "filter" 63 (.type "filter"), en P "float" 64 (.type "float"), en P "frozenset" 65 (.type "frozenset"), en P "property" 66 (.type "property"), en P "int" 67 (.type "int"), en P "list" 68 (.type "list"), en P "map" 69 (.type "map"), en P "object" 70 (.type "object"), en P "range" 71 (.type "range"), en P "reversed" 72 (.type "reversed"), en P "set" 73 (.type "set"), en P "slice" 74 (.type "slice"), en P "staticmethod" 75 (.type "staticmethod"), en P "str" 76 (.type "str"), en P "super" 77 (.type "super"), en P "tuple" 78 (.type "tuple"), en P "type" 79 (.type "type"), en P "zip" 80 (.type "zip"), en P "__debug__" 81 (.bool true), en P "BaseException" 82 (.type "BaseException"), en P "BaseExceptionGroup" 83 (.type "BaseExceptionGroup"), en P "Exception" 84 (.type "Exception"), en P "GeneratorExit" 85 (.type "GeneratorExit"), en P "KeyboardInterrupt" 86 (.type "KeyboardInterrupt"), en P "SystemExit" 87 (.type "SystemExit"), en P "ArithmeticError" 88 (.type "ArithmeticError"), en P "AssertionError" 89 (.type "AssertionError"), en P "AttributeError" 90 (.type "AttributeError"), en P "BufferError" 91 (.type "BufferError"), en P "EOFError" 92 (.type "EOFError"), en P "ImportError" 93 (.type "ImportError"), en P "LookupError" 94 (.type "LookupError"), en P "MemoryError" 95 (.type "MemoryError"), en P "NameError" 96 (.type "NameError"), en P "OSError" 97 (.type "OSError"), en P "ReferenceError" 98 (.type "ReferenceError"), en P "RuntimeError" 99 (.type "RuntimeError"), en P "StopAsyncIteration" 100 (.type "StopAsyncIteration"), en P "StopIteration" 101 (.type "StopIteration"), en P "SyntaxError" 102 (.type "SyntaxError"), en P "SystemError" 103 (.type "SystemError"), en P "TypeError" 104 (.type "TypeError"), en P "ValueError" 105 (.type "ValueError"), en P "Warning" 106 (.type "Warning"), en P "FloatingPointError" 107 (.type "FloatingPointError"), en P "OverflowError" 108 (.type "OverflowError"), en P "ZeroDivisionError" 109 (.type "ZeroDivisionError"), en P "BytesWarning" 110 (.type "BytesWarning"), en P "DeprecationWarning" 111 (.type "DeprecationWarning"), en P "EncodingWarning" 112 (.type "EncodingWarning"), en P "FutureWarning" 113 (.type "FutureWarning"), en P "ImportWarning" 114 (.type "ImportWarning"), en P "PendingDeprecationWarning" 115 (.type "PendingDeprecationWarning"), en P "ResourceWarning" 116 (.type "ResourceWarning"), en P "RuntimeWarning" 117 (.type "RuntimeWarning"), en P "SyntaxWarning" 118 (.type "SyntaxWarning"), en P "UnicodeWarning" 119 (.type "UnicodeWarning"), en P "UserWarning" 120 (.type "UserWarning"), en P "BlockingIOError" 121 (.type "BlockingIOError"), en P "ChildProcessError" 122 (.type "ChildProcessError"), en P "ConnectionError" 123 (.type "ConnectionError"), en P "FileExistsError" 124 (.type "FileExistsError"), en P "FileNotFoundError" 125 (.type "FileNotFoundError"), en P "InterruptedError" 126 (.type "InterruptedError"), en P "IsADirectoryError" 127 (.type "IsADirectoryError"), en P "NotADirectoryError" 128 (.type "NotADirectoryError"), en P "PermissionError" 129 (.type "PermissionError"), en P "ProcessLookupError" 130 (.type "ProcessLookupError"), en P "TimeoutError" 131 (.type "TimeoutError"), en P "IndentationError" 132 (.type "IndentationError"), en P "_IncompleteInputError" 133 (.type "_IncompleteInputError"), en P "IndexError" 134 (.type "IndexError"), en P "KeyError" 135 (.type "KeyError"), en P "ModuleNotFoundError" 136 (.type "ModuleNotFoundError"), en P "NotImplementedError" 137 (.type "NotImplementedError"), en P "PythonFinalizationError" 138 (.type "PythonFinalizationError"), en P "RecursionError" 139 (.type "RecursionError"), en P "UnboundLocalError" 140 (.type "UnboundLocalError"), en P "UnicodeError" 141 (.type "UnicodeError"), en P "BrokenPipeError" 142 (.type "BrokenPipeError"), en P "ConnectionAbortedError" 143 (.type "ConnectionAbortedError"), en P "ConnectionRefusedError" 144 (.type "ConnectionRefusedError"), en P "ConnectionResetError" 145 (.type "ConnectionResetError"), en P "TabError" 146 (.type "TabError"), en P "UnicodeDecodeError" 147 (.type "UnicodeDecodeError"), en P "UnicodeEncodeError" 148 (.type "UnicodeEncodeError"), en P "UnicodeTranslateError" 149 (.type "UnicodeTranslateError"), en P "ExceptionGroup" 150 (.type "ExceptionGroup"), en P "EnvironmentError" 151 (.type "OSError"), en P "IOError" 152 (.type "OSError"), en P "open" 153 (.builtin "open"), en P "quit" 154 (.builtin "builtins.quit#opaque"), en P "exit" 155 (.builtin "builtins.exit#opaque"), en P "copyright" 156 (.builtin "builtins.copyright#opaque"), en P "credits" 157 (.builtin "builtins.credits#opaque"), en P "license" 158 (.builtin "builtins.license#opaque"), en P "help" 159 (.builtin "builtins.help#opaque")] 159), #[]⟩
noncomputable def o1 (P : Params) : Obj := ⟨.type "dict", none, (.dict #[en P "builtins" 162 (.ref 4), en P "__main__" 163 (.ref 5), en P "_sre" 244 (.ref 12)] 3), #[]⟩
noncomputable def o2 (P : Params) : Obj := ⟨.none, none, (.dict #[en P "\x69mport.loaded._sre" 183 (.bool true), en P "class._frozen_importlib.BuiltinImporter" 185 (.ref 14), en P "watched.\x69mport" 206 (.ref 18), en P "class._frozen_importlib.ModuleSpec" 216 (.ref 22), en P "sys.modules.booked-epoch" 245 (.int 3 0), en P "\x69mport.later-laid._sre" 270 (.bool true), en P "watched.library" 272 (.ref 27), en P "watched.library-objects" 0 (.str ⟨#[12]⟩ 0), en P "watched.library-deep._sre" 273 (.str ⟨#[4, 0, 0, 11, 4, 0, 0, 11, 4, 0, 0, 3, 4, 0, 0, 11, 8, 4, 100, 105, 99, 116, 2]⟩ 0)] 9), #[]⟩
noncomputable def o3 (P : Params) : Obj := ⟨.type "dict", none, (.dict #[en P "__name__" 165 (.str "law_il0095_01" 758), en P "__doc__" 166 (.none), en P "__package__" 167 (.none), en P "__loader__" 168 (.builtin "__main__.__loader__#opaque"), en P "__spec__" 169 (.none), en P "__annotations__" 170 (.ref 6), en P "__builtins__" 171 (.ref 4), en P "__file__" 173 (.str "/claim/cut.py" 172), en P "__cached__" 174 (.none), en P "_sre" 275 (.ref 12), en P "_wall" 288 (.ref 38), en P "tspecials" 324 (.ref 43), en P "_name_disallowed_re" 350 (.ref 48), en P "_value_disallowed_re" 384 (.ref 53), en P "_formatparam" 394 (.ref 61), en P "Headers" 551 (.ref 182), en P "heappush" 561 (.ref 193), en P "heappop" 570 (.ref 200), en P "_siftdown" 582 (.ref 207), en P "_siftup" 595 (.ref 214), en P "_plain_name" 606 (.ref 221), en P "ABCMeta" 632 (.ref 238), en P "_ABCLike" 675 (.ref 271), en P "_abc_plain_meta" 682 (.ref 280), en P "fspath" 694 (.ref 287), en P "_check_arg_types" 707 (.ref 294), en P "_get_sep" 716 (.ref 301), en P "join" 727 (.ref 308), en P "splitroot" 736 (.ref 315), en P "normpath" 751 (.ref 322), en P "commonpath" 757 (.ref 327), en P "_law_over" 768 (.ref 334), en P "_law_places" 777 (.ref 341), en P "_law_links" 787 (.ref 348), en P "_law_neighbours" 793 (.ref 353), en P "_law_carry" 807 (.ref 360), en P "_law_lesser_sides" 813 (.ref 365), en P "_law_depth" 820 (.ref 372), en P "_law_steps" 828 (.ref 379), en P "law" 834 (.ref 384)] 40), #[]⟩
noncomputable def o4 (P : Params) : Obj := ⟨.type "module", (some 0), .plain, #[]⟩
noncomputable def o5 (P : Params) : Obj := ⟨.type "module", (some 3), .plain, #[]⟩
noncomputable def o6 (P : Params) : Obj := ⟨.type "dict", none, (.dict #[] 0), #[]⟩
noncomputable def o7 (P : Params) : Obj := ⟨.type "tuple", none, (.seq #[] 0), #[]⟩
noncomputable def o8 (P : Params) : Obj := ⟨.none, none, (.fields #[]), #[]⟩
noncomputable def o9 (P : Params) : Obj := ⟨.type "code", none, (.fields #[.str "<module>" 176, .str "<module>" 177, .str "/claim/cut.py" 178, .int 1 0, .int 0 0, .int 0 0, .int 0 0, .int 0 0, .ref 7, .bool false, .int 175 0, .ref 8, .none, .none, .none, .none, .int 179 0, .int 1 0, .str "/claim/cut.py" 180]), #[]⟩
noncomputable def o10 (P : Params) : Obj := ⟨.type "frame", none, .plain, #[some (.ref 9), some (.ref 3), some (.ref 3), none, some (.str "__main__" 164), none, some (.ref 0)]⟩
noncomputable def o11 (P : Params) : Obj := ⟨.type "dict", none, (.dict #[en P "__name__" 247 (.str "_sre" 246), en P "__doc__" 248 (.none), en P "__package__" 250 (.str "" 249), en P "__loader__" 251 (.builtin "off-the-table:_sre.__loader__:shared#opaque"), en P "__spec__" 252 (.builtin "off-the-table:_sre.__spec__:shared#opaque"), en P "compile" 253 (.builtin "_sre.compile"), en P "template" 254 (.builtin "off-the-table:_sre.template:shared#opaque"), en P "getcodesize" 255 (.builtin "off-the-table:_sre.getcodesize:shared#opaque"), en P "ascii_iscased" 256 (.builtin "off-the-table:_sre.ascii_iscased:shared#opaque"), en P "unicode_iscased" 257 (.builtin "off-the-table:_sre.unicode_iscased:shared#opaque"), en P "ascii_tolower" 258 (.builtin "off-the-table:_sre.ascii_tolower:shared#opaque"), en P "unicode_tolower" 259 (.builtin "off-the-table:_sre.unicode_tolower:shared#opaque"), en P "MAGIC" 261 (.int 20230612 260), en P "CODESIZE" 263 (.int 4 262), en P "MAXREPEAT" 265 (.int 4294967295 264), en P "MAXGROUPS" 267 (.int 1073741823 266), en P "copyright" 269 (.str " SRE 2.2.2 Copyright (c) 1997-2002 by Secret Labs AB " 268)] 17), #[]⟩
noncomputable def o12 (P : Params) : Obj := ⟨.type "module", (some 11), .plain, #[]⟩
noncomputable def o13 (P : Params) : Obj := ⟨.type "dict", none, (.dict #[en P "__module__" 189 (.str "_frozen_importlib" 186), en P "__firstlineno__" 190 (.int 971 187), en P "__doc__" 191 (.builtin "_frozen_importlib.BuiltinImporter.__doc__:str#opaque"), en P "_ORIGIN" 192 (.str "built-in" 188), en P "find_spec" 193 (.builtin "_frozen_importlib.BuiltinImporter.find_spec#opaque"), en P "create_module" 194 (.builtin "_frozen_importlib.BuiltinImporter.create_module#opaque"), en P "exec_module" 195 (.builtin "_frozen_importlib.BuiltinImporter.exec_module#opaque"), en P "get_code" 196 (.builtin "_frozen_importlib.BuiltinImporter.get_code#opaque"), en P "get_source" 197 (.builtin "_frozen_importlib.BuiltinImporter.get_source#opaque"), en P "is_package" 198 (.builtin "_frozen_importlib.BuiltinImporter.is_package#opaque"), en P "load_module" 199 (.builtin "_frozen_importlib.BuiltinImporter.load_module#opaque"), en P "__static_attributes__" 200 (.ref 15), en P "__dict__" 202 (.ref 16), en P "__weakref__" 204 (.ref 17)] 14), #[]⟩
noncomputable def o14 (P : Params) : Obj := ⟨.type "type", none, (.cls { name := "BuiltinImporter", bases := [.type "object"], mro := [.ref 14, .type "object"], ns := 13, qualname := "BuiltinImporter", hasDict := true, slotNames := [], subclasses := [], abstract := false, collection := none, hasDel := false }), #[]⟩
noncomputable def o15 (P : Params) : Obj := ⟨.type "tuple", none, (.seq #[] 0), #[]⟩
noncomputable def o16 (P : Params) : Obj := ⟨.type "getset_descriptor", none, (.fields #[.str "__dict__" 201, .ref 14, .builtin "function.__dict__", .builtin "function.__dict__#set"]), #[]⟩
noncomputable def o17 (P : Params) : Obj := ⟨.type "getset_descriptor", none, (.fields #[.str "__weakref__" 203, .ref 14, .builtin "ExceptionGroup.__weakref__", .none]), #[]⟩
noncomputable def o18 (P : Params) : Obj := ⟨.none, none, (.seq #[.int 13 0, .str ⟨#[6, 189, 10, 95, 95, 109, 111, 100, 117, 108, 101, 95, 95, 6, 186, 17, 95, 102, 114, 111, 122, 101, 110, 95, 105, 109, 112, 111, 114, 116, 108, 105, 98, 6, 190, 15, 95, 95, 102, 105, 114, 115, 116, 108, 105, 110, 101, 110, 111, 95, 95, 4, 187, 0, 971, 6, 191, 7, 95, 95, 100, 111, 99, 95, 95, 9, 52, 95, 102, 114, 111, 122, 101, 110, 95, 105, 109, 112, 111, 114, 116, 108, 105, 98, 46, 66, 117, 105, 108, 116, 105, 110, 73, 109, 112, 111, 114, 116, 101, 114, 46, 95, 95, 100, 111, 99, 95, 95, 58, 115, 116, 114, 35, 111, 112, 97, 113, 117, 101, 6, 192, 7, 95, 79, 82, 73, 71, 73, 78, 6, 188, 8, 98, 117, 105, 108, 116, 45, 105, 110, 6, 193, 9, 102, 105, 110, 100, 95, 115, 112, 101, 99, 9, 50, 95, 102, 114, 111, 122, 101, 110, 95, 105, 109, 112, 111, 114, 116, 108, 105, 98, 46, 66, 117, 105, 108, 116, 105, 110, 73, 109, 112, 111, 114, 116, 101, 114, 46, 102, 105, 110, 100, 95, 115, 112, 101, 99, 35, 111, 112, 97, 113, 117, 101, 6, 194, 13, 99, 114, 101, 97, 116, 101, 95, 109, 111, 100, 117, 108, 101, 9, 54, 95, 102, 114, 111, 122, 101, 110, 95, 105, 109, 112, 111, 114, 116, 108, 105, 98, 46, 66, 117, 105, 108, 116, 105, 110, 73, 109, 112, 111, 114, 116, 101, 114, 46, 99, 114, 101, 97, 116, 101, 95, 109, 111, 100, 117, 108, 101, 35, 111, 112, 97, 113, 117, 101, 6, 195, 11, 101, 120, 101, 99, 95, 109, 111, 100, 117, 108, 101, 9, 52, 95, 102, 114, 111, 122, 101, 110, 95, 105, 109, 112, 111, 114, 116, 108, 105, 98, 46, 66, 117, 105, 108, 116, 105, 110, 73, 109, 112, 111, 114, 116, 101, 114, 46, 101, 120, 101, 99, 95, 109, 111, 100, 117, 108, 101, 35, 111, 112, 97, 113, 117, 101, 6, 196, 8, 103, 101, 116, 95, 99, 111, 100, 101, 9, 49, 95, 102, 114, 111, 122, 101, 110, 95, 105, 109, 112, 111, 114, 116, 108, 105, 98, 46, 66, 117, 105, 108, 116, 105, 110, 73, 109, 112, 111, 114, 116, 101, 114, 46, 103, 101, 116, 95, 99, 111, 100, 101, 35, 111, 112, 97, 113, 117, 101, 6, 197, 10, 103, 101, 116, 95, 115, 111, 117, 114, 99, 101, 9, 51, 95, 102, 114, 111, 122, 101, 110, 95, 105, 109, 112, 111, 114, 116, 108, 105, 98, 46, 66, 117, 105, 108, 116, 105, 110, 73, 109, 112, 111, 114, 116, 101, 114, 46, 103, 101, 116, 95, 115, 111, 117, 114, 99, 101, 35, 111, 112, 97, 113, 117, 101, 6, 198, 10, 105, 115, 95, 112, 97, 99, 107, 97, 103, 101, 9, 51, 95, 102, 114, 111, 122, 101, 110, 95, 105, 109, 112, 111, 114, 116, 108, 105, 98, 46, 66, 117, 105, 108, 116, 105, 110, 73, 109, 112, 111, 114, 116, 101, 114, 46, 105, 115, 95, 112, 97, 99, 107, 97, 103, 101, 35, 111, 112, 97, 113, 117, 101, 6, 199, 11, 108, 111, 97, 100, 95, 109, 111, 100, 117, 108, 101, 9, 52, 95, 102, 114, 111, 122, 101, 110, 95, 105, 109, 112, 111, 114, 116, 108, 105, 98, 46, 66, 117, 105, 108, 116, 105, 110, 73, 109, 112, 111, 114, 116, 101, 114, 46, 108, 111, 97, 100, 95, 109, 111, 100, 117, 108, 101, 35, 111, 112, 97, 113, 117, 101, 6, 200, 21, 95, 95, 115, 116, 97, 116, 105, 99, 95, 97, 116, 116, 114, 105, 98, 117, 116, 101, 115, 95, 95, 4, 0, 0, 15, 6, 202, 8, 95, 95, 100, 105, 99, 116, 95, 95, 4, 0, 0, 16, 6, 204, 11, 95, 95, 119, 101, 97, 107, 114, 101, 102, 95, 95, 4, 0, 0, 17]⟩ 0, .bool true, .bool true, .str "" 205, .int 21 0, .str ⟨#[6, 227, 10, 95, 95, 109, 111, 100, 117, 108, 101, 95, 95, 6, 217, 17, 95, 102, 114, 111, 122, 101, 110, 95, 105, 109, 112, 111, 114, 116, 108, 105, 98, 6, 228, 15, 95, 95, 102, 105, 114, 115, 116, 108, 105, 110, 101, 110, 111, 95, 95, 4, 218, 0, 562, 6, 229, 7, 95, 95, 100, 111, 99, 95, 95, 9, 47, 95, 102, 114, 111, 122, 101, 110, 95, 105, 109, 112, 111, 114, 116, 108, 105, 98, 46, 77, 111, 100, 117, 108, 101, 83, 112, 101, 99, 46, 95, 95, 100, 111, 99, 95, 95, 58, 115, 116, 114, 35, 111, 112, 97, 113, 117, 101, 6, 230, 8, 95, 95, 105, 110, 105, 116, 95, 95, 9, 44, 95, 102, 114, 111, 122, 101, 110, 95, 105, 109, 112, 111, 114, 116, 108, 105, 98, 46, 77, 111, 100, 117, 108, 101, 83, 112, 101, 99, 46, 95, 95, 105, 110, 105, 116, 95, 95, 35, 111, 112, 97, 113, 117, 101, 6, 231, 8, 95, 95, 114, 101, 112, 114, 95, 95, 9, 44, 95, 102, 114, 111, 122, 101, 110, 95, 105, 109, 112, 111, 114, 116, 108, 105, 98, 46, 77, 111, 100, 117, 108, 101, 83, 112, 101, 99, 46, 95, 95, 114, 101, 112, 114, 95, 95, 35, 111, 112, 97, 113, 117, 101, 6, 232, 6, 95, 95, 101, 113, 95, 95, 9, 42, 95, 102, 114, 111, 122, 101, 110, 95, 105, 109, 112, 111, 114, 116, 108, 105, 98, 46, 77, 111, 100, 117, 108, 101, 83, 112, 101, 99, 46, 95, 95, 101, 113, 95, 95, 35, 111, 112, 97, 113, 117, 101, 6, 233, 6, 99, 97, 99, 104, 101, 100, 9, 42, 95, 102, 114, 111, 122, 101, 110, 95, 105, 109, 112, 111, 114, 116, 108, 105, 98, 46, 77, 111, 100, 117, 108, 101, 83, 112, 101, 99, 46, 99, 97, 99, 104, 101, 100, 35, 111, 112, 97, 113, 117, 101, 6, 234, 6, 112, 97, 114, 101, 110, 116, 9, 42, 95, 102, 114, 111, 122, 101, 110, 95, 105, 109, 112, 111, 114, 116, 108, 105, 98, 46, 77, 111, 100, 117, 108, 101, 83, 112, 101, 99, 46, 112, 97, 114, 101, 110, 116, 35, 111, 112, 97, 113, 117, 101, 6, 235, 12, 104, 97, 115, 95, 108, 111, 99, 97, 116, 105, 111, 110, 9, 48, 95, 102, 114, 111, 122, 101, 110, 95, 105, 109, 112, 111, 114, 116, 108, 105, 98, 46, 77, 111, 100, 117, 108, 101, 83, 112, 101, 99, 46, 104, 97, 115, 95, 108, 111, 99, 97, 116, 105, 111, 110, 35, 111, 112, 97, 113, 117, 101, 6, 236, 21, 95, 95, 115, 116, 97, 116, 105, 99, 95, 97, 116, 116, 114, 105, 98, 117, 116, 101, 115, 95, 95, 4, 0, 0, 23, 6, 238, 8, 95, 95, 100, 105, 99, 116, 95, 95, 4, 0, 0, 24, 6, 240, 11, 95, 95, 119, 101, 97, 107, 114, 101, 102, 95, 95, 4, 0, 0, 25, 6, 241, 8, 95, 95, 104, 97, 115, 104, 95, 95, 0]⟩ 0, .bool true, .bool true, .str "" 242] 1), #[]⟩
noncomputable def o19 (P : Params) : Obj := ⟨.type "list", none, (.seq #[] 0), #[]⟩
noncomputable def o20 (P : Params) : Obj := ⟨.type "dict", none, (.dict #[en P "name" 208 (.str "_sre" 207), en P "loader" 209 (.ref 14), en P "origin" 210 (.str "built-in" 184), en P "loader_state" 211 (.none), en P "submodule_search_locations" 212 (.none), en P "_uninitialized_submodules" 213 (.ref 19), en P "_set_fileattr" 214 (.bool false), en P "_cached" 215 (.none), en P "_initializing" 243 (.bool false)] 9), #[]⟩
noncomputable def o21 (P : Params) : Obj := ⟨.type "dict", none, (.dict #[en P "__module__" 227 (.str "_frozen_importlib" 217), en P "__firstlineno__" 228 (.int 562 218), en P "__doc__" 229 (.builtin "_frozen_importlib.ModuleSpec.__doc__:str#opaque"), en P "__init__" 230 (.builtin "_frozen_importlib.ModuleSpec.__init__#opaque"), en P "__repr__" 231 (.builtin "_frozen_importlib.ModuleSpec.__repr__#opaque"), en P "__eq__" 232 (.builtin "_frozen_importlib.ModuleSpec.__eq__#opaque"), en P "cached" 233 (.builtin "_frozen_importlib.ModuleSpec.cached#opaque"), en P "parent" 234 (.builtin "_frozen_importlib.ModuleSpec.parent#opaque"), en P "has_location" 235 (.builtin "_frozen_importlib.ModuleSpec.has_location#opaque"), en P "__static_attributes__" 236 (.ref 23), en P "__dict__" 238 (.ref 24), en P "__weakref__" 240 (.ref 25), en P "__hash__" 241 (.none)] 13), #[]⟩
noncomputable def o22 (P : Params) : Obj := ⟨.type "type", none, (.cls { name := "ModuleSpec", bases := [.type "object"], mro := [.ref 22, .type "object"], ns := 21, qualname := "ModuleSpec", hasDict := true, slotNames := [], subclasses := [], abstract := false, collection := none, hasDel := false }), #[]⟩
noncomputable def o23 (P : Params) : Obj := ⟨.type "tuple", none, (.seq #[.str "_cached" 219, .str "_set_fileattr" 220, .str "_uninitialized_submodules" 221, .str "loader" 222, .str "loader_state" 223, .str "name" 224, .str "origin" 225, .str "submodule_search_locations" 226] 0), #[]⟩
noncomputable def o24 (P : Params) : Obj := ⟨.type "getset_descriptor", none, (.fields #[.str "__dict__" 237, .ref 22, .builtin "function.__dict__", .builtin "function.__dict__#set"]), #[]⟩
noncomputable def o25 (P : Params) : Obj := ⟨.type "getset_descriptor", none, (.fields #[.str "__weakref__" 239, .ref 22, .builtin "ExceptionGroup.__weakref__", .none]), #[]⟩
noncomputable def o26 (P : Params) : Obj := ⟨.ref 22, (some 20), .plain, #[]⟩
noncomputable def o27 (P : Params) : Obj := ⟨.none, none, (.seq #[.int 11 0, .str ⟨#[6, 247, 8, 95, 95, 110, 97, 109, 101, 95, 95, 6, 246, 4, 95, 115, 114, 101, 6, 248, 7, 95, 95, 100, 111, 99, 95, 95, 0, 6, 250, 11, 95, 95, 112, 97, 99, 107, 97, 103, 101, 95, 95, 6, 249, 0, 6, 251, 10, 95, 95, 108, 111, 97, 100, 101, 114, 95, 95, 4, 0, 0, 14, 6, 252, 8, 95, 95, 115, 112, 101, 99, 95, 95, 4, 0, 0, 26, 6, 253, 7, 99, 111, 109, 112, 105, 108, 101, 9, 12, 95, 115, 114, 101, 46, 99, 111, 109, 112, 105, 108, 101, 6, 254, 8, 116, 101, 109, 112, 108, 97, 116, 101, 9, 13, 95, 115, 114, 101, 46, 116, 101, 109, 112, 108, 97, 116, 101, 6, 255, 11, 103, 101, 116, 99, 111, 100, 101, 115, 105, 122, 101, 9, 16, 95, 115, 114, 101, 46, 103, 101, 116, 99, 111, 100, 101, 115, 105, 122, 101, 6, 256, 13, 97, 115, 99, 105, 105, 95, 105, 115, 99, 97, 115, 101, 100, 9, 18, 95, 115, 114, 101, 46, 97, 115, 99, 105, 105, 95, 105, 115, 99, 97, 115, 101, 100, 6, 257, 15, 117, 110, 105, 99, 111, 100, 101, 95, 105, 115, 99, 97, 115, 101, 100, 9, 20, 95, 115, 114, 101, 46, 117, 110, 105, 99, 111, 100, 101, 95, 105, 115, 99, 97, 115, 101, 100, 6, 258, 13, 97, 115, 99, 105, 105, 95, 116, 111, 108, 111, 119, 101, 114, 9, 18, 95, 115, 114, 101, 46, 97, 115, 99, 105, 105, 95, 116, 111, 108, 111, 119, 101, 114, 6, 259, 15, 117, 110, 105, 99, 111, 100, 101, 95, 116, 111, 108, 111, 119, 101, 114, 9, 20, 95, 115, 114, 101, 46, 117, 110, 105, 99, 111, 100, 101, 95, 116, 111, 108, 111, 119, 101, 114, 6, 261, 5, 77, 65, 71, 73, 67, 4, 260, 0, 20230612, 6, 263, 8, 67, 79, 68, 69, 83, 73, 90, 69, 4, 262, 0, 4, 6, 265, 9, 77, 65, 88, 82, 69, 80, 69, 65, 84, 4, 264, 0, 4294967295, 6, 267, 9, 77, 65, 88, 71, 82, 79, 85, 80, 83, 4, 266, 0, 1073741823, 6, 269, 9, 99, 111, 112, 121, 114, 105, 103, 104, 116, 6, 268, 53, 32, 83, 82, 69, 32, 50, 46, 50, 46, 50, 32, 67, 111, 112, 121, 114, 105, 103, 104, 116, 32, 40, 99, 41, 32, 49, 57, 57, 55, 45, 50, 48, 48, 50, 32, 98, 121, 32, 83, 101, 99, 114, 101, 116, 32, 76, 97, 98, 115, 32, 65, 66, 32]⟩ 0, .bool true, .bool false, .str "_sre" 271] 0), #[]⟩
noncomputable def o28 (P : Params) : Obj := ⟨.type "tuple", none, (.seq #[] 0), #[]⟩
noncomputable def o29 (P : Params) : Obj := ⟨.none, none, (.fields #[.int 2 0, .int 0 0, .ref 37, .int 9 0, .int 0 0, .ref 60, .int 18 0, .int 0 0, .ref 67, .int 101 0, .int 0 0, .ref 192, .int 104 0, .int 0 0, .ref 199, .int 112 0, .int 0 0, .ref 206, .int 123 0, .int 0 0, .ref 213, .int 138 0, .int 0 0, .ref 220, .int 144 0, .int 0 0, .ref 227, .int 149 0, .int 0 0, .ref 246, .int 164 0, .int 0 0, .ref 279, .int 168 0, .int 0 0, .ref 286, .int 185 0, .int 0 0, .ref 293, .int 197 0, .int 0 0, .ref 300, .int 202 0, .int 0 0, .ref 307, .int 219 0, .int 0 0, .ref 314, .int 233 0, .int 0 0, .ref 321, .int 258 0, .int 0 0, .ref 326, .int 288 0, .int 0 0, .ref 333, .int 293 0, .int 0 0, .ref 340, .int 298 0, .int 0 0, .ref 347, .int 304 0, .int 0 0, .ref 352, .int 307 0, .int 0 0, .ref 359, .int 323 0, .int 0 0, .ref 364, .int 328 0, .int 0 0, .ref 371, .int 330 0, .int 0 0, .ref 378, .int 332 0, .int 0 0, .ref 383]), #[]⟩
noncomputable def o30 (P : Params) : Obj := ⟨.type "code", none, (.fields #[.str "<module>" 277, .str "<module>" 278, .str "/claim/cut.py" 279, .int 1 0, .int 0 0, .int 0 0, .int 0 0, .int 0 0, .ref 28, .bool false, .int 276 0, .ref 29, .none, .none, .none, .none, .int 280 0, .int 1 0, .str "/claim/cut.py" 281]), #[]⟩
noncomputable def o31 (P : Params) : Obj := ⟨.type "frame", none, .plain, #[some (.ref 30), some (.ref 3), some (.ref 3), none, some (.str "__main__" 164), none, some (.ref 0)]⟩
noncomputable def o32 (P : Params) : Obj := ⟨.type "tuple", none, (.seq #[] 0), #[]⟩
noncomputable def o33 (P : Params) : Obj := ⟨.none, none, (.fields #[]), #[]⟩
noncomputable def o34 (P : Params) : Obj := ⟨.type "tuple", none, (.seq #[.str "k" 285] 0), #[]⟩
noncomputable def o35 (P : Params) : Obj := ⟨.type "tuple", none, (.seq #[] 0), #[]⟩
noncomputable def o36 (P : Params) : Obj := ⟨.none, none, (fd (topS 1) "_wall" 0 (.none) (.none) (.none) (.none) (.none) (.none) 0), #[]⟩
noncomputable def o37 (P : Params) : Obj := ⟨.type "code", none, (.fields #[.str "_wall" 282, .str "_wall" 283, .str "/claim/cut.py" 284, .int 2 0, .int 1 0, .int 0 0, .int 0 0, .int 3 0, .ref 32, .bool true, .int 276 0, .ref 33, .none, .ref 34, .ref 35, .ref 36, .int 286 0, .int 2 0, .str "/claim/cut.py" 287]), #[]⟩
noncomputable def o38 (P : Params) : Obj := ⟨.type "function", none, (fd (topS 1) "_wall" 3 (.none) (.none) (.none) (.str "__main__" 164) (.ref 37) (.none) 0), #[]⟩
noncomputable def o39 (P : Params) : Obj := ⟨.type "list", none, (.seq #[.int 14 294, .int 14 295, .int 4 296, .int 1 297, .int 1 298, .int 9 299, .int 0 300, .int 4227896069 301, .int 939524097 302, .int 0 303, .int 0 304, .int 0 305, .int 0 306, .int 0 307, .int 0 308, .int 13 309, .int 11 310, .int 9 311, .int 0 312, .int 4227896069 313, .int 939524097 314, .int 0 315, .int 0 316, .int 0 317, .int 0 318, .int 0 319, .int 0 320, .int 1 321] 0), #[]⟩
noncomputable def o40 (P : Params) : Obj := ⟨.type "dict", none, (.dict #[] 0), #[]⟩
noncomputable def o41 (P : Params) : Obj := ⟨.type "tuple", none, (.seq #[.none] 0), #[]⟩
noncomputable def o42 (P : Params) : Obj := ⟨.type "tuple", none, (.seq #[.int 14 0, .int 14 0, .int 4 0, .int 1 0, .int 1 0, .int 9 0, .int 0 0, .int 4227896069 0, .int 939524097 0, .int 0 0, .int 0 0, .int 0 0, .int 0 0, .int 0 0, .int 0 0, .int 13 0, .int 11 0, .int 9 0, .int 0 0, .int 4227896069 0, .int 939524097 0, .int 0 0, .int 0 0, .int 0 0, .int 0 0, .int 0 0, .int 0 0, .int 1 0] 0), #[]⟩
noncomputable def o43 (P : Params) : Obj := ⟨.type "re.Pattern", none, (.fields #[.str ⟨#[91, 32, 92, 40, 92, 41, 60, 62, 64, 44, 59, 58, 92, 92, 34, 47, 92, 91, 92, 93, 92, 63, 61, 93]⟩ 292, .int 32 323, .int 0 0, .none, .none, .ref 42, .int 0 0]), #[]⟩
noncomputable def o44 (P : Params) : Obj := ⟨.type "list", none, (.seq #[.int 14 328, .int 10 329, .int 4 330, .int 1 331, .int 1 332, .int 22 333, .int 0 334, .int 31 335, .int 16 336, .int 127 337, .int 0 338, .int 13 339, .int 7 340, .int 22 341, .int 0 342, .int 31 343, .int 16 344, .int 127 345, .int 0 346, .int 1 347] 0), #[]⟩
noncomputable def o45 (P : Params) : Obj := ⟨.type "dict", none, (.dict #[] 0), #[]⟩
noncomputable def o46 (P : Params) : Obj := ⟨.type "tuple", none, (.seq #[.none] 0), #[]⟩
noncomputable def o47 (P : Params) : Obj := ⟨.type "tuple", none, (.seq #[.int 14 0, .int 10 0, .int 4 0, .int 1 0, .int 1 0, .int 22 0, .int 0 0, .int 31 0, .int 16 0, .int 127 0, .int 0 0, .int 13 0, .int 7 0, .int 22 0, .int 0 0, .int 31 0, .int 16 0, .int 127 0, .int 0 0, .int 1 0] 0), #[]⟩
noncomputable def o48 (P : Params) : Obj := ⟨.type "re.Pattern", none, (.fields #[.str ⟨#[91, 92, 120, 48, 48, 45, 92, 120, 49, 70, 92, 120, 55, 70, 93]⟩ 326, .int 32 349, .int 0 0, .none, .none, .ref 47, .int 0 0]), #[]⟩
noncomputable def o49 (P : Params) : Obj := ⟨.type "list", none, (.seq #[.int 14 354, .int 14 355, .int 4 356, .int 1 357, .int 1 358, .int 9 359, .int 4294966783 360, .int 0 361, .int 0 362, .int 2147483648 363, .int 0 364, .int 0 365, .int 0 366, .int 0 367, .int 0 368, .int 13 369, .int 11 370, .int 9 371, .int 4294966783 372, .int 0 373, .int 0 374, .int 2147483648 375, .int 0 376, .int 0 377, .int 0 378, .int 0 379, .int 0 380, .int 1 381] 0), #[]⟩
noncomputable def o50 (P : Params) : Obj := ⟨.type "dict", none, (.dict #[] 0), #[]⟩
noncomputable def o51 (P : Params) : Obj := ⟨.type "tuple", none, (.seq #[.none] 0), #[]⟩
noncomputable def o52 (P : Params) : Obj := ⟨.type "tuple", none, (.seq #[.int 14 0, .int 14 0, .int 4 0, .int 1 0, .int 1 0, .int 9 0, .int 4294966783 0, .int 0 0, .int 0 0, .int 2147483648 0, .int 0 0, .int 0 0, .int 0 0, .int 0 0, .int 0 0, .int 13 0, .int 11 0, .int 9 0, .int 4294966783 0, .int 0 0, .int 0 0, .int 2147483648 0, .int 0 0, .int 0 0, .int 0 0, .int 0 0, .int 0 0, .int 1 0] 0), #[]⟩
noncomputable def o53 (P : Params) : Obj := ⟨.type "re.Pattern", none, (.fields #[.str ⟨#[91, 92, 120, 48, 48, 45, 92, 120, 48, 56, 92, 120, 48, 65, 45, 92, 120, 49, 70, 92, 120, 55, 70, 93]⟩ 352, .int 32 383, .int 0 0, .none, .none, .ref 52, .int 0 0]), #[]⟩
noncomputable def o54 (P : Params) : Obj := ⟨.type "tuple", none, (.seq #[.none, .int 1 385] 0), #[]⟩
noncomputable def o55 (P : Params) : Obj := ⟨.type "tuple", none, (.seq #[] 0), #[]⟩
noncomputable def o56 (P : Params) : Obj := ⟨.none, none, (.fields #[]), #[]⟩
noncomputable def o57 (P : Params) : Obj := ⟨.type "tuple", none, (.seq #[.str "param" 389, .str "value" 390, .str "quote" 391] 0), #[]⟩
noncomputable def o58 (P : Params) : Obj := ⟨.type "tuple", none, (.seq #[] 0), #[]⟩
noncomputable def o59 (P : Params) : Obj := ⟨.none, none, (fd (topS 6) "_formatparam" 0 (.none) (.none) (.none) (.none) (.none) (.none) 0), #[]⟩
noncomputable def o60 (P : Params) : Obj := ⟨.type "code", none, (.fields #[.str "_formatparam" 386, .str "_formatparam" 387, .str "/claim/cut.py" 388, .int 9 0, .int 3 0, .int 0 0, .int 0 0, .int 3 0, .ref 55, .bool true, .int 276 0, .ref 56, .none, .ref 57, .ref 58, .ref 59, .int 392 0, .int 9 0, .str "/claim/cut.py" 393]), #[]⟩
noncomputable def o61 (P : Params) : Obj := ⟨.type "function", none, (fd (topS 6) "_formatparam" 3 (.ref 54) (.none) (.none) (.str "cpy313.wsgiref.headers" 289) (.ref 60) (.none) 0), #[]⟩
noncomputable def o62 (P : Params) : Obj := ⟨.type "tuple", none, (.seq #[] 0), #[]⟩
noncomputable def o63 (P : Params) : Obj := ⟨.type "builtin_function_or_method", none, (.fields #[.builtin "type.__prepare__", .type "type"]), #[]⟩
noncomputable def o64 (P : Params) : Obj := ⟨.type "dict", none, (.dict #[en P "__module__" 402 (.str "cpy313.wsgiref.headers" 289), en P "__qualname__" 404 (.str "Headers" 403), en P "__firstlineno__" 406 (.int 18 405), en P "__init__" 416 (.ref 76), en P "_convert_string_type" 426 (.ref 83), en P "__len__" 433 (.ref 90), en P "__setitem__" 442 (.ref 97), en P "__delitem__" 448 (.ref 102), en P "__getitem__" 456 (.ref 109), en P "__contains__" 464 (.ref 116), en P "get_all" 470 (.ref 121), en P "get" 481 (.ref 129), en P "keys" 487 (.ref 134), en P "values" 493 (.ref 139), en P "items" 500 (.ref 146), en P "__repr__" 507 (.ref 153), en P "__str__" 513 (.ref 158), en P "__bytes__" 520 (.ref 165), en P "setdefault" 529 (.ref 172), en P "add_header" 542 (.ref 179), en P "__static_attributes__" 544 (.ref 180)] 21), #[]⟩
noncomputable def o65 (P : Params) : Obj := ⟨.type "tuple", none, (.seq #[] 0), #[]⟩
noncomputable def o66 (P : Params) : Obj := ⟨.none, none, (.fields #[.int 20 0, .int 4 0, .ref 75, .int 30 0, .int 4 0, .ref 82, .int 38 0, .int 4 0, .ref 89, .int 41 0, .int 4 0, .ref 96, .int 45 0, .int 4 0, .ref 101, .int 49 0, .int 4 0, .ref 108, .int 52 0, .int 4 0, .ref 115, .int 55 0, .int 4 0, .ref 120, .int 59 0, .int 4 0, .ref 128, .int 66 0, .int 4 0, .ref 133, .int 69 0, .int 4 0, .ref 138, .int 72 0, .int 4 0, .ref 145, .int 75 0, .int 4 0, .ref 152, .int 78 0, .int 4 0, .ref 157, .int 81 0, .int 4 0, .ref 164, .int 84 0, .int 4 0, .ref 171, .int 87 0, .int 4 0, .ref 178]), #[]⟩
noncomputable def o67 (P : Params) : Obj := ⟨.type "code", none, (.fields #[.str "Headers" 397, .str "Headers" 398, .str "/claim/cut.py" 399, .int 18 0, .int 0 0, .int 0 0, .int 0 0, .int 0 0, .ref 65, .bool false, .int 276 0, .ref 66, .none, .none, .none, .none, .int 400 0, .int 18 0, .str "/claim/cut.py" 401]), #[]⟩
noncomputable def o68 (P : Params) : Obj := ⟨.type "frame", none, .plain, #[some (.ref 67), some (.ref 3), some (.ref 64), none, some (.str "cpy313.wsgiref.headers" 289), none, some (.ref 0)]⟩
noncomputable def o69 (P : Params) : Obj := ⟨.type "tuple", none, (.seq #[.none] 0), #[]⟩
noncomputable def o70 (P : Params) : Obj := ⟨.type "tuple", none, (.seq #[] 0), #[]⟩
noncomputable def o71 (P : Params) : Obj := ⟨.none, none, (.fields #[]), #[]⟩
noncomputable def o72 (P : Params) : Obj := ⟨.type "tuple", none, (.seq #[.str "self" 410, .str "headers" 411, .str "k" 412, .str "v" 413] 0), #[]⟩
noncomputable def o73 (P : Params) : Obj := ⟨.type "tuple", none, (.seq #[] 0), #[]⟩
noncomputable def o74 (P : Params) : Obj := ⟨.none, none, (fd (clsS 7 0) "Headers.__init__" 0 (.none) (.none) (.none) (.none) (.none) (.none) 0), #[]⟩
noncomputable def o75 (P : Params) : Obj := ⟨.type "code", none, (.fields #[.str "__init__" 407, .str "Headers.__init__" 408, .str "/claim/cut.py" 409, .int 20 0, .int 2 0, .int 0 0, .int 0 0, .int 3 0, .ref 70, .bool true, .int 276 0, .ref 71, .none, .ref 72, .ref 73, .ref 74, .int 414 0, .int 20 0, .str "/claim/cut.py" 415]), #[]⟩
noncomputable def o76 (P : Params) : Obj := ⟨.type "function", none, (fd (clsS 7 0) "Headers.__init__" 3 (.ref 69) (.none) (.none) (.str "cpy313.wsgiref.headers" 289) (.ref 75) (.none) 0), #[]⟩
noncomputable def o77 (P : Params) : Obj := ⟨.type "tuple", none, (.seq #[] 0), #[]⟩
noncomputable def o78 (P : Params) : Obj := ⟨.none, none, (.fields #[]), #[]⟩
noncomputable def o79 (P : Params) : Obj := ⟨.type "tuple", none, (.seq #[.str "self" 420, .str "value" 421, .str "name" 422, .str "regex" 423] 0), #[]⟩
noncomputable def o80 (P : Params) : Obj := ⟨.type "tuple", none, (.seq #[] 0), #[]⟩
noncomputable def o81 (P : Params) : Obj := ⟨.none, none, (fd (clsS 7 1) "Headers._convert_string_type" 0 (.none) (.none) (.none) (.none) (.none) (.none) 0), #[]⟩
noncomputable def o82 (P : Params) : Obj := ⟨.type "code", none, (.fields #[.str "_convert_string_type" 417, .str "Headers._convert_string_type" 418, .str "/claim/cut.py" 419, .int 30 0, .int 2 0, .int 0 0, .int 1 0, .int 3 0, .ref 77, .bool true, .int 276 0, .ref 78, .none, .ref 79, .ref 80, .ref 81, .int 424 0, .int 30 0, .str "/claim/cut.py" 425]), #[]⟩
noncomputable def o83 (P : Params) : Obj := ⟨.type "function", none, (fd (clsS 7 1) "Headers._convert_string_type" 3 (.none) (.none) (.none) (.str "cpy313.wsgiref.headers" 289) (.ref 82) (.none) 0), #[]⟩
noncomputable def o84 (P : Params) : Obj := ⟨.type "tuple", none, (.seq #[] 0), #[]⟩
noncomputable def o85 (P : Params) : Obj := ⟨.none, none, (.fields #[]), #[]⟩
noncomputable def o86 (P : Params) : Obj := ⟨.type "tuple", none, (.seq #[.str "self" 430] 0), #[]⟩
noncomputable def o87 (P : Params) : Obj := ⟨.type "tuple", none, (.seq #[] 0), #[]⟩
noncomputable def o88 (P : Params) : Obj := ⟨.none, none, (fd (clsS 7 2) "Headers.__len__" 0 (.none) (.none) (.none) (.none) (.none) (.none) 0), #[]⟩
noncomputable def o89 (P : Params) : Obj := ⟨.type "code", none, (.fields #[.str "__len__" 427, .str "Headers.__len__" 428, .str "/claim/cut.py" 429, .int 38 0, .int 1 0, .int 0 0, .int 0 0, .int 3 0, .ref 84, .bool true, .int 276 0, .ref 85, .none, .ref 86, .ref 87, .ref 88, .int 431 0, .int 38 0, .str "/claim/cut.py" 432]), #[]⟩
noncomputable def o90 (P : Params) : Obj := ⟨.type "function", none, (fd (clsS 7 2) "Headers.__len__" 3 (.none) (.none) (.none) (.str "cpy313.wsgiref.headers" 289) (.ref 89) (.none) 0), #[]⟩
noncomputable def o91 (P : Params) : Obj := ⟨.type "tuple", none, (.seq #[] 0), #[]⟩
noncomputable def o92 (P : Params) : Obj := ⟨.none, none, (.fields #[]), #[]⟩
noncomputable def o93 (P : Params) : Obj := ⟨.type "tuple", none, (.seq #[.str "self" 437, .str "name" 438, .str "val" 439] 0), #[]⟩
noncomputable def o94 (P : Params) : Obj := ⟨.type "tuple", none, (.seq #[] 0), #[]⟩
noncomputable def o95 (P : Params) : Obj := ⟨.none, none, (fd (clsS 7 3) "Headers.__setitem__" 0 (.none) (.none) (.none) (.none) (.none) (.none) 0), #[]⟩
noncomputable def o96 (P : Params) : Obj := ⟨.type "code", none, (.fields #[.str "__setitem__" 434, .str "Headers.__setitem__" 435, .str "/claim/cut.py" 436, .int 41 0, .int 3 0, .int 0 0, .int 0 0, .int 3 0, .ref 91, .bool true, .int 276 0, .ref 92, .none, .ref 93, .ref 94, .ref 95, .int 440 0, .int 41 0, .str "/claim/cut.py" 441]), #[]⟩
noncomputable def o97 (P : Params) : Obj := ⟨.type "function", none, (fd (clsS 7 3) "Headers.__setitem__" 3 (.none) (.none) (.none) (.str "cpy313.wsgiref.headers" 289) (.ref 96) (.none) 0), #[]⟩
noncomputable def o98 (P : Params) : Obj := ⟨.type "tuple", none, (.seq #[] 0), #[]⟩
noncomputable def o99 (P : Params) : Obj := ⟨.none, none, (.fields #[]), #[]⟩
noncomputable def o100 (P : Params) : Obj := ⟨.none, none, (fd (clsS 7 4) "Headers.__delitem__" 0 (.none) (.none) (.none) (.none) (.none) (.none) 0), #[]⟩
noncomputable def o101 (P : Params) : Obj := ⟨.type "code", none, (.fields #[.str "__delitem__" 443, .str "Headers.__delitem__" 444, .str "/claim/cut.py" 445, .int 45 0, .int 2 0, .int 0 0, .int 0 0, .int 3 0, .ref 98, .bool true, .int 276 0, .ref 99, .none, .none, .none, .ref 100, .int 446 0, .int 45 0, .str "/claim/cut.py" 447]), #[]⟩
noncomputable def o102 (P : Params) : Obj := ⟨.type "function", none, (fd (clsS 7 4) "Headers.__delitem__" 3 (.none) (.none) (.none) (.str "cpy313.wsgiref.headers" 289) (.ref 101) (.none) 0), #[]⟩
noncomputable def o103 (P : Params) : Obj := ⟨.type "tuple", none, (.seq #[] 0), #[]⟩
noncomputable def o104 (P : Params) : Obj := ⟨.none, none, (.fields #[]), #[]⟩
noncomputable def o105 (P : Params) : Obj := ⟨.type "tuple", none, (.seq #[.str "self" 452, .str "name" 453] 0), #[]⟩
noncomputable def o106 (P : Params) : Obj := ⟨.type "tuple", none, (.seq #[] 0), #[]⟩
noncomputable def o107 (P : Params) : Obj := ⟨.none, none, (fd (clsS 7 5) "Headers.__getitem__" 0 (.none) (.none) (.none) (.none) (.none) (.none) 0), #[]⟩
noncomputable def o108 (P : Params) : Obj := ⟨.type "code", none, (.fields #[.str "__getitem__" 449, .str "Headers.__getitem__" 450, .str "/claim/cut.py" 451, .int 49 0, .int 2 0, .int 0 0, .int 0 0, .int 3 0, .ref 103, .bool true, .int 276 0, .ref 104, .none, .ref 105, .ref 106, .ref 107, .int 454 0, .int 49 0, .str "/claim/cut.py" 455]), #[]⟩
noncomputable def o109 (P : Params) : Obj := ⟨.type "function", none, (fd (clsS 7 5) "Headers.__getitem__" 3 (.none) (.none) (.none) (.str "cpy313.wsgiref.headers" 289) (.ref 108) (.none) 0), #[]⟩
noncomputable def o110 (P : Params) : Obj := ⟨.type "tuple", none, (.seq #[] 0), #[]⟩
noncomputable def o111 (P : Params) : Obj := ⟨.none, none, (.fields #[]), #[]⟩
noncomputable def o112 (P : Params) : Obj := ⟨.type "tuple", none, (.seq #[.str "self" 460, .str "name" 461] 0), #[]⟩
noncomputable def o113 (P : Params) : Obj := ⟨.type "tuple", none, (.seq #[] 0), #[]⟩
noncomputable def o114 (P : Params) : Obj := ⟨.none, none, (fd (clsS 7 6) "Headers.__contains__" 0 (.none) (.none) (.none) (.none) (.none) (.none) 0), #[]⟩
noncomputable def o115 (P : Params) : Obj := ⟨.type "code", none, (.fields #[.str "__contains__" 457, .str "Headers.__contains__" 458, .str "/claim/cut.py" 459, .int 52 0, .int 2 0, .int 0 0, .int 0 0, .int 3 0, .ref 110, .bool true, .int 276 0, .ref 111, .none, .ref 112, .ref 113, .ref 114, .int 462 0, .int 52 0, .str "/claim/cut.py" 463]), #[]⟩
noncomputable def o116 (P : Params) : Obj := ⟨.type "function", none, (fd (clsS 7 6) "Headers.__contains__" 3 (.none) (.none) (.none) (.str "cpy313.wsgiref.headers" 289) (.ref 115) (.none) 0), #[]⟩
noncomputable def o117 (P : Params) : Obj := ⟨.type "tuple", none, (.seq #[] 0), #[]⟩
noncomputable def o118 (P : Params) : Obj := ⟨.none, none, (.fields #[]), #[]⟩
noncomputable def o119 (P : Params) : Obj := ⟨.none, none, (fd (clsS 7 7) "Headers.get_all" 0 (.none) (.none) (.none) (.none) (.none) (.none) 0), #[]⟩
noncomputable def o120 (P : Params) : Obj := ⟨.type "code", none, (.fields #[.str "get_all" 465, .str "Headers.get_all" 466, .str "/claim/cut.py" 467, .int 55 0, .int 2 0, .int 0 0, .int 0 0, .int 3 0, .ref 117, .bool true, .int 276 0, .ref 118, .none, .none, .none, .ref 119, .int 468 0, .int 55 0, .str "/claim/cut.py" 469]), #[]⟩
noncomputable def o121 (P : Params) : Obj := ⟨.type "function", none, (fd (clsS 7 7) "Headers.get_all" 3 (.none) (.none) (.none) (.str "cpy313.wsgiref.headers" 289) (.ref 120) (.none) 0), #[]⟩
noncomputable def o122 (P : Params) : Obj := ⟨.type "tuple", none, (.seq #[.none] 0), #[]⟩
noncomputable def o123 (P : Params) : Obj := ⟨.type "tuple", none, (.seq #[] 0), #[]⟩
noncomputable def o124 (P : Params) : Obj := ⟨.none, none, (.fields #[]), #[]⟩
noncomputable def o125 (P : Params) : Obj := ⟨.type "tuple", none, (.seq #[.str "self" 474, .str "name" 475, .str "default" 476, .str "k" 477, .str "v" 478] 0), #[]⟩
noncomputable def o126 (P : Params) : Obj := ⟨.type "tuple", none, (.seq #[] 0), #[]⟩
noncomputable def o127 (P : Params) : Obj := ⟨.none, none, (fd (clsS 7 8) "Headers.get" 0 (.none) (.none) (.none) (.none) (.none) (.none) 0), #[]⟩
noncomputable def o128 (P : Params) : Obj := ⟨.type "code", none, (.fields #[.str "get" 471, .str "Headers.get" 472, .str "/claim/cut.py" 473, .int 59 0, .int 3 0, .int 0 0, .int 0 0, .int 3 0, .ref 123, .bool true, .int 276 0, .ref 124, .none, .ref 125, .ref 126, .ref 127, .int 479 0, .int 59 0, .str "/claim/cut.py" 480]), #[]⟩
noncomputable def o129 (P : Params) : Obj := ⟨.type "function", none, (fd (clsS 7 8) "Headers.get" 3 (.ref 122) (.none) (.none) (.str "cpy313.wsgiref.headers" 289) (.ref 128) (.none) 0), #[]⟩
noncomputable def o130 (P : Params) : Obj := ⟨.type "tuple", none, (.seq #[] 0), #[]⟩
noncomputable def o131 (P : Params) : Obj := ⟨.none, none, (.fields #[]), #[]⟩
noncomputable def o132 (P : Params) : Obj := ⟨.none, none, (fd (clsS 7 9) "Headers.keys" 0 (.none) (.none) (.none) (.none) (.none) (.none) 0), #[]⟩
noncomputable def o133 (P : Params) : Obj := ⟨.type "code", none, (.fields #[.str "keys" 482, .str "Headers.keys" 483, .str "/claim/cut.py" 484, .int 66 0, .int 1 0, .int 0 0, .int 0 0, .int 3 0, .ref 130, .bool true, .int 276 0, .ref 131, .none, .none, .none, .ref 132, .int 485 0, .int 66 0, .str "/claim/cut.py" 486]), #[]⟩
noncomputable def o134 (P : Params) : Obj := ⟨.type "function", none, (fd (clsS 7 9) "Headers.keys" 3 (.none) (.none) (.none) (.str "cpy313.wsgiref.headers" 289) (.ref 133) (.none) 0), #[]⟩
noncomputable def o135 (P : Params) : Obj := ⟨.type "tuple", none, (.seq #[] 0), #[]⟩
noncomputable def o136 (P : Params) : Obj := ⟨.none, none, (.fields #[]), #[]⟩
noncomputable def o137 (P : Params) : Obj := ⟨.none, none, (fd (clsS 7 10) "Headers.values" 0 (.none) (.none) (.none) (.none) (.none) (.none) 0), #[]⟩
noncomputable def o138 (P : Params) : Obj := ⟨.type "code", none, (.fields #[.str "values" 488, .str "Headers.values" 489, .str "/claim/cut.py" 490, .int 69 0, .int 1 0, .int 0 0, .int 0 0, .int 3 0, .ref 135, .bool true, .int 276 0, .ref 136, .none, .none, .none, .ref 137, .int 491 0, .int 69 0, .str "/claim/cut.py" 492]), #[]⟩
noncomputable def o139 (P : Params) : Obj := ⟨.type "function", none, (fd (clsS 7 10) "Headers.values" 3 (.none) (.none) (.none) (.str "cpy313.wsgiref.headers" 289) (.ref 138) (.none) 0), #[]⟩
noncomputable def o140 (P : Params) : Obj := ⟨.type "tuple", none, (.seq #[] 0), #[]⟩
noncomputable def o141 (P : Params) : Obj := ⟨.none, none, (.fields #[]), #[]⟩
noncomputable def o142 (P : Params) : Obj := ⟨.type "tuple", none, (.seq #[.str "self" 497] 0), #[]⟩
noncomputable def o143 (P : Params) : Obj := ⟨.type "tuple", none, (.seq #[] 0), #[]⟩
noncomputable def o144 (P : Params) : Obj := ⟨.none, none, (fd (clsS 7 11) "Headers.items" 0 (.none) (.none) (.none) (.none) (.none) (.none) 0), #[]⟩
noncomputable def o145 (P : Params) : Obj := ⟨.type "code", none, (.fields #[.str "items" 494, .str "Headers.items" 495, .str "/claim/cut.py" 496, .int 72 0, .int 1 0, .int 0 0, .int 0 0, .int 3 0, .ref 140, .bool true, .int 276 0, .ref 141, .none, .ref 142, .ref 143, .ref 144, .int 498 0, .int 72 0, .str "/claim/cut.py" 499]), #[]⟩
noncomputable def o146 (P : Params) : Obj := ⟨.type "function", none, (fd (clsS 7 11) "Headers.items" 3 (.none) (.none) (.none) (.str "cpy313.wsgiref.headers" 289) (.ref 145) (.none) 0), #[]⟩
noncomputable def o147 (P : Params) : Obj := ⟨.type "tuple", none, (.seq #[] 0), #[]⟩
noncomputable def o148 (P : Params) : Obj := ⟨.none, none, (.fields #[]), #[]⟩
noncomputable def o149 (P : Params) : Obj := ⟨.type "tuple", none, (.seq #[.str "self" 504] 0), #[]⟩
noncomputable def o150 (P : Params) : Obj := ⟨.type "tuple", none, (.seq #[] 0), #[]⟩
noncomputable def o151 (P : Params) : Obj := ⟨.none, none, (fd (clsS 7 12) "Headers.__repr__" 0 (.none) (.none) (.none) (.none) (.none) (.none) 0), #[]⟩
noncomputable def o152 (P : Params) : Obj := ⟨.type "code", none, (.fields #[.str "__repr__" 501, .str "Headers.__repr__" 502, .str "/claim/cut.py" 503, .int 75 0, .int 1 0, .int 0 0, .int 0 0, .int 3 0, .ref 147, .bool true, .int 276 0, .ref 148, .none, .ref 149, .ref 150, .ref 151, .int 505 0, .int 75 0, .str "/claim/cut.py" 506]), #[]⟩
noncomputable def o153 (P : Params) : Obj := ⟨.type "function", none, (fd (clsS 7 12) "Headers.__repr__" 3 (.none) (.none) (.none) (.str "cpy313.wsgiref.headers" 289) (.ref 152) (.none) 0), #[]⟩
noncomputable def o154 (P : Params) : Obj := ⟨.type "tuple", none, (.seq #[] 0), #[]⟩
noncomputable def o155 (P : Params) : Obj := ⟨.none, none, (.fields #[]), #[]⟩
noncomputable def o156 (P : Params) : Obj := ⟨.none, none, (fd (clsS 7 13) "Headers.__str__" 0 (.none) (.none) (.none) (.none) (.none) (.none) 0), #[]⟩
noncomputable def o157 (P : Params) : Obj := ⟨.type "code", none, (.fields #[.str "__str__" 508, .str "Headers.__str__" 509, .str "/claim/cut.py" 510, .int 78 0, .int 1 0, .int 0 0, .int 0 0, .int 3 0, .ref 154, .bool true, .int 276 0, .ref 155, .none, .none, .none, .ref 156, .int 511 0, .int 78 0, .str "/claim/cut.py" 512]), #[]⟩
noncomputable def o158 (P : Params) : Obj := ⟨.type "function", none, (fd (clsS 7 13) "Headers.__str__" 3 (.none) (.none) (.none) (.str "cpy313.wsgiref.headers" 289) (.ref 157) (.none) 0), #[]⟩
noncomputable def o159 (P : Params) : Obj := ⟨.type "tuple", none, (.seq #[] 0), #[]⟩
noncomputable def o160 (P : Params) : Obj := ⟨.none, none, (.fields #[]), #[]⟩
noncomputable def o161 (P : Params) : Obj := ⟨.type "tuple", none, (.seq #[.str "self" 517] 0), #[]⟩
noncomputable def o162 (P : Params) : Obj := ⟨.type "tuple", none, (.seq #[] 0), #[]⟩
noncomputable def o163 (P : Params) : Obj := ⟨.none, none, (fd (clsS 7 14) "Headers.__bytes__" 0 (.none) (.none) (.none) (.none) (.none) (.none) 0), #[]⟩
noncomputable def o164 (P : Params) : Obj := ⟨.type "code", none, (.fields #[.str "__bytes__" 514, .str "Headers.__bytes__" 515, .str "/claim/cut.py" 516, .int 81 0, .int 1 0, .int 0 0, .int 0 0, .int 3 0, .ref 159, .bool true, .int 276 0, .ref 160, .none, .ref 161, .ref 162, .ref 163, .int 518 0, .int 81 0, .str "/claim/cut.py" 519]), #[]⟩
noncomputable def o165 (P : Params) : Obj := ⟨.type "function", none, (fd (clsS 7 14) "Headers.__bytes__" 3 (.none) (.none) (.none) (.str "cpy313.wsgiref.headers" 289) (.ref 164) (.none) 0), #[]⟩
noncomputable def o166 (P : Params) : Obj := ⟨.type "tuple", none, (.seq #[] 0), #[]⟩
noncomputable def o167 (P : Params) : Obj := ⟨.none, none, (.fields #[]), #[]⟩
noncomputable def o168 (P : Params) : Obj := ⟨.type "tuple", none, (.seq #[.str "self" 524, .str "name" 525, .str "value" 526] 0), #[]⟩
noncomputable def o169 (P : Params) : Obj := ⟨.type "tuple", none, (.seq #[] 0), #[]⟩
noncomputable def o170 (P : Params) : Obj := ⟨.none, none, (fd (clsS 7 15) "Headers.setdefault" 0 (.none) (.none) (.none) (.none) (.none) (.none) 0), #[]⟩
noncomputable def o171 (P : Params) : Obj := ⟨.type "code", none, (.fields #[.str "setdefault" 521, .str "Headers.setdefault" 522, .str "/claim/cut.py" 523, .int 84 0, .int 3 0, .int 0 0, .int 0 0, .int 3 0, .ref 166, .bool true, .int 276 0, .ref 167, .none, .ref 168, .ref 169, .ref 170, .int 527 0, .int 84 0, .str "/claim/cut.py" 528]), #[]⟩
noncomputable def o172 (P : Params) : Obj := ⟨.type "function", none, (fd (clsS 7 15) "Headers.setdefault" 3 (.none) (.none) (.none) (.str "cpy313.wsgiref.headers" 289) (.ref 171) (.none) 0), #[]⟩
noncomputable def o173 (P : Params) : Obj := ⟨.type "tuple", none, (.seq #[] 0), #[]⟩
noncomputable def o174 (P : Params) : Obj := ⟨.none, none, (.fields #[]), #[]⟩
noncomputable def o175 (P : Params) : Obj := ⟨.type "tuple", none, (.seq #[.str "self" 533, .str "_name" 534, .str "_value" 535, .str "_params" 536, .str "parts" 537, .str "k" 538, .str "v" 539] 0), #[]⟩
noncomputable def o176 (P : Params) : Obj := ⟨.type "tuple", none, (.seq #[] 0), #[]⟩
noncomputable def o177 (P : Params) : Obj := ⟨.none, none, (fd (clsS 7 16) "Headers.add_header" 0 (.none) (.none) (.none) (.none) (.none) (.none) 0), #[]⟩
noncomputable def o178 (P : Params) : Obj := ⟨.type "code", none, (.fields #[.str "add_header" 530, .str "Headers.add_header" 531, .str "/claim/cut.py" 532, .int 87 0, .int 3 0, .int 0 0, .int 0 0, .int 11 0, .ref 173, .bool true, .int 276 0, .ref 174, .none, .ref 175, .ref 176, .ref 177, .int 540 0, .int 87 0, .str "/claim/cut.py" 541]), #[]⟩
noncomputable def o179 (P : Params) : Obj := ⟨.type "function", none, (fd (clsS 7 16) "Headers.add_header" 3 (.none) (.none) (.none) (.str "cpy313.wsgiref.headers" 289) (.ref 178) (.none) 0), #[]⟩
noncomputable def o180 (P : Params) : Obj := ⟨.type "tuple", none, (.seq #[.str "_headers" 543] 0), #[]⟩
noncomputable def o181 (P : Params) : Obj := ⟨.type "dict", none, (.dict #[en P "__module__" 402 (.str "cpy313.wsgiref.headers" 289), en P "__firstlineno__" 406 (.int 18 405), en P "__init__" 416 (.ref 76), en P "_convert_string_type" 426 (.ref 83), en P "__len__" 433 (.ref 90), en P "__setitem__" 442 (.ref 97), en P "__delitem__" 448 (.ref 102), en P "__getitem__" 456 (.ref 109), en P "__contains__" 464 (.ref 116), en P "get_all" 470 (.ref 121), en P "get" 481 (.ref 129), en P "keys" 487 (.ref 134), en P "values" 493 (.ref 139), en P "items" 500 (.ref 146), en P "__repr__" 507 (.ref 153), en P "__str__" 513 (.ref 158), en P "__bytes__" 520 (.ref 165), en P "setdefault" 529 (.ref 172), en P "add_header" 542 (.ref 179), en P "__static_attributes__" 544 (.ref 180), en P "__dict__" 546 (.ref 183), en P "__weakref__" 548 (.ref 184), en P "__doc__" 549 (.none)] 4), #[]⟩
noncomputable def o182 (P : Params) : Obj := ⟨.type "type", none, (.cls { name := "Headers", bases := [.type "object"], mro := [.ref 182, .type "object"], ns := 181, qualname := "Headers", hasDict := true, slotNames := [], subclasses := [], abstract := false, collection := none, hasDel := false }), #[none, none, some (.str "Headers" 395), some (.str "Headers" 403), some (.builtin "object.__new__"), some (.bool true)]⟩
noncomputable def o183 (P : Params) : Obj := ⟨.type "getset_descriptor", none, (.fields #[.str "__dict__" 545, .ref 182, .builtin "function.__dict__", .builtin "function.__dict__#set"]), #[]⟩
noncomputable def o184 (P : Params) : Obj := ⟨.type "getset_descriptor", none, (.fields #[.str "__weakref__" 547, .ref 182, .builtin "ExceptionGroup.__weakref__", .none]), #[]⟩
noncomputable def o185 (P : Params) : Obj := ⟨.type "super", none, (.fields #[.ref 182, .ref 182, .ref 182]), #[]⟩
noncomputable def o186 (P : Params) : Obj := ⟨.type "builtin_function_or_method", none, (.fields #[.builtin "object.__init_subclass__", .ref 182]), #[]⟩
noncomputable def o187 (P : Params) : Obj := ⟨.type "tuple", none, (.seq #[] 0), #[]⟩
noncomputable def o188 (P : Params) : Obj := ⟨.none, none, (.fields #[]), #[]⟩
noncomputable def o189 (P : Params) : Obj := ⟨.type "tuple", none, (.seq #[.str "heap" 557, .str "item" 558] 0), #[]⟩
noncomputable def o190 (P : Params) : Obj := ⟨.type "tuple", none, (.seq #[] 0), #[]⟩
noncomputable def o191 (P : Params) : Obj := ⟨.none, none, (fd (topS 9) "heappush" 0 (.none) (.none) (.none) (.none) (.none) (.none) 0), #[]⟩
noncomputable def o192 (P : Params) : Obj := ⟨.type "code", none, (.fields #[.str "heappush" 554, .str "heappush" 555, .str "/claim/cut.py" 556, .int 101 0, .int 2 0, .int 0 0, .int 0 0, .int 3 0, .ref 187, .bool true, .int 276 0, .ref 188, .none, .ref 189, .ref 190, .ref 191, .int 559 0, .int 101 0, .str "/claim/cut.py" 560]), #[]⟩
noncomputable def o193 (P : Params) : Obj := ⟨.type "function", none, (fd (topS 9) "heappush" 3 (.none) (.none) (.none) (.str "cpy313.heapq" 552) (.ref 192) (.none) 0), #[]⟩
noncomputable def o194 (P : Params) : Obj := ⟨.type "tuple", none, (.seq #[] 0), #[]⟩
noncomputable def o195 (P : Params) : Obj := ⟨.none, none, (.fields #[]), #[]⟩
noncomputable def o196 (P : Params) : Obj := ⟨.type "tuple", none, (.seq #[.str "heap" 565, .str "lastelt" 566, .str "returnitem" 567] 0), #[]⟩
noncomputable def o197 (P : Params) : Obj := ⟨.type "tuple", none, (.seq #[] 0), #[]⟩
noncomputable def o198 (P : Params) : Obj := ⟨.none, none, (fd (topS 10) "heappop" 0 (.none) (.none) (.none) (.none) (.none) (.none) 0), #[]⟩
noncomputable def o199 (P : Params) : Obj := ⟨.type "code", none, (.fields #[.str "heappop" 562, .str "heappop" 563, .str "/claim/cut.py" 564, .int 104 0, .int 1 0, .int 0 0, .int 0 0, .int 3 0, .ref 194, .bool true, .int 276 0, .ref 195, .none, .ref 196, .ref 197, .ref 198, .int 568 0, .int 104 0, .str "/claim/cut.py" 569]), #[]⟩
noncomputable def o200 (P : Params) : Obj := ⟨.type "function", none, (fd (topS 10) "heappop" 3 (.none) (.none) (.none) (.str "cpy313.heapq" 552) (.ref 199) (.none) 0), #[]⟩
noncomputable def o201 (P : Params) : Obj := ⟨.type "tuple", none, (.seq #[] 0), #[]⟩
noncomputable def o202 (P : Params) : Obj := ⟨.none, none, (.fields #[]), #[]⟩
noncomputable def o203 (P : Params) : Obj := ⟨.type "tuple", none, (.seq #[.str "heap" 574, .str "startpos" 575, .str "pos" 576, .str "newitem" 577, .str "parentpos" 578, .str "parent" 579] 0), #[]⟩
noncomputable def o204 (P : Params) : Obj := ⟨.type "tuple", none, (.seq #[] 0), #[]⟩
noncomputable def o205 (P : Params) : Obj := ⟨.none, none, (fd (topS 11) "_siftdown" 0 (.none) (.none) (.none) (.none) (.none) (.none) 0), #[]⟩
noncomputable def o206 (P : Params) : Obj := ⟨.type "code", none, (.fields #[.str "_siftdown" 571, .str "_siftdown" 572, .str "/claim/cut.py" 573, .int 112 0, .int 3 0, .int 0 0, .int 0 0, .int 3 0, .ref 201, .bool true, .int 276 0, .ref 202, .none, .ref 203, .ref 204, .ref 205, .int 580 0, .int 112 0, .str "/claim/cut.py" 581]), #[]⟩
noncomputable def o207 (P : Params) : Obj := ⟨.type "function", none, (fd (topS 11) "_siftdown" 3 (.none) (.none) (.none) (.str "cpy313.heapq" 552) (.ref 206) (.none) 0), #[]⟩
noncomputable def o208 (P : Params) : Obj := ⟨.type "tuple", none, (.seq #[] 0), #[]⟩
noncomputable def o209 (P : Params) : Obj := ⟨.none, none, (.fields #[]), #[]⟩
noncomputable def o210 (P : Params) : Obj := ⟨.type "tuple", none, (.seq #[.str "heap" 586, .str "pos" 587, .str "endpos" 588, .str "startpos" 589, .str "newitem" 590, .str "childpos" 591, .str "rightpos" 592] 0), #[]⟩
noncomputable def o211 (P : Params) : Obj := ⟨.type "tuple", none, (.seq #[] 0), #[]⟩
noncomputable def o212 (P : Params) : Obj := ⟨.none, none, (fd (topS 12) "_siftup" 0 (.none) (.none) (.none) (.none) (.none) (.none) 0), #[]⟩
noncomputable def o213 (P : Params) : Obj := ⟨.type "code", none, (.fields #[.str "_siftup" 583, .str "_siftup" 584, .str "/claim/cut.py" 585, .int 123 0, .int 2 0, .int 0 0, .int 0 0, .int 3 0, .ref 208, .bool true, .int 276 0, .ref 209, .none, .ref 210, .ref 211, .ref 212, .int 593 0, .int 123 0, .str "/claim/cut.py" 594]), #[]⟩
noncomputable def o214 (P : Params) : Obj := ⟨.type "function", none, (fd (topS 12) "_siftup" 3 (.none) (.none) (.none) (.str "cpy313.heapq" 552) (.ref 213) (.none) 0), #[]⟩
noncomputable def o215 (P : Params) : Obj := ⟨.type "tuple", none, (.seq #[] 0), #[]⟩
noncomputable def o216 (P : Params) : Obj := ⟨.none, none, (.fields #[]), #[]⟩
noncomputable def o217 (P : Params) : Obj := ⟨.type "tuple", none, (.seq #[.str "x" 601, .str "what" 602, .str "kind" 603] 0), #[]⟩
noncomputable def o218 (P : Params) : Obj := ⟨.type "tuple", none, (.seq #[] 0), #[]⟩
noncomputable def o219 (P : Params) : Obj := ⟨.none, none, (fd (topS 14) "_plain_name" 0 (.none) (.none) (.none) (.none) (.none) (.none) 0), #[]⟩
noncomputable def o220 (P : Params) : Obj := ⟨.type "code", none, (.fields #[.str "_plain_name" 598, .str "_plain_name" 599, .str "/claim/cut.py" 600, .int 138 0, .int 2 0, .int 0 0, .int 0 0, .int 3 0, .ref 215, .bool true, .int 276 0, .ref 216, .none, .ref 217, .ref 218, .ref 219, .int 604 0, .int 138 0, .str "/claim/cut.py" 605]), #[]⟩
noncomputable def o221 (P : Params) : Obj := ⟨.type "function", none, (fd (topS 14) "_plain_name" 3 (.none) (.none) (.none) (.str "os" 596) (.ref 220) (.none) 0), #[]⟩
noncomputable def o222 (P : Params) : Obj := ⟨.type "tuple", none, (.seq #[.type "type"] 0), #[]⟩
noncomputable def o223 (P : Params) : Obj := ⟨.type "builtin_function_or_method", none, (.fields #[.builtin "type.__prepare__", .type "type"]), #[]⟩
noncomputable def o224 (P : Params) : Obj := ⟨.type "dict", none, (.dict #[en P "__module__" 616 (.str "abc" 607), en P "__qualname__" 618 (.str "ABCMeta" 617), en P "__firstlineno__" 620 (.int 144 619), en P "register" 628 (.ref 235), en P "__static_attributes__" 629 (.ref 236)] 5), #[]⟩
noncomputable def o225 (P : Params) : Obj := ⟨.type "tuple", none, (.seq #[] 0), #[]⟩
noncomputable def o226 (P : Params) : Obj := ⟨.none, none, (.fields #[.int 146 0, .int 4 0, .ref 234]), #[]⟩
noncomputable def o227 (P : Params) : Obj := ⟨.type "code", none, (.fields #[.str "ABCMeta" 611, .str "ABCMeta" 612, .str "/claim/cut.py" 613, .int 144 0, .int 0 0, .int 0 0, .int 0 0, .int 0 0, .ref 225, .bool false, .int 276 0, .ref 226, .none, .none, .none, .none, .int 614 0, .int 144 0, .str "/claim/cut.py" 615]), #[]⟩
noncomputable def o228 (P : Params) : Obj := ⟨.type "frame", none, .plain, #[some (.ref 227), some (.ref 3), some (.ref 224), none, some (.str "abc" 607), none, some (.ref 0)]⟩
noncomputable def o229 (P : Params) : Obj := ⟨.type "tuple", none, (.seq #[] 0), #[]⟩
noncomputable def o230 (P : Params) : Obj := ⟨.none, none, (.fields #[]), #[]⟩
noncomputable def o231 (P : Params) : Obj := ⟨.type "tuple", none, (.seq #[.str "cls" 624, .str "subclass" 625] 0), #[]⟩
noncomputable def o232 (P : Params) : Obj := ⟨.type "tuple", none, (.seq #[] 0), #[]⟩
noncomputable def o233 (P : Params) : Obj := ⟨.none, none, (fd (clsS 16 0) "ABCMeta.register" 0 (.none) (.none) (.none) (.none) (.none) (.none) 0), #[]⟩
noncomputable def o234 (P : Params) : Obj := ⟨.type "code", none, (.fields #[.str "register" 621, .str "ABCMeta.register" 622, .str "/claim/cut.py" 623, .int 146 0, .int 2 0, .int 0 0, .int 0 0, .int 3 0, .ref 229, .bool true, .int 276 0, .ref 230, .none, .ref 231, .ref 232, .ref 233, .int 626 0, .int 146 0, .str "/claim/cut.py" 627]), #[]⟩
noncomputable def o235 (P : Params) : Obj := ⟨.type "function", none, (fd (clsS 16 0) "ABCMeta.register" 3 (.none) (.none) (.none) (.str "abc" 607) (.ref 234) (.none) 0), #[]⟩
noncomputable def o236 (P : Params) : Obj := ⟨.type "tuple", none, (.seq #[] 0), #[]⟩
noncomputable def o237 (P : Params) : Obj := ⟨.type "dict", none, (.dict #[en P "__module__" 616 (.str "abc" 607), en P "__firstlineno__" 620 (.int 144 619), en P "register" 628 (.ref 235), en P "__static_attributes__" 629 (.ref 236), en P "__doc__" 630 (.none)] 2), #[]⟩
noncomputable def o238 (P : Params) : Obj := ⟨.type "type", none, (.cls { name := "ABCMeta", bases := [.type "type"], mro := [.ref 238, .type "type", .type "object"], ns := 237, qualname := "ABCMeta", hasDict := true, slotNames := [], subclasses := [.ref 271], abstract := false, collection := none, hasDel := false }), #[some (.ref 222), none, some (.str "ABCMeta" 609), some (.str "ABCMeta" 617), some (.builtin "type.__new__"), some (.bool true)]⟩
noncomputable def o239 (P : Params) : Obj := ⟨.type "super", none, (.fields #[.ref 238, .ref 238, .ref 238]), #[]⟩
noncomputable def o240 (P : Params) : Obj := ⟨.type "builtin_function_or_method", none, (.fields #[.builtin "object.__init_subclass__", .ref 238]), #[]⟩
noncomputable def o241 (P : Params) : Obj := ⟨.type "tuple", none, (.seq #[.ref 238] 0), #[]⟩
noncomputable def o242 (P : Params) : Obj := ⟨.type "builtin_function_or_method", none, (.fields #[.builtin "type.__prepare__", .type "type"]), #[]⟩
noncomputable def o243 (P : Params) : Obj := ⟨.type "dict", none, (.dict #[en P "__module__" 642 (.str "collections.abc" 633), en P "__qualname__" 644 (.str "_ABCLike" 643), en P "__firstlineno__" 646 (.int 149 645), en P "__instancecheck__" 655 (.ref 254), en P "__subclasscheck__" 663 (.ref 261), en P "register" 671 (.ref 268), en P "__static_attributes__" 672 (.ref 269)] 7), #[]⟩
noncomputable def o244 (P : Params) : Obj := ⟨.type "tuple", none, (.seq #[] 0), #[]⟩
noncomputable def o245 (P : Params) : Obj := ⟨.none, none, (.fields #[.int 151 0, .int 4 0, .ref 253, .int 157 0, .int 4 0, .ref 260, .int 162 0, .int 4 0, .ref 267]), #[]⟩
noncomputable def o246 (P : Params) : Obj := ⟨.type "code", none, (.fields #[.str "_ABCLike" 637, .str "_ABCLike" 638, .str "/claim/cut.py" 639, .int 149 0, .int 0 0, .int 0 0, .int 0 0, .int 0 0, .ref 244, .bool false, .int 276 0, .ref 245, .none, .none, .none, .none, .int 640 0, .int 149 0, .str "/claim/cut.py" 641]), #[]⟩
noncomputable def o247 (P : Params) : Obj := ⟨.type "frame", none, .plain, #[some (.ref 246), some (.ref 3), some (.ref 243), none, some (.str "collections.abc" 633), none, some (.ref 0)]⟩
noncomputable def o248 (P : Params) : Obj := ⟨.type "tuple", none, (.seq #[] 0), #[]⟩
noncomputable def o249 (P : Params) : Obj := ⟨.none, none, (.fields #[]), #[]⟩
noncomputable def o250 (P : Params) : Obj := ⟨.type "tuple", none, (.seq #[.str "cls" 650, .str "\x69nstance" 651, .str "C" 652] 0), #[]⟩
noncomputable def o251 (P : Params) : Obj := ⟨.type "tuple", none, (.seq #[] 0), #[]⟩
noncomputable def o252 (P : Params) : Obj := ⟨.none, none, (fd (clsS 18 0) "_ABCLike.__instancecheck__" 0 (.none) (.none) (.none) (.none) (.none) (.none) 0), #[]⟩
noncomputable def o253 (P : Params) : Obj := ⟨.type "code", none, (.fields #[.str "__instancecheck__" 647, .str "_ABCLike.__instancecheck__" 648, .str "/claim/cut.py" 649, .int 151 0, .int 2 0, .int 0 0, .int 0 0, .int 3 0, .ref 248, .bool true, .int 276 0, .ref 249, .none, .ref 250, .ref 251, .ref 252, .int 653 0, .int 151 0, .str "/claim/cut.py" 654]), #[]⟩
noncomputable def o254 (P : Params) : Obj := ⟨.type "function", none, (fd (clsS 18 0) "_ABCLike.__instancecheck__" 3 (.none) (.none) (.none) (.str "collections.abc" 633) (.ref 253) (.none) 0), #[]⟩
noncomputable def o255 (P : Params) : Obj := ⟨.type "tuple", none, (.seq #[] 0), #[]⟩
noncomputable def o256 (P : Params) : Obj := ⟨.none, none, (.fields #[]), #[]⟩
noncomputable def o257 (P : Params) : Obj := ⟨.type "tuple", none, (.seq #[.str "cls" 659, .str "C" 660] 0), #[]⟩
noncomputable def o258 (P : Params) : Obj := ⟨.type "tuple", none, (.seq #[] 0), #[]⟩
noncomputable def o259 (P : Params) : Obj := ⟨.none, none, (fd (clsS 18 1) "_ABCLike.__subclasscheck__" 0 (.none) (.none) (.none) (.none) (.none) (.none) 0), #[]⟩
noncomputable def o260 (P : Params) : Obj := ⟨.type "code", none, (.fields #[.str "__subclasscheck__" 656, .str "_ABCLike.__subclasscheck__" 657, .str "/claim/cut.py" 658, .int 157 0, .int 2 0, .int 0 0, .int 0 0, .int 3 0, .ref 255, .bool true, .int 276 0, .ref 256, .none, .ref 257, .ref 258, .ref 259, .int 661 0, .int 157 0, .str "/claim/cut.py" 662]), #[]⟩
noncomputable def o261 (P : Params) : Obj := ⟨.type "function", none, (fd (clsS 18 1) "_ABCLike.__subclasscheck__" 3 (.none) (.none) (.none) (.str "collections.abc" 633) (.ref 260) (.none) 0), #[]⟩
noncomputable def o262 (P : Params) : Obj := ⟨.type "tuple", none, (.seq #[] 0), #[]⟩
noncomputable def o263 (P : Params) : Obj := ⟨.none, none, (.fields #[]), #[]⟩
noncomputable def o264 (P : Params) : Obj := ⟨.type "tuple", none, (.seq #[.str "cls" 667, .str "subclass" 668] 0), #[]⟩
noncomputable def o265 (P : Params) : Obj := ⟨.type "tuple", none, (.seq #[] 0), #[]⟩
noncomputable def o266 (P : Params) : Obj := ⟨.none, none, (fd (clsS 18 2) "_ABCLike.register" 0 (.none) (.none) (.none) (.none) (.none) (.none) 0), #[]⟩
noncomputable def o267 (P : Params) : Obj := ⟨.type "code", none, (.fields #[.str "register" 664, .str "_ABCLike.register" 665, .str "/claim/cut.py" 666, .int 162 0, .int 2 0, .int 0 0, .int 0 0, .int 3 0, .ref 262, .bool true, .int 276 0, .ref 263, .none, .ref 264, .ref 265, .ref 266, .int 669 0, .int 162 0, .str "/claim/cut.py" 670]), #[]⟩
noncomputable def o268 (P : Params) : Obj := ⟨.type "function", none, (fd (clsS 18 2) "_ABCLike.register" 3 (.none) (.none) (.none) (.str "collections.abc" 633) (.ref 267) (.none) 0), #[]⟩
noncomputable def o269 (P : Params) : Obj := ⟨.type "tuple", none, (.seq #[] 0), #[]⟩
noncomputable def o270 (P : Params) : Obj := ⟨.type "dict", none, (.dict #[en P "__module__" 642 (.str "collections.abc" 633), en P "__firstlineno__" 646 (.int 149 645), en P "__instancecheck__" 655 (.ref 254), en P "__subclasscheck__" 663 (.ref 261), en P "register" 671 (.ref 268), en P "__static_attributes__" 672 (.ref 269), en P "__doc__" 673 (.none)] 2), #[]⟩
noncomputable def o271 (P : Params) : Obj := ⟨.type "type", none, (.cls { name := "_ABCLike", bases := [.ref 238], mro := [.ref 271, .ref 238, .type "type", .type "object"], ns := 270, qualname := "_ABCLike", hasDict := true, slotNames := [], subclasses := [], abstract := false, collection := none, hasDel := false }), #[some (.ref 241), none, some (.str "_ABCLike" 635), some (.str "_ABCLike" 643), some (.builtin "type.__new__"), some (.bool true)]⟩
noncomputable def o272 (P : Params) : Obj := ⟨.type "super", none, (.fields #[.ref 271, .ref 271, .ref 271]), #[]⟩
noncomputable def o273 (P : Params) : Obj := ⟨.type "builtin_function_or_method", none, (.fields #[.builtin "object.__init_subclass__", .ref 271]), #[]⟩
noncomputable def o274 (P : Params) : Obj := ⟨.type "tuple", none, (.seq #[] 0), #[]⟩
noncomputable def o275 (P : Params) : Obj := ⟨.none, none, (.fields #[]), #[]⟩
noncomputable def o276 (P : Params) : Obj := ⟨.type "tuple", none, (.seq #[.str "C" 679] 0), #[]⟩
noncomputable def o277 (P : Params) : Obj := ⟨.type "tuple", none, (.seq #[] 0), #[]⟩
noncomputable def o278 (P : Params) : Obj := ⟨.none, none, (fd (topS 19) "_abc_plain_meta" 0 (.none) (.none) (.none) (.none) (.none) (.none) 0), #[]⟩
noncomputable def o279 (P : Params) : Obj := ⟨.type "code", none, (.fields #[.str "_abc_plain_meta" 676, .str "_abc_plain_meta" 677, .str "/claim/cut.py" 678, .int 164 0, .int 1 0, .int 0 0, .int 0 0, .int 3 0, .ref 274, .bool true, .int 276 0, .ref 275, .none, .ref 276, .ref 277, .ref 278, .int 680 0, .int 164 0, .str "/claim/cut.py" 681]), #[]⟩
noncomputable def o280 (P : Params) : Obj := ⟨.type "function", none, (fd (topS 19) "_abc_plain_meta" 3 (.none) (.none) (.none) (.str "collections.abc" 633) (.ref 279) (.none) 0), #[]⟩
noncomputable def o281 (P : Params) : Obj := ⟨.type "tuple", none, (.seq #[] 0), #[]⟩
noncomputable def o282 (P : Params) : Obj := ⟨.none, none, (.fields #[]), #[]⟩
noncomputable def o283 (P : Params) : Obj := ⟨.type "tuple", none, (.seq #[.str "path" 688, .str "kind" 689, .str "hook" 690, .str "given" 691] 0), #[]⟩
noncomputable def o284 (P : Params) : Obj := ⟨.type "tuple", none, (.seq #[] 0), #[]⟩
noncomputable def o285 (P : Params) : Obj := ⟨.none, none, (fd (topS 21) "fspath" 0 (.none) (.none) (.none) (.none) (.none) (.none) 0), #[]⟩
noncomputable def o286 (P : Params) : Obj := ⟨.type "code", none, (.fields #[.str "fspath" 685, .str "fspath" 686, .str "/claim/cut.py" 687, .int 168 0, .int 1 0, .int 0 0, .int 0 0, .int 3 0, .ref 281, .bool true, .int 276 0, .ref 282, .none, .ref 283, .ref 284, .ref 285, .int 692 0, .int 168 0, .str "/claim/cut.py" 693]), #[]⟩
noncomputable def o287 (P : Params) : Obj := ⟨.type "function", none, (fd (topS 21) "fspath" 3 (.none) (.none) (.none) (.str "os" 683) (.ref 286) (.none) 0), #[]⟩
noncomputable def o288 (P : Params) : Obj := ⟨.type "tuple", none, (.seq #[] 0), #[]⟩
noncomputable def o289 (P : Params) : Obj := ⟨.none, none, (.fields #[]), #[]⟩
noncomputable def o290 (P : Params) : Obj := ⟨.type "tuple", none, (.seq #[.str "funcname" 700, .str "args" 701, .str "hasstr" 702, .str "hasbytes" 703, .str "s" 704] 0), #[]⟩
noncomputable def o291 (P : Params) : Obj := ⟨.type "tuple", none, (.seq #[] 0), #[]⟩
noncomputable def o292 (P : Params) : Obj := ⟨.none, none, (fd (topS 23) "_check_arg_types" 0 (.none) (.none) (.none) (.none) (.none) (.none) 0), #[]⟩
noncomputable def o293 (P : Params) : Obj := ⟨.type "code", none, (.fields #[.str "_check_arg_types" 697, .str "_check_arg_types" 698, .str "/claim/cut.py" 699, .int 185 0, .int 1 0, .int 0 0, .int 0 0, .int 7 0, .ref 288, .bool true, .int 276 0, .ref 289, .none, .ref 290, .ref 291, .ref 292, .int 705 0, .int 185 0, .str "/claim/cut.py" 706]), #[]⟩
noncomputable def o294 (P : Params) : Obj := ⟨.type "function", none, (fd (topS 23) "_check_arg_types" 3 (.none) (.none) (.none) (.str "cpy313.genericpath" 695) (.ref 293) (.none) 0), #[]⟩
noncomputable def o295 (P : Params) : Obj := ⟨.type "tuple", none, (.seq #[] 0), #[]⟩
noncomputable def o296 (P : Params) : Obj := ⟨.none, none, (.fields #[]), #[]⟩
noncomputable def o297 (P : Params) : Obj := ⟨.type "tuple", none, (.seq #[.str "path" 713] 0), #[]⟩
noncomputable def o298 (P : Params) : Obj := ⟨.type "tuple", none, (.seq #[] 0), #[]⟩
noncomputable def o299 (P : Params) : Obj := ⟨.none, none, (fd (topS 25) "_get_sep" 0 (.none) (.none) (.none) (.none) (.none) (.none) 0), #[]⟩
noncomputable def o300 (P : Params) : Obj := ⟨.type "code", none, (.fields #[.str "_get_sep" 710, .str "_get_sep" 711, .str "/claim/cut.py" 712, .int 197 0, .int 1 0, .int 0 0, .int 0 0, .int 3 0, .ref 295, .bool true, .int 276 0, .ref 296, .none, .ref 297, .ref 298, .ref 299, .int 714 0, .int 197 0, .str "/claim/cut.py" 715]), #[]⟩
noncomputable def o301 (P : Params) : Obj := ⟨.type "function", none, (fd (topS 25) "_get_sep" 3 (.none) (.none) (.none) (.str "cpy313.posixpath" 708) (.ref 300) (.none) 0), #[]⟩
noncomputable def o302 (P : Params) : Obj := ⟨.type "tuple", none, (.seq #[] 0), #[]⟩
noncomputable def o303 (P : Params) : Obj := ⟨.none, none, (.fields #[]), #[]⟩
noncomputable def o304 (P : Params) : Obj := ⟨.type "tuple", none, (.seq #[.str "a" 720, .str "p" 721, .str "sep" 722, .str "path" 723, .str "b" 724] 0), #[]⟩
noncomputable def o305 (P : Params) : Obj := ⟨.type "tuple", none, (.seq #[] 0), #[]⟩
noncomputable def o306 (P : Params) : Obj := ⟨.none, none, (fd (topS 26) "join" 0 (.none) (.none) (.none) (.none) (.none) (.none) 0), #[]⟩
noncomputable def o307 (P : Params) : Obj := ⟨.type "code", none, (.fields #[.str "join" 717, .str "join" 718, .str "/claim/cut.py" 719, .int 202 0, .int 1 0, .int 0 0, .int 0 0, .int 7 0, .ref 302, .bool true, .int 276 0, .ref 303, .none, .ref 304, .ref 305, .ref 306, .int 725 0, .int 202 0, .str "/claim/cut.py" 726]), #[]⟩
noncomputable def o308 (P : Params) : Obj := ⟨.type "function", none, (fd (topS 26) "join" 3 (.none) (.none) (.none) (.str "cpy313.posixpath" 708) (.ref 307) (.none) 0), #[]⟩
noncomputable def o309 (P : Params) : Obj := ⟨.type "tuple", none, (.seq #[] 0), #[]⟩
noncomputable def o310 (P : Params) : Obj := ⟨.none, none, (.fields #[]), #[]⟩
noncomputable def o311 (P : Params) : Obj := ⟨.type "tuple", none, (.seq #[.str "p" 731, .str "sep" 732, .str "empty" 733] 0), #[]⟩
noncomputable def o312 (P : Params) : Obj := ⟨.type "tuple", none, (.seq #[] 0), #[]⟩
noncomputable def o313 (P : Params) : Obj := ⟨.none, none, (fd (topS 27) "splitroot" 0 (.none) (.none) (.none) (.none) (.none) (.none) 0), #[]⟩
noncomputable def o314 (P : Params) : Obj := ⟨.type "code", none, (.fields #[.str "splitroot" 728, .str "splitroot" 729, .str "/claim/cut.py" 730, .int 219 0, .int 1 0, .int 0 0, .int 0 0, .int 3 0, .ref 309, .bool true, .int 276 0, .ref 310, .none, .ref 311, .ref 312, .ref 313, .int 734 0, .int 219 0, .str "/claim/cut.py" 735]), #[]⟩
noncomputable def o315 (P : Params) : Obj := ⟨.type "function", none, (fd (topS 27) "splitroot" 3 (.none) (.none) (.none) (.str "cpy313.posixpath" 708) (.ref 314) (.none) 0), #[]⟩
noncomputable def o316 (P : Params) : Obj := ⟨.type "tuple", none, (.seq #[] 0), #[]⟩
noncomputable def o317 (P : Params) : Obj := ⟨.none, none, (.fields #[]), #[]⟩
noncomputable def o318 (P : Params) : Obj := ⟨.type "tuple", none, (.seq #[.str "path" 740, .str "sep" 741, .str "dot" 742, .str "dotdot" 743, .str "_" 744, .str "initial_slashes" 745, .str "comps" 746, .str "new_comps" 747, .str "comp" 748] 0), #[]⟩
noncomputable def o319 (P : Params) : Obj := ⟨.type "tuple", none, (.seq #[] 0), #[]⟩
noncomputable def o320 (P : Params) : Obj := ⟨.none, none, (fd (topS 28) "normpath" 0 (.none) (.none) (.none) (.none) (.none) (.none) 0), #[]⟩
noncomputable def o321 (P : Params) : Obj := ⟨.type "code", none, (.fields #[.str "normpath" 737, .str "normpath" 738, .str "/claim/cut.py" 739, .int 233 0, .int 1 0, .int 0 0, .int 0 0, .int 3 0, .ref 316, .bool true, .int 276 0, .ref 317, .none, .ref 318, .ref 319, .ref 320, .int 749 0, .int 233 0, .str "/claim/cut.py" 750]), #[]⟩
noncomputable def o322 (P : Params) : Obj := ⟨.type "function", none, (fd (topS 28) "normpath" 3 (.none) (.none) (.none) (.str "cpy313.posixpath" 708) (.ref 321) (.none) 0), #[]⟩
noncomputable def o323 (P : Params) : Obj := ⟨.type "tuple", none, (.seq #[] 0), #[]⟩
noncomputable def o324 (P : Params) : Obj := ⟨.none, none, (.fields #[]), #[]⟩
noncomputable def o325 (P : Params) : Obj := ⟨.none, none, (fd (topS 29) "commonpath" 0 (.none) (.none) (.none) (.none) (.none) (.none) 0), #[]⟩
noncomputable def o326 (P : Params) : Obj := ⟨.type "code", none, (.fields #[.str "commonpath" 752, .str "commonpath" 753, .str "/claim/cut.py" 754, .int 258 0, .int 1 0, .int 0 0, .int 0 0, .int 3 0, .ref 323, .bool true, .int 276 0, .ref 324, .none, .none, .none, .ref 325, .int 755 0, .int 258 0, .str "/claim/cut.py" 756]), #[]⟩
noncomputable def o327 (P : Params) : Obj := ⟨.type "function", none, (fd (topS 29) "commonpath" 3 (.none) (.none) (.none) (.str "cpy313.posixpath" 708) (.ref 326) (.none) 0), #[]⟩
noncomputable def o328 (P : Params) : Obj := ⟨.type "tuple", none, (.seq #[] 0), #[]⟩
noncomputable def o329 (P : Params) : Obj := ⟨.none, none, (.fields #[]), #[]⟩
noncomputable def o330 (P : Params) : Obj := ⟨.type "tuple", none, (.seq #[.str "numbers" 763, .str "over" 764, .str "x" 765] 0), #[]⟩
noncomputable def o331 (P : Params) : Obj := ⟨.type "tuple", none, (.seq #[] 0), #[]⟩
noncomputable def o332 (P : Params) : Obj := ⟨.none, none, (fd (topS 31) "_law_over" 0 (.none) (.none) (.none) (.none) (.none) (.none) 0), #[]⟩
noncomputable def o333 (P : Params) : Obj := ⟨.type "code", none, (.fields #[.str "_law_over" 760, .str "_law_over" 761, .str "/claim/cut.py" 762, .int 288 0, .int 1 0, .int 0 0, .int 0 0, .int 3 0, .ref 328, .bool true, .int 276 0, .ref 329, .none, .ref 330, .ref 331, .ref 332, .int 766 0, .int 288 0, .str "/claim/cut.py" 767]), #[]⟩
noncomputable def o334 (P : Params) : Obj := ⟨.type "function", none, (fd (topS 31) "_law_over" 3 (.none) (.none) (.none) (.str "law_il0095_01" 758) (.ref 333) (.none) 0), #[]⟩
noncomputable def o335 (P : Params) : Obj := ⟨.type "tuple", none, (.seq #[] 0), #[]⟩
noncomputable def o336 (P : Params) : Obj := ⟨.none, none, (.fields #[]), #[]⟩
noncomputable def o337 (P : Params) : Obj := ⟨.type "tuple", none, (.seq #[.str "over" 772, .str "places" 773, .str "k" 774] 0), #[]⟩
noncomputable def o338 (P : Params) : Obj := ⟨.type "tuple", none, (.seq #[] 0), #[]⟩
noncomputable def o339 (P : Params) : Obj := ⟨.none, none, (fd (topS 32) "_law_places" 0 (.none) (.none) (.none) (.none) (.none) (.none) 0), #[]⟩
noncomputable def o340 (P : Params) : Obj := ⟨.type "code", none, (.fields #[.str "_law_places" 769, .str "_law_places" 770, .str "/claim/cut.py" 771, .int 293 0, .int 1 0, .int 0 0, .int 0 0, .int 3 0, .ref 335, .bool true, .int 276 0, .ref 336, .none, .ref 337, .ref 338, .ref 339, .int 775 0, .int 293 0, .str "/claim/cut.py" 776]), #[]⟩
noncomputable def o341 (P : Params) : Obj := ⟨.type "function", none, (fd (topS 32) "_law_places" 3 (.none) (.none) (.none) (.str "law_il0095_01" 758) (.ref 340) (.none) 0), #[]⟩
noncomputable def o342 (P : Params) : Obj := ⟨.type "tuple", none, (.seq #[] 0), #[]⟩
noncomputable def o343 (P : Params) : Obj := ⟨.none, none, (.fields #[]), #[]⟩
noncomputable def o344 (P : Params) : Obj := ⟨.type "tuple", none, (.seq #[.str "over" 781, .str "places" 782, .str "table" 783, .str "k" 784] 0), #[]⟩
noncomputable def o345 (P : Params) : Obj := ⟨.type "tuple", none, (.seq #[] 0), #[]⟩
noncomputable def o346 (P : Params) : Obj := ⟨.none, none, (fd (topS 33) "_law_links" 0 (.none) (.none) (.none) (.none) (.none) (.none) 0), #[]⟩
noncomputable def o347 (P : Params) : Obj := ⟨.type "code", none, (.fields #[.str "_law_links" 778, .str "_law_links" 779, .str "/claim/cut.py" 780, .int 298 0, .int 2 0, .int 0 0, .int 0 0, .int 3 0, .ref 342, .bool true, .int 276 0, .ref 343, .none, .ref 344, .ref 345, .ref 346, .int 785 0, .int 298 0, .str "/claim/cut.py" 786]), #[]⟩
noncomputable def o348 (P : Params) : Obj := ⟨.type "function", none, (fd (topS 33) "_law_links" 3 (.none) (.none) (.none) (.str "law_il0095_01" 758) (.ref 347) (.none) 0), #[]⟩
noncomputable def o349 (P : Params) : Obj := ⟨.type "tuple", none, (.seq #[] 0), #[]⟩
noncomputable def o350 (P : Params) : Obj := ⟨.none, none, (.fields #[]), #[]⟩
noncomputable def o351 (P : Params) : Obj := ⟨.none, none, (fd (topS 34) "_law_neighbours" 0 (.none) (.none) (.none) (.none) (.none) (.none) 0), #[]⟩
noncomputable def o352 (P : Params) : Obj := ⟨.type "code", none, (.fields #[.str "_law_neighbours" 788, .str "_law_neighbours" 789, .str "/claim/cut.py" 790, .int 304 0, .int 2 0, .int 0 0, .int 0 0, .int 3 0, .ref 349, .bool true, .int 276 0, .ref 350, .none, .none, .none, .ref 351, .int 791 0, .int 304 0, .str "/claim/cut.py" 792]), #[]⟩
noncomputable def o353 (P : Params) : Obj := ⟨.type "function", none, (fd (topS 34) "_law_neighbours" 3 (.none) (.none) (.none) (.str "law_il0095_01" 758) (.ref 352) (.none) 0), #[]⟩
noncomputable def o354 (P : Params) : Obj := ⟨.type "tuple", none, (.seq #[] 0), #[]⟩
noncomputable def o355 (P : Params) : Obj := ⟨.none, none, (.fields #[]), #[]⟩
noncomputable def o356 (P : Params) : Obj := ⟨.type "tuple", none, (.seq #[.str "table" 797, .str "loads" 798, .str "heap" 799, .str "place" 800, .str "carried" 801, .str "load" 802, .str "twig" 803, .str "goal" 804] 0), #[]⟩
noncomputable def o357 (P : Params) : Obj := ⟨.type "tuple", none, (.seq #[] 0), #[]⟩
noncomputable def o358 (P : Params) : Obj := ⟨.none, none, (fd (topS 35) "_law_carry" 0 (.none) (.none) (.none) (.none) (.none) (.none) 0), #[]⟩
noncomputable def o359 (P : Params) : Obj := ⟨.type "code", none, (.fields #[.str "_law_carry" 794, .str "_law_carry" 795, .str "/claim/cut.py" 796, .int 307 0, .int 2 0, .int 0 0, .int 0 0, .int 3 0, .ref 354, .bool true, .int 276 0, .ref 355, .none, .ref 356, .ref 357, .ref 358, .int 805 0, .int 307 0, .str "/claim/cut.py" 806]), #[]⟩
noncomputable def o360 (P : Params) : Obj := ⟨.type "function", none, (fd (topS 35) "_law_carry" 3 (.none) (.none) (.none) (.str "law_il0095_01" 758) (.ref 359) (.none) 0), #[]⟩
noncomputable def o361 (P : Params) : Obj := ⟨.type "tuple", none, (.seq #[] 0), #[]⟩
noncomputable def o362 (P : Params) : Obj := ⟨.none, none, (.fields #[]), #[]⟩
noncomputable def o363 (P : Params) : Obj := ⟨.none, none, (fd (topS 36) "_law_lesser_sides" 0 (.none) (.none) (.none) (.none) (.none) (.none) 0), #[]⟩
noncomputable def o364 (P : Params) : Obj := ⟨.type "code", none, (.fields #[.str "_law_lesser_sides" 808, .str "_law_lesser_sides" 809, .str "/claim/cut.py" 810, .int 323 0, .int 2 0, .int 0 0, .int 0 0, .int 3 0, .ref 361, .bool true, .int 276 0, .ref 362, .none, .none, .none, .ref 363, .int 811 0, .int 323 0, .str "/claim/cut.py" 812]), #[]⟩
noncomputable def o365 (P : Params) : Obj := ⟨.type "function", none, (fd (topS 36) "_law_lesser_sides" 3 (.none) (.none) (.none) (.str "law_il0095_01" 758) (.ref 364) (.none) 0), #[]⟩
noncomputable def o366 (P : Params) : Obj := ⟨.type "tuple", none, (.seq #[] 0), #[]⟩
noncomputable def o367 (P : Params) : Obj := ⟨.none, none, (.fields #[]), #[]⟩
noncomputable def o368 (P : Params) : Obj := ⟨.type "tuple", none, (.seq #[.str "place" 817] 0), #[]⟩
noncomputable def o369 (P : Params) : Obj := ⟨.type "tuple", none, (.seq #[] 0), #[]⟩
noncomputable def o370 (P : Params) : Obj := ⟨.none, none, (fd (topS 37) "_law_depth" 0 (.none) (.none) (.none) (.none) (.none) (.none) 0), #[]⟩
noncomputable def o371 (P : Params) : Obj := ⟨.type "code", none, (.fields #[.str "_law_depth" 814, .str "_law_depth" 815, .str "/claim/cut.py" 816, .int 328 0, .int 1 0, .int 0 0, .int 0 0, .int 3 0, .ref 366, .bool true, .int 276 0, .ref 367, .none, .ref 368, .ref 369, .ref 370, .int 818 0, .int 328 0, .str "/claim/cut.py" 819]), #[]⟩
noncomputable def o372 (P : Params) : Obj := ⟨.type "function", none, (fd (topS 37) "_law_depth" 3 (.none) (.none) (.none) (.str "law_il0095_01" 758) (.ref 371) (.none) 0), #[]⟩
noncomputable def o373 (P : Params) : Obj := ⟨.type "tuple", none, (.seq #[] 0), #[]⟩
noncomputable def o374 (P : Params) : Obj := ⟨.none, none, (.fields #[]), #[]⟩
noncomputable def o375 (P : Params) : Obj := ⟨.type "tuple", none, (.seq #[.str "one" 824, .str "other" 825] 0), #[]⟩
noncomputable def o376 (P : Params) : Obj := ⟨.type "tuple", none, (.seq #[] 0), #[]⟩
noncomputable def o377 (P : Params) : Obj := ⟨.none, none, (fd (topS 38) "_law_steps" 0 (.none) (.none) (.none) (.none) (.none) (.none) 0), #[]⟩
noncomputable def o378 (P : Params) : Obj := ⟨.type "code", none, (.fields #[.str "_law_steps" 821, .str "_law_steps" 822, .str "/claim/cut.py" 823, .int 330 0, .int 2 0, .int 0 0, .int 0 0, .int 3 0, .ref 373, .bool true, .int 276 0, .ref 374, .none, .ref 375, .ref 376, .ref 377, .int 826 0, .int 330 0, .str "/claim/cut.py" 827]), #[]⟩
noncomputable def o379 (P : Params) : Obj := ⟨.type "function", none, (fd (topS 38) "_law_steps" 3 (.none) (.none) (.none) (.str "law_il0095_01" 758) (.ref 378) (.none) 0), #[]⟩
noncomputable def o380 (P : Params) : Obj := ⟨.type "tuple", none, (.seq #[] 0), #[]⟩
noncomputable def o381 (P : Params) : Obj := ⟨.none, none, (.fields #[]), #[]⟩
noncomputable def o382 (P : Params) : Obj := ⟨.none, none, (fd (topS 39) "law" 0 (.none) (.none) (.none) (.none) (.none) (.none) 0), #[]⟩
noncomputable def o383 (P : Params) : Obj := ⟨.type "code", none, (.fields #[.str "law" 829, .str "law" 830, .str "/claim/cut.py" 831, .int 332 0, .int 1 0, .int 0 0, .int 0 0, .int 3 0, .ref 380, .bool true, .int 276 0, .ref 381, .none, .none, .none, .ref 382, .int 832 0, .int 332 0, .str "/claim/cut.py" 833]), #[]⟩
noncomputable def o384 (P : Params) : Obj := ⟨.type "function", none, (fd (topS 39) "law" 3 (.none) (.none) (.none) (.str "law_il0095_01" 758) (.ref 383) (.none) 0), #[]⟩
noncomputable def z3 (P : Params) : Obj := ⟨.type "dict", none, (.dict #[en P "__name__" 165 (.str "__main__" 164), en P "__doc__" 166 (.none), en P "__package__" 167 (.none), en P "__loader__" 168 (.builtin "__main__.__loader__#opaque"), en P "__spec__" 169 (.none), en P "__annotations__" 170 (.ref 6), en P "__builtins__" 171 (.ref 4), en P "__file__" 173 (.str "/claim/cut.py" 172), en P "__cached__" 174 (.none), en P "_sre" 275 (.ref 12)] 10), #[]⟩
noncomputable def Hz (P : Params) : Heap := ⟨⟨[o0 P, o1 P, o2 P, z3 P, o4 P, o5 P, o6 P, o7 P, o8 P, o9 P, o10 P, o11 P, o12 P, o13 P, o14 P, o15 P, o16 P, o17 P, o18 P, o19 P, o20 P, o21 P, o22 P, o23 P, o24 P, o25 P, o26 P, o27 P]⟩, {}⟩
noncomputable def a3 (P : Params) : Obj := ⟨.type "dict", none, (.dict #[en P "__name__" 165 (.str "__main__" 164), en P "__doc__" 166 (.none), en P "__package__" 167 (.none), en P "__loader__" 168 (.builtin "__main__.__loader__#opaque"), en P "__spec__" 169 (.none), en P "__annotations__" 170 (.ref 6), en P "__builtins__" 171 (.ref 4), en P "__file__" 173 (.str "/claim/cut.py" 172), en P "__cached__" 174 (.none), en P "_sre" 275 (.ref 12)] 10), #[]⟩
noncomputable def a29 (P : Params) : Obj := ⟨.none, none, (.fields #[]), #[]⟩
noncomputable def Ha (P : Params) : Heap := ⟨⟨[o0 P, o1 P, o2 P, a3 P, o4 P, o5 P, o6 P, o7 P, o8 P, o9 P, o10 P, o11 P, o12 P, o13 P, o14 P, o15 P, o16 P, o17 P, o18 P, o19 P, o20 P, o21 P, o22 P, o23 P, o24 P, o25 P, o26 P, o27 P, o28 P, a29 P, o30 P, o31 P]⟩, {}⟩
noncomputable def b3 (P : Params) : Obj := ⟨.type "dict", none, (.dict #[en P "__name__" 165 (.str "__main__" 164), en P "__doc__" 166 (.none), en P "__package__" 167 (.none), en P "__loader__" 168 (.builtin "__main__.__loader__#opaque"), en P "__spec__" 169 (.none), en P "__annotations__" 170 (.ref 6), en P "__builtins__" 171 (.ref 4), en P "__file__" 173 (.str "/claim/cut.py" 172), en P "__cached__" 174 (.none), en P "_sre" 275 (.ref 12)] 10), #[]⟩
noncomputable def b29 (P : Params) : Obj := ⟨.none, none, (.fields #[]), #[]⟩
noncomputable def Hb (P : Params) : Heap := ⟨⟨[o0 P, o1 P, o2 P, b3 P, o4 P, o5 P, o6 P, o7 P, o8 P, o9 P, o10 P, o11 P, o12 P, o13 P, o14 P, o15 P, o16 P, o17 P, o18 P, o19 P, o20 P, o21 P, o22 P, o23 P, o24 P, o25 P, o26 P, o27 P, o28 P, b29 P, o30 P, o31 P]⟩, {}⟩
noncomputable def c3 (P : Params) : Obj := ⟨.type "dict", none, (.dict #[en P "__name__" 165 (.str "cpy313.wsgiref.headers" 289), en P "__doc__" 166 (.none), en P "__package__" 167 (.none), en P "__loader__" 168 (.builtin "__main__.__loader__#opaque"), en P "__spec__" 169 (.none), en P "__annotations__" 170 (.ref 6), en P "__builtins__" 171 (.ref 4), en P "__file__" 173 (.str "/claim/cut.py" 172), en P "__cached__" 174 (.none), en P "_sre" 275 (.ref 12), en P "_wall" 288 (.ref 38), en P "tspecials" 324 (.ref 43), en P "_name_disallowed_re" 350 (.ref 48), en P "_value_disallowed_re" 384 (.ref 53), en P "_formatparam" 394 (.ref 61), en P "Headers" 551 (.ref 182)] 16), #[]⟩
noncomputable def c29 (P : Params) : Obj := ⟨.none, none, (.fields #[.int 2 0, .int 0 0, .ref 37, .int 9 0, .int 0 0, .ref 60, .int 18 0, .int 0 0, .ref 67]), #[]⟩
noncomputable def Hc (P : Params) : Heap := ⟨⟨[o0 P, o1 P, o2 P, c3 P, o4 P, o5 P, o6 P, o7 P, o8 P, o9 P, o10 P, o11 P, o12 P, o13 P, o14 P, o15 P, o16 P, o17 P, o18 P, o19 P, o20 P, o21 P, o22 P, o23 P, o24 P, o25 P, o26 P, o27 P, o28 P, c29 P, o30 P, o31 P, o32 P, o33 P, o34 P, o35 P, o36 P, o37 P, o38 P, o39 P, o40 P, o41 P, o42 P, o43 P, o44 P, o45 P, o46 P, o47 P, o48 P, o49 P, o50 P, o51 P, o52 P, o53 P, o54 P, o55 P, o56 P, o57 P, o58 P, o59 P, o60 P, o61 P, o62 P, o63 P, o64 P, o65 P, o66 P, o67 P, o68 P, o69 P, o70 P, o71 P, o72 P, o73 P, o74 P, o75 P, o76 P, o77 P, o78 P, o79 P, o80 P, o81 P, o82 P, o83 P, o84 P, o85 P, o86 P, o87 P, o88 P, o89 P, o90 P, o91 P, o92 P, o93 P, o94 P, o95 P, o96 P, o97 P, o98 P, o99 P, o100 P, o101 P, o102 P, o103 P, o104 P, o105 P, o106 P, o107 P, o108 P, o109 P, o110 P, o111 P, o112 P, o113 P, o114 P, o115 P, o116 P, o117 P, o118 P, o119 P, o120 P, o121 P, o122 P, o123 P, o124 P, o125 P, o126 P, o127 P, o128 P, o129 P, o130 P, o131 P, o132 P, o133 P, o134 P, o135 P, o136 P, o137 P, o138 P, o139 P, o140 P, o141 P, o142 P, o143 P, o144 P, o145 P, o146 P, o147 P, o148 P, o149 P, o150 P, o151 P, o152 P, o153 P, o154 P, o155 P, o156 P, o157 P, o158 P, o159 P, o160 P, o161 P, o162 P, o163 P, o164 P, o165 P, o166 P, o167 P, o168 P, o169 P, o170 P, o171 P, o172 P, o173 P, o174 P, o175 P, o176 P, o177 P, o178 P, o179 P, o180 P, o181 P, o182 P, o183 P, o184 P, o185 P, o186 P]⟩, {}⟩
noncomputable def d3 (P : Params) : Obj := ⟨.type "dict", none, (.dict #[en P "__name__" 165 (.str "collections.abc" 633), en P "__doc__" 166 (.none), en P "__package__" 167 (.none), en P "__loader__" 168 (.builtin "__main__.__loader__#opaque"), en P "__spec__" 169 (.none), en P "__annotations__" 170 (.ref 6), en P "__builtins__" 171 (.ref 4), en P "__file__" 173 (.str "/claim/cut.py" 172), en P "__cached__" 174 (.none), en P "_sre" 275 (.ref 12), en P "_wall" 288 (.ref 38), en P "tspecials" 324 (.ref 43), en P "_name_disallowed_re" 350 (.ref 48), en P "_value_disallowed_re" 384 (.ref 53), en P "_formatparam" 394 (.ref 61), en P "Headers" 551 (.ref 182), en P "heappush" 561 (.ref 193), en P "heappop" 570 (.ref 200), en P "_siftdown" 582 (.ref 207), en P "_siftup" 595 (.ref 214), en P "_plain_name" 606 (.ref 221), en P "ABCMeta" 632 (.ref 238), en P "_ABCLike" 675 (.ref 271)] 23), #[]⟩
noncomputable def d29 (P : Params) : Obj := ⟨.none, none, (.fields #[.int 2 0, .int 0 0, .ref 37, .int 9 0, .int 0 0, .ref 60, .int 18 0, .int 0 0, .ref 67, .int 101 0, .int 0 0, .ref 192, .int 104 0, .int 0 0, .ref 199, .int 112 0, .int 0 0, .ref 206, .int 123 0, .int 0 0, .ref 213, .int 138 0, .int 0 0, .ref 220, .int 144 0, .int 0 0, .ref 227, .int 149 0, .int 0 0, .ref 246]), #[]⟩
noncomputable def Hd (P : Params) : Heap := ⟨⟨[o0 P, o1 P, o2 P, d3 P, o4 P, o5 P, o6 P, o7 P, o8 P, o9 P, o10 P, o11 P, o12 P, o13 P, o14 P, o15 P, o16 P, o17 P, o18 P, o19 P, o20 P, o21 P, o22 P, o23 P, o24 P, o25 P, o26 P, o27 P, o28 P, d29 P, o30 P, o31 P, o32 P, o33 P, o34 P, o35 P, o36 P, o37 P, o38 P, o39 P, o40 P, o41 P, o42 P, o43 P, o44 P, o45 P, o46 P, o47 P, o48 P, o49 P, o50 P, o51 P, o52 P, o53 P, o54 P, o55 P, o56 P, o57 P, o58 P, o59 P, o60 P, o61 P, o62 P, o63 P, o64 P, o65 P, o66 P, o67 P, o68 P, o69 P, o70 P, o71 P, o72 P, o73 P, o74 P, o75 P, o76 P, o77 P, o78 P, o79 P, o80 P, o81 P, o82 P, o83 P, o84 P, o85 P, o86 P, o87 P, o88 P, o89 P, o90 P, o91 P, o92 P, o93 P, o94 P, o95 P, o96 P, o97 P, o98 P, o99 P, o100 P, o101 P, o102 P, o103 P, o104 P, o105 P, o106 P, o107 P, o108 P, o109 P, o110 P, o111 P, o112 P, o113 P, o114 P, o115 P, o116 P, o117 P, o118 P, o119 P, o120 P, o121 P, o122 P, o123 P, o124 P, o125 P, o126 P, o127 P, o128 P, o129 P, o130 P, o131 P, o132 P, o133 P, o134 P, o135 P, o136 P, o137 P, o138 P, o139 P, o140 P, o141 P, o142 P, o143 P, o144 P, o145 P, o146 P, o147 P, o148 P, o149 P, o150 P, o151 P, o152 P, o153 P, o154 P, o155 P, o156 P, o157 P, o158 P, o159 P, o160 P, o161 P, o162 P, o163 P, o164 P, o165 P, o166 P, o167 P, o168 P, o169 P, o170 P, o171 P, o172 P, o173 P, o174 P, o175 P, o176 P, o177 P, o178 P, o179 P, o180 P, o181 P, o182 P, o183 P, o184 P, o185 P, o186 P, o187 P, o188 P, o189 P, o190 P, o191 P, o192 P, o193 P, o194 P, o195 P, o196 P, o197 P, o198 P, o199 P, o200 P, o201 P, o202 P, o203 P, o204 P, o205 P, o206 P, o207 P, o208 P, o209 P, o210 P, o211 P, o212 P, o213 P, o214 P, o215 P, o216 P, o217 P, o218 P, o219 P, o220 P, o221 P, o222 P, o223 P, o224 P, o225 P, o226 P, o227 P, o228 P, o229 P, o230 P, o231 P, o232 P, o233 P, o234 P, o235 P, o236 P, o237 P, o238 P, o239 P, o240 P, o241 P, o242 P, o243 P, o244 P, o245 P, o246 P, o247 P, o248 P, o249 P, o250 P, o251 P, o252 P, o253 P, o254 P, o255 P, o256 P, o257 P, o258 P, o259 P, o260 P, o261 P, o262 P, o263 P, o264 P, o265 P, o266 P, o267 P, o268 P, o269 P, o270 P, o271 P, o272 P, o273 P]⟩, {}⟩
noncomputable def He (P : Params) : Heap := ⟨⟨[o0 P, o1 P, o2 P, o3 P, o4 P, o5 P, o6 P, o7 P, o8 P, o9 P, o10 P, o11 P, o12 P, o13 P, o14 P, o15 P, o16 P, o17 P, o18 P, o19 P, o20 P, o21 P, o22 P, o23 P, o24 P, o25 P, o26 P, o27 P, o28 P, o29 P, o30 P, o31 P, o32 P, o33 P, o34 P, o35 P, o36 P, o37 P, o38 P, o39 P, o40 P, o41 P, o42 P, o43 P, o44 P, o45 P, o46 P, o47 P, o48 P, o49 P, o50 P, o51 P, o52 P, o53 P, o54 P, o55 P, o56 P, o57 P, o58 P, o59 P, o60 P, o61 P, o62 P, o63 P, o64 P, o65 P, o66 P, o67 P, o68 P, o69 P, o70 P, o71 P, o72 P, o73 P, o74 P, o75 P, o76 P, o77 P, o78 P, o79 P, o80 P, o81 P, o82 P, o83 P, o84 P, o85 P, o86 P, o87 P, o88 P, o89 P, o90 P, o91 P, o92 P, o93 P, o94 P, o95 P, o96 P, o97 P, o98 P, o99 P, o100 P, o101 P, o102 P, o103 P, o104 P, o105 P, o106 P, o107 P, o108 P, o109 P, o110 P, o111 P, o112 P, o113 P, o114 P, o115 P, o116 P, o117 P, o118 P, o119 P, o120 P, o121 P, o122 P, o123 P, o124 P, o125 P, o126 P, o127 P, o128 P, o129 P, o130 P, o131 P, o132 P, o133 P, o134 P, o135 P, o136 P, o137 P, o138 P, o139 P, o140 P, o141 P, o142 P, o143 P, o144 P, o145 P, o146 P, o147 P, o148 P, o149 P, o150 P, o151 P, o152 P, o153 P, o154 P, o155 P, o156 P, o157 P, o158 P, o159 P, o160 P, o161 P, o162 P, o163 P, o164 P, o165 P, o166 P, o167 P, o168 P, o169 P, o170 P, o171 P, o172 P, o173 P, o174 P, o175 P, o176 P, o177 P, o178 P, o179 P, o180 P, o181 P, o182 P, o183 P, o184 P, o185 P, o186 P, o187 P, o188 P, o189 P, o190 P, o191 P, o192 P, o193 P, o194 P, o195 P, o196 P, o197 P, o198 P, o199 P, o200 P, o201 P, o202 P, o203 P, o204 P, o205 P, o206 P, o207 P, o208 P, o209 P, o210 P, o211 P, o212 P, o213 P, o214 P, o215 P, o216 P, o217 P, o218 P, o219 P, o220 P, o221 P, o222 P, o223 P, o224 P, o225 P, o226 P, o227 P, o228 P, o229 P, o230 P, o231 P, o232 P, o233 P, o234 P, o235 P, o236 P, o237 P, o238 P, o239 P, o240 P, o241 P, o242 P, o243 P, o244 P, o245 P, o246 P, o247 P, o248 P, o249 P, o250 P, o251 P, o252 P, o253 P, o254 P, o255 P, o256 P, o257 P, o258 P, o259 P, o260 P, o261 P, o262 P, o263 P, o264 P, o265 P, o266 P, o267 P, o268 P, o269 P, o270 P, o271 P, o272 P, o273 P, o274 P, o275 P, o276 P, o277 P, o278 P, o279 P, o280 P, o281 P, o282 P, o283 P, o284 P, o285 P, o286 P, o287 P, o288 P, o289 P, o290 P, o291 P, o292 P, o293 P, o294 P, o295 P, o296 P, o297 P, o298 P, o299 P, o300 P, o301 P, o302 P, o303 P, o304 P, o305 P, o306 P, o307 P, o308 P, o309 P, o310 P, o311 P, o312 P, o313 P, o314 P, o315 P, o316 P, o317 P, o318 P, o319 P, o320 P, o321 P, o322 P, o323 P, o324 P, o325 P, o326 P, o327 P, o328 P, o329 P, o330 P, o331 P, o332 P, o333 P, o334 P, o335 P, o336 P, o337 P, o338 P, o339 P, o340 P, o341 P, o342 P, o343 P, o344 P, o345 P, o346 P, o347 P, o348 P, o349 P, o350 P, o351 P, o352 P, o353 P, o354 P, o355 P, o356 P, o357 P, o358 P, o359 P, o360 P, o361 P, o362 P, o363 P, o364 P, o365 P, o366 P, o367 P, o368 P, o369 P, o370 P, o371 P, o372 P, o373 P, o374 P, o375 P, o376 P, o377 P, o378 P, o379 P, o380 P, o381 P, o382 P, o383 P, o384 P]⟩, {}⟩

noncomputable def K (P : Params) : Frag := (nat_lit 2, o2 P) :: (nat_lit 3, o3 P) :: (nat_lit 32, o32 P) :: (nat_lit 34, o34 P) :: (nat_lit 35, o35 P) :: (nat_lit 37, o37 P) :: (nat_lit 38, o38 P) :: (nat_lit 42, o42 P) :: (nat_lit 43, o43 P) :: (nat_lit 47, o47 P) :: (nat_lit 48, o48 P) :: (nat_lit 52, o52 P) :: (nat_lit 53, o53 P) :: (nat_lit 54, o54 P) :: (nat_lit 55, o55 P) :: (nat_lit 57, o57 P) :: (nat_lit 58, o58 P) :: (nat_lit 60, o60 P) :: (nat_lit 61, o61 P) :: (nat_lit 69, o69 P) :: (nat_lit 70, o70 P) :: (nat_lit 72, o72 P) :: (nat_lit 73, o73 P) :: (nat_lit 75, o75 P) :: (nat_lit 76, o76 P) :: (nat_lit 77, o77 P) :: (nat_lit 79, o79 P) :: (nat_lit 80, o80 P) :: (nat_lit 82, o82 P) :: (nat_lit 83, o83 P) :: (nat_lit 84, o84 P) :: (nat_lit 86, o86 P) :: (nat_lit 87, o87 P) :: (nat_lit 89, o89 P) :: (nat_lit 90, o90 P) :: (nat_lit 91, o91 P) :: (nat_lit 93, o93 P) :: (nat_lit 94, o94 P) :: (nat_lit 96, o96 P) :: (nat_lit 97, o97 P) :: (nat_lit 98, o98 P) :: (nat_lit 101, o101 P) :: (nat_lit 102, o102 P) :: (nat_lit 103, o103 P) :: (nat_lit 105, o105 P) :: (nat_lit 106, o106 P) :: (nat_lit 108, o108 P) :: (nat_lit 109, o109 P) :: (nat_lit 110, o110 P) :: (nat_lit 112, o112 P) :: (nat_lit 113, o113 P) :: (nat_lit 115, o115 P) :: (nat_lit 116, o116 P) :: (nat_lit 117, o117 P) :: (nat_lit 120, o120 P) :: (nat_lit 121, o121 P) :: (nat_lit 122, o122 P) :: (nat_lit 123, o123 P) :: (nat_lit 125, o125 P) :: (nat_lit 126, o126 P) :: (nat_lit 128, o128 P) :: (nat_lit 129, o129 P) :: (nat_lit 130, o130 P) :: (nat_lit 133, o133 P) :: (nat_lit 134, o134 P) :: (nat_lit 135, o135 P) :: (nat_lit 138, o138 P) :: (nat_lit 139, o139 P) :: (nat_lit 140, o140 P) :: (nat_lit 142, o142 P) :: (nat_lit 143, o143 P) :: (nat_lit 145, o145 P) :: (nat_lit 146, o146 P) :: (nat_lit 147, o147 P) :: (nat_lit 149, o149 P) :: (nat_lit 150, o150 P) :: (nat_lit 152, o152 P) :: (nat_lit 153, o153 P) :: (nat_lit 154, o154 P) :: (nat_lit 157, o157 P) :: (nat_lit 158, o158 P) :: (nat_lit 159, o159 P) :: (nat_lit 161, o161 P) :: (nat_lit 162, o162 P) :: (nat_lit 164, o164 P) :: (nat_lit 165, o165 P) :: (nat_lit 166, o166 P) :: (nat_lit 168, o168 P) :: (nat_lit 169, o169 P) :: (nat_lit 171, o171 P) :: (nat_lit 172, o172 P) :: (nat_lit 173, o173 P) :: (nat_lit 175, o175 P) :: (nat_lit 176, o176 P) :: (nat_lit 178, o178 P) :: (nat_lit 179, o179 P) :: (nat_lit 180, o180 P) :: (nat_lit 181, o181 P) :: (nat_lit 182, o182 P) :: (nat_lit 183, o183 P) :: (nat_lit 184, o184 P) :: (nat_lit 187, o187 P) :: (nat_lit 189, o189 P) :: (nat_lit 190, o190 P) :: (nat_lit 192, o192 P) :: (nat_lit 193, o193 P) :: (nat_lit 194, o194 P) :: (nat_lit 196, o196 P) :: (nat_lit 197, o197 P) :: (nat_lit 199, o199 P) :: (nat_lit 200, o200 P) :: (nat_lit 201, o201 P) :: (nat_lit 203, o203 P) :: (nat_lit 204, o204 P) :: (nat_lit 206, o206 P) :: (nat_lit 207, o207 P) :: (nat_lit 208, o208 P) :: (nat_lit 210, o210 P) :: (nat_lit 211, o211 P) :: (nat_lit 213, o213 P) :: (nat_lit 214, o214 P) :: (nat_lit 215, o215 P) :: (nat_lit 217, o217 P) :: (nat_lit 218, o218 P) :: (nat_lit 220, o220 P) :: (nat_lit 221, o221 P) :: (nat_lit 222, o222 P) :: (nat_lit 229, o229 P) :: (nat_lit 231, o231 P) :: (nat_lit 232, o232 P) :: (nat_lit 234, o234 P) :: (nat_lit 235, o235 P) :: (nat_lit 236, o236 P) :: (nat_lit 237, o237 P) :: (nat_lit 238, o238 P) :: (nat_lit 241, o241 P) :: (nat_lit 248, o248 P) :: (nat_lit 250, o250 P) :: (nat_lit 251, o251 P) :: (nat_lit 253, o253 P) :: (nat_lit 254, o254 P) :: (nat_lit 255, o255 P) :: (nat_lit 257, o257 P) :: (nat_lit 258, o258 P) :: (nat_lit 260, o260 P) :: (nat_lit 261, o261 P) :: (nat_lit 262, o262 P) :: (nat_lit 264, o264 P) :: (nat_lit 265, o265 P) :: (nat_lit 267, o267 P) :: (nat_lit 268, o268 P) :: (nat_lit 269, o269 P) :: (nat_lit 270, o270 P) :: (nat_lit 271, o271 P) :: (nat_lit 274, o274 P) :: (nat_lit 276, o276 P) :: (nat_lit 277, o277 P) :: (nat_lit 279, o279 P) :: (nat_lit 280, o280 P) :: (nat_lit 281, o281 P) :: (nat_lit 283, o283 P) :: (nat_lit 284, o284 P) :: (nat_lit 286, o286 P) :: (nat_lit 287, o287 P) :: (nat_lit 288, o288 P) :: (nat_lit 290, o290 P) :: (nat_lit 291, o291 P) :: (nat_lit 293, o293 P) :: (nat_lit 294, o294 P) :: (nat_lit 295, o295 P) :: (nat_lit 297, o297 P) :: (nat_lit 298, o298 P) :: (nat_lit 300, o300 P) :: (nat_lit 301, o301 P) :: (nat_lit 302, o302 P) :: (nat_lit 304, o304 P) :: (nat_lit 305, o305 P) :: (nat_lit 307, o307 P) :: (nat_lit 308, o308 P) :: (nat_lit 309, o309 P) :: (nat_lit 311, o311 P) :: (nat_lit 312, o312 P) :: (nat_lit 314, o314 P) :: (nat_lit 315, o315 P) :: (nat_lit 316, o316 P) :: (nat_lit 318, o318 P) :: (nat_lit 319, o319 P) :: (nat_lit 321, o321 P) :: (nat_lit 322, o322 P) :: (nat_lit 323, o323 P) :: (nat_lit 326, o326 P) :: (nat_lit 327, o327 P) :: (nat_lit 328, o328 P) :: (nat_lit 330, o330 P) :: (nat_lit 331, o331 P) :: (nat_lit 333, o333 P) :: (nat_lit 334, o334 P) :: (nat_lit 335, o335 P) :: (nat_lit 337, o337 P) :: (nat_lit 338, o338 P) :: (nat_lit 340, o340 P) :: (nat_lit 341, o341 P) :: (nat_lit 342, o342 P) :: (nat_lit 344, o344 P) :: (nat_lit 345, o345 P) :: (nat_lit 347, o347 P) :: (nat_lit 348, o348 P) :: (nat_lit 349, o349 P) :: (nat_lit 352, o352 P) :: (nat_lit 353, o353 P) :: (nat_lit 354, o354 P) :: (nat_lit 356, o356 P) :: (nat_lit 357, o357 P) :: (nat_lit 359, o359 P) :: (nat_lit 360, o360 P) :: (nat_lit 361, o361 P) :: (nat_lit 364, o364 P) :: (nat_lit 365, o365 P) :: (nat_lit 366, o366 P) :: (nat_lit 368, o368 P) :: (nat_lit 369, o369 P) :: (nat_lit 371, o371 P) :: (nat_lit 372, o372 P) :: (nat_lit 373, o373 P) :: (nat_lit 375, o375 P) :: (nat_lit 376, o376 P) :: (nat_lit 378, o378 P) :: (nat_lit 379, o379 P) :: (nat_lit 380, o380 P) :: (nat_lit 383, o383 P) :: (nat_lit 384, o384 P) :: []
noncomputable def Kas : List Addr := [nat_lit 2, nat_lit 3, nat_lit 32, nat_lit 34, nat_lit 35, nat_lit 37, nat_lit 38, nat_lit 42, nat_lit 43, nat_lit 47, nat_lit 48, nat_lit 52, nat_lit 53, nat_lit 54, nat_lit 55, nat_lit 57, nat_lit 58, nat_lit 60, nat_lit 61, nat_lit 69, nat_lit 70, nat_lit 72, nat_lit 73, nat_lit 75, nat_lit 76, nat_lit 77, nat_lit 79, nat_lit 80, nat_lit 82, nat_lit 83, nat_lit 84, nat_lit 86, nat_lit 87, nat_lit 89, nat_lit 90, nat_lit 91, nat_lit 93, nat_lit 94, nat_lit 96, nat_lit 97, nat_lit 98, nat_lit 101, nat_lit 102, nat_lit 103, nat_lit 105, nat_lit 106, nat_lit 108, nat_lit 109, nat_lit 110, nat_lit 112, nat_lit 113, nat_lit 115, nat_lit 116, nat_lit 117, nat_lit 120, nat_lit 121, nat_lit 122, nat_lit 123, nat_lit 125, nat_lit 126, nat_lit 128, nat_lit 129, nat_lit 130, nat_lit 133, nat_lit 134, nat_lit 135, nat_lit 138, nat_lit 139, nat_lit 140, nat_lit 142, nat_lit 143, nat_lit 145, nat_lit 146, nat_lit 147, nat_lit 149, nat_lit 150, nat_lit 152, nat_lit 153, nat_lit 154, nat_lit 157, nat_lit 158, nat_lit 159, nat_lit 161, nat_lit 162, nat_lit 164, nat_lit 165, nat_lit 166, nat_lit 168, nat_lit 169, nat_lit 171, nat_lit 172, nat_lit 173, nat_lit 175, nat_lit 176, nat_lit 178, nat_lit 179, nat_lit 180, nat_lit 181, nat_lit 182, nat_lit 183, nat_lit 184, nat_lit 187, nat_lit 189, nat_lit 190, nat_lit 192, nat_lit 193, nat_lit 194, nat_lit 196, nat_lit 197, nat_lit 199, nat_lit 200, nat_lit 201, nat_lit 203, nat_lit 204, nat_lit 206, nat_lit 207, nat_lit 208, nat_lit 210, nat_lit 211, nat_lit 213, nat_lit 214, nat_lit 215, nat_lit 217, nat_lit 218, nat_lit 220, nat_lit 221, nat_lit 222, nat_lit 229, nat_lit 231, nat_lit 232, nat_lit 234, nat_lit 235, nat_lit 236, nat_lit 237, nat_lit 238, nat_lit 241, nat_lit 248, nat_lit 250, nat_lit 251, nat_lit 253, nat_lit 254, nat_lit 255, nat_lit 257, nat_lit 258, nat_lit 260, nat_lit 261, nat_lit 262, nat_lit 264, nat_lit 265, nat_lit 267, nat_lit 268, nat_lit 269, nat_lit 270, nat_lit 271, nat_lit 274, nat_lit 276, nat_lit 277, nat_lit 279, nat_lit 280, nat_lit 281, nat_lit 283, nat_lit 284, nat_lit 286, nat_lit 287, nat_lit 288, nat_lit 290, nat_lit 291, nat_lit 293, nat_lit 294, nat_lit 295, nat_lit 297, nat_lit 298, nat_lit 300, nat_lit 301, nat_lit 302, nat_lit 304, nat_lit 305, nat_lit 307, nat_lit 308, nat_lit 309, nat_lit 311, nat_lit 312, nat_lit 314, nat_lit 315, nat_lit 316, nat_lit 318, nat_lit 319, nat_lit 321, nat_lit 322, nat_lit 323, nat_lit 326, nat_lit 327, nat_lit 328, nat_lit 330, nat_lit 331, nat_lit 333, nat_lit 334, nat_lit 335, nat_lit 337, nat_lit 338, nat_lit 340, nat_lit 341, nat_lit 342, nat_lit 344, nat_lit 345, nat_lit 347, nat_lit 348, nat_lit 349, nat_lit 352, nat_lit 353, nat_lit 354, nat_lit 356, nat_lit 357, nat_lit 359, nat_lit 360, nat_lit 361, nat_lit 364, nat_lit 365, nat_lit 366, nat_lit 368, nat_lit 369, nat_lit 371, nat_lit 372, nat_lit 373, nat_lit 375, nat_lit 376, nat_lit 378, nat_lit 379, nat_lit 380, nat_lit 383, nat_lit 384]
theorem Kas_eq : ∀ P, Kas = (K P).map (·.1) := fun P => by kernel_rfl
noncomputable def loose : List Str := ["_wall", "tspecials", "_name_disallowed_re", "_value_disallowed_re", "_formatparam", "Headers", "heappush", "heappop", "_siftdown", "_siftup", "_plain_name", "ABCMeta", "_ABCLike", "_abc_plain_meta", "fspath", "_check_arg_types", "_get_sep", "join", "splitroot", "normpath", "commonpath", "_law_over", "_law_places", "_law_links", "_law_neighbours", "_law_carry", "_law_lesser_sides", "_law_depth", "_law_steps"]
noncomputable def qv : Program := view pw [0, 39]

noncomputable def bd : List Stmt := behindTheImports pw
noncomputable def env0 : Env := { scope := pw.main.scope, locals := mainNs, globals := mainNs, cells := [], code := .ref 30, frame := some 31 }
noncomputable def cd0 : Code := .body bd env0
noncomputable def q0 : Pos := ⟨0, 0, 0, 0⟩
noncomputable abbrev fr0 : List Frame := [topFrame q0]
theorem open_ok : ∀ w : World, (fencedOpening treeTable pw w 4702).map (fun s => (s.heap, s.gens, s.drawn, s.toks)) = some (Hz w.params, #[], {}, 276) := fun w => by kernel_rfl
theorem size_ok : ∀ w : World, ((Hz w.params).isNs mainGlobals && (#[] : Array GenState).size == 0, (Hz w.params).objs.size, (Hz w.params).nsMap mainGlobals "__annotations__") = (true, 28, some (.ref 6)) := fun w => by kernel_rfl
theorem pre_ok : ∀ (w : World) (os : OsState), topGo treeTable pw w 28 (some (.ref 6)) 12 ⟨Hz w.params, #[], {}, 276, os⟩ (topStub pw) = some (⟨Ha w.params, #[], {}, 282, os⟩, ⟨denote treeTable cd0, cd0, q0, fr0⟩) := fun w os => by kernel_rfl
theorem block_ok : ∀ (w : World) (os : OsState), segRun treeTable pw w 28 (some (.ref 6)) 1 1 ⟨Ha w.params, #[], {}, 282, os⟩ (blockOf bd env0 cd0 q0 fr0) = some (.next, ⟨Hb w.params, #[], {}, 282, os⟩, cd0, q0) := fun w os => by kernel_rfl
theorem run1_ok : ∀ (w : World) (os : OsState), segRun treeTable pw w 28 (some (.ref 6)) 1 1021 ⟨Hb w.params, #[], {}, 282, os⟩ (piecesOf (bd.take 7) env0 cd0 q0 fr0) = some (.next, ⟨Hc w.params, #[], {}, 552, os⟩, cd0, ⟨18, 0, 99, 93⟩) := fun w os => by kernel_rfl
theorem run2_ok : ∀ (w : World) (os : OsState), segRun treeTable pw w 28 (some (.ref 6)) 1 716 ⟨Hc w.params, #[], {}, 552, os⟩ (piecesOf ((bd.drop 7).take 11) env0 cd0 ⟨18, 0, 99, 93⟩ fr0) = some (.next, ⟨Hd w.params, #[], {}, 676, os⟩, cd0, ⟨149, 0, 163, 16⟩) := fun w os => by kernel_rfl
theorem run3_ok : ∀ (w : World) (os : OsState), segRun treeTable pw w 28 (some (.ref 6)) 1 554 ⟨Hd w.params, #[], {}, 676, os⟩ (piecesOf ((bd.drop 7).drop 11) env0 cd0 ⟨149, 0, 163, 16⟩ fr0) = some (.next, ⟨He w.params, #[], {}, 835, os⟩, cd0, ⟨332, 0, 341, 153⟩) := fun w os => by kernel_rfl
theorem fin_ok : ∀ (w : World) (os : OsState), topRun treeTable pw w 28 (some (.ref 6)) 2 ⟨He w.params, #[], {}, 835, os⟩ (restOf [] env0 cd0 ⟨332, 0, 341, 153⟩ fr0) = some ⟨He w.params, #[], {}, 835, os⟩ := fun w os => by kernel_rfl
theorem split_ok : bd = bd.take 7 ++ ((bd.drop 7).take 11 ++ ((bd.drop 7).drop 11 ++ [])) := by rw [List.append_nil, List.take_append_drop, List.take_append_drop]
theorem run_ok : ∀ (w : World) (os : OsState), topRun treeTable pw w 28 (some (.ref 6)) (12 + (1 + (1021 + (716 + (554 + 2))))) ⟨Hz w.params, #[], {}, 276, os⟩ (topStub pw) = some ⟨He w.params, #[], {}, 835, os⟩ := fun w os =>
  go_top (pre_ok w os) (piece_block (block_ok w os) (by rw [split_ok]; exact piece_app (run1_ok w os) (piece_app (run2_ok w os) (piece_app (run3_ok w os) (fin_ok w os)))))
noncomputable def hook : Hook := kHook K Kas Kas_eq
noncomputable def Xt0 (s : Shared) : Bool := xlAt qv [] s && recOk (RowW.records (OpenRow.toRowW PySem.Challenge.rw_il0095_01.row)) s
theorem looks_ok : ∀ w : World, (fun os => ((staticsOk (importedModules pw.main.body) (Hz w.params) (He w.params) && namesBound pw (He w.params) && gensDone ⟨He w.params, #[], {}, 835, os⟩ && laidKept (Hz w.params) (He w.params)),
        openSeen qv loose (importedModules pw.main.body) Xt0 true ⟨He w.params, #[], {}, 835, os⟩, Hook.obs hook ⟨He w.params, #[], {}, 835, os⟩)) = fun _ => (true, openGood qv loose, Hook.val hook w) := fun w => by kernel_rfl
theorem left_ok : LeftO pw qv loose Xt0 (Hook.obs hook) (Hook.val hook) 4702 :=
  LeftO.of_pieces open_ok size_ok run_ok (by decide +kernel) looks_ok
noncomputable def dLaw : DefRec := match topS 39 with
  | .FunctionDef n a b _ _ _ sc _ _ p => ⟨n, a, b, sc, p⟩
  | _ => ⟨"", default, [], default, default⟩
theorem def_ok : defOf qv "law" = some (dLaw, []) := by kernel_rfl
theorem theDef_ok : pw.theDef "law" = some (dLaw.params, dLaw.body, dLaw.scope) := by kernel_rfl
theorem said_ok : PySem.Challenge.rw_il0095_01.wellSaid = true := by decide +kernel
set_option maxHeartbeats 4000000 in
theorem head_ok (walk : WalkO qv loose (XL qv []) (Hook.says (kHook K Kas Kas_eq)) (OpenRow.toRowW PySem.Challenge.rw_il0095_01.row) dLaw [] (fun f vs => PySem.call f vs)) : PySem.Challenge.rw_il0095_01.Holds := by
  w_on
  refine PySem.W.holds_law said_ok fun said => ?_
  refine PySem.W.holds_open (q := qv) (loose := loose) (Xt := Xt0) (XP := XL qv []) (Yf := Hook.obs hook) (Ya := Hook.val hook) (YP := Hook.says hook) (N := 4702) left_ok (Hook.of hook) (Hook.keeps hook) (fun s e => xl_of s (Bool.and_eq_true_iff.mp e).1) XL.keeps def_ok theDef_ok (by kernel_rfl) (fun s e => recFacts_of (Bool.and_eq_true_iff.mp e).2) (by rfl) (by first | assumption | decide +kernel) (by decide +kernel) ⟨rfl, rfl, rfl, rfl, rfl, by decide +kernel⟩ ?hw walk
  (case hw => w_witness2)
variable {prog : Program} {w : World} {A : Around} {E : Value → Shared → Prop} {s : Shared}

theorem entry_issub_nested : entryFor table "issubclass.nested" = some Builtin.«issubclass.nested» := F.entry_issubclass_nested
theorem kind_issub_nested : builtinKind "issubclass.nested" = none := by decide +kernel
theorem plain_issub_nested : plainId "issubclass.nested" = true := by decide +kernel
theorem args_issub_nested (a b c : Value) : argsOk "issubclass.nested" ⟨[a, b, c], []⟩ := by unfold argsOk; kernel_rfl
theorem sub_str_str : isSubtype (.type "str") (.type "str") = pure true := by rw [isSubtype_type]; kernel_rfl
theorem meta_str : typeOf (.type "str") = pure (.type "type") := kitMeta_of (by decide +kernel)

theorem issub_one {dep : Int} {tk : Tok} : Meets (Builtin.«issubclass.nested» ⟨[.type "str", .type "str", .int dep tk], []⟩) (fun _ R s => R (.ok (.ret (.bool true))) s) := by
  intro prog w A R s hs
  unfold Builtin.«issubclass.nested»
  have h1 := meta_str
  have h2 := sub_str_str
  repeat (any_goals (first | assumption | (rw [h1]) | (rw [h2]) | wp_step))

theorem issub_tuple {D : Addr} {dd : Option Addr} {n : Nat} {sl : Array (Option Value)} {tk : Tok} : Meets (Builtin.«issubclass.nested» ⟨[.type "str", .ref D, .int 0 tk], []⟩)
    (fun _ R s => s.heap.get? D = some ⟨.type "tuple", dd, .seq [.type "str", .type "bytes"].toArray n, sl⟩ ∧ ∀ tk', R (.ok (.ret (.bool true))) { s with toks := tk' }) := by
  intro prog w A R s hs
  obtain ⟨h, g, d, tt, os⟩ := s
  obtain ⟨htp, hq⟩ := hs
  have hT2 : (⟨h, g, d, tt, os⟩ : Shared).TypeIs (.ref D) "tuple" := ⟨_, htp, rfl⟩
  have f1 := F.isi_sub_tuple
  generalize hits : [Value.type "str", Value.type "bytes"] = its at htp
  unfold Builtin.«issubclass.nested»
  repeat (any_goals (first | assumption | wp_step))
  refine wpAny_arrayLoop ?_
  subst hits
  simp only [Option.getD_some, List.toList_toArray]
  rw [List.forIn_cons]
  refine wpAny_bind (wpAny_bind (call_function_meets kind_issub_nested plain_issub_nested entry_issub_nested (args_issub_nested _ _ _) issub_one ?_))
  show wpAny _ _ (truthy (.bool true) >>= _) _ _ _
  refine wpAny_bind (m := truthy (.bool true)) (wpAny_pure ?_)
  refine wpAny_bind (wpAny_pure (wpAny_pure (wpAny_pure ?_)))
  trace_state
  repeat (any_goals (first | assumption | wp_step))
  exact hq _
theorem issub_str {D : Addr} {dd : Option Addr} {n : Nat} {sl : Array (Option Value)} {Q : Value → Shared → Prop} (h : s.heap.get? D = some ⟨.type "tuple", dd, .seq [.type "str", .type "bytes"].toArray n, sl⟩)
    (hq : ∀ tk', Q (.bool true) { s with toks := tk' }) : wpAny (model prog w) A (call (.builtin "issubclass") [.type "str", .ref D]) Q E s :=
  call_issubclass (S := fun _ R s => s.heap.get? D = some ⟨.type "tuple", dd, .seq [.type "str", .type "bytes"].toArray n, sl⟩ ∧ ∀ tk', R (.ok (.ret (.bool true))) { s with toks := tk' })
    (fun prog w A R s hs => issubclass_outer (issub_tuple prog w A R s hs)) ⟨h, hq⟩
section
variable {prog : Program} {w : World} {A : Around} {E : Value → Shared → Prop} {s : Shared} {env : Env} {h₀ : Heap} {x : Str} {body : List Stmt} {Q : Flow → Shared → Prop}
noncomputable abbrev lstOf (vs : List Value) (n : Nat := 0) : Obj := { cls := .type "list", data := .seq vs.toArray n }
noncomputable abbrev tupOf (vs : List Value) (n : Nat := 0) : Obj := { cls := .type "tuple", data := .seq vs.toArray n }

noncomputable def TurnEndJ (h₀ : Heap) (L I : Addr) (io : Obj) (J : (Str → Option Value) → List (Addr × Obj) → Prop) (s₁ s₂ : Shared) : Prop :=
  ∃ h' tk m' news', s₂ = { s₁ with heap := h', toks := tk } ∧ Fr h₀ L h' m' ∧ News h₀ L h' ((I, io) :: news') ∧ (∀ p ∈ news', p.1 ≠ I) ∧ J m' news'
noncomputable def TurnJ (h₀ : Heap) (L I : Addr) (io : Obj) (J : (Str → Option Value) → List (Addr × Obj) → Prop) (s₁ : Shared) (Q : Flow → Shared → Prop) (f : Flow) (s₂ : Shared) : Prop :=
  match f with
  | .ret v => Q (.ret v) s₂
  | .brk => Q .next s₂
  | _ => TurnEndJ h₀ L I io J s₁ s₂
theorem TurnEndJ.intro {L I : Addr} {io : Obj} {J : (Str → Option Value) → List (Addr × Obj) → Prop} {m' : Str → Option Value} {news' : List (Addr × Obj)} {s₁ : Shared} {h' : Heap} {tk : Nat} (F : Fr h₀ L h' m') (N : News h₀ L h' ((I, io) :: news'))
    (ha : ∀ p ∈ news', p.1 ≠ I) (hj : J m' news') : TurnEndJ h₀ L I io J s₁ { s₁ with heap := h', toks := tk } := ⟨h', tk, m', news', rfl, F, N, ha, hj⟩

theorem loop_led {I l : Addr} {lo : Obj} {n : Nat} {P : Nat → Value → Prop} {St : Nat → Heap → Prop} {m₀ : Str → Option Value} {news : List (Addr × Obj)} (J : Nat → (Str → Option Value) → List (Addr × Obj) → Prop)
    (W : Walks prog w A I [I, l] [I] n P St) (hI0 : h₀.get? I = none) (hob : ∀ i h, St i h → ∃ o, h.get? I = some o) (hLI : env.locals ≠ I) (hLl : env.locals ≠ l)
    (hkeep : ∀ i m n, J i m n → (l, lo) ∈ n) (hnw : ∀ p ∈ news, p.1 ≠ I) (hst : St 0 s.heap) (F : Fr h₀ env.locals s.heap m₀) (N : News h₀ env.locals s.heap news) (hj : J 0 m₀ news)
    (turn : ∀ i v m₁ news₁ h tk io, i < n → P i v → J i m₁ news₁ → (∀ p ∈ news₁, p.1 ≠ I) → Fr h₀ env.locals h (fun y => if y = x then some v else m₁ y) → News h₀ env.locals h ((I, io) :: news₁) →
      wpAny (model prog w) A (execs body env) (TurnJ h₀ env.locals I io (J (i + 1)) { s with heap := h, toks := tk } Q) E { s with heap := h, toks := tk })
    (done : ∀ m₁ news₁ h tk, J n m₁ news₁ → Fr h₀ env.locals h m₁ → News h₀ env.locals h news₁ → Q .next { s with heap := h, toks := tk }) :
    LoopAtV prog w A h₀ env x body Q E (.ref I) s := by
  refine ⟨I, [I, l], [I], n, P, St, m₀, news, J, rfl, W, ?_, ?_, ?_, hst, F, N, hj, ?_, ?_⟩
  · intro hm
    rcases List.mem_cons.mp hm with e | hm
    · exact hLI e
    · exact hLl (List.mem_singleton.mp hm)
  · intro b hb
    rw [List.mem_singleton.mp hb]; exact hI0
  · intro p hp hI
    exact hnw p hp (List.mem_singleton.mp hI)
  · rintro i v m₁ news₁ s₁ own ⟨hh', tk', rfl⟩ hin hP hJ hoff hsub hget hall hst' F₁ N₁
    obtain ⟨io, hio⟩ := hob _ _ hst'
    have hI : (I, io) ∈ own := hall I (by simp) hI0 io hio
    have N₂ : News h₀ env.locals hh' ((I, io) :: news₁) := by
      intro p hp
      rcases List.mem_cons.mp hp with rfl | hp
      · exact N₁ _ (List.mem_append_left _ hI)
      · exact N₁ _ (List.mem_append_right _ hp)
    have hl := hkeep _ _ _ hJ
    refine wpAny_mono (turn i v m₁ news₁ hh' tk' io hin hP hJ (fun p hp q => hoff p hp (by rw [q]; exact List.mem_singleton.mpr rfl)) F₁ N₂) (fun f s₂ p => ?_) fun _ _ e => e
    have fin : TurnEndJ h₀ env.locals I io (J (i + 1)) { s with heap := hh', toks := tk' } s₂ → LoopStepU h₀ env.locals [I] own (J (i + 1)) { s with heap := hh', toks := tk' } .next s₂ := by
      rintro ⟨h', tk, m', news', e, F', N', ha, hm⟩
      refine ⟨rfl, h', tk, m', news', e, F', fun p hp => ?_, fun p hp q => ha p hp (List.mem_singleton.mp q), hm⟩
      rcases List.mem_append.mp hp with hp | hp
      · have h1 := hsub p hp
        have h2 := hget p hp
        rcases List.mem_cons.mp h1 with e1 | e1
        · have h3 : p = (I, io) := by
            refine Prod.ext e1 ?_
            rw [e1] at h2
            exact Option.some.inj (h2.symm.trans hio)
          rw [h3]
          exact N' _ (.head _)
        · have e1 := List.mem_singleton.mp e1
          have h3 : p = (l, lo) := by
            refine Prod.ext e1 ?_
            rw [e1] at h2
            exact Option.some.inj (h2.symm.trans (N₁ _ (List.mem_append_right _ hl)).1)
          rw [h3]
          exact N' _ (.tail _ (hkeep _ _ _ hm))
      · exact N' p (.tail _ hp)
    cases f with
    | ret v => exact .ret p
    | brk => exact .brk p
    | next => exact .next (fin p)
    | cont => exact .cont (fin p)
  · rintro h' tk m' news' F' N' _ hJ
    exact done m' news' h' tk hJ F' N'

theorem iter_list_led {l : Addr} {vs : List Value} {k : Nat} {m₀ : Str → Option Value} {news : List (Addr × Obj)} (J : Nat → (Str → Option Value) → List (Addr × Obj) → Prop)
    (hh : A.handled = none) (hkeep : ∀ i m n, J i m n → (l, lstOf vs k) ∈ n) (F : Fr h₀ env.locals s.heap m₀) (N : News h₀ env.locals s.heap news) (hj : J 0 m₀ news)
    (turn : ∀ i v m₁ news₁ h tk I io, vs[i]? = some v → J i m₁ news₁ → (∀ p ∈ news, p.1 < I) → (∀ p ∈ news₁, p.1 ≠ I) → Fr h₀ env.locals h (fun y => if y = x then some v else m₁ y) → News h₀ env.locals h ((I, io) :: news₁) →
      wpAny (model prog w) A (execs body env) (TurnJ h₀ env.locals I io (J (i + 1)) { s with heap := h, toks := tk } Q) E { s with heap := h, toks := tk })
    (done : ∀ m₁ news₁ h tk, J vs.length m₁ news₁ → Fr h₀ env.locals h m₁ → News h₀ env.locals h news₁ → Q .next { s with heap := h, toks := tk }) :
    wpAny (model prog w) A (pyIter (.ref l)) (fun it s₂ => LoopAtV prog w A h₀ env x body Q E it s₂) E s := by
  have hm := hkeep _ _ _ hj
  have hls : s.heap.IsList l vs.toArray := ⟨_, (N _ hm).1, rfl, k, rfl⟩
  have hlt : l < s.heap.objs.size := Heap.lt_size (N _ hm).1
  have hne : l ≠ s.heap.objs.size := Nat.ne_of_lt hlt
  refine wpAny_pyIter_list hls ?_
  have W := Walks.list (prog := prog) (w := w) hh s.heap.objs.size l hne vs.toArray
  have hlen : vs.toArray.size = vs.length := by simp
  rw [hlen] at W
  refine loop_led (s := { s with heap := s.heap.push _ }) J W (next_is_new F) (fun i h x => let ⟨⟨o, ho, _⟩, _⟩ := x; ⟨o, ho⟩) (Nat.ne_of_lt F.ns.lt) (Ne.symm (N _ hm).2.1) hkeep
    (fun p hp => Nat.ne_of_lt (Heap.lt_size (N p hp).1)) ⟨⟨_, Heap.get?_push_size _ rfl, rfl, rfl⟩, hls.at fun o e => Heap.get?_push_of_some _ e⟩ (F.push _) (fun p hp => ⟨Heap.get?_push_of_some _ (N p hp).1, (N p hp).2⟩) hj ?_ done
  intro i v m₁ news₁ h tk io hi hP hJ ha F₁ N₁
  exact turn i v m₁ news₁ h tk _ io (by simpa using hP) hJ (fun p hp => Heap.lt_size (N p hp).1) ha F₁ N₁

theorem iter_tup_led {l : Addr} {vs : List Value} {k : Nat} {m₀ : Str → Option Value} {news : List (Addr × Obj)} (J : Nat → (Str → Option Value) → List (Addr × Obj) → Prop)
    (hh : A.handled = none) (hkeep : ∀ i m n, J i m n → (l, tupOf vs k) ∈ n) (F : Fr h₀ env.locals s.heap m₀) (N : News h₀ env.locals s.heap news) (hj : J 0 m₀ news)
    (turn : ∀ i v m₁ news₁ h tk I io, vs[i]? = some v → J i m₁ news₁ → (∀ p ∈ news, p.1 < I) → (∀ p ∈ news₁, p.1 ≠ I) → Fr h₀ env.locals h (fun y => if y = x then some v else m₁ y) → News h₀ env.locals h ((I, io) :: news₁) →
      wpAny (model prog w) A (execs body env) (TurnJ h₀ env.locals I io (J (i + 1)) { s with heap := h, toks := tk } Q) E { s with heap := h, toks := tk })
    (done : ∀ m₁ news₁ h tk, J vs.length m₁ news₁ → Fr h₀ env.locals h m₁ → News h₀ env.locals h news₁ → Q .next { s with heap := h, toks := tk }) :
    wpAny (model prog w) A (pyIter (.ref l)) (fun it s₂ => LoopAtV prog w A h₀ env x body Q E it s₂) E s := by
  have hm := hkeep _ _ _ hj
  have hls : s.heap.IsTuple l vs.toArray := ⟨_, (N _ hm).1, rfl, k, rfl⟩
  have hlt : l < s.heap.objs.size := Heap.lt_size (N _ hm).1
  have hne : l ≠ s.heap.objs.size := Nat.ne_of_lt hlt
  refine wpAny_pyIter_tuple hls ?_
  have W := Walks.tuple (prog := prog) (w := w) hh s.heap.objs.size l hne vs.toArray
  have hlen : vs.toArray.size = vs.length := by simp
  rw [hlen] at W
  refine loop_led (s := { s with heap := s.heap.push _ }) J W (next_is_new F) (fun i h x => let ⟨⟨o, ho, _⟩, _⟩ := x; ⟨o, ho⟩) (Nat.ne_of_lt F.ns.lt) (Ne.symm (N _ hm).2.1) hkeep
    (fun p hp => Nat.ne_of_lt (Heap.lt_size (N p hp).1)) ⟨⟨_, Heap.get?_push_size _ rfl, rfl, rfl⟩, ?_⟩ (F.push _) (fun p hp => ⟨Heap.get?_push_of_some _ (N p hp).1, (N p hp).2⟩) hj ?_ done
  · obtain ⟨o, ho, r⟩ := hls; exact ⟨o, Heap.get?_push_of_some _ ho, r⟩
  intro i v m₁ news₁ h tk io hi hP hJ ha F₁ N₁
  exact turn i v m₁ news₁ h tk _ io (by simpa using hP) hJ (fun p hp => Heap.lt_size (N p hp).1) ha F₁ N₁

theorem iter_tup_one {l : Addr} {v : Value} {k : Nat} {m₀ : Str → Option Value} {news : List (Addr × Obj)}
    (hh : A.handled = none) (F : Fr h₀ env.locals s.heap m₀) (N : News h₀ env.locals s.heap news) (hm : (l, tupOf [v] k) ∈ news)
    (turn : ∀ h tk I io, (∀ p ∈ news, p.1 < I) → Fr h₀ env.locals h (fun y => if y = x then some v else m₀ y) → News h₀ env.locals h ((I, io) :: news) →
      wpAny (model prog w) A (execs body env) (TurnJ h₀ env.locals I io (fun m' n' => (l, tupOf [v] k) ∈ n' ∧ ∀ h'' tk'', Fr h₀ env.locals h'' m' → News h₀ env.locals h'' n' → Q .next { s with heap := h'', toks := tk'' }) { s with heap := h, toks := tk } Q) E { s with heap := h, toks := tk }) :
    wpAny (model prog w) A (pyIter (.ref l)) (fun it s₂ => LoopAtV prog w A h₀ env x body Q E it s₂) E s := by
  refine iter_tup_led (fun i m n => (l, tupOf [v] k) ∈ n ∧ ((i = 0 ∧ m = m₀ ∧ n = news) ∨ (i = 1 ∧ ∀ h'' tk'', Fr h₀ env.locals h'' m → News h₀ env.locals h'' n → Q .next { s with heap := h'', toks := tk'' }))) hh (fun _ _ _ h => h.1) F N ⟨hm, .inl ⟨rfl, rfl, rfl⟩⟩ ?_ ?_
  · rintro i v' m₁ news₁ h tk I io hv ⟨_, hj⟩ hI hI' F₁ N₁
    have hi : i = 0 := by
      rcases i with _ | i
      · rfl
      · simp at hv
    subst hi
    have hv' : v = v' := by simpa using hv
    subst hv'
    rcases hj with ⟨_, rfl, rfl⟩ | ⟨h0, _⟩
    · refine wpAny_mono (turn h tk I io hI F₁ N₁) (fun f s₂ p => ?_) fun _ _ e => e
      have fin : TurnEndJ h₀ env.locals I io (fun m' n' => (l, tupOf [v] k) ∈ n' ∧ ∀ h'' tk'', Fr h₀ env.locals h'' m' → News h₀ env.locals h'' n' → Q .next { s with heap := h'', toks := tk'' }) { s with heap := h, toks := tk } s₂ →
          TurnEndJ h₀ env.locals I io (fun m n => (l, tupOf [v] k) ∈ n ∧ ((0 + 1 = 0 ∧ m = m₁ ∧ n = news₁) ∨ (0 + 1 = 1 ∧ ∀ h'' tk'', Fr h₀ env.locals h'' m → News h₀ env.locals h'' n → Q .next { s with heap := h'', toks := tk'' }))) { s with heap := h, toks := tk } s₂ := by
        rintro ⟨h', tk', m', n', e, F', N', ha, hj1, hj2⟩
        exact ⟨h', tk', m', n', e, F', N', ha, hj1, .inr ⟨rfl, hj2⟩⟩
      cases f with
      | ret v => exact p
      | brk => exact p
      | next => exact fin p
      | cont => exact fin p
    · cases h0
  · rintro m₁ news₁ h tk ⟨_, hj⟩ F₁ N₁
    rcases hj with ⟨h0, _⟩ | ⟨_, hq⟩
    · simp at h0
    · exact hq h tk F₁ N₁
end
end Mine


section
namespace Mine
theorem slot_search : Slot "re.Pattern" "search" "re.Pattern.search" :=
  .of (owner := "re.Pattern") (n := "search") (by rw [typeLookup_type, builtinLookup_eq_fast]; kernel_rfl) (by decide +kernel) (by decide +kernel) (by decide +kernel)
    (by first | exact .inl (by decide +kernel) | exact .inr (by decide +kernel)) (by rw [isSubtype_type]; kernel_rfl)
theorem plain_rePattern : PlainAttrs "re.Pattern" :=
  ⟨⟨"object.__getattribute__", by rw [typeLookup_type, builtinLookup_eq_fast]; kernel_rfl, by decide +kernel⟩, by rw [typeLookup_type, builtinLookup_eq_fast]; kernel_rfl⟩
theorem type_search : typeOf (.builtin "re.Pattern.search") = pure (.type "method_descriptor") := by show builtinType _ = _; rw [builtinType_eq_fast]; kernel_rfl
theorem entry_search : entryFor table "re.Pattern.search" = some Builtin.«re.Pattern.search» := entryFor_of_tree (by kernel_rfl)
theorem args_search (a b : Value) : argsOk "re.Pattern.search" ⟨[a, b], []⟩ := by unfold argsOk; kernel_rfl

section
open PySem.Sre PySem.Builtin.Re
noncomputable def Clean (code : Array Nat) (c : Nat) : Prop := ∀ seen, ∃ seen', inSet code c code.size 5 true seen = .ok (false, seen')

theorem admitted_none {m : M} (hc : ∀ i, i < m.lim → Clean m.code (m.text.getD i 0)) : ∀ (fuel i : Nat) (seen : Sre.Seen), ∃ seen', M.admitted m fuel i seen = .ok (none, seen')
  | 0, _, seen => ⟨seen, rfl⟩
  | fuel + 1, i, seen => by
    unfold M.admitted
    by_cases h : i ≥ m.lim
    · rw [if_pos h]; exact ⟨_, rfl⟩
    · rw [if_neg h]
      obtain ⟨s1, e1⟩ := hc i (by k_extra "omx") seen
      rw [e1]
      exact admitted_none hc fuel (i + 1) s1

theorem attemptFrom_none {m : M} (hf : m.hasFirstSet = true) (hc : ∀ i, i < m.lim → Clean m.code (m.text.getD i 0)) (i : Nat) (first : Bool) : ∃ seen', m.attemptFrom i first = ({ m with seen := seen' } : M).say false := by
  unfold M.attemptFrom
  rw [hf]
  obtain ⟨s1, e1⟩ := admitted_none hc (m.lim + 1 - i) i m.seen
  simp only [Bool.not_true, Bool.false_eq_true, if_false, e1]
  exact ⟨s1, rfl⟩
theorem search_fails {code text : Array Nat} (h0 : ops[code.getD 0 0]? = some .INFO) (h2 : code.getD 2 0 = 4) (h3 : code.getD 3 0 = 1) (hc : ∀ c ∈ text.toList, Clean code c) :
    ∃ m : M, forSearch code text 0 0 text.size false = m ∧ m.answer = some false ∧ m.frames = [] ∧ m.outcome = none := by
  refine ⟨_, rfl, ?_⟩
  have hh : header code = (1, 1 + code.getD 1 0) := by unfold header; rw [h0, h3]
  unfold forSearch
  simp only [hh]
  by_cases hsz : text.size = 0
  · rw [if_pos (by simp [hsz])]
    exact ⟨rfl, rfl, rfl⟩
  · rw [if_neg (by simp only [Nat.not_lt_zero, gt_iff_lt, decide_false, Bool.false_or, decide_eq_true_eq]; k_extra "omx")]
    suffices H : ∀ m : M, m.hasFirstSet = true → m.lim = text.size → m.code = code → m.text = text → m.frames = [] → m.outcome = none → (m.attemptFrom 0 true).answer = some false ∧ (m.attemptFrom 0 true).frames = [] ∧ (m.attemptFrom 0 true).outcome = none by
      refine H _ ?_ rfl rfl rfl rfl rfl
      unfold M.hasFirstSet
      show ((match ops[code.getD 0 0]? with | some .INFO => true | _ => false) && code.getD 2 0 == 4) = true
      rw [h0, h2]; rfl
    intro m hf hl hcd ht hfr ho
    obtain ⟨s', e'⟩ := attemptFrom_none hf (fun i hi => by
      rw [hl] at hi
      rw [hcd, ht]
      refine hc _ ?_
      rw [Array.getD_eq_getD_getElem?, Array.getElem?_eq_getElem hi]
      simp) 0 true
    rw [e']
    exact ⟨rfl, hfr, ho⟩

theorem run_fails {m : M} (ha : m.answer = some false) (hf : m.frames = []) (ho : m.outcome = none) : ∃ m' : M, m.runFor reTurnSteps = m' ∧ m'.outcome = some .failed := by
  refine ⟨_, rfl, ?_⟩
  show (M.runFor 4 m).outcome = _
  have e1 : m.step = { m with outcome := some .failed } := by
    unfold M.step
    rw [ho, ha, hf]
    rfl
  unfold M.runFor
  rw [ho]
  simp only [Option.isSome_none, Bool.false_eq_true, if_false]
  rw [e1]
  unfold M.runFor
  simp

variable {prog : Program} {w : World} {A : Around} {E : Value → Shared → Prop} {s : Shared}
theorem rules_any {Q : PUnit → Shared → Prop} (f : Nat → Bool) (tag : Nat → String) (h : Q PUnit.unit s) : ∀ l : List Nat, wpAny (model prog w) A (forIn l PUnit.unit fun i _ => do
      if f i then rule (tag i)
      pure (ForInStep.yield PUnit.unit)) Q E s
  | [] => wpAny_pure h
  | i :: l => by
    rw [List.forIn_cons]
    refine wpAny_bind ?_
    cases f i with
    | true => exact wpAny_bind (wpAny_rule (wpAny_pure (rules_any f tag h l)))
    | false => exact wpAny_pure (rules_any f tag h l)
theorem drive_fails {m : M} {Q : Option M → Shared → Prop} (ha : m.answer = some false) (hf : m.frames = []) (ho : m.outcome = none) (h : Q none s) : wpAny (model prog w) A (reRunToEnd m) Q E s := by
  obtain ⟨m', e, ho'⟩ := run_fails ha hf ho
  unfold reRunToEnd
  refine wpAny_bind (?_ : wpAny _ _ (reDrive (2 ^ 64) m) _ _ _)
  rw [show (2 ^ 64 : Nat) = (2 ^ 64 - 1) + 1 from rfl]
  unfold reDrive
  simp only [e, ho', Option.isSome_some, if_true]
  refine wpAny_pure ?_
  refine wpAny_bind (rules_any _ _ ?_ _)
  rw [ho']
  exact wpAny_pure h

theorem named_one (id f : String) (v : Value) : reNamed id f ["string", "pos", "endpos"] 1 [v] [] = pure [some v, none, none] := by
  with_unfolding_all rfl
theorem search_clean {p c : Addr} {f0 f1 f3 f4 : Value} {code : List Nat} {x : Str} {t : Tok} {Q : Value → Shared → Prop}
    (hp : s.heap.get? p = some ⟨.type "re.Pattern", none, .fields #[f0, f1, .int 0 0, f3, f4, .ref c, .int 0 0], #[]⟩)
    (hc : s.heap.get? c = some ⟨.type "tuple", none, .seq (code.map fun (n : Nat) => Value.int (n : Int) 0).toArray 0, #[]⟩)
    (h0 : ops[code.toArray.getD 0 0]? = some .INFO) (h2 : code.toArray.getD 2 0 = 4) (h3 : code.toArray.getD 3 0 = 1) (hx : ∀ c ∈ x.cps.toList, Clean code.toArray c) (hsz : x.cps.size < 2 ^ 62)
    (h : Q .none s) : wpAny (model prog w) A (call (.builtin "re.Pattern.search") [.ref p, .str x t]) Q E s := by
  have hT : s.TypeIs (.ref p) "re.Pattern" := ⟨_, hp, rfl⟩
  refine wpAny_call_entry slot_search hT entry_search ?_ (args_search _ _)
  unfold Builtin.«re.Pattern.search» reTarget
  refine wpAny_bind ?_
  dsimp only
  rw [named_one]
  refine wpAny_bind (wpAny_pure ?_)
  dsimp only
  refine wpAny_bind (wpAny_pure ?_)
  refine wpAny_bind (wpAny_pure ?_)
  refine wpAny_bind (?_ : wpAny _ _ (PySem.fieldsOf (.ref p)) _ _ _)
  unfold PySem.fieldsOf
  refine wpAny_bind (wpAny_load hp ?_)
  dsimp only
  refine wpAny_pure ?_
  refine wpAny_bind (?_ : wpAny _ _ (reTextOf (.str x t)) _ _ _)
  unfold reTextOf
  refine wpAny_bind (wpAny_pure ?_)
  dsimp only
  refine wpAny_pure ?_
  dsimp only
  refine wpAny_bind (wpAny_pure ?_)
  refine wpAny_bind (wpAny_bind (?_ : wpAny _ _ (PySem.seqItems? (.ref c)) _ _ _))
  unfold PySem.seqItems?
  refine wpAny_bind (wpAny_load hc ?_)
  dsimp only
  refine wpAny_pure (wpAny_pure (wpAny_pure ?_))
  dsimp only
  have e1 : min (Int.toNat 0) x.cps.size = 0 := by simp
  have e2 : min (2 ^ 63 - 1 : Int).toNat x.cps.size = x.cps.size := by
    have : (2 ^ 63 - 1 : Int).toNat = 9223372036854775807 := rfl
    rw [this]; k_extra "omx"
  have e3 : Array.map (fun x : Int => x.toNat) (Array.map reRawOf ((some (List.map (fun (n : Nat) => Value.int (n : Int) 0) code).toArray).getD #[])) = code.toArray := by
    simp only [Option.getD_some, List.map_toArray, List.map_map]
    congr 1
    conv => rhs; rw [← List.map_id code]
    refine List.map_congr_left fun n _ => ?_
    simp [reRawOf]
  rw [e1, e2, e3]
  unfold reAnswer
  obtain ⟨m, em, ha, hf, ho⟩ := search_fails (text := x.cps) h0 h2 h3 hx
  dsimp only
  show wpAny _ _ (reRunToEnd (forSearch code.toArray x.cps 0 0 x.cps.size false) >>= _) _ _ _
  rw [em]
  exact wpAny_bind (drive_fails ha hf ho (wpAny_pure ⟨_, rfl, h⟩))
end
end Mine


end
namespace Mine
section
variable {prog : Program} {w : World} {A : Around} {E : Value → Shared → Prop} {s : Shared} {h₀ : Heap} {L : Addr} {m : Str → Option Value} {env : Env}
theorem compEnd_mono {s₁ : Shared} {I C D : Addr} {oI oC oD : Obj} {S : List (Addr × Obj) → Prop} {r r' : Value → List (Addr × Obj) → Prop} {y : Value} {s₂ : Shared} (h : CompEnd h₀ L m s₁ I oI C oC D oD S r y s₂) (k : ∀ y n, r y n → r' y n) :
    CompEnd h₀ L m s₁ I oI C oC D oD S r' y s₂ := by
  obtain ⟨h', tk, n, e, F, N, o, hS, hr⟩ := h
  exact ⟨h', tk, n, e, F, N, o, hS, k _ _ hr⟩
theorem compRest_inv {elt : Expr} {x : Str} {scope : Scope} {cl : List (Str × Addr)} {S : List (Addr × Obj) → Prop} {P : Nat → Value → Prop} {Fin : List Value → List (Addr × Obj) → Prop} (n : Nat) (J : Nat → List Value → List (Addr × Obj) → Prop)
    (turn : ∀ i ys news v I oI C oC D m₂ h tk (E' : Value → Shared → Prop), i < n → J i ys news → P i v → NsObj oC m₂ → m₂ x = some v → Fr h₀ L h m → News h₀ L h ((I, oI) :: (C, oC) :: (D, lst ys) :: news) → Off3 I C D news → ((@Ne Nat I C) ∧ (@Ne Nat I D) ∧ (@Ne Nat C D)) →
      wpAny (model prog w) A (eval elt (compEnvC scope cl C env)) (CompEnd h₀ L m { s with heap := h, toks := tk } I oI C oC D (lst ys) S (fun y news' => J (i + 1) (ys ++ [y]) news')) E' { s with heap := h, toks := tk })
    (fin : ∀ ys news, J n ys news → Fin ys news) : ∀ k i ys news, i + k = n → J i ys news → CompRest prog w A h₀ L m env elt x scope cl s S P Fin k i ys news
  | 0, i, ys, news, e, hj => by
    have : i = n := by k_extra "omx"
    subst this
    exact fin ys news hj
  | k + 1, i, ys, news, e, hj => by
    intro v I oI C oC D m₂ h tk E' hv hC hx F N off ne
    refine wpAny_mono (turn i ys news v I oI C oC D m₂ h tk E' (by k_extra "omx") hj hv hC hx F N off ne) (fun y s₂ h₂ => ?_) fun _ _ e => e
    exact compEnd_mono h₂ fun y n' hn => compRest_inv n J turn fin k (i + 1) _ _ (by k_extra "omx") hn
theorem compRestT_inv {ct elt : Expr} {x : Str} {scope : Scope} {cl : List (Str × Addr)} {S : List (Addr × Obj) → Prop} {P : Nat → Value → Prop} {Fin : List Value → List (Addr × Obj) → Prop} (n : Nat) (J : Nat → List Value → List (Addr × Obj) → Prop)
    (turn : ∀ i ys news v I oI C oC D m₂ h tk (E' : Value → Shared → Prop), i < n → J i ys news → P i v → NsObj oC m₂ → m₂ x = some v → Fr h₀ L h m → News h₀ L h ((I, oI) :: (C, oC) :: (D, lst ys) :: news) → Off3 I C D news → ((@Ne Nat I C) ∧ (@Ne Nat I D) ∧ (@Ne Nat C D)) →
      wpAny (model prog w) A (isTrue ct (compEnvC scope cl C env) (eval ct (compEnvC scope cl C env))) (fun ok s' => if ok = true then
        wpAny (model prog w) A (eval elt (compEnvC scope cl C env)) (CompEnd h₀ L m { s with heap := h, toks := tk } I oI C oC D (lst ys) S (fun y news' => J (i + 1) (ys ++ [y]) news')) E' s'
        else CompEnd h₀ L m { s with heap := h, toks := tk } I oI C oC D (lst ys) S (fun _ news' => J (i + 1) ys news') Value.none s') E' { s with heap := h, toks := tk })
    (fin : ∀ ys news, J n ys news → Fin ys news) : ∀ k i ys news, i + k = n → J i ys news → CompRestT prog w A h₀ L m env ct elt x scope cl s S P Fin k i ys news
  | 0, i, ys, news, e, hj => by
    have : i = n := by k_extra "omx"
    subst this
    exact fin ys news hj
  | k + 1, i, ys, news, e, hj => by
    intro v I oI C oC D m₂ h tk E' hv hC hx F N off ne
    refine wpAny_mono (turn i ys news v I oI C oC D m₂ h tk E' (by k_extra "omx") hj hv hC hx F N off ne) (fun ok s₂ h₂ => ?_) fun _ _ e => e
    cases ok with
    | true =>
      simp only [if_true] at h₂ ⊢
      exact wpAny_mono h₂ (fun y s₃ h₃ => compEnd_mono h₃ fun y n' hn => compRestT_inv n J turn fin k (i + 1) _ _ (by k_extra "omx") hn) fun _ _ e => e
    | false =>
      simp only [Bool.false_eq_true, if_false] at h₂ ⊢
      exact compEnd_mono h₂ fun y n' hn => compRestT_inv n J turn fin k (i + 1) _ _ (by k_extra "omx") hn
end

inductive RowsAre (led : List (Addr × Obj)) : List Value → List (Str × Str) → Prop
  | nil : RowsAre led [] []
  | cons {a : Addr} {x y : Str} {t u n : Nat} {vs : List Value} {rs : List (Str × Str)} : (a, tupOf [.str x t, .str y u] n) ∈ led → RowsAre led vs rs → RowsAre led (.ref a :: vs) ((x, y) :: rs)
theorem RowsAre.length {led : List (Addr × Obj)} {vs : List Value} {rs : List (Str × Str)} (h : RowsAre led vs rs) : vs.length = rs.length := by
  induction h with
  | nil => rfl
  | cons _ _ ih => simp [ih]
theorem RowsAre.get {led : List (Addr × Obj)} {vs : List Value} {rs : List (Str × Str)} (h : RowsAre led vs rs) : ∀ {i : Nat} {v : Value}, vs[i]? = some v → ∃ a x y t u n, v = .ref a ∧ rs[i]? = some (x, y) ∧ (a, tupOf [.str x t, .str y u] n) ∈ led := by
  induction h with
  | nil => intro i v h; simp at h
  | cons hm _ ih =>
    intro i v h
    cases i with
    | zero => simp at h; subst h; exact ⟨_, _, _, _, _, _, rfl, rfl, hm⟩
    | succ i => exact ih (by simpa using h)
theorem RowsAre.mono {led led' : List (Addr × Obj)} {vs : List Value} {rs : List (Str × Str)} (h : RowsAre led vs rs) (hs : ∀ p ∈ led, p ∈ led') : RowsAre led' vs rs := by
  induction h with
  | nil => exact .nil
  | cons hm _ ih => exact .cons (hs _ hm) ih
theorem RowsAre.snoc {led : List (Addr × Obj)} {vs : List Value} {rs : List (Str × Str)} (h : RowsAre led vs rs) {a : Addr} {x y : Str} {t u n : Nat} (hm : (a, tupOf [.str x t, .str y u] n) ∈ led) : RowsAre led (vs ++ [.ref a]) (rs ++ [(x, y)]) := by
  induction h with
  | nil => exact .cons hm .nil
  | cons h1 _ ih => exact .cons h1 ih
inductive StrsL : List Value → List Str → Prop
  | nil : StrsL [] []
  | cons {x : Str} {t : Nat} {vs : List Value} {xs : List Str} : StrsL vs xs → StrsL (.str x t :: vs) (x :: xs)
theorem StrsL.length {vs : List Value} {xs : List Str} (h : StrsL vs xs) : vs.length = xs.length := by
  induction h with
  | nil => rfl
  | cons _ ih => simp [ih]
theorem StrsL.get {vs : List Value} {xs : List Str} (h : StrsL vs xs) : ∀ {i : Nat} {v : Value}, vs[i]? = some v → ∃ x t, v = .str x t ∧ xs[i]? = some x := by
  induction h with
  | nil => intro i v h; simp at h
  | cons _ ih =>
    intro i v h
    cases i with
    | zero => simp at h; subst h; exact ⟨_, _, rfl, rfl⟩
    | succ i => exact ih (by simpa using h)
theorem StrsL.snoc {vs : List Value} {xs : List Str} (h : StrsL vs xs) {x : Str} {t : Nat} : StrsL (vs ++ [.str x t]) (xs ++ [x]) := by
  induction h with
  | nil => exact .cons .nil
  | cons _ ih => exact .cons ih
theorem StrsL.append {vs ws : List Value} {xs ys : List Str} (h : StrsL vs xs) (k : StrsL ws ys) : StrsL (vs ++ ws) (xs ++ ys) := by
  induction h with
  | nil => exact k
  | cons _ ih => exact .cons ih
section
variable {prog : Program} {w : World} {A : Around} {E : Value → Shared → Prop} {s : Shared} {env : Env} {h₀ : Heap} {target : Expr} {body : List Stmt} {Q : Flow → Shared → Prop}
theorem allObj_mk : ∀ {ws : List (Addr × String)} {k : List (Addr × Obj) → Prop}, (∀ its, Objs ws its → k its) → AllObj ws k
  | [], _, h => h [] trivial
  | p :: _, _, h => fun o hc => allObj_mk fun its hi => h ((p.1, o) :: its) ⟨⟨rfl, hc⟩, hi⟩
noncomputable def TurnX (h₀ : Heap) (L : Addr) (s₁ : Shared) (its : List (Addr × Obj)) (J : (Str → Option Value) → List (Addr × Obj) → Prop) (s₂ : Shared) : Prop :=
  ∃ h' tk m' news', s₂ = { s₁ with heap := h', toks := tk } ∧ Fr h₀ L h' m' ∧ News h₀ L h' (its ++ news') ∧ (∀ p ∈ news', ∀ q ∈ its, p.1 ≠ q.1) ∧ J m' news'
noncomputable def TurnP (h₀ : Heap) (L : Addr) (s₁ : Shared) (its : List (Addr × Obj)) (J : (Str → Option Value) → List (Addr × Obj) → Prop) (Q : Flow → Shared → Prop) (f : Flow) (s₂ : Shared) : Prop :=
  match f with
  | .ret v => Q (.ret v) s₂
  | .brk => Q .next s₂
  | _ => TurnX h₀ L s₁ its J s₂
theorem TurnX.intro {L : Addr} {its : List (Addr × Obj)} {J : (Str → Option Value) → List (Addr × Obj) → Prop} {m' : Str → Option Value} {news' : List (Addr × Obj)} {s₁ : Shared} {h' : Heap} {tk : Nat} (F : Fr h₀ L h' m') (N : News h₀ L h' (its ++ news'))
    (ha : ∀ p ∈ news', ∀ q ∈ its, p.1 ≠ q.1) (hj : J m' news') : TurnX h₀ L s₁ its J { s₁ with heap := h', toks := tk } := ⟨h', tk, m', news', rfl, F, N, ha, hj⟩
theorem items_inv {ws : List (Addr × String)} {keep : List (Addr × Obj)} (xs : List Itm) (J : Nat → (Str → Option Value) → List (Addr × Obj) → Prop)
    (hkeep : ∀ i m n, J i m n → SubL keep n)
    (turn : ∀ i a v m₁ n₁ h tk its, xs[i]? = some a → a.Is v h → J i m₁ n₁ → Objs ws its → (∀ p ∈ n₁, ∀ q ∈ its, p.1 ≠ q.1) → Fr h₀ env.locals h m₁ → News h₀ env.locals h (its ++ n₁) →
      wpAny (model prog w) A (assign target env v) (fun _ s₂ => wpAny (model prog w) A (execs body env) (TurnP h₀ env.locals { s with heap := h, toks := tk } its (J (i + 1)) Q) E s₂) E { s with heap := h, toks := tk })
    (done : ∀ m n h tk, J xs.length m n → Fr h₀ env.locals h m → News h₀ env.locals h n → Q .next { s with heap := h, toks := tk }) :
    ∀ k i m n, i + k = xs.length → (∀ p ∈ n, p.1 ∉ ws.map (·.1)) → J i m n → ItemsRest prog w A E h₀ env target body Q s ws keep (xs.drop i) m n
  | 0, i, m, n, e, _, hj => by
    have hi : i = xs.length := by k_extra "omx"
    subst hi
    rw [List.drop_length]
    exact fun h tk F N => done m n h tk hj F N
  | k + 1, i, m, n, e, off, hj => by
    have hi : i < xs.length := by k_extra "omx"
    rw [List.drop_eq_getElem_cons hi]
    intro v h tk hv F
    refine allObj_mk fun its ho N => ?_
    have hmap := ho.map
    have off' : ∀ p ∈ n, ∀ q ∈ its, p.1 ≠ q.1 := fun p hp q hq e => off p hp (by rw [← hmap, e]; exact List.mem_map_of_mem hq)
    refine wpAny_mono (turn i _ v m n h tk its (List.getElem?_eq_getElem hi) hv hj ho off' F N) (fun _ s₂ h₂ => wpAny_mono h₂ (fun f s₃ h₃ => ?_) fun _ _ e => e) fun _ _ e => e
    have fin : TurnX h₀ env.locals { s with heap := h, toks := tk } its (J (i + 1)) s₃ → UnrEndW h₀ env.locals { s with heap := h, toks := tk } its (fun m' n' => SubL keep n' ∧ ItemsRest prog w A E h₀ env target body Q s ws keep (xs.drop (i + 1)) m' n') s₃ := by
      rintro ⟨h', tk', m', n', e, F', N', ha, hj'⟩
      refine ⟨h', tk', m', n', e, F', N', ha, hkeep _ _ _ hj', items_inv xs J hkeep turn done k (i + 1) m' n' (by k_extra "omx") (fun p hp hm => ?_) hj'⟩
      rw [← hmap] at hm
      obtain ⟨q, hq, hqe⟩ := List.mem_map.mp hm
      exact ha p hp q hq hqe.symm
    cases f with
    | ret v => exact h₃
    | brk => exact h₃
    | next => exact fin h₃
    | cont => exact fin h₃

theorem iter_listX {l : Addr} {vs : List Value} {k : Nat} {m₀ : Str → Option Value} {news : List (Addr × Obj)} (J : Nat → (Str → Option Value) → List (Addr × Obj) → Prop)
    (hh : A.handled = none) (hkeep : ∀ i m n, J i m n → (l, lstOf vs k) ∈ n) (F : Fr h₀ env.locals s.heap m₀) (N : News h₀ env.locals s.heap news) (hj : J 0 m₀ news)
    (turn : ∀ i v m₁ n₁ h tk I io, vs[i]? = some v → J i m₁ n₁ → (∀ p ∈ news, p.1 < I) → (∀ p ∈ n₁, ∀ q ∈ [(I, io)], p.1 ≠ q.1) → Fr h₀ env.locals h m₁ → News h₀ env.locals h ((I, io) :: n₁) →
      wpAny (model prog w) A (assign target env v) (fun _ s₂ => wpAny (model prog w) A (execs body env) (TurnP h₀ env.locals { s with heap := h, toks := tk } [(I, io)] (J (i + 1)) Q) E s₂) E { s with heap := h, toks := tk })
    (done : ∀ m n h tk, J vs.length m n → Fr h₀ env.locals h m → News h₀ env.locals h n → Q .next { s with heap := h, toks := tk }) :
    wpAny (model prog w) A (pyIter (.ref l)) (fun it s₂ => TurnsAt prog w A h₀ env target body Q E it s₂) E s := by
  refine iter_listTurns hh F N (hkeep _ _ _ hj) rfl rfl fun I hI => ?_
  have := items_inv (prog := prog) (w := w) (A := A) (E := E) (s := s) (env := env) (h₀ := h₀) (target := target) (body := body) (Q := Q) (ws := [(I, "list_iterator")]) (keep := [(l, lstOf vs k)]) (vs.map .val) J (fun i m n h => ⟨hkeep i m n h, trivial⟩) ?_ ?_ (vs.map Itm.val).length 0 m₀ news (by k_extra "omx")
    (fun p hp hm => Nat.lt_irrefl _ ((List.mem_singleton.mp hm) ▸ hI p hp)) hj
  · rwa [List.drop_zero] at this
  · intro i a v m₁ n₁ h tk its ha hv hJ ho off F₁ N₁
    rcases its with _ | ⟨q, _ | ⟨_, _⟩⟩
    · exact (show False from ho).elim
    · obtain ⟨⟨e1, _⟩, _⟩ := ho
      obtain ⟨q1, q2⟩ := q
      dsimp only at e1
      subst e1
      rw [List.getElem?_map] at ha
      obtain ⟨v', hv', rfl⟩ := Option.map_eq_some_iff.mp ha
      have : v = v' := hv
      subst this
      exact turn i v m₁ n₁ h tk _ q2 hv' hJ hI off F₁ N₁
    · exact (show False from ho.2).elim
  · intro m n h tk hJ
    rw [List.length_map] at hJ
    exact done m n h tk hJ
theorem iter_enumX {elts : List Expr} {ek : Nat} {pos : Pos} {l : Addr} {vs : List Value} {k : Nat} {m₀ : Str → Option Value} {news : List (Addr × Obj)} (J : Nat → (Str → Option Value) → List (Addr × Obj) → Prop)
    (hh : A.handled = none) (hkeep : ∀ i m n, J i m n → (l, lstOf vs k) ∈ n) (F : Fr h₀ env.locals s.heap m₀) (N : News h₀ env.locals s.heap news) (hj : J 0 m₀ news)
    (turn : ∀ (i : Nat) v m₁ n₁ h tk I io eo T t, vs[i]? = some v → IsTup h T #[.int (i : Int) t, v] → J i m₁ n₁ → (∀ p ∈ news, p.1 < I) → (∀ p ∈ n₁, ∀ q ∈ [(I + 1, eo), (I, io)], p.1 ≠ q.1) → Fr h₀ env.locals h m₁ → News h₀ env.locals h ((I + 1, eo) :: (I, io) :: n₁) →
      wpAny (model prog w) A (assign (.Tuple elts ek pos) env (.ref T)) (fun _ s₂ => wpAny (model prog w) A (execs body env) (TurnP h₀ env.locals { s with heap := h, toks := tk } [(I + 1, eo), (I, io)] (J (i + 1)) Q) E s₂) E { s with heap := h, toks := tk })
    (done : ∀ m n h tk, J vs.length m n → Fr h₀ env.locals h m → News h₀ env.locals h n → Q .next { s with heap := h, toks := tk }) :
    wpAny (model prog w) A (call (.type "enumerate") [.ref l]) (fun xv s₁ => wpAny (model prog w) A (pyIter xv) (fun it s₂ => TurnsAt prog w A h₀ env (.Tuple elts ek pos) body Q E it s₂) E s₁) E s := by
  refine ktu_enum (xs := enumItems 0 vs) hh F N (hkeep _ _ _ hj) rfl rfl rfl fun I hI => ?_
  have := items_inv (prog := prog) (w := w) (A := A) (E := E) (s := s) (env := env) (h₀ := h₀) (target := .Tuple elts ek pos) (body := body) (Q := Q) (ws := [(I + 1, "enumerate"), (I, "list_iterator")]) (keep := [(l, lstOf vs k)]) (enumItems 0 vs) J (fun i m n h => ⟨hkeep i m n h, trivial⟩) ?_ ?_ (enumItems 0 vs).length 0 m₀ news (by k_extra "omx")
    (fun p hp hm => ?_) hj
  · rwa [List.drop_zero] at this
  · intro i a v m₁ n₁ h tk its ha hv hJ ho off F₁ N₁
    rcases its with _ | ⟨q, _ | ⟨r, _ | ⟨_, _⟩⟩⟩
    · exact (show False from ho).elim
    · exact (show False from ho.2).elim
    · obtain ⟨⟨e1, _⟩, ⟨e2, _⟩, _⟩ := ho
      obtain ⟨q1, q2⟩ := q
      obtain ⟨r1, r2⟩ := r
      dsimp only at e1 e2
      subst e1 e2
      have hi : i < vs.length := by
        have := (List.getElem?_eq_some_iff.mp ha).1
        rwa [enumItems_length] at this
      have hx := enumItems_get vs 0 i (List.getElem?_eq_getElem hi)
      rw [hx] at ha
      have ha := Option.some.inj ha
      subst ha
      obtain ⟨T, t, rfl, ht⟩ := hv
      rw [Nat.zero_add] at ht
      exact turn i _ m₁ n₁ h tk _ r2 q2 T t (List.getElem?_eq_getElem hi) ht hJ hI off F₁ N₁
    · exact (show False from ho.2.2).elim
  · intro m n h tk hJ
    rw [enumItems_length] at hJ
    exact done m n h tk hJ
  · have := hI p hp
    have hm' : p.1 = I + 1 ∨ p.1 = I := by simpa using hm
    rcases hm' with e | e
    · exact ktu_ne 1 this e
    · exact Nat.ne_of_lt this e

noncomputable def offN (f m₀ : Str → Option Value) : List Str → Str → Option Value
  | [], y => m₀ y
  | x :: r, y => if y = x then f x else offN f m₀ r y
theorem offN_eq {f m₀ : Str → Option Value} : ∀ {ns : List Str}, (∀ y, y ∉ ns → f y = m₀ y) → offN f m₀ ns = f
  | ns, h => by
    funext y
    have aux : ∀ l : List Str, (y ∈ l ∨ f y = m₀ y) → offN f m₀ l y = f y := by
      intro l
      induction l with
      | nil => intro h; rcases h with h | h; · cases h
               · exact h.symm
      | cons x r ih =>
        intro h
        show (if y = x then f x else offN f m₀ r y) = f y
        by_cases e : y = x
        · rw [if_pos e, e]
        · rw [if_neg e]
          exact ih (h.elim (fun h => .inl ((List.mem_cons.mp h).resolve_left e)) .inr)
    exact aux ns (by by_cases hy : y ∈ ns; · exact .inl hy
                     · exact .inr (h y hy))
theorem iter_listN {l : Addr} {vs : List Value} {k : Nat} {m₀ : Str → Option Value} {news : List (Addr × Obj)} (ns : List Str) (J : Nat → (Str → Option Value) → List (Addr × Obj) → Prop)
    (hh : A.handled = none) (hkeep : ∀ i m n, J i m n → (l, lstOf vs k) ∈ n) (F : Fr h₀ env.locals s.heap m₀) (N : News h₀ env.locals s.heap news) (hj : J 0 m₀ news)
    (turn : ∀ i v f n₁ h tk I io, vs[i]? = some v → J i f n₁ → (∀ p ∈ news, p.1 < I) → (∀ p ∈ n₁, ∀ q ∈ [(I, io)], p.1 ≠ q.1) → Fr h₀ env.locals h (offN f m₀ ns) → News h₀ env.locals h ((I, io) :: n₁) →
      wpAny (model prog w) A (assign target env v) (fun _ s₂ => wpAny (model prog w) A (execs body env) (TurnP h₀ env.locals { s with heap := h, toks := tk } [(I, io)] (fun m' n' => (∀ y, y ∉ ns → m' y = m₀ y) ∧ J (i + 1) m' n') Q) E s₂) E { s with heap := h, toks := tk })
    (done : ∀ f n h tk, J vs.length f n → Fr h₀ env.locals h (offN f m₀ ns) → News h₀ env.locals h n → Q .next { s with heap := h, toks := tk }) :
    wpAny (model prog w) A (pyIter (.ref l)) (fun it s₂ => TurnsAt prog w A h₀ env target body Q E it s₂) E s :=
  iter_listX (fun i m n => (∀ y, y ∉ ns → m y = m₀ y) ∧ J i m n) hh (fun i m n h => hkeep i m n h.2) F N ⟨fun _ _ => rfl, hj⟩
    (fun i v m₁ n₁ h tk I io hv hJ hI off F₁ N₁ => turn i v m₁ n₁ h tk I io hv hJ.2 hI off (by rw [offN_eq hJ.1]; exact F₁) N₁)
    (fun m n h tk hJ F₁ N₁ => done m n h tk hJ.2 (by rw [offN_eq hJ.1]; exact F₁) N₁)
theorem iter_enumN {elts : List Expr} {ek : Nat} {pos : Pos} {l : Addr} {vs : List Value} {k : Nat} {m₀ : Str → Option Value} {news : List (Addr × Obj)} (ns : List Str) (J : Nat → (Str → Option Value) → List (Addr × Obj) → Prop)
    (hh : A.handled = none) (hkeep : ∀ i m n, J i m n → (l, lstOf vs k) ∈ n) (F : Fr h₀ env.locals s.heap m₀) (N : News h₀ env.locals s.heap news) (hj : J 0 m₀ news)
    (turn : ∀ (i : Nat) v f n₁ h tk I io eo T t, vs[i]? = some v → IsTup h T #[.int (i : Int) t, v] → J i f n₁ → (∀ p ∈ news, p.1 < I) → (∀ p ∈ n₁, ∀ q ∈ [(I + 1, eo), (I, io)], p.1 ≠ q.1) → Fr h₀ env.locals h (offN f m₀ ns) → News h₀ env.locals h ((I + 1, eo) :: (I, io) :: n₁) →
      wpAny (model prog w) A (assign (.Tuple elts ek pos) env (.ref T)) (fun _ s₂ => wpAny (model prog w) A (execs body env) (TurnP h₀ env.locals { s with heap := h, toks := tk } [(I + 1, eo), (I, io)] (fun m' n' => (∀ y, y ∉ ns → m' y = m₀ y) ∧ J (i + 1) m' n') Q) E s₂) E { s with heap := h, toks := tk })
    (done : ∀ f n h tk, J vs.length f n → Fr h₀ env.locals h (offN f m₀ ns) → News h₀ env.locals h n → Q .next { s with heap := h, toks := tk }) :
    wpAny (model prog w) A (call (.type "enumerate") [.ref l]) (fun xv s₁ => wpAny (model prog w) A (pyIter xv) (fun it s₂ => TurnsAt prog w A h₀ env (.Tuple elts ek pos) body Q E it s₂) E s₁) E s :=
  iter_enumX (fun i m n => (∀ y, y ∉ ns → m y = m₀ y) ∧ J i m n) hh (fun i m n h => hkeep i m n h.2) F N ⟨fun _ _ => rfl, hj⟩
    (fun i v m₁ n₁ h tk I io eo T t hv ht hJ hI off F₁ N₁ => turn i v m₁ n₁ h tk I io eo T t hv ht hJ.2 hI off (by rw [offN_eq hJ.1]; exact F₁) N₁)
    (fun m n h tk hJ F₁ N₁ => done m n h tk hJ.2 (by rw [offN_eq hJ.1]; exact F₁) N₁)
theorem iter_accN {l it : Addr} {vs ys0 : List Value} {k k0 : Nat} {m₀ : Str → Option Value} {rest : List (Addr × Obj)} (ns : List Str) (P : Nat → List Value → (Str → Option Value) → Prop)
    (hh : A.handled = none) (F : Fr h₀ env.locals s.heap m₀) (N : News h₀ env.locals s.heap ((l, lstOf ys0 k0) :: rest)) (hm : (it, lstOf vs k) ∈ rest) (hj : P 0 ys0 m₀)
    (turn : ∀ i v f ys k1 h tk I io, vs[i]? = some v → P i ys f → (∀ p ∈ (l, lstOf ys0 k0) :: rest, p.1 < I) → (∀ p ∈ (l, lstOf ys k1) :: rest, ∀ q ∈ [(I, io)], p.1 ≠ q.1) → Fr h₀ env.locals h (offN f m₀ ns) → News h₀ env.locals h ((I, io) :: (l, lstOf ys k1) :: rest) →
      wpAny (model prog w) A (assign target env v) (fun _ s₂ => wpAny (model prog w) A (execs body env) (TurnP h₀ env.locals { s with heap := h, toks := tk } [(I, io)] (fun m' n' => (∀ y, y ∉ ns → m' y = m₀ y) ∧ ∃ ys' k', n' = (l, lstOf ys' k') :: rest ∧ P (i + 1) ys' m') Q) E s₂) E { s with heap := h, toks := tk })
    (done : ∀ f ys k1 h tk, P vs.length ys f → Fr h₀ env.locals h (offN f m₀ ns) → News h₀ env.locals h ((l, lstOf ys k1) :: rest) → Q .next { s with heap := h, toks := tk }) :
    wpAny (model prog w) A (pyIter (.ref it)) (fun it s₂ => TurnsAt prog w A h₀ env target body Q E it s₂) E s := by
  refine iter_listN (l := it) (vs := vs) (k := k) ns (fun i f n => ∃ ys' k', n = (l, lstOf ys' k') :: rest ∧ P i ys' f) hh ?_ F N ⟨_, _, rfl, hj⟩ ?_ ?_
  · rintro i f n ⟨ys', k', rfl, _⟩
    exact List.mem_cons_of_mem _ hm
  · rintro i v f n h tk I io hv ⟨ys, k1, rfl, hP⟩ hI off F1 N1
    exact turn i v f ys k1 h tk I io hv hP hI off F1 N1
  · rintro f n h tk ⟨ys, k1, rfl, hP⟩ F1 N1
    exact done f ys k1 h tk hP F1 N1
theorem off_acc {l : Addr} {ys : List Value} {k : Nat} {rest its : List (Addr × Obj)} (off : ∀ p ∈ (l, lstOf ys k) :: rest, ∀ q ∈ its, p.1 ≠ q.1) {ys' : List Value} {k' : Nat} : ∀ p ∈ (l, lstOf ys' k') :: rest, ∀ q ∈ its, p.1 ≠ q.1 := by
  intro p hp q hq
  rcases List.mem_cons.mp hp with rfl | hp
  · exact off (l, lstOf ys k) (.head _) q hq
  · exact off p (.tail _ hp) q hq
end
example : True := by
  k_with "c_forT" => (((rename Fr _ _ _ _ => lFqZ); (with_unfolding_all refine' For_turns lFqZ ?_); k_whole))
  trivial

section
variable {prog : Program} {w : World} {A : Around} {E : Value → Shared → Prop} {s : Shared} {h₀ : Heap} {L : Addr} {m : Str → Option Value} {news news' : List (Addr × Obj)}
theorem sliceAll_indices (n : Nat) : sliceIndices .none .none .none n = pure (sliceBounds none none none n) := sliceIndices_raw none none none n (by simp)
theorem setItem_all {l y sl : Addr} {os o oy : Obj} {items ys : Array Value} {n ny : Nat} {Q : Unit → Shared → Prop} (hos : s.heap.get? sl = some os) (hcs : os.cls = .type "slice") (hds : os.data = .fields #[.none, .none, .none])
    (ho : s.heap.get? l = some o) (hc : o.cls = .type "list") (hd : o.data = .seq items n) (hoy : s.heap.get? y = some oy) (hcy : oy.cls = .type "list") (hdy : oy.data = .seq ys ny) (hsz : items.size ≤ 1000) (hsy : ys.size ≤ 1000) (hne : l ≠ y)
    (hQ : Q () { s with heap := s.heap.update l (Obj.mapSeq fun xs => xs.extract 0 0 ++ ys ++ xs.extract items.size xs.size) }) :
    wpAny (model prog w) A (setItem (.ref l) (.ref sl) (.ref y)) Q E s := by
  have hTs : s.TypeIs (.ref sl) "slice" := ⟨os, hos, hcs⟩
  have hTy : s.TypeIs (.ref y) "list" := ⟨oy, hoy, hcy⟩
  have hTl : s.TypeIs (.ref l) "list" := ⟨o, ho, hc⟩
  unfold setItem
  try with_reducible refine wpAny_holding ?_
  first | refine wpAny_bind (wpAny_pure ?_) | skip
  refine wpAny_bind (wpAny_sequenceKey hTl (by decide) ?_)
  refine wpAny_bind (wpAny_callSpecial?_slot (name := Str.ofString "__setitem__") hTl F.slot_list_setitem
    (wpAny_call_entry F.slot_list_setitem hTl F.entry_list_setitem ?_ (F.args_list_setitem_3 _ _ _)))
  show wpAny _ _ (Builtin.List.listSubscript? (.ref sl) >>= _) _ _ s
  refine wpAny_bind ?_
  unfold Builtin.List.listSubscript?
  refine wpAny_bind (wpAny_specialOf hTs slice_no_index ?_)
  simp only [Option.isNone_none, if_true]
  refine wpAny_pure ?_
  show wpAny _ _ (typeOf (.ref sl) >>= _) _ _ s
  refine wpAny_bind (wpAny_typeOf hTs ?_)
  rw [if_neg (by decide)]
  rw [listSliceParts_eq]
  refine wpAny_bind (wpAny_bind (wpAny_field hos hds (x := .none) rfl (wpAny_bind (wpAny_listPart .none ?_))))
  rw [if_neg (show ¬ ((rawPart none == rawInt 0) = true) from Bool.false_ne_true)]
  refine wpAny_bind (wpAny_field hos hds (x := .none) rfl (wpAny_bind (wpAny_listPart .none ?_)))
  refine wpAny_bind (wpAny_field hos hds (x := .none) rfl (wpAny_bind (wpAny_listPart .none (wpAny_pure ?_))))
  rw [if_neg (show ¬ (Builtin.List.listSameRef (.ref l) (.ref y) = true) from fun h => hne (eq_of_beq h))]
  refine wpAny_bind ?_
  unfold Builtin.List.listAllItems
  refine wpAny_bind (wpAny_typeOf hTy ?_)
  rw [if_pos (by decide)]
  refine listItems_at hoy hdy ?_
  refine wpAny_bind (listItems_at ho hd ?_)
  refine wpAny_bind (wpAny_of_eq (sliceIndices_raw none none none items.size (by simp)) ?_)
  have hb : sliceBounds none none none items.size = (0, (items.size : Int), 1) := by simp [sliceBounds]
  rw [hb]
  rw [if_pos (show ((1 : Int) == 1) = true from rfl)]
  refine wpAny_bind (wpAny_rule ?_)
  have ht : Builtin.List.listTooLong (items.size + ys.size) = false := by
    unfold Builtin.List.listTooLong
    simp only [sizeLine_eq, decide_eq_false_iff_not]
    k_extra "omx"
  rw [if_neg (by rw [ht]; exact Bool.false_ne_true)]
  have hmx : (max (0 : Int) (items.size : Int)).toNat = items.size := by k_extra "omx"
  refine wpAny_bind (listUpdate_at ho hd (wpAny_bind (wpAny_letGo (wpAny_pure ⟨.none, rfl, wpAny_pure ?_⟩))) ?_ ?_)
  · simp only [hmx, Int.toNat_zero]
    exact hQ
  · rw [sizeLine_eq]; k_extra "omx"
  · simp only [hmx, Int.toNat_zero, sizeLine_eq]; simp; k_extra "omx"

theorem setItem_all_K {l y sl : Addr} {os : Obj} {vs ys : List Value} {k ky : Nat} {h : Heap} {Q : Unit → Shared → Prop} (hs : s.heap = h.push os) (hsl : sl = h.objs.size) (hcs : os.cls = .type "slice") (hds : os.data = .fields #[.none, .none, .none])
    (F : Fr h₀ L h m) (N : News h₀ L h news) (hy : (y, lstOf ys ky) ∈ news) (hsz : vs.length ≤ 1000) (hsy : ys.length ≤ 1000) (hne : l ≠ y)
    (U : Upd l (lstOf vs k) (lstOf ys (if ys.length == vs.length then k else k + 1)) news news') (hQ : ∀ h', Fr h₀ L h' m → News h₀ L h' news' → Q () { s with heap := h' }) :
    wpAny (model prog w) A (setItem (.ref l) (.ref sl) (.ref y)) Q E s := by
  obtain ⟨pre, post, rfl, rfl, a, b⟩ := U.split
  subst hsl
  have z := N (l, lstOf vs k) (List.mem_append.mpr (.inr (.head _)))
  have zy := N _ hy
  have hf : os.isFreed = false := by
    cases os with
    | mk c d dt sl => simp only at hds; subst hds; rfl
  have z1 : s.heap.get? l = some (lstOf vs k) := by rw [hs]; exact Heap.get?_push_of_some _ z.1
  refine setItem_all (os := os) (o := lstOf vs k) (oy := lstOf ys ky) (by rw [hs]; exact Heap.get?_push_size _ hf) hcs hds z1 rfl rfl
    (by rw [hs]; exact Heap.get?_push_of_some _ zy.1) rfl rfl (by simpa using hsz) (by simpa using hsy) hne ?_
  have F1 : Fr h₀ L s.heap m := by rw [hs]; exact F.push os
  have N1 : News h₀ L s.heap (pre ++ (l, lstOf vs k) :: post) := by rw [hs]; exact fun p hp => ⟨Heap.get?_push_of_some _ (N p hp).1, (N p hp).2⟩
  have hsb := Heap.SameBut.update s.heap l (Obj.mapSeq fun xs => xs.extract 0 0 ++ ys.toArray ++ xs.extract vs.toArray.size xs.size)
  refine hQ _ (F1.change hsb z.2.1 z.2.2) (news_set N1 a b hsb ?_)
  rw [Heap.get?_update_self _ z1 (by rfl)]
  simp [Obj.mapSeq, lstOf]
theorem append_L {D : Addr} {vs : List Value} {k : Nat} {x : Value} {Q : Value → Shared → Prop} (F : Fr h₀ L s.heap m) (N : News h₀ L s.heap news) (U : Upd D (lstOf vs k) (lstOf (vs ++ [x]) (k + 1)) news news')
    (hsz : vs.length ≤ 2000) (h : ∀ h', Fr h₀ L h' m → News h₀ L h' news' → Q .none { s with heap := h' }) : wpAny (model prog w) A (call (.builtin "list.append") [.ref D, x]) Q E s :=
  append_K (its := vs.toArray) (n := k) F N (by rw [List.push_toArray]; exact U) h (by rw [sizeLine_eq]; simp; k_extra "omx")
theorem slicePick_all (vs : List Value) : slicePick vs.toArray none none none = vs.toArray := by
  have e : sliceBounds none none none vs.toArray.size = sliceBounds (some ((0 : Nat) : Int)) (some ((vs.length : Nat) : Int)) none vs.toArray.size := by
    simp [sliceBounds]
    constructor
    · k_extra "omx"
    · split <;> k_extra "omx"
  unfold slicePick
  rw [e]
  have := slicePick_run vs.toArray 0 vs.length (by simp) (by k_extra "omx")
  unfold slicePick at this
  rw [this]
  simp
theorem join_L {D : Addr} {ys : List Value} {xs : List Str} {k : Nat} {sep : Str} {t : Tok} {Q : Value → Shared → Prop} (N : News h₀ L s.heap news) (hm : (D, lstOf ys k) ∈ news) (hy : StrsL ys xs) (hs : sep.length ≤ 10)
    (hB : ∀ x ∈ xs, x.length ≤ 1000) (hn : xs.length ≤ 2000) (hq : ∀ t' k, Q (.str (Txt.join sep xs) t') { s with toks := k }) : wpAny (model prog w) A (call (.builtin "str.join") [.str sep t, .ref D]) Q E s := by
  obtain ⟨l, rfl, rfl⟩ : ∃ l : List (Str × Tok), ys = strValues l ∧ xs = l.map (·.1) := by
    clear hm hB hn hq
    induction hy with
    | nil => exact ⟨[], rfl, rfl⟩
    | cons _ ih => obtain ⟨l, rfl, rfl⟩ := ih; exact ⟨(_, _) :: l, rfl, rfl⟩
  refine SC.join ⟨_, (N _ hm).1, rfl, k, rfl⟩ rfl ?_ hq
  unfold JoinOk
  rw [StrLaws.joinFits hB (by
    have h1 : (l.map (·.1)).length * 1000 ≤ 2000 * 1000 := Nat.mul_le_mul_right _ hn
    have h2 : (l.map (·.1)).length * sep.length ≤ 2000 * 10 := Nat.mul_le_mul hn hs
    k_extra "omx")]
  rfl
theorem truthy_snoc {l : Addr} {vs : List Value} {x : Value} {k : Nat} {Q : Bool → Shared → Prop} (N : News h₀ L s.heap news) (hm : (l, lstOf (vs ++ [x]) k) ∈ news) (hsz : vs.length ≤ 5000)
    (h : Q true { s with toks := s.toks + 1 + 1 }) : wpAny (model prog w) A (truthy (.ref l)) Q E s := by
  refine wpAny_truthy_list (items := (vs ++ [x]).toArray) ⟨_, (N _ hm).1, rfl, k, rfl⟩ (by simp; k_extra "omx") ?_
  have e : (!(vs ++ [x]).toArray.isEmpty) = true := by simp
  rw [e]; exact h
theorem getneg_snoc {l : Addr} {vs : List Value} {x : Value} {k : Nat} {t : Tok} {Q : Value → Shared → Prop} (N : News h₀ L s.heap news) (hm : (l, lstOf (vs ++ [x]) k) ∈ news)
    (h : Q x s) : wpAny (model prog w) A (getItem (.ref l) (.int (-1) t)) Q E s := by
  refine wpAny_getItem_list_neg (items := (vs ++ [x]).toArray) ⟨_, (N _ hm).1, rfl, k, rfl⟩ (by decide) (by simp; k_extra "omx") (by decide) ?_ h
  have e : (-1 + ((vs ++ [x]).toArray.size : Int)).toNat = vs.length := by simp; k_extra "omx"
  rw [e]; simp
theorem pop_snoc {D : Addr} {vs : List Value} {x : Value} {k : Nat} {Q : Value → Shared → Prop} (F : Fr h₀ L s.heap m) (N : News h₀ L s.heap news) (U : Upd D (lstOf (vs ++ [x]) k) (lstOf vs (k + 1)) news news')
    (hsz : vs.length ≤ 5000) (h : ∀ h', Fr h₀ L h' m → News h₀ L h' news' → Q x { s with heap := h' }) : wpAny (model prog w) A (call (.builtin "list.pop") [.ref D]) Q E s :=
  kl_pop (p := vs) (y := x) (its := (vs ++ [x]).toArray) (n := k) F N (by simpa using kpa_last x vs) U (by rw [sizeLine_eq]; simp; k_extra "omx") h
theorem subneg_snoc {value slice : PySem.Expr} {l : Addr} {vs : List Value} {x : Value} {k : Nat} {u : Tok} {Q : Value → Shared → Prop} (N : News h₀ L s.heap news) (hm : (l, lstOf (vs ++ [x]) k) ∈ news) (h : Q x s)
    (hs : subscripted slice false (.ref l) (.int (-1) u) = operate [.ref l, .int (-1) u] (getItem (.ref l) (.int (-1) u)) := by with_unfolding_all rfl) :
    wpAny (model prog w) A (subscriptTail value slice (.ref l) (.int (-1) u)) Q E s :=
  tail_any (s := s) (T := "list") (Heap.IsList.typeIs ⟨_, (N _ hm).1, rfl, k, rfl⟩) F.slot_list_getitem.lookup (getneg_snoc N hm h) hs
theorem sub_L {value slice : PySem.Expr} {l : Addr} {vs : List Value} {v : Value} {k : Nat} {i : Int} {u : Tok} {Q : Value → Shared → Prop} (N : News h₀ L s.heap news) (hm : (l, lstOf vs k) ∈ news) (h0 : 0 ≤ i) (h1 : i < 2 ^ 63) (hx : vs[i.toNat]? = some v) (h : Q v s)
    (hs : subscripted slice false (.ref l) (.int i u) = operate [.ref l, .int i u] (getItem (.ref l) (.int i u)) := by with_unfolding_all rfl) :
    wpAny (model prog w) A (subscriptTail value slice (.ref l) (.int i u)) Q E s :=
  item_litK ⟨_, (N _ hm).1, rfl, k, rfl⟩ h0 h1 hx h hs
end
noncomputable abbrev pr : Program := PySem.Challenge.rw_il0095_01.row.prog
theorem load_frag : (K = K) ∧ (PySem.Challenge.rw_il0095_01 = PySem.Challenge.rw_il0095_01) := by k_fill; exact ⟨rfl, rfl⟩

noncomputable def Con (w : World) (f : Addr) (d : Nat) (vs : List Value) (kw : List (Str × Value)) (news : List (Addr × Obj)) (Out : Value → List (Addr × Obj) → Prop) : Prop :=
  ∀ (dp un : Nat) (gd : Option (List Code)) (cn : Str) (nm : List (Str × NameKind)) (ig ic : Bool) (mo : List (Str × Const)) (a : Addr) (ccd : Value) (cl : List (Str × Addr)) (outer : List Env) (A₀ : Around) (base h₀ : Heap) (L : Addr) (m : Str → Option Value)
    (mean : ExcName → Option Value) (mg mb : Str → Option Value) (s : Shared) (Q E : Value → Shared → Prop),
    Below A₀ base outer h₀ → Fr h₀ L s.heap m → (K w.params).In h₀ → News h₀ L s.heap news → Top qv (looseW qv loose) mean mg mb h₀ →
    dp + d < recursionLimit → un + 8 * d < cLine →
    (∀ r h' tk' news', Fr h₀ L h' m → News h₀ L h' news' → Out r news' → Q r { s with heap := h', toks := tk' }) →
    wpAny (model pr w) (ktrTop dp un gd cn ⟨.function, nm, ig, ic, mo⟩ L a ccd cl outer) (call (.ref f) vs kw) Q E s
theorem con_use {w : World} {f : Addr} {d : Nat} {vs : List Value} {kw : List (Str × Value)} {news : List (Addr × Obj)} {Out : Value → List (Addr × Obj) → Prop} (C : Con w f d vs kw news Out)
    {dp un : Nat} {gd : Option (List Code)} {cn : Str} {nm : List (Str × NameKind)} {ig ic : Bool} {mo : List (Str × Const)} {a : Addr} {ccd : Value} {cl : List (Str × Addr)} {outer : List Env} {A₀ : Around} {base h₀ : Heap} {L : Addr} {m : Str → Option Value}
    {mean : ExcName → Option Value} {mg mb : Str → Option Value} {s : Shared} {Q E : Value → Shared → Prop}
    (B : Below A₀ base outer h₀) (F : Fr h₀ L s.heap m) (X : (K w.params).In h₀) (N : News h₀ L s.heap news) (T : Top qv (looseW qv loose) mean mg mb h₀)
    (hd : dp + d < recursionLimit) (hu : un + 8 * d < cLine)
    (hret : ∀ r h' tk' news', Fr h₀ L h' m → News h₀ L h' news' → Out r news' → Q r { s with heap := h', toks := tk' }) :
    wpAny (model pr w) (ktrTop dp un gd cn ⟨.function, nm, ig, ic, mo⟩ L a ccd cl outer) (call (.ref f) vs kw) Q E s :=
  C dp un gd cn nm ig ic mo a ccd cl outer A₀ base h₀ L m mean mg mb s Q E B F X N T hd hu hret
theorem hide {p : Prop} (h : ∀ G : Prop, (p → G) → G) : p := h p id
section
variable {w : World} {f : Addr} {d : Nat} {vs : List Value} {kw : List (Str × Value)} {news : List (Addr × Obj)}
    {dp un : Nat} {gd : Option (List Code)} {cn : Str} {nm : List (Str × NameKind)} {ig ic : Bool} {mo : List (Str × Const)} {a : Addr} {ccd : Value} {cl : List (Str × Addr)} {outer : List Env} {A₀ : Around} {base h₀ : Heap} {L : Addr} {m : Str → Option Value}
    {mean : ExcName → Option Value} {mg mb : Str → Option Value} {s : Shared} {Q E : Value → Shared → Prop}
theorem con_use0 {v : Value} (C : Con w f d vs kw news (fun r n' => r = v ∧ n' = news))
    (B : Below A₀ base outer h₀) (F : Fr h₀ L s.heap m) (X : (K w.params).In h₀) (N : News h₀ L s.heap news) (T : Top qv (looseW qv loose) mean mg mb h₀)
    (hd : dp + d < recursionLimit) (hu : un + 8 * d < cLine)
    (hret : ∀ h' tk', Fr h₀ L h' m → News h₀ L h' news → Q v { s with heap := h', toks := tk' }) :
    wpAny (model pr w) (ktrTop dp un gd cn ⟨.function, nm, ig, ic, mo⟩ L a ccd cl outer) (call (.ref f) vs kw) Q E s :=
  con_use C B F X N T hd hu (by rintro r h' tk' n F' N' ⟨rfl, rfl⟩; exact hret h' tk' F' N')
theorem con_use1s {x : Str} (C : Con w f d vs kw news (fun r n' => (∃ u, r = .str x u) ∧ n' = news))
    (B : Below A₀ base outer h₀) (F : Fr h₀ L s.heap m) (X : (K w.params).In h₀) (N : News h₀ L s.heap news) (T : Top qv (looseW qv loose) mean mg mb h₀)
    (hd : dp + d < recursionLimit) (hu : un + 8 * d < cLine)
    (hret : ∀ u h' tk', Fr h₀ L h' m → News h₀ L h' news → Q (.str x u) { s with heap := h', toks := tk' }) :
    wpAny (model pr w) (ktrTop dp un gd cn ⟨.function, nm, ig, ic, mo⟩ L a ccd cl outer) (call (.ref f) vs kw) Q E s :=
  con_use C B F X N T hd hu (by rintro r h' tk' n F' N' ⟨⟨u, rfl⟩, rfl⟩; exact hret u h' tk' F' N')
theorem con_use1i {x : Int} (C : Con w f d vs kw news (fun r n' => (∃ u, r = .int x u) ∧ n' = news))
    (B : Below A₀ base outer h₀) (F : Fr h₀ L s.heap m) (X : (K w.params).In h₀) (N : News h₀ L s.heap news) (T : Top qv (looseW qv loose) mean mg mb h₀)
    (hd : dp + d < recursionLimit) (hu : un + 8 * d < cLine)
    (hret : ∀ u h' tk', Fr h₀ L h' m → News h₀ L h' news → Q (.int x u) { s with heap := h', toks := tk' }) :
    wpAny (model pr w) (ktrTop dp un gd cn ⟨.function, nm, ig, ic, mo⟩ L a ccd cl outer) (call (.ref f) vs kw) Q E s :=
  con_use C B F X N T hd hu (by rintro r h' tk' n F' N' ⟨⟨u, rfl⟩, rfl⟩; exact hret u h' tk' F' N')
end
theorem led_drop {h₀ h : Heap} {L : Addr} {news news' : List (Addr × Obj)} (N : News h₀ L h news') (hs : ∀ p ∈ news, p ∈ news') : News h₀ L h news := fun p hp => N p (hs p hp)
example : True := by
  k_with "c_sub" => ((intro p9Z h9Z; first | exact h9Z | exact List.Mem.tail _ h9Z | exact List.Mem.tail _ (List.Mem.tail _ h9Z) | exact List.Mem.tail _ (List.Mem.tail _ (List.Mem.tail _ h9Z)) | (simp only [List.mem_cons, List.mem_append, List.not_mem_nil, or_false] at h9Z ⊢; first | exact h9Z | (simp only [h9Z, or_true, true_or]; done) | grind)))
  trivial

example : True := by
  k_with "c_room" => (first | k_extra "c_room1" | ((try simp only [depth_under_make, depth_under_kw, depth_in1, depth_deeper, depth_caller] at *); (try dsimp only [ktrTop] at *); (simp only [recursionLimit] at *); omega))
  trivial

example : True := by
  k_with "c_units" => (first | k_extra "c_units1" | (have hcL9Z := cLine_is; (try simp only [units_in1, units_deeper, Around.mark_units, units_caller] at *); (try dsimp only [ktrTop] at *); omega))
  trivial

structure KLt (d : Addr) (l : List (Addr × Obj)) : Prop where
  lt : ∀ p ∈ l, p.1 < d
theorem klt_of {d : Addr} {l : List (Addr × Obj)} (h : AllLt d l) : KLt d l := ⟨ktn_ltOf h⟩
theorem klt_ne {d d' : Addr} {l r : List (Addr × Obj)} (h : KLt d' l) (hs : ∀ p ∈ r, p ∈ l) (hd : (@LE.le Nat _ d' d)) : ∀ p ∈ r, p.1 ≠ d := fun p hp => Nat.ne_of_lt (Nat.lt_of_lt_of_le (h.lt p (hs p hp)) hd)
theorem klt_lt {d d' : Addr} {l r : List (Addr × Obj)} (h : KLt d' l) (hs : ∀ p ∈ r, p ∈ l) (hd : (@LE.le Nat _ d' d)) : ∀ p ∈ r, p.1 < d := fun p hp => Nat.lt_of_lt_of_le (h.lt p (hs p hp)) hd
example : True := by
  k_with "c_keep" => ((rename KLt _ _ => k9Z; first | exact klt_ne k9Z (by k_extra "c_sub") (by omega) | exact klt_lt k9Z (by k_extra "c_sub") (by omega) | (clear k9Z; k_extra "c_keep")))
  trivial

end Mine
local macro_rules | `(tactic| k_lt $h:ident) => `(tactic| (replace $h := allLt_of $h; have hKL9 := Mine.klt_of $h; simp only [AllLt, and_true] at $h:ident))
namespace Mine
example : True := by
  k_with "k_all" => (first | assumption | k_extra "c_keep")
  trivial

end Mine
local macro_rules | `(tactic| k_all) => `(tactic| k_extra "k_all")
namespace Mine
theorem mem_of_Mem {α : Type} {x : α} {l : List α} (h : x ∈ l) : List.Mem x l := h
example : True := by
  k_with "k_mem" => (first | assumption | (refine mem_of_Mem ?_; assumption))
  trivial

end Mine
local macro_rules | `(tactic| k_mem) => `(tactic| k_extra "k_mem")
namespace Mine
example : True := by
  k_with "k_in" => (exact Frag.In.keeps (by k_asm) (Fr.keep (by k_asm)))
  trivial

end Mine
local macro_rules | `(tactic| k_in) => `(tactic| k_extra "k_in")
namespace Mine
example : True := by
  k_with "k_room" => (k_extra "c_room")
  trivial

end Mine
local macro_rules | `(tactic| k_room) => `(tactic| k_extra "k_room")
namespace Mine
example : True := by
  k_with "k_units" => (k_extra "c_units")
  trivial

end Mine
local macro_rules | `(tactic| k_units) => `(tactic| k_extra "k_units")
namespace Mine
section
variable {M : Model} {A : Around} {E : Value → Shared → Prop} {s : Shared} {h₀ : Heap} {L a : Addr} {m : Str → Option Value} {cn : Str} {cs : Scope} {ccd : Value} {cl : List (Str × Addr)} {news : List (Addr × Obj)} {x : Str} {t : Tok} {Q : Unit → Shared → Prop}
theorem storeI {n : Int} (F : Fr h₀ L s.heap m) (N : News h₀ L s.heap news)
    (h : ∀ h' tk t', Fr h₀ L h' (fun y => if y = x then some (.int n t') else m y) → News h₀ L h' news → Q () { s with heap := h', toks := tk })
    (hk : cs.kind = .function) (hx : (envX cn cs L a ccd cl).kindOf x = some .local) : wpAny M A (storeName (envX cn cs L a ccd cl) x (.int n t)) Q E s :=
  storeX_L F N (fun h' F' N' => h h' _ t F' N') hk hx
theorem storeS {n : Str} (F : Fr h₀ L s.heap m) (N : News h₀ L s.heap news)
    (h : ∀ h' tk t', Fr h₀ L h' (fun y => if y = x then some (.str n t') else m y) → News h₀ L h' news → Q () { s with heap := h', toks := tk })
    (hk : cs.kind = .function) (hx : (envX cn cs L a ccd cl).kindOf x = some .local) : wpAny M A (storeName (envX cn cs L a ccd cl) x (.str n t)) Q E s :=
  storeX_L F N (fun h' F' N' => h h' _ t F' N') hk hx
end
example : True := by
  k_with "storeName" => ((k_here; k_dflt (first
  | (refine' storeI ?F ?N ?_ ?a ?b; (case F => k_asm); (case N => k_asm); (case a => rfl); (case b => rfl); k_whole; intro hqZ tkqZ tqZ FqZ NqZ; (try k_sweep))
  | (refine' storeS ?F ?N ?_ ?a ?b; (case F => k_asm); (case N => k_asm); (case a => rfl); (case b => rfl); k_whole; intro hqZ tkqZ tqZ FqZ NqZ; (try k_sweep)))))
  trivial

example : True := by
  k_with "call builtin:issubclass" => ((k_here; k_dflt (refine' issub_str ?h ?_; (case h => kit_tp); k_whole); intro _))
  trivial

set_option maxHeartbeats 4000000 in
theorem fspath_c (w : World) (news : List (Addr × Obj)) (x : Str) (t : Tok) : Con w 287 1 [.str x t] [] news (fun r n' => r = .str x t ∧ n' = news) := by
  (w_top off; unfold Con; intro dpZ unZ gdZ cnZ nmZ igZ icZ moZ aZ ccdZ clZ outerZ A₀Z baseZ h₀Z LZ mZ meanZ mgZ mbZ sZ QZ EZ BZ FZ XZ NZ TZ hdZ huZ hret; refine wpAny_call ?_; k_dflt k_enter)
  k_steps
  all_goals (refine hret _ _ _ _ (by k_asm) (led_drop (by k_asm) (by k_extra "c_sub")) ⟨rfl, rfl⟩)
example : True := by
  k_with "call ref" => (((with_reducible show wpAny _ _ (call (Value.ref 287) _ _) _ _ _); (k_here; k_dflt (refine' con_use0 (fspath_c _ _ _ _) ?k1 ?k2 ?k3 ?k4 ?k5 ?kd ?ku ?_; (case k1 => k_asm); (case k2 => k_asm); (case k3 => k_asm); (case k4 => k_asm); (case k5 => k_asm); (case kd => k_extra "c_room"); (case ku => k_extra "c_units"); k_whole); intro hh9Z tk9Z F9Z N9Z; (try dsimp only); (try k_fold))))
  trivial

set_option maxHeartbeats 4000000 in
theorem getsep_c (w : World) (news : List (Addr × Obj)) (x : Str) (t : Tok) : Con w 301 1 [.str x t] [] news (fun r n' => (∃ u, r = .str "/" u) ∧ n' = news) := by
  (w_top off; unfold Con; intro dpZ unZ gdZ cnZ nmZ igZ icZ moZ aZ ccdZ clZ outerZ A₀Z baseZ h₀Z LZ mZ meanZ mgZ mbZ sZ QZ EZ BZ FZ XZ NZ TZ hdZ huZ hret; refine wpAny_call ?_; k_dflt k_enter)
  k_steps
  all_goals (refine hret _ _ _ _ (by k_asm) (led_drop (by k_asm) (by k_extra "c_sub")) ⟨⟨_, rfl⟩, rfl⟩)
example : True := by
  k_with "call ref" => (((with_reducible show wpAny _ _ (call (Value.ref 301) _ _) _ _ _); (k_here; k_dflt ((first | (refine' con_use1s (getsep_c _ _ _ _) ?k1 ?k2 ?k3 ?k4 ?k5 ?kd ?ku ?_) | (refine' con_use1i (getsep_c _ _ _ _) ?k1 ?k2 ?k3 ?k4 ?k5 ?kd ?ku ?_)); (case k1 => k_asm); (case k2 => k_asm); (case k3 => k_asm); (case k4 => k_asm); (case k5 => k_asm); (case kd => k_extra "c_room"); (case ku => k_extra "c_units"); k_whole); intro u9Z hh9Z tk9Z F9Z N9Z; (try dsimp only); (try k_fold))))
  trivial

example : True := by
  k_with "c_for" => (((rename Fr _ _ _ _ => lFqZ); (with_unfolding_all refine' For_invVF lFqZ ?k1 ?k2 ?_; (case k1 => exact rfl); (case k2 => exact rfl); k_whole)))
  trivial

example : True := by
  k_with "truthy str" => ((refine KXt.truthy_pos (K := 1000) (by assumption) (by assumption) (by decide) ?_; intro _))
  trivial

example : True := by
  k_with "c_absurd" => ((exfalso; simp_all; done))
  trivial

set_option maxHeartbeats 4000000 in
theorem join_c (w : World) (news : List (Addr × Obj)) (x y : Str) (t u : Tok) (hx : 1 ≤ x.length) (hx2 : x.length ≤ 1000) (hy : Txt.startswith y (Str.ofString "/") = false) (hy2 : y.length ≤ 1000) :
    Con w 308 2 [.str x t, .str y u] [] news (fun r n' => (∃ u, r = .str (if Txt.endswith x (Str.ofString "/") then x ++ y else x ++ (Str.ofString "/" ++ y)) u) ∧ n' = news) := by
  (w_top off; unfold Con; intro dpZ unZ gdZ cnZ nmZ igZ icZ moZ aZ ccdZ clZ outerZ A₀Z baseZ h₀Z LZ mZ meanZ mgZ mbZ sZ QZ EZ BZ FZ XZ NZ TZ hdZ huZ hret; refine wpAny_call ?_; k_dflt k_enter)
  k_steps
  k_extra "c_for"
  walk1
  rename Fr _ _ _ _ => F1
  rename News _ _ _ _ => N1
  refine iter_tup_one rfl F1 N1 (by k_mem) ?_
  intro h2 tk2 I2 io2 l2 F2 N2
  clear F1 N1
  k_steps
  all_goals (refine TurnEndJ.intro (by k_asm) (by k_asm) (fun p hp => Nat.ne_of_lt (l2 p hp)) ⟨by k_mem, ?_⟩; intro h3 tk3 F3 N3; k_steps)
  · refine hret _ _ _ _ (by k_asm) (led_drop (by k_asm) (by k_extra "c_sub")) ⟨⟨_, by rw [if_pos (by assumption)]⟩, rfl⟩
  · refine hret _ _ _ _ (by k_asm) (led_drop (by k_asm) (by k_extra "c_sub")) ⟨⟨_, by rw [if_neg (Bool.eq_false_iff.mp (by assumption))]⟩, rfl⟩
noncomputable def chars : List Nat := [46, 47, 65, 66, 67, 68, 69, 70, 71, 72, 73, 97, 98, 99, 100, 101, 102, 103, 104, 105]
noncomputable def okS (x : Str) : Bool := x.cps.toList.all chars.contains
noncomputable def cdName : List Nat := [14, 10, 4, 1, 1, 22, 0, 31, 16, 127, 0, 13, 7, 22, 0, 31, 16, 127, 0, 1]
noncomputable def cdVal : List Nat := [14, 14, 4, 1, 1, 9, 4294966783, 0, 0, 2147483648, 0, 0, 0, 0, 0, 13, 11, 9, 4294966783, 0, 0, 2147483648, 0, 0, 0, 0, 0, 1]
theorem all_clean (code : Array Nat) (h : ∀ c ∈ chars, Clean code c) (x : Str) (hx : okS x = true) : ∀ c ∈ x.cps.toList, Clean code c := fun c hc => h c (by
  have := List.all_eq_true.mp hx c hc
  simpa using this)
theorem clean_name : ∀ c ∈ chars, Clean cdName.toArray c := by
  intro c hc seen
  simp only [chars, List.mem_cons, List.not_mem_nil, or_false] at hc
  rcases hc with rfl | rfl | rfl | rfl | rfl | rfl | rfl | rfl | rfl | rfl | rfl | rfl | rfl | rfl | rfl | rfl | rfl | rfl | rfl | rfl <;> exact ⟨_, rfl⟩
theorem clean_val : ∀ c ∈ chars, Clean cdVal.toArray c := by
  intro c hc seen
  simp only [chars, List.mem_cons, List.not_mem_nil, or_false] at hc
  rcases hc with rfl | rfl | rfl | rfl | rfl | rfl | rfl | rfl | rfl | rfl | rfl | rfl | rfl | rfl | rfl | rfl | rfl | rfl | rfl | rfl <;> exact ⟨_, rfl⟩
section
variable {prog : Program} {w : World} {A : Around} {E : Value → Shared → Prop} {s : Shared} {K : Frag} {h₀ : Heap} {L : Addr} {m : Str → Option Value} {p c : Addr} {vs : Array Value} {f0 f1 f3 f4 : Value} {sl : Array (Option Value)}
theorem getm_search {pl : Sem Bool} {Q : Value × List Value → Shared → Prop} (F : Fr h₀ L s.heap m) (X : K.In h₀) (hl : K.lookup p = some ⟨.type "re.Pattern", none, .fields vs, sl⟩) (h : Q (.builtin "re.Pattern.search", [.ref p]) s) :
    wpAny (model prog w) A (getMethod (.ref p) "search" pl) Q E s :=
  getMethod_builtin ⟨_, X.keeps F.keep _ _ hl, rfl⟩ plain_rePattern slot_search type_search (fun a e => by cases e; exact ⟨_, X.keeps F.keep _ _ hl, rfl⟩) h
theorem search_name {x : Str} {t : Tok} {Q : Value → Shared → Prop} (F : Fr h₀ L s.heap m) (X : K.In h₀) (hl : K.lookup p = some ⟨.type "re.Pattern", none, .fields #[f0, f1, .int 0 0, f3, f4, .ref c, .int 0 0], #[]⟩)
    (hc : K.lookup c = some ⟨.type "tuple", none, .seq (cdName.map fun (n : Nat) => Value.int (n : Int) 0).toArray 0, #[]⟩) (hx : okS x = true) (hsz : x.length ≤ 1000) (h : Q .none s) : wpAny (model prog w) A (call (.builtin "re.Pattern.search") [.ref p, .str x t]) Q E s :=
  search_clean (X.keeps F.keep _ _ hl) (X.keeps F.keep _ _ hc) rfl rfl rfl (all_clean _ clean_name x hx) (Nat.lt_of_le_of_lt hsz (by decide)) h
theorem search_val {x : Str} {t : Tok} {Q : Value → Shared → Prop} (F : Fr h₀ L s.heap m) (X : K.In h₀) (hl : K.lookup p = some ⟨.type "re.Pattern", none, .fields #[f0, f1, .int 0 0, f3, f4, .ref c, .int 0 0], #[]⟩)
    (hc : K.lookup c = some ⟨.type "tuple", none, .seq (cdVal.map fun (n : Nat) => Value.int (n : Int) 0).toArray 0, #[]⟩) (hx : okS x = true) (hsz : x.length ≤ 1000) (h : Q .none s) : wpAny (model prog w) A (call (.builtin "re.Pattern.search") [.ref p, .str x t]) Q E s :=
  search_clean (X.keeps F.keep _ _ hl) (X.keeps F.keep _ _ hc) rfl rfl rfl (all_clean _ clean_val x hx) (Nat.lt_of_le_of_lt hsz (by decide)) h
end
example : True := by
  k_with "getMethod ref" => (((with_reducible show wpAny _ _ (getMethod (Value.ref _) (Str.ofString "search") _) _ _ _); k_here; k_dflt (refine' getm_search ?F ?X ?l ?_; (case F => k_asm); (case X => k_asm); (case l => k_is); k_whole)))
  trivial

example : True := by
  k_with "call builtin:re.Pattern.search" => ((k_here; k_dflt (first
  | (refine' search_name ?F ?X ?l ?c ?x ?z ?_; (case F => k_asm); (case X => k_asm); (case l => k_is); (case c => k_is); (case x => assumption); (case z => assumption); k_whole)
  | (refine' search_val ?F ?X ?l ?c ?x ?z ?_; (case F => k_asm); (case X => k_asm); (case l => k_is); (case c => k_is); (case x => assumption); (case z => assumption); k_whole))))
  trivial

set_option maxHeartbeats 4000000 in
theorem convN_c (w : World) (news : List (Addr × Obj)) (self : Value) (x : Str) (t : Tok) (hx : okS x = true) (hz : x.length ≤ 1000) : Con w 83 1 [self, .str x t] [("name", .bool true)] news (fun r n' => r = .str x t ∧ n' = news) := by
  (w_top off; unfold Con; intro dpZ unZ gdZ cnZ nmZ igZ icZ moZ aZ ccdZ clZ outerZ A₀Z baseZ h₀Z LZ mZ meanZ mgZ mbZ sZ QZ EZ BZ FZ XZ NZ TZ hdZ huZ hret; refine wpAny_call ?_; k_dflt k_enter)
  k_steps
  all_goals (refine hret _ _ _ _ (by k_asm) (led_drop (by k_asm) (by k_extra "c_sub")) ⟨rfl, rfl⟩)
set_option maxHeartbeats 4000000 in
theorem convV_c (w : World) (news : List (Addr × Obj)) (self : Value) (x : Str) (t : Tok) (hx : okS x = true) (hz : x.length ≤ 1000) : Con w 83 1 [self, .str x t] [("name", .bool false)] news (fun r n' => r = .str x t ∧ n' = news) := by
  (w_top off; unfold Con; intro dpZ unZ gdZ cnZ nmZ igZ icZ moZ aZ ccdZ clZ outerZ A₀Z baseZ h₀Z LZ mZ meanZ mgZ mbZ sZ QZ EZ BZ FZ XZ NZ TZ hdZ huZ hret; refine wpAny_call ?_; k_dflt k_enter)
  k_steps
  all_goals (refine hret _ _ _ _ (by k_asm) (led_drop (by k_asm) (by k_extra "c_sub")) ⟨rfl, rfl⟩)
example : True := by
  k_with "call ref" => (((with_reducible show wpAny _ _ (call (Value.ref 83) _ _) _ _ _); (k_here; k_dflt (refine' con_use0 (convN_c _ _ _ _ _ (by assumption) (by assumption)) ?k1 ?k2 ?k3 ?k4 ?k5 ?kd ?ku ?_; (case k1 => k_asm); (case k2 => k_asm); (case k3 => k_asm); (case k4 => k_asm); (case k5 => k_asm); (case kd => k_extra "c_room"); (case ku => k_extra "c_units"); k_whole); intro hh9Z tk9Z F9Z N9Z; (try dsimp only); (try k_fold))))
  trivial

example : True := by
  k_with "call ref" => (((with_reducible show wpAny _ _ (call (Value.ref 83) _ _) _ _ _); (k_here; k_dflt (refine' con_use0 (convV_c _ _ _ _ _ (by assumption) (by assumption)) ?k1 ?k2 ?k3 ?k4 ?k5 ?kd ?ku ?_; (case k1 => k_asm); (case k2 => k_asm); (case k3 => k_asm); (case k4 => k_asm); (case k5 => k_asm); (case kd => k_extra "c_room"); (case ku => k_extra "c_units"); k_whole); intro hh9Z tk9Z F9Z N9Z; (try dsimp only); (try k_fold))))
  trivial

noncomputable abbrev tabLed (x dx hl : Addr) (hsh : Int) (th nd k : Nat) (vs : List Value) (rest : List (Addr × Obj)) : List (Addr × Obj) :=
  (x, instObj 182 dx) :: (dx, dictOf [⟨hsh, .str "_headers" th, .ref hl⟩] nd) :: (hl, lstOf vs k) :: rest
example : True := by
  k_with "eval ListComp" => ((k_here; k_dflt (first | ((with_reducible show wpAny _ _ (eval (Expr.ListComp _ [⟨Expr.Name _ _, _, [_], _⟩] _ _) _) _ _ _); refine LCt.ListComp_T (F₀ := by k_asm) (by with_unfolding_all rfl) (by decide) (by rfl) (by decide) (by rfl) ?_) | refine LCg.ListComp_U (F₀ := by k_asm) (by with_unfolding_all rfl) (by decide) (by rfl) (by decide) (by rfl) ?_)))
  trivial

example : True := by
  k_with "exec Assign cons ListComp" => ((k_here; k_dflt (first | ((with_reducible show wpAny _ _ (exec (Stmt.Assign [Expr.Name _ _] (Expr.ListComp _ [⟨Expr.Name _ _, _, [_], _⟩] _ _) _) _) _ _ _); refine LCt.Assign_ListComp_T (F₀ := by k_asm) (by rfl) (by with_unfolding_all rfl) (by with_unfolding_all rfl) (by decide) (by rfl) (by decide) (by rfl) (by rfl) (by rfl) ?_) | refine LCg.Assign_ListComp_U (F₀ := by k_asm) (by rfl) (by with_unfolding_all rfl) (by with_unfolding_all rfl) (by decide) (by rfl) (by decide) (by rfl) (by rfl) (by rfl) ?_)))
  trivial

noncomputable def getAllR (rs : List (Str × Str)) (lnm : Str) : List Str := (rs.filter fun r => Txt.lower r.1 == lnm).map (·.2)
theorem getAllR_step {rs : List (Str × Str)} {i : Nat} {x y : Str} (h : rs[i]? = some (x, y)) (lnm : Str) : getAllR (rs.take (i + 1)) lnm = getAllR (rs.take i) lnm ++ (if Txt.lower x == lnm then [y] else []) := by
  unfold getAllR
  rw [List.take_add_one, h]
  simp only [Option.toList_some, List.filter_append, List.map_append, List.filter_cons, List.filter_nil]
  split <;> simp
theorem off1_ne {D : Addr} : ∀ {l : List (Addr × Obj)}, Off1 D l → ∀ p ∈ l, p.1 ≠ D
  | [], _, _, h => nomatch h
  | _ :: _, x, p, h => by
    rcases List.mem_cons.mp h with rfl | h
    · exact x.1
    · exact off1_ne x.2 p h
noncomputable def NamesOk (rs : List (Str × Str)) : Prop := ∀ r ∈ rs, r.1.length ≤ 1000
set_option maxHeartbeats 4000000 in
theorem get_all_c (w : World) (x dx hl : Addr) (hsh : Int) (th nd k : Nat) (vs : List Value) (rs : List (Str × Str)) (rest : List (Addr × Obj)) (nm : Str) (t : Tok) (hnm : okS (Txt.lower nm) = true) (hz0 : nm.length ≤ 1000) (hz : (Txt.lower nm).length ≤ 1000)
    (hrs : RowsAre rest vs rs) (hlen : vs.length ≤ 1000) (hno : NamesOk rs) :
    Con w 121 2 [.ref x, .str nm t] [] (tabLed x dx hl hsh th nd k vs rest) (fun r n' => ∃ l ws, r = .ref l ∧ n' = (l, lst ws) :: tabLed x dx hl hsh th nd k vs rest ∧ StrsL ws (getAllR rs (Txt.lower nm)) ∧ ∀ p ∈ tabLed x dx hl hsh th nd k vs rest, p.1 ≠ l) := by
  (w_top off; unfold Con; intro dpZ unZ gdZ cnZ nmZ igZ icZ moZ aZ ccdZ clZ outerZ A₀Z baseZ h₀Z LZ mZ meanZ mgZ mbZ sZ QZ EZ BZ FZ XZ NZ TZ hdZ huZ hret; refine wpAny_call ?_; k_dflt k_enter)
  k_steps
  rename News _ _ _ _ => N1
  refine LCt.CompSrcT.ledger (by rfl) (by k_asm) N1 (by k_mem) (by simp [sizeLine_eq]; k_extra "omx") ?_
  intro g
  refine compRestT_inv vs.length (fun i ys n => n = _ ∧ StrsL ys (getAllR (rs.take i) (Txt.lower nm))) ?_ ?_ _ 0 [] _ (by simp) ⟨rfl, .nil⟩
  · intro i ys n v I oI C oC D m2 h2 tk2 E2 hi hq14 hv hC hx F2 N2 off2 ne2
    refine opqC fun Q9 P9 hQ9 hP9 => ?_
    refine hide fun GZ kGZ => ?_
    obtain ⟨rfl, hJ⟩ := hq14
    refine kGZ ?_
    clear kGZ GZ
    refine hide fun GZ kGZ => ?_
    refine exE6 (hrs.get (by simpa using hv)) ?_
    intro a nx ny tx ty nn hzZ
    refine andE3 hzZ ?_
    clear hzZ
    rintro rfl hri hm
    refine kGZ ?_
    clear kGZ GZ
    have hnx : nx.length ≤ 1000 := hno _ (List.mem_of_getElem? hri)
    k_steps
    · (first | refine hQ9 _ _ ?_ | refine hP9 _ ?_); refine CompEnd.intro (by k_asm) (by k_asm) _ (by k_extra "c_sub") off2 (.inr ⟨_, by k_mem, rfl, _, rfl⟩) ⟨rfl, ?_⟩
      rw [getAllR_step hri, if_pos (by assumption)]
      exact hJ.snoc
    · (first | refine hQ9 _ _ ?_ | refine hP9 _ ?_); refine CompEnd.intro (by k_asm) (by k_asm) _ (by k_extra "c_sub") off2 (.inr ⟨_, by k_mem, rfl, _, rfl⟩) ⟨rfl, ?_⟩
      rw [getAllR_step hri, if_neg (Bool.eq_false_iff.mp (by assumption)), List.append_nil]
      exact hJ
  · intro ys n hq2
    refine hide fun GZ kGZ => ?_
    obtain ⟨rfl, hJ⟩ := hq2
    refine kGZ ?_
    clear kGZ GZ
    rw [hrs.length, List.take_length] at hJ
    refine fun D h tk F' N' o1 => ?_
    have hne := off1_ne o1
    k_steps
    refine hret _ _ _ _ (by k_asm) (led_drop (by k_asm) (by k_extra "c_sub")) ⟨_, _, rfl, rfl, hJ, fun p hp => hne p (List.mem_cons_of_mem _ hp)⟩
example : True := by
  k_with "c_names" => ((intro y9Z hy9Z; simp only [List.mem_cons, List.not_mem_nil, or_false, not_or] at hy9Z; simp only [hy9Z, if_false, if_true, ite_false]; done))
  trivial

set_option maxHeartbeats 4000000 in
theorem get_c (w : World) (x dx hl : Addr) (hsh : Int) (th nd k : Nat) (vs : List Value) (rs : List (Str × Str)) (rest : List (Addr × Obj)) (nm : Str) (t : Tok) (hnm : okS (Txt.lower nm) = true) (hz0 : nm.length ≤ 1000) (hz : (Txt.lower nm).length ≤ 1000)
    (hrs : RowsAre rest vs rs) (hlen : vs.length ≤ 1000) (hno : NamesOk rs) :
    Con w 129 2 [.ref x, .str nm t] [] (tabLed x dx hl hsh th nd k vs rest) (fun r n' => (match getAllR rs (Txt.lower nm) with | [] => r = .none | y :: _ => ∃ u, r = .str y u) ∧ n' = tabLed x dx hl hsh th nd k vs rest) := by
  (w_top off; unfold Con; intro dpZ unZ gdZ cnZ nmZ igZ icZ moZ aZ ccdZ clZ outerZ A₀Z baseZ h₀Z LZ mZ meanZ mgZ mbZ sZ QZ EZ BZ FZ XZ NZ TZ hdZ huZ hret; refine wpAny_call ?_; k_dflt k_enter)
  k_steps
  k_extra "c_forT"
  k_steps
  rename Fr _ _ _ _ => F1
  rename News _ _ _ _ => N1
  refine iter_listN [Str.ofString "k", Str.ofString "v"] (fun i _ n => n = tabLed x dx hl hsh th nd k vs rest ∧ getAllR (rs.take i) (Txt.lower nm) = []) (by rfl) (by rintro i m n ⟨rfl, _⟩; k_mem) F1 N1 ⟨rfl, rfl⟩ ?_ ?_
  · intro i v f n1 h2 tk2 I io hv hq9 hI off F2 N2
    refine opqT fun Q9 hQ9 => ?_
    refine hide fun GZ kGZ => ?_
    obtain ⟨rfl, hJ⟩ := hq9
    refine kGZ ?_
    clear kGZ GZ
    refine hide fun GZ kGZ => ?_
    refine exE6 (hrs.get hv) ?_
    intro a nx ny tx ty nn hzZ
    refine andE3 hzZ ?_
    clear hzZ
    rintro rfl hri hm
    refine kGZ ?_
    clear kGZ GZ
    have hnx : nx.length ≤ 1000 := hno _ (List.mem_of_getElem? hri)
    have hst := getAllR_step hri (Txt.lower nm)
    rw [hJ] at hst
    clear F1 N1
    simp only [offN] at F2
    k_steps
    · rw [if_pos (show (Txt.lower nx == Txt.lower nm) = true by assumption)] at hst
      refine hQ9 _ _ ?_; dsimp only [TurnP]
      k_steps

      refine hret _ _ _ _ (by k_asm) (led_drop (by k_asm) (by k_extra "c_sub")) ⟨?_, rfl⟩
      have e : getAllR rs (Txt.lower nm) = ny :: getAllR (rs.drop (i + 1)) (Txt.lower nm) := by
        conv => lhs; rw [← List.take_append_drop (i + 1) rs]
        unfold getAllR at hst ⊢
        rw [List.filter_append, List.map_append, hst]; rfl
      rw [e]
      exact ⟨_, rfl⟩
    · rw [if_neg (Bool.eq_false_iff.mp (show (Txt.lower nx == Txt.lower nm) = false by assumption))] at hst; simp only [List.append_nil] at hst
      refine hQ9 _ _ ?_; refine TurnX.intro (by k_asm) (by k_asm) off ⟨by k_extra "c_names", rfl, hst⟩
  · intro f n h2 tk2 hq4 F2 N2
    refine hide fun GZ kGZ => ?_
    obtain ⟨rfl, hJ⟩ := hq4
    refine kGZ ?_
    clear kGZ GZ
    rw [hrs.length, List.take_length] at hJ
    simp only [offN] at F2
    k_steps
    refine hret _ _ _ _ (by k_asm) (led_drop (by k_asm) (by k_extra "c_sub")) ⟨by rw [hJ], rfl⟩
noncomputable def hasKey (rs : List (Str × Str)) (x : Str) : Bool := rs.any fun r => Txt.lower r.1 == x
theorem hasKey_getAll (rs : List (Str × Str)) (x : Str) : hasKey rs x = match getAllR rs x with | [] => false | _ :: _ => true := by
  induction rs with
  | nil => rfl
  | cons r rs ih =>
    have e1 : hasKey (r :: rs) x = ((Txt.lower r.1 == x) || hasKey rs x) := rfl
    unfold getAllR at ih ⊢
    rw [e1, List.filter_cons]
    cases h : (Txt.lower r.1 == x)
    · simpa using ih
    · simp
example : True := by
  k_with "call ref" => (((with_reducible show wpAny _ _ (call (Value.ref 129) _ _) _ _ _); rename Con _ 129 _ _ _ _ _ => G9Z; first | (k_here; k_dflt (refine' con_use0 (G9Z) ?k1 ?k2 ?k3 ?k4 ?k5 ?kd ?ku ?_; (case k1 => k_asm); (case k2 => k_asm); (case k3 => k_asm); (case k4 => k_asm); (case k5 => k_asm); (case kd => k_extra "c_room"); (case ku => k_extra "c_units"); k_whole); intro hh9Z tk9Z F9Z N9Z; (try dsimp only); (try k_fold)) | (k_here; k_dflt ((first | (refine' con_use1s (G9Z) ?k1 ?k2 ?k3 ?k4 ?k5 ?kd ?ku ?_) | (refine' con_use1i (G9Z) ?k1 ?k2 ?k3 ?k4 ?k5 ?kd ?ku ?_)); (case k1 => k_asm); (case k2 => k_asm); (case k3 => k_asm); (case k4 => k_asm); (case k5 => k_asm); (case kd => k_extra "c_room"); (case ku => k_extra "c_units"); k_whole); intro u9Z hh9Z tk9Z F9Z N9Z; (try dsimp only); (try k_fold))))
  trivial

set_option maxHeartbeats 4000000 in
theorem contains_c (w : World) (x dx hl : Addr) (hsh : Int) (th nd k : Nat) (vs : List Value) (rs : List (Str × Str)) (rest : List (Addr × Obj)) (nm : Str) (t : Tok) (hnm : okS (Txt.lower nm) = true) (hz0 : nm.length ≤ 1000) (hz : (Txt.lower nm).length ≤ 1000)
    (hrs : RowsAre rest vs rs) (hlen : vs.length ≤ 1000) (hno : NamesOk rs) :
    Con w 116 3 [.ref x, .str nm t] [] (tabLed x dx hl hsh th nd k vs rest) (fun r n' => r = .bool (hasKey rs (Txt.lower nm)) ∧ n' = tabLed x dx hl hsh th nd k vs rest) := by
  have e := hasKey_getAll rs (Txt.lower nm)
  have G := get_c w x dx hl hsh th nd k vs rs rest nm t hnm hz0 hz hrs hlen hno
  cases hg : getAllR rs (Txt.lower nm) with
  | nil =>
    rw [hg] at G e
    dsimp only at G e
    rw [e]
    clear e hg
    (w_top off; unfold Con; intro dpZ unZ gdZ cnZ nmZ igZ icZ moZ aZ ccdZ clZ outerZ A₀Z baseZ h₀Z LZ mZ meanZ mgZ mbZ sZ QZ EZ BZ FZ XZ NZ TZ hdZ huZ hret; refine wpAny_call ?_; k_dflt k_enter)
    k_steps
    refine hret _ _ _ _ (by k_asm) (led_drop (by k_asm) (by k_extra "c_sub")) ⟨rfl, rfl⟩
  | cons y ys =>
    rw [hg] at G e
    dsimp only at G e
    rw [e]
    clear e hg
    (w_top off; unfold Con; intro dpZ unZ gdZ cnZ nmZ igZ icZ moZ aZ ccdZ clZ outerZ A₀Z baseZ h₀Z LZ mZ meanZ mgZ mbZ sZ QZ EZ BZ FZ XZ NZ TZ hdZ huZ hret; refine wpAny_call ?_; k_dflt k_enter)
    k_steps
    refine hret _ _ _ _ (by k_asm) (led_drop (by k_asm) (by k_extra "c_sub")) ⟨rfl, rfl⟩
noncomputable def delR (rs : List (Str × Str)) (lnm : Str) : List (Str × Str) := rs.filter fun r => Txt.lower r.1 != lnm
theorem delR_step {rs : List (Str × Str)} {i : Nat} {x y : Str} (h : rs[i]? = some (x, y)) (lnm : Str) : delR (rs.take (i + 1)) lnm = delR (rs.take i) lnm ++ (if Txt.lower x != lnm then [(x, y)] else []) := by
  unfold delR
  rw [List.take_add_one, h]
  simp only [Option.toList_some, List.filter_append, List.filter_cons, List.filter_nil]
set_option maxHeartbeats 4000000 in
theorem del_c (w : World) (x dx hl : Addr) (hsh : Int) (th nd k : Nat) (vs : List Value) (rs : List (Str × Str)) (tl rest : List (Addr × Obj)) (htl : ∀ p ∈ tl, p ∈ rest) (nm : Str) (t : Tok) (hnm : okS (Txt.lower nm) = true) (hz0 : nm.length ≤ 1000) (hz : (Txt.lower nm).length ≤ 1000)
    (hrs : RowsAre tl vs rs) (hlen : vs.length ≤ 1000) (hno : NamesOk rs) (hxl : (@Ne Nat x hl)) (hdl : (@Ne Nat dx hl)) (hoff : ∀ p ∈ rest, p.1 ≠ hl) :
    Con w 102 2 [.ref x, .str nm t] [] (tabLed x dx hl hsh th nd k vs rest) (fun r n' => r = .none ∧ ∃ k' vs', n' = tabLed x dx hl hsh th nd k' vs' rest ∧ RowsAre tl vs' (delR rs (Txt.lower nm))) := by
  (w_top off; unfold Con; intro dpZ unZ gdZ cnZ nmZ igZ icZ moZ aZ ccdZ clZ outerZ A₀Z baseZ h₀Z LZ mZ meanZ mgZ mbZ sZ QZ EZ BZ FZ XZ NZ TZ hdZ huZ hret; refine wpAny_call ?_; k_dflt k_enter)
  k_steps
  rename News _ _ _ _ => N1
  refine LCt.CompSrcT.ledger (by rfl) (by k_asm) N1 (by k_mem) (by simp [sizeLine_eq]; k_extra "omx") ?_
  intro g
  refine compRestT_inv vs.length (fun i ys n => n = _ ∧ RowsAre tl ys (delR (rs.take i) (Txt.lower nm))) ?_ ?_ _ 0 [] _ (by simp) ⟨rfl, .nil⟩
  · intro i ys n v I oI C oC D m2 h2 tk2 E2 hi hq14 hv hC hx F2 N2 off2 ne2
    refine opqC fun Q9 P9 hQ9 hP9 => ?_
    refine hide fun GZ kGZ => ?_
    obtain ⟨rfl, hJ⟩ := hq14
    refine kGZ ?_
    clear kGZ GZ
    refine hide fun GZ kGZ => ?_
    refine exE6 (hrs.get (by simpa using hv)) ?_
    intro a nx ny tx ty nn hzZ
    refine andE3 hzZ ?_
    clear hzZ
    rintro rfl hri hm
    refine kGZ ?_
    clear kGZ GZ
    have hmr := htl _ hm
    have hnx : nx.length ≤ 1000 := hno _ (List.mem_of_getElem? hri)
    have hst := delR_step hri (Txt.lower nm)
    k_steps
    · (first | refine hQ9 _ _ ?_ | refine hP9 _ ?_); refine CompEnd.intro (by k_asm) (by k_asm) _ (by k_extra "c_sub") off2 (.inr ⟨_, by k_mem, rfl, _, rfl⟩) ⟨rfl, ?_⟩
      rw [hst, if_pos (by simpa using (show (Txt.lower nx != Txt.lower nm) = true by assumption))]
      exact hJ.snoc hm
    · (first | refine hQ9 _ _ ?_ | refine hP9 _ ?_); refine CompEnd.intro (by k_asm) (by k_asm) _ (by k_extra "c_sub") off2 (.inr ⟨_, by k_mem, rfl, _, rfl⟩) ⟨rfl, ?_⟩
      rw [hst, if_neg (by simpa using (show (Txt.lower nx != Txt.lower nm) = false by assumption)), List.append_nil]
      exact hJ
  · intro ys n hq2
    refine hide fun GZ kGZ => ?_
    obtain ⟨rfl, hJ⟩ := hq2
    refine kGZ ?_
    clear kGZ GZ
    rw [hrs.length, List.take_length] at hJ
    have hys : ys.length ≤ 1000 := by
      rw [hJ.length]
      refine Nat.le_trans (List.length_filter_le _ _) ?_
      rw [← hrs.length]; exact hlen
    refine fun D h tk F' N' o1 => ?_
    have hne := off1_ne o1
    k_steps
    have hD : (@Ne Nat hl D) := hne (hl, lstOf vs k) (by simp)
    rename KLt _ _ => k9
    have hL1 := k9.lt (hl, lstOf vs k) (by simp)
    refine setItem_all_K rfl rfl rfl rfl (by k_asm) (by k_asm) (.head _) hlen hys hD (.tail (Ne.symm hD) (.tail (Nat.ne_of_gt (Nat.lt_succ_of_lt hL1)) (.tail hxl (.tail hdl (.head hoff))))) fun h9 F9 N9 => ?_
    k_steps

    refine hret _ _ _ _ (by k_asm) (led_drop (by k_asm) (by k_extra "c_sub")) ⟨rfl, _, _, rfl, hJ⟩
theorem led_drop1 {h₀ h : Heap} {L : Addr} {p a b c : Addr × Obj} {r : List (Addr × Obj)} (N : News h₀ L h (p :: a :: b :: c :: r)) : News h₀ L h (p :: r) := led_drop N (by k_extra "c_sub")
theorem newer1 {h₀ h : Heap} {L : Addr} {l : List (Addr × Obj)} (N : News h₀ L h l) {r : List (Addr × Obj)} (hs : ∀ p ∈ r, p ∈ l) : ∀ p ∈ r, p.1 ≠ h.objs.size + 1 := fun p hp => Nat.ne_of_lt (Nat.lt_succ_of_lt (Heap.lt_size (N p (hs p hp)).1))
theorem newer0 {h₀ h : Heap} {L : Addr} {l : List (Addr × Obj)} (N : News h₀ L h l) {r : List (Addr × Obj)} (hs : ∀ p ∈ r, p ∈ l) : ∀ p ∈ r, p.1 ≠ h.objs.size := fun p hp => Nat.ne_of_lt (Heap.lt_size (N p (hs p hp)).1)
example : True := by
  k_with "c_newer" => ((rename News _ _ _ _ => n9Z; first | exact newer1 n9Z (by k_extra "c_sub") | exact newer0 n9Z (by k_extra "c_sub") | (clear n9Z; k_extra "c_newer")))
  trivial

set_option maxHeartbeats 4000000 in
theorem items_c (w : World) (x dx hl : Addr) (hsh : Int) (th nd k : Nat) (vs : List Value) (rest : List (Addr × Obj)) (hlen : vs.length ≤ 1000) :
    Con w 146 1 [.ref x] [] (tabLed x dx hl hsh th nd k vs rest) (fun r n' => ∃ l, r = .ref l ∧ n' = (l, lstOf vs) :: tabLed x dx hl hsh th nd k vs rest ∧ ∀ p ∈ tabLed x dx hl hsh th nd k vs rest, p.1 ≠ l) := by
  (w_top off; unfold Con; intro dpZ unZ gdZ cnZ nmZ igZ icZ moZ aZ ccdZ clZ outerZ A₀Z baseZ h₀Z LZ mZ meanZ mgZ mbZ sZ QZ EZ BZ FZ XZ NZ TZ hdZ huZ hret; refine wpAny_call ?_; k_dflt k_enter)
  k_steps
  rename News _ _ _ _ => N9
  dsimp only at N9
  rw [slicePick_all] at N9
  refine hret _ _ _ _ (by k_asm) N9 ⟨_, rfl, rfl, ?_⟩
  k_extra "c_newer"
theorem join_one (x : Str) : Txt.join (Str.ofString "; ") [x] = x := by rfl
set_option maxHeartbeats 4000000 in
theorem add_c (w : World) (x dx hl : Addr) (hsh : Int) (th nd k : Nat) (vs : List Value) (rest : List (Addr × Obj)) (nm va : Str) (t u : Tok) (hnm : okS nm = true) (hva : okS va = true) (hz0 : nm.length ≤ 1000) (hz : va.length ≤ 1000)
    (hlen : vs.length ≤ 1000) (hxl : (@Ne Nat x hl)) (hdl : (@Ne Nat dx hl)) (hoff : ∀ p ∈ rest, p.1 ≠ hl) :
    Con w 179 2 [.ref x, .str nm t, .str va u] [] (tabLed x dx hl hsh th nd k vs rest) (fun r n' => r = .none ∧ ∃ k' a n t' u', n' = (a, tupOf [.str nm t', .str va u'] n) :: tabLed x dx hl hsh th nd k' (vs ++ [.ref a]) rest ∧ ∀ p ∈ tabLed x dx hl hsh th nd k vs rest, p.1 ≠ a) := by
  (w_top off; unfold Con; intro dpZ unZ gdZ cnZ nmZ igZ icZ moZ aZ ccdZ clZ outerZ A₀Z baseZ h₀Z LZ mZ meanZ mgZ mbZ sZ QZ EZ BZ FZ XZ NZ TZ hdZ huZ hret; refine wpAny_call ?_; k_dflt k_enter)
  k_steps
  rename News _ _ _ _ => N9
  rename KLt _ _ => k9
  have N8 := led_drop1 N9
  refine append_L (by k_asm) N8 (.tail (Nat.ne_of_gt (k9.lt (hl, lstOf vs k) (by simp))) (.tail hxl (.tail hdl (.head hoff)))) (by k_extra "omx") (fun h9 F9 N7 => ?_)
  k_steps
  rename News _ _ _ _ => N6
  rw [join_one] at N6
  refine hret _ _ _ _ (by k_asm) N6 ⟨rfl, _, _, _, _, _, rfl, by k_all⟩
noncomputable def rootOk (x : Str) : Bool := !(Txt.slice x none (some 1) != Str.ofString "/") && (Txt.slice x (some 1) (some 2) != Str.ofString "/")
set_option maxHeartbeats 4000000 in
theorem splitroot_c (w : World) (news : List (Addr × Obj)) (x : Str) (t : Tok) (hx2 : x.length ≤ 1000) (h1 : (Txt.slice x none (some 1) != Str.ofString "/") = false) (h2 : (Txt.slice x (some 1) (some 2) != Str.ofString "/") = true) :
    Con w 315 2 [.str x t] [] news (fun r n' => ∃ a t1 t2 t3, r = .ref a ∧ n' = (a, tupOf [.str (Str.ofString "") t1, .str (Str.ofString "/") t2, .str (Txt.slice x (some 1) none) t3]) :: news ∧ KLt a news) := by
  (w_top off; unfold Con; intro dpZ unZ gdZ cnZ nmZ igZ icZ moZ aZ ccdZ clZ outerZ A₀Z baseZ h₀Z LZ mZ meanZ mgZ mbZ sZ QZ EZ BZ FZ XZ NZ TZ hdZ huZ hret; refine wpAny_call ?_; k_dflt k_enter)
  k_steps
  refine hret _ _ _ _ (by k_asm) (led_drop (by k_asm) (by k_extra "c_sub")) ⟨_, _, _, _, rfl, rfl, ⟨by assumption⟩⟩
example : True := by
  k_with "call ref" => (((with_reducible show wpAny _ _ (call (Value.ref 315) _ _) _ _ _); (k_here; k_dflt (refine' con_use (splitroot_c _ _ _ _ (by first | with_reducible assumption | assumption) (by first | with_reducible assumption | assumption) (by first | with_reducible assumption | assumption)) ?k1 ?k2 ?k3 ?k4 ?k5 ?kd ?ku ?_; (case k1 => k_asm); (case k2 => k_asm); (case k3 => k_asm); (case k4 => k_asm); (case k5 => k_asm); (case kd => k_extra "c_room"); (case ku => k_extra "c_units"); k_whole); intro rr9Z hh9Z tk9Z nn9Z F9Z N9Z oo9Z; obtain ⟨a9Z, t19Z, t29Z, t39Z, ea9Z, eb9Z, ec9Z⟩ := oo9Z; subst ea9Z; subst eb9Z; (try dsimp only); (try k_fold))))
  trivial

theorem ofs_ne1 : (Str.ofString ".." = Str.ofString "") = False := by simp; decide
theorem ofs_ne2 : (Str.ofString ".." = Str.ofString ".") = False := by simp; decide
noncomputable def normStep (ys : List Str) (c : Str) : List Str := if c = Str.ofString "" then ys else if c = Str.ofString "." then ys else if c = Str.ofString ".." then ys.dropLast else ys ++ [c]
noncomputable def normL (cs : List Str) : List Str := cs.foldl normStep []
noncomputable def normF (x : Str) : Str := Str.ofString "/" ++ Txt.join (Str.ofString "/") (normL (Txt.split (Txt.slice x (some 1) none) (Str.ofString "/")))
theorem normL_take {cs : List Str} {i : Nat} {c : Str} (h : cs[i]? = some c) : normL (cs.take (i + 1)) = normStep (normL (cs.take i)) c := by
  unfold normL
  rw [List.take_add_one, h, List.foldl_append]
  rfl
theorem normStep_sub {ys : List Str} {c : Str} : ∀ y ∈ normStep ys c, (y ∈ ys ∨ (y = c ∧ c ≠ Str.ofString "..")) := by
  intro y hy
  unfold normStep at hy
  split at hy
  · exact .inl hy
  split at hy
  · exact .inl hy
  split at hy
  · exact .inl (List.dropLast_subset _ hy)
  · rename_i h
    rcases List.mem_append.mp hy with hy | hy
    · exact .inl hy
    · exact .inr ⟨List.mem_singleton.mp hy, h⟩
theorem normFold_sub : ∀ (cs ys : List Str), (∀ y ∈ ys, y ≠ Str.ofString "..") → ∀ y ∈ cs.foldl normStep ys, (y ∈ ys ∨ y ∈ cs) ∧ y ≠ Str.ofString ".."
  | [], ys, h, y, hy => ⟨.inl hy, h y hy⟩
  | c :: cs, ys, h, y, hy => by
    have h1 := normFold_sub cs (normStep ys c) (fun y hy => by
      rcases normStep_sub y hy with h1 | ⟨rfl, h1⟩
      · exact h y h1
      · exact h1) y hy
    refine ⟨?_, h1.2⟩
    rcases h1.1 with h1 | h1
    · rcases normStep_sub y h1 with h1 | ⟨rfl, _⟩
      · exact .inl h1
      · exact .inr (.head _)
    · exact .inr (.tail _ h1)
theorem normL_sub (cs : List Str) : ∀ y ∈ normL cs, y ∈ cs ∧ y ≠ Str.ofString ".." := fun y hy => by
  have h := normFold_sub cs [] (by intro y hy; cases hy) y hy
  exact ⟨h.1.resolve_left (by intro h; cases h), h.2⟩
theorem normStep_len (ys : List Str) (c : Str) : (normStep ys c).length ≤ ys.length + 1 := by
  unfold normStep
  split; · k_extra "omx"
  split; · k_extra "omx"
  split
  · rw [List.length_dropLast]; k_extra "omx"
  · rw [List.length_append, List.length_singleton]; k_extra "omx"
theorem normFold_len : ∀ (cs ys : List Str), (cs.foldl normStep ys).length ≤ ys.length + cs.length
  | [], ys => by simp
  | c :: cs, ys => by
    have h1 := normFold_len cs (normStep ys c)
    have h2 := normStep_len ys c
    simp only [List.foldl_cons, List.length_cons]
    k_extra "omx"
theorem normL_len (cs : List Str) : (normL cs).length ≤ cs.length := by simpa [normL] using normFold_len cs []
theorem StrsL.last {vs : List Value} {xs : List Str} (h : StrsL vs xs) : (vs = [] ∧ xs = []) ∨ ∃ vs' xs' x t, vs = vs' ++ [.str x t] ∧ xs = xs' ++ [x] ∧ StrsL vs' xs' := by
  induction h with
  | nil => exact .inl ⟨rfl, rfl⟩
  | @cons x t vs xs h ih =>
    rcases ih with ⟨rfl, rfl⟩ | ⟨vs', xs', y, u, rfl, rfl, h'⟩
    · exact .inr ⟨[], [], x, t, rfl, rfl, .nil⟩
    · exact .inr ⟨.str x t :: vs', x :: xs', y, u, rfl, rfl, .cons h'⟩
theorem strValues_get {l : List (Str × Tok)} {i : Nat} {v : Value} (h : (strValues l)[i]? = some v) : ∃ x t, v = .str x t ∧ (l.map (·.1))[i]? = some x := by
  unfold strValues at h
  rw [List.getElem?_map] at h
  refine hide fun GZ kGZ => ?_
  obtain ⟨p, hp, rfl⟩ := Option.map_eq_some_iff.mp h
  refine kGZ ?_
  clear kGZ GZ
  exact ⟨_, _, rfl, by rw [List.getElem?_map, hp]; rfl⟩
example : True := by
  k_with "truthy ref" => ((refine' truthy_snoc ?N ?m ?z ?_; (case N => k_asm); (case m => k_mem); (case z => first | assumption | omega); k_whole))
  trivial

example : True := by
  k_with "subscriptTail" => ((k_here; (with_reducible show wpAny _ _ (subscriptTail _ _ (Value.ref _) (Value.int (-1) _)) _ _ _); (with_unfolding_all refine' subneg_snoc ?N ?m ?_ ?r; (case N => k_asm); (case m => k_mem); (case r => with_unfolding_all rfl); k_whole)))
  trivial

set_option maxHeartbeats 4000000 in
theorem normpath_c (w : World) (news : List (Addr × Obj)) (x : Str) (t : Tok) (hx : 1 ≤ x.length) (hx2 : x.length ≤ 1000) (h1 : (Txt.slice x none (some 1) != Str.ofString "/") = false) (h2 : (Txt.slice x (some 1) (some 2) != Str.ofString "/") = true)
    (hjl : (Txt.join (Str.ofString "/") (normL (Txt.split (Txt.slice x (some 1) none) (Str.ofString "/")))).length ≤ 900) :
    Con w 322 3 [.str x t] [] news (fun r n' => (∃ u, r = .str (normF x) u) ∧ n' = news) := by
  replace hjl := Hid.mk hjl
  (w_top off; unfold Con; intro dpZ unZ gdZ cnZ nmZ igZ icZ moZ aZ ccdZ clZ outerZ A₀Z baseZ h₀Z LZ mZ meanZ mgZ mbZ sZ QZ EZ BZ FZ XZ NZ TZ hdZ huZ hret; refine wpAny_call ?_; k_dflt k_enter)
  k_steps
  k_extra "c_forT"
  k_steps
  rename News _ _ _ _ => N1
  rename Fr _ _ _ _ => F1
  rename _ = Txt.split _ _ => hsp
  rename StrsAre _ _ => hsa
  rename ∀ a ∈ List.map _ _, _ => hle
  have hslen : (Txt.slice x (some 1) none).length ≤ x.length := Txt.slice_le x _ _
  have hspl := split_le (Txt.slice x (some 1) none) (Str.ofString "/")
  refine iter_accN [Str.ofString "comp"] (fun i ys _ => StrsL ys (normL ((Txt.split (Txt.slice x (some 1) none) (Str.ofString "/")).take i))) (by rfl) F1 N1 (.head _) .nil ?_ ?_
  · rintro i v f ys k1 h2 tk2 I io hv hJ hI off F2 N2
    refine opqT fun Q9 hQ9 => ?_
    clear F1 N1
    simp only [offN] at F2
    refine hide fun GZ kGZ => ?_
    obtain ⟨c, tc, rfl, hci⟩ := strValues_get hv
    refine kGZ ?_
    clear kGZ GZ
    have hcl : c.length ≤ 1000 := Nat.le_trans (hle c (List.mem_of_getElem? hci)) (by k_extra "omx")
    rw [hsp] at hci
    have hst := normL_take hci
    have hyl : ys.length ≤ 1002 := by
      rw [hJ.length]
      refine Nat.le_trans (normL_len _) ?_
      rw [List.length_take]
      k_extra "omx"
    by_cases e1 : c = Str.ofString ""
    · subst e1
      k_steps
      refine hQ9 _ _ ?_; refine TurnX.intro (by k_asm) (by k_asm) off ⟨by k_extra "c_names", _, _, rfl, ?_⟩
      rw [hst]
      exact hJ
    have hc1 : 1 ≤ c.length := by
      rcases c with ⟨c⟩
      rcases Nat.eq_zero_or_pos c.size with h | h
      · exact absurd (by rw [Array.eq_empty_of_size_eq_zero h]; rfl) e1
      · exact h
    by_cases e2 : c = Str.ofString "."
    · subst e2
      k_steps
      refine hQ9 _ _ ?_; refine TurnX.intro (by k_asm) (by k_asm) off ⟨by k_extra "c_names", _, _, rfl, ?_⟩
      rw [hst]
      exact hJ
    by_cases e3 : c = Str.ofString ".."
    · subst e3
      have hdd := normL_sub (List.take i (Txt.split (Txt.slice x (some 1) none) (Str.ofString "/")))
      generalize normL (List.take i (Txt.split (Txt.slice x (some 1) none) (Str.ofString "/"))) = zs at hJ hst hdd
      rcases hJ.last with ⟨rfl, rfl⟩ | ⟨ys', zs', z, tz, rfl, rfl, hJ'⟩
      · k_steps
        refine hQ9 _ _ ?_; refine TurnX.intro (by k_asm) (by k_asm) off ⟨by k_extra "c_names", _, _, rfl, ?_⟩
        rw [hst]
        exact .nil
      · have hz : (z == Str.ofString "..") = false := by simpa using (hdd z (by simp)).2
        have hz2 : z.length ≤ 1000 := Nat.le_trans (hle z (by rw [hsp]; exact List.mem_of_mem_take (hdd z (by simp)).1)) (by k_extra "omx")
        have hys : ys'.length ≤ 5000 := by rw [List.length_append] at hyl; k_extra "omx"
        k_steps
        rename News _ _ _ _ => N3
        refine pop_snoc (by k_asm) N3 (.tail (Ne.symm (off (_, _) (.head _) _ (.head _))) (.head (by k_all))) hys (fun h9 F9 N9 => ?_)
        k_steps
        refine hQ9 _ _ ?_; refine TurnX.intro (by k_asm) N9 (off_acc off) ⟨by k_extra "c_names", _, _, rfl, ?_⟩
        rw [hst]
        simpa [normStep, ofs_ne1, ofs_ne2] using hJ'
    · have e2' : (c == Str.ofString ".") = false := by simpa using e2
      have e3' : (c != Str.ofString "..") = true := by simpa using e3
      k_steps
      rename News _ _ _ _ => N3
      have hys : ys.length ≤ 2000 := by k_extra "omx"
      refine append_L (by k_asm) N3 (.tail (Ne.symm (off (_, _) (.head _) _ (.head _))) (.head (by k_all))) hys (fun h9 F9 N9 => ?_)
      k_steps
      refine hQ9 _ _ ?_; refine TurnX.intro (by k_asm) N9 (off_acc off) ⟨by k_extra "c_names", _, _, rfl, ?_⟩
      rw [hst]
      simpa [normStep, e1, e2, e3] using hJ.snoc
  · rintro f ys k1 h2 tk2 hJ F2 N2
    simp only [offN] at F2
    clear F1 N1
    rename List (Str × Tok) => ll
    have hlv : (strValues ll).length = (Txt.split (Txt.slice x (some 1) none) (Str.ofString "/")).length := by rw [← hsp]; simp [strValues]
    rw [hlv, List.take_length] at hJ
    have hyl : ys.length ≤ 1002 := by
      rw [hJ.length]
      exact Nat.le_trans (normL_len _) (by k_extra "omx")
    k_steps
    rename News _ _ _ _ => N3
    refine join_L N3 (.head _) hJ (by decide) (fun y hy => ?_) (by rw [← hJ.length]; k_extra "omx") fun t9 k9 => ?_
    · exact Nat.le_trans (hle y (by rw [hsp]; exact (normL_sub _ y hy).1)) (by k_extra "omx")
    have hnf : normF x = Str.ofString "/" ++ Txt.join (Str.ofString "/") (normL (Txt.split (Txt.slice x (some 1) none) (Str.ofString "/"))) := rfl
    rw [hnf] at hret
    clear hnf hJ hlv
    replace hjl := hjl.out
    generalize Txt.join (Str.ofString "/") (normL (Txt.split (Txt.slice x (some 1) none) (Str.ofString "/"))) = jj at hjl hret ⊢
    have hj1 : 1 ≤ (Str.ofString "/" ++ jj).length := by rw [Str.length_append]; have : (Str.ofString "/").length = 1 := rfl; k_extra "omx"
    have hj2 : (Str.ofString "/" ++ jj).length ≤ 1000 := by rw [Str.length_append]; have : (Str.ofString "/").length = 1 := rfl; k_extra "omx"
    k_steps
    refine hret _ _ _ _ (by k_asm) (led_drop (by k_asm) (by k_extra "c_sub")) ⟨⟨_, rfl⟩, rfl⟩
structure TabIn (x dx hl : Addr) (hsh : Int) (th nd k : Nat) (vs : List Value) (rs : List (Str × Str)) (news : List (Addr × Obj)) : Prop where
  sub : ∀ p ∈ tabLed x dx hl hsh th nd k vs [], p ∈ news
  rows : RowsAre news vs rs
  len : vs.length ≤ 1000
  names : NamesOk rs
theorem TabIn.mono {x dx hl : Addr} {hsh : Int} {th nd k : Nat} {vs : List Value} {rs : List (Str × Str)} {news news' : List (Addr × Obj)} (h : TabIn x dx hl hsh th nd k vs rs news) (hs : ∀ p ∈ news, p ∈ news') : TabIn x dx hl hsh th nd k vs rs news' :=
  ⟨fun p hp => hs p (h.sub p hp), h.rows.mono hs, h.len, h.names⟩
theorem tab_eq {x dx hl : Addr} {hsh : Int} {th nd k : Nat} {vs : List Value} {rest : List (Addr × Obj)} : tabLed x dx hl hsh th nd k vs rest = tabLed x dx hl hsh th nd k vs [] ++ rest := rfl
theorem TabIn.all {x dx hl : Addr} {hsh : Int} {th nd k : Nat} {vs : List Value} {rs : List (Str × Str)} {news : List (Addr × Obj)} (h : TabIn x dx hl hsh th nd k vs rs news) : ∀ p ∈ tabLed x dx hl hsh th nd k vs news, p ∈ news := by
  rw [tab_eq]
  intro p hp
  rcases List.mem_append.mp hp with hp | hp
  · exact h.sub p hp
  · exact hp
theorem TabIn.some {x dx hl : Addr} {hsh : Int} {th nd k : Nat} {vs : List Value} {news : List (Addr × Obj)} : ∀ p ∈ news, p ∈ tabLed x dx hl hsh th nd k vs news := fun p hp => by
  rw [tab_eq]; exact List.mem_append_right _ hp
theorem Con.led {w : World} {f : Addr} {d : Nat} {vs : List Value} {kw : List (Str × Value)} {news news' : List (Addr × Obj)} {Out Out' : Value → List (Addr × Obj) → Prop} (C : Con w f d vs kw news' Out) (hs : ∀ p ∈ news', p ∈ news)
    (ho : ∀ r n, Out r n → ∃ n', Out' r n' ∧ ∀ p ∈ n', p ∈ n) : Con w f d vs kw news Out' := by
  intro dp un gd cn nm ig ic mo a ccd cl outer A₀ base h₀ L m mean mg mb s Q E B F X N T hd hu hret
  refine C dp un gd cn nm ig ic mo a ccd cl outer A₀ base h₀ L m mean mg mb s Q E B F X (led_drop N hs) T hd hu fun r h' tk' n F' N' o => ?_
  obtain ⟨n', o', hs'⟩ := ho r n o
  exact hret r h' tk' n' F' (led_drop N' hs') o'
section
variable {w : World} {x dx hl : Addr} {hsh : Int} {th nd k : Nat} {vs : List Value} {rs : List (Str × Str)} {news : List (Addr × Obj)} {nm : Str} {t : Tok}
    {dp un : Nat} {gd : Option (List Code)} {cn : Str} {nms : List (Str × NameKind)} {ig ic : Bool} {mo : List (Str × Const)} {a : Addr} {ccd : Value} {cl : List (Str × Addr)} {outer : List Env} {A₀ : Around} {base h₀ : Heap} {L : Addr} {m : Str → Option Value}
    {mean : ExcName → Option Value} {mg mb : Str → Option Value} {s : Shared} {Q E : Value → Shared → Prop}
theorem contains_use (B : Below A₀ base outer h₀) (F : Fr h₀ L s.heap m) (X : (K w.params).In h₀) (N : News h₀ L s.heap news) (T : Top qv (looseW qv loose) mean mg mb h₀) (hd : dp + 3 < recursionLimit) (hu : un + 8 * 3 < cLine)
    (hT : TabIn x dx hl hsh th nd k vs rs news) (hnm : okS (Txt.lower nm) = true) (hz0 : nm.length ≤ 1000) (hz : (Txt.lower nm).length ≤ 1000)
    (hret : ∀ h' tk', Fr h₀ L h' m → News h₀ L h' news → Q (.bool (hasKey rs (Txt.lower nm))) { s with heap := h', toks := tk' }) :
    wpAny (model pr w) (ktrTop dp un gd cn ⟨.function, nms, ig, ic, mo⟩ L a ccd cl outer) (call (.ref 116) [.ref x, .str nm t] []) Q E s := by
  have C := contains_c w x dx hl hsh th nd k vs rs news nm t hnm hz0 hz hT.rows hT.len hT.names
  refine con_use (Con.led (news := news) (Out' := fun r n' => r = .bool (hasKey rs (Txt.lower nm)) ∧ n' = news) C hT.all ?_) B F X N T hd hu ?_
  · rintro r n ⟨rfl, rfl⟩
    exact ⟨news, ⟨rfl, rfl⟩, TabIn.some⟩
  · rintro r h' tk' n F' N' ⟨rfl, rfl⟩
    exact hret h' tk' F' N'
theorem getall_use (B : Below A₀ base outer h₀) (F : Fr h₀ L s.heap m) (X : (K w.params).In h₀) (N : News h₀ L s.heap news) (T : Top qv (looseW qv loose) mean mg mb h₀) (hd : dp + 2 < recursionLimit) (hu : un + 8 * 2 < cLine)
    (hT : TabIn x dx hl hsh th nd k vs rs news) (hnm : okS (Txt.lower nm) = true) (hz0 : nm.length ≤ 1000) (hz : (Txt.lower nm).length ≤ 1000)
    (hret : ∀ l ws h' tk', StrsL ws (getAllR rs (Txt.lower nm)) → (∀ p ∈ news, p.1 ≠ l) → Fr h₀ L h' m → News h₀ L h' ((l, lst ws) :: news) → Q (.ref l) { s with heap := h', toks := tk' }) :
    wpAny (model pr w) (ktrTop dp un gd cn ⟨.function, nms, ig, ic, mo⟩ L a ccd cl outer) (call (.ref 121) [.ref x, .str nm t] []) Q E s := by
  have C := get_all_c w x dx hl hsh th nd k vs rs news nm t hnm hz0 hz hT.rows hT.len hT.names
  refine con_use (Con.led (news := news) (Out' := fun r n' => ∃ l ws, r = .ref l ∧ n' = (l, lst ws) :: news ∧ StrsL ws (getAllR rs (Txt.lower nm)) ∧ ∀ p ∈ news, p.1 ≠ l) C hT.all ?_) B F X N T hd hu ?_
  · rintro r n ⟨l, ws, rfl, rfl, h1, h2⟩
    refine ⟨_, ⟨l, ws, rfl, rfl, h1, fun p hp => h2 p (TabIn.some p hp)⟩, fun p hp => ?_⟩
    rcases List.mem_cons.mp hp with rfl | hp
    · exact .head _
    · exact .tail _ (TabIn.some p hp)
  · rintro r h' tk' n F' N' ⟨l, ws, rfl, rfl, h1, h2⟩
    exact hret l ws h' tk' h1 h2 F' N'
end
example : True := by
  k_with "call ref" => (((with_reducible show wpAny _ _ (call (Value.ref 116) _ _) _ _ _); k_here; k_dflt (refine' contains_use ?k1 ?k2 ?k3 ?k4 ?k5 ?kd ?ku ?kt ?e1 ?e2 ?e3 ?_; (case k1 => k_asm); (case k2 => k_asm); (case k3 => k_asm); (case k4 => k_asm); (case k5 => k_asm); (case kd => k_extra "c_room"); (case ku => k_extra "c_units"); (case kt => exact TabIn.mono (by assumption) (by k_extra "c_sub")); (case e1 => assumption); (case e2 => assumption); (case e3 => assumption); k_whole); intro hh9Z tk9Z F9Z N9Z; (try dsimp only); (try k_fold)))
  trivial

example : True := by
  k_with "call ref" => (((with_reducible show wpAny _ _ (call (Value.ref 121) _ _) _ _ _); k_here; k_dflt (refine' getall_use ?k1 ?k2 ?k3 ?k4 ?k5 ?kd ?ku ?kt ?e1 ?e2 ?e3 ?_; (case k1 => k_asm); (case k2 => k_asm); (case k3 => k_asm); (case k4 => k_asm); (case k5 => k_asm); (case kd => k_extra "c_room"); (case ku => k_extra "c_units"); (case kt => exact TabIn.mono (by assumption) (by k_extra "c_sub")); (case e1 => assumption); (case e2 => assumption); (case e3 => assumption); k_whole); intro l9Z ws9Z hh9Z tk9Z hS9Z hO9Z F9Z N9Z; (try dsimp only); (try k_fold)))
  trivial

example : True := by
  k_with "eval Name" => ((k_here; (with_reducible show wpAny _ _ (eval (Expr.Name (Str.ofString "normpath") _) (compEnvC _ _ _ _)) _ _ _); k_dflt (refine' LCgL.ld_global ?F ?X ?T ?e ?_ ?g ?k ?x ?d; (case x => rfl); (case k => rfl); (case g => rfl); (case d => decide); (case F => k_asm); (case X => k_asm); (case T => k_asm); (case e => k_is); k_whole)))
  trivial

example : True := by
  k_with "eval Name" => ((k_here; (with_reducible show wpAny _ _ (eval (Expr.Name (Str.ofString "join") _) (compEnvC _ _ _ _)) _ _ _); k_dflt (refine' LCgL.ld_global ?F ?X ?T ?e ?_ ?g ?k ?x ?d; (case x => rfl); (case k => rfl); (case g => rfl); (case d => decide); (case F => k_asm); (case X => k_asm); (case T => k_asm); (case e => k_is); k_whole)))
  trivial

example : True := by
  k_with "eval Name" => ((k_here; (with_reducible show wpAny _ _ (eval (Expr.Name (Str.ofString "place") _) (compEnvC _ _ _ _)) _ _ _); k_dflt (refine' lcf_cell ?N ?c ?m ?d ?_ ?a ?b; (case b => rfl); (case a => rfl); (case N => k_asm); (case c => rfl); (case m => k_mem); (case d => with_reducible assumption); k_whole)))
  trivial

example : True := by
  k_with "eval Name" => ((k_here; (with_reducible show wpAny _ _ (eval (Expr.Name (Str.ofString "table") _) (compEnvC _ _ _ _)) _ _ _); k_dflt (refine' lcf_cell ?N ?c ?m ?d ?_ ?a ?b; (case b => rfl); (case a => rfl); (case N => k_asm); (case c => rfl); (case m => k_mem); (case d => with_reducible assumption); k_whole)))
  trivial

example : True := by
  k_with "eval Name" => ((k_here; (with_reducible show wpAny _ _ (eval (Expr.Name (Str.ofString "way") _) (compEnvC _ _ _ _)) _ _ _); k_dflt (refine' LCgL.ld_own ?N ?m ?C ?x ?_; (case N => k_asm); (case C => with_reducible assumption); (case x => with_reducible assumption); (case m => k_mem); k_whole)))
  trivial

example : True := by
  k_with "eval Name" => ((k_here; (with_reducible show wpAny _ _ (eval (Expr.Name (Str.ofString "goal") _) (compEnvC _ _ _ _)) _ _ _); k_dflt (refine' LCgL.ld_own ?N ?m ?C ?x ?_; (case N => k_asm); (case C => with_reducible assumption); (case x => with_reducible assumption); (case m => k_mem); k_whole)))
  trivial

noncomputable def joinF (x y : Str) : Str := if Txt.endswith x (Str.ofString "/") then x ++ y else x ++ (Str.ofString "/" ++ y)
structure WayOk (p w : Str) : Prop where
  y1 : Txt.startswith w (Str.ofString "/") = false
  y2 : w.length ≤ 1000
  j1 : 1 ≤ (joinF p w).length
  j2 : (joinF p w).length ≤ 1000
  j3 : (Txt.slice (joinF p w) none (some 1) != Str.ofString "/") = false
  j4 : (Txt.slice (joinF p w) (some 1) (some 2) != Str.ofString "/") = true
  j5 : (Txt.join (Str.ofString "/") (normL (Txt.split (Txt.slice (joinF p w) (some 1) none) (Str.ofString "/")))).length ≤ 900
  n1 : okS (Txt.lower (normF (joinF p w))) = true
  n2 : (normF (joinF p w)).length ≤ 1000
  n3 : (Txt.lower (normF (joinF p w))).length ≤ 1000
theorem join_w (w : World) (news : List (Addr × Obj)) (p y : Str) (t u : Tok) (hp : 1 ≤ p.length) (hp2 : p.length ≤ 1000) (h : WayOk p y) :
    Con w 308 2 [.str p t, .str y u] [] news (fun r n' => (∃ u, r = .str (joinF p y) u) ∧ n' = news) := join_c w news p y t u hp hp2 h.y1 h.y2
theorem norm_w (w : World) (news : List (Addr × Obj)) (p y : Str) (t : Tok) (h : WayOk p y) :
    Con w 322 3 [.str (joinF p y) t] [] news (fun r n' => (∃ u, r = .str (normF (joinF p y)) u) ∧ n' = news) := normpath_c w news _ t h.j1 h.j2 h.j3 h.j4 h.j5
example : True := by
  k_with "call ref" => (((with_reducible show wpAny _ _ (call (Value.ref 308) _ _) _ _ _); (k_here; k_dflt ((first | (refine' con_use1s (join_w _ _ _ _ _ _ (by with_reducible assumption) (by with_reducible assumption) (by with_reducible assumption)) ?k1 ?k2 ?k3 ?k4 ?k5 ?kd ?ku ?_) | (refine' con_use1i (join_w _ _ _ _ _ _ (by with_reducible assumption) (by with_reducible assumption) (by with_reducible assumption)) ?k1 ?k2 ?k3 ?k4 ?k5 ?kd ?ku ?_)); (case k1 => k_asm); (case k2 => k_asm); (case k3 => k_asm); (case k4 => k_asm); (case k5 => k_asm); (case kd => k_extra "c_room"); (case ku => k_extra "c_units"); k_whole); intro u9Z hh9Z tk9Z F9Z N9Z; (try dsimp only); (try k_fold))))
  trivial

example : True := by
  k_with "call ref" => (((with_reducible show wpAny _ _ (call (Value.ref 322) _ _) _ _ _); (k_here; k_dflt ((first | (refine' con_use1s (norm_w _ _ _ _ _ (by with_reducible assumption)) ?k1 ?k2 ?k3 ?k4 ?k5 ?kd ?ku ?_) | (refine' con_use1i (norm_w _ _ _ _ _ (by with_reducible assumption)) ?k1 ?k2 ?k3 ?k4 ?k5 ?kd ?ku ?_)); (case k1 => k_asm); (case k2 => k_asm); (case k3 => k_asm); (case k4 => k_asm); (case k5 => k_asm); (case kd => k_extra "c_room"); (case ku => k_extra "c_units"); k_whole); intro u9Z hh9Z tk9Z F9Z N9Z; (try dsimp only); (try k_fold))))
  trivial

noncomputable def goalsR (rs : List (Str × Str)) (p : Str) : List Str := (getAllR rs (Txt.lower p)).map fun w => normF (joinF p w)
noncomputable def neighR (rs : List (Str × Str)) (p : Str) : List Str := (goalsR rs p).filter fun g => hasKey rs (Txt.lower g)
structure GoalOk (g : Str) : Prop where
  n1 : okS (Txt.lower g) = true
  n2 : g.length ≤ 1000
  n3 : (Txt.lower g).length ≤ 1000
set_option maxHeartbeats 1000000 in
theorem neigh_c (w : World) (x dx hl : Addr) (hsh : Int) (th nd k : Nat) (vs : List Value) (rs : List (Str × Str)) (rest : List (Addr × Obj)) (hT : TabIn x dx hl hsh th nd k vs rs (tabLed x dx hl hsh th nd k vs rest)) (p : Str) (t : Tok) (hp1 : 1 ≤ p.length) (hp2 : p.length ≤ 1000) (hp3 : okS (Txt.lower p) = true) (hp4 : (Txt.lower p).length ≤ 1000)
    (hrl : rs.length ≤ 1000) (hW : ∀ y ∈ getAllR rs (Txt.lower p), WayOk p y) :
    Con w 353 5 [.ref x, .str p t] [] (tabLed x dx hl hsh th nd k vs rest) (fun r n' => ∃ l ws, r = .ref l ∧ n' = (l, lst ws) :: tabLed x dx hl hsh th nd k vs rest ∧ StrsL ws (neighR rs p) ∧ ∀ q ∈ tabLed x dx hl hsh th nd k vs rest, q.1 ≠ l) := by
  (w_top off; unfold Con; intro dpZ unZ gdZ cnZ nmZ igZ icZ moZ aZ ccdZ clZ outerZ A₀Z baseZ h₀Z LZ mZ meanZ mgZ mbZ sZ QZ EZ BZ FZ XZ NZ TZ hdZ huZ hret; refine wpAny_call ?_; k_dflt k_enter)
  rename Obj.data _ = Data.cell _ => d2
  have d2b := And.intro trivial (d2.trans (show Data.cell _ = Data.cell (some (Value.ref x)) from by with_unfolding_all rfl))
  clear d2
  rename Obj.data _ = Data.cell _ => dX
  have d1 := dX.trans (show Data.cell _ = Data.cell (some (Value.str p t)) from by with_unfolding_all rfl)
  clear dX
  replace d2b := d2b.2
  k_steps
  rename StrsL _ _ => hS
  rename List Value => ws
  rename News _ _ _ _ => N1
  have hwl : ws.length ≤ 1000 := by
    rw [hS.length]; unfold getAllR; rw [List.length_map]; exact Nat.le_trans (List.length_filter_le _ _) hrl
  refine LCg.CompSrc.ledger (by rfl) (by k_asm) N1 (by k_mem) (by simp [sizeLine_eq]; k_extra "omx") ?_
  intro g
  refine compRest_inv ws.length (fun i ys n => n = _ ∧ StrsL ys (((getAllR rs (Txt.lower p)).take i).map fun w => normF (joinF p w))) ?_ ?_ _ 0 [] _ (by simp) ⟨rfl, .nil⟩
  · intro i ys n v I oI C oC D m2 h2 tk2 E2 hi hq14 hv hC hx F2 N2 off2 ne2
    refine opq fun Q9 hQ9 => ?_
    refine hide fun GZ kGZ => ?_
    obtain ⟨rfl, hJ⟩ := hq14
    refine kGZ ?_
    clear kGZ GZ
    refine hide fun GZ kGZ => ?_
    obtain ⟨y, ty, rfl, hyi⟩ := hS.get (by simpa using hv)
    refine kGZ ?_
    clear kGZ GZ
    have hWy := hW y (List.mem_of_getElem? hyi)
    have est : ((getAllR rs (Txt.lower p)).take (i + 1)).map (fun w => normF (joinF p w)) = ((getAllR rs (Txt.lower p)).take i).map (fun w => normF (joinF p w)) ++ [normF (joinF p y)] := by
      rw [List.take_add_one, hyi]; simp
    have hfin : ∀ t, StrsL (ys ++ [Value.str (normF (joinF p y)) t]) (((getAllR rs (Txt.lower p)).take (i + 1)).map fun w => normF (joinF p w)) := fun t => by rw [est]; exact hJ.snoc
    clear est
    k_steps
    refine hQ9 _ _ ?_; refine CompEnd.intro (by k_asm) (by k_asm) _ (by k_extra "c_sub") off2 (.inr ⟨_, by k_mem, rfl, _, rfl⟩) ⟨rfl, hfin _⟩
  · intro ys n hq2
    refine hide fun GZ kGZ => ?_
    obtain ⟨rfl, hJ⟩ := hq2
    refine kGZ ?_
    clear kGZ GZ
    rw [hS.length, List.take_length] at hJ
    refine fun D h tk F' N' o1 => ?_
    have hne := off1_ne o1
    k_steps
    clear N1
    rename News _ _ _ _ => N1
    have hyl : ys.length ≤ 1000 := by rw [hJ.length, List.length_map, ← hS.length]; exact hwl
    have hgo : ∀ z ∈ (getAllR rs (Txt.lower p)).map (fun w => normF (joinF p w)), GoalOk z := by
      intro z hz
      refine hide fun GZ kGZ => ?_
      obtain ⟨y, hy, rfl⟩ := List.mem_map.mp hz
      refine kGZ ?_
      clear kGZ GZ
      exact ⟨(hW y hy).n1, (hW y hy).n2, (hW y hy).n3⟩
    refine LCt.CompSrcT.ledger (by rfl) (by k_asm) N1 (by k_mem) (by simp [sizeLine_eq]; k_extra "omx") ?_
    intro g2
    refine compRestT_inv ys.length (fun i zs n => n = _ ∧ StrsL zs ((((getAllR rs (Txt.lower p)).map fun w => normF (joinF p w)).take i).filter fun g => hasKey rs (Txt.lower g))) ?_ ?_ _ 0 [] _ (by simp) ⟨rfl, .nil⟩
    · intro i zs n v I oI C oC D m2 h2 tk2 E2 hi hq14 hv hC hx F2 N2 off2 ne2
      refine opqC fun Q9 P9 hQ9 hP9 => ?_
      refine hide fun GZ kGZ => ?_
      obtain ⟨rfl, hZ⟩ := hq14
      refine kGZ ?_
      clear kGZ GZ
      refine hide fun GZ kGZ => ?_
      obtain ⟨z, tz, rfl, hzi⟩ := hJ.get (by simpa using hv)
      refine kGZ ?_
      clear kGZ GZ
      have hz := hgo z (List.mem_of_getElem? hzi)
      have est : ((((getAllR rs (Txt.lower p)).map fun w => normF (joinF p w)).take (i + 1)).filter fun g => hasKey rs (Txt.lower g)) = ((((getAllR rs (Txt.lower p)).map fun w => normF (joinF p w)).take i).filter fun g => hasKey rs (Txt.lower g)) ++ (if hasKey rs (Txt.lower z) then [z] else []) := by
        rw [List.take_add_one, hzi]; simp only [Option.toList_some, List.filter_append, List.filter_cons, List.filter_nil]
      refine hide fun GZ kGZ => ?_
      obtain ⟨z1, z2, z3⟩ := hz
      refine kGZ ?_
      clear kGZ GZ
      by_cases hb : hasKey rs (Txt.lower z) = true
      · have hfin : ∀ t, StrsL (zs ++ [Value.str z t]) ((((getAllR rs (Txt.lower p)).map fun w => normF (joinF p w)).take (i + 1)).filter fun g => hasKey rs (Txt.lower g)) := fun t => by rw [est, if_pos hb]; exact hZ.snoc
        clear est
        k_steps
        (first | refine hQ9 _ _ ?_ | refine hP9 _ ?_); refine CompEnd.intro (by k_asm) (by k_asm) _ (by k_extra "c_sub") off2 (.inr ⟨_, by k_mem, rfl, _, rfl⟩) ⟨rfl, hfin _⟩
      · have hfin : StrsL zs ((((getAllR rs (Txt.lower p)).map fun w => normF (joinF p w)).take (i + 1)).filter fun g => hasKey rs (Txt.lower g)) := by rw [est, if_neg hb, List.append_nil]; exact hZ
        clear est
        k_steps
        (first | refine hQ9 _ _ ?_ | refine hP9 _ ?_); refine CompEnd.intro (by k_asm) (by k_asm) _ (by k_extra "c_sub") off2 (.inr ⟨_, by k_mem, rfl, _, rfl⟩) ⟨rfl, hfin⟩
    · intro zs n hq2
      refine hide fun GZ kGZ => ?_
      obtain ⟨rfl, hZ⟩ := hq2
      refine kGZ ?_
      clear kGZ GZ
      rw [hJ.length, List.take_length] at hZ
      refine fun D2 h3 tk3 F3 N3 o3 => ?_
      have hne3 := off1_ne o3
      k_steps
      refine hret _ _ _ _ (by k_asm) (led_drop (by k_asm) (by k_extra "c_sub")) ⟨_, _, rfl, rfl, hZ, fun q hq => hne3 q ?_⟩
      exact (by k_extra "c_sub" : ∀ r ∈ _, r ∈ _) q hq
section
variable {prog : Program} {w : World} {A : Around} {E : Value → Shared → Prop} {s : Shared} {h₀ : Heap} {L : Addr} {m : Str → Option Value} {news news' : List (Addr × Obj)}
theorem len_L {l : Addr} {vs : List Value} {k : Nat} {Q : Value → Shared → Prop} (N : News h₀ L s.heap news) (hm : (l, lstOf vs k) ∈ news) (hz : vs.length ≤ 100000)
    (h : ∀ t, Q (.int (vs.length : Int) t) { s with toks := s.toks + 1 + 1 }) : wpAny (model prog w) A (call (.builtin "len") [.ref l]) Q E s := by
  refine call_len_list (items := vs.toArray) ⟨_, (N _ hm).1, rfl, k, rfl⟩ (by simp; k_extra "omx") ?_
  have := h (s.toks + 1)
  simpa using this
theorem set_L {D : Addr} {vs : List Value} {v : Value} {n : Nat} {k : Int} {t : Tok} {Q : Unit → Shared → Prop} (F : Fr h₀ L s.heap m) (N : News h₀ L s.heap news) (U : Upd D (lstOf vs n) (lstOf (vs.set k.toNat v) n) news news')
    (h0 : 0 ≤ k) (h1 : k < vs.length) (hz : vs.length ≤ 100000) (h : ∀ h', Fr h₀ L h' m → News h₀ L h' news' → Q () { s with heap := h' }) :
    wpAny (model prog w) A (setItem (.ref D) (.int k t) v) Q E s := by
  obtain ⟨pre, post, rfl, rfl, a, b⟩ := U.split
  have z := N (D, lstOf vs n) (List.mem_append.mpr (.inr (.head _)))
  refine ki_setAt (n := n) (items := vs.toArray) z.1 h0 (by k_extra "omx") (by simpa using h1) (h _ (F.change (Heap.SameBut.update ..) z.2.1 z.2.2) (ki_turn _ N a b ?_ ?_))
  · show vs.toArray.setIfInBounds k.toNat v = (vs.set k.toNat v).toArray
    apply Array.toList_inj.mp
    simp
  · simp
end
section
variable {prog : Program} {w : World} {A : Around} {E : Value → Shared → Prop} {s : Shared} {env : Env} {h₀ : Heap} {x : Str} {body : List Stmt} {Q : Flow → Shared → Prop}
theorem loop_one {I : Addr} {n : Nat} {P : Nat → Value → Prop} {St : Nat → Heap → Prop} {m₀ : Str → Option Value} {news : List (Addr × Obj)} (J : Nat → (Str → Option Value) → List (Addr × Obj) → Prop)
    (W : Walks prog w A I [I] [I] n P St) (hI0 : h₀.get? I = none) (hob : ∀ i h, St i h → ∃ o, h.get? I = some o) (hLI : env.locals ≠ I)
    (hnw : ∀ p ∈ news, p.1 ≠ I) (hst : St 0 s.heap) (F : Fr h₀ env.locals s.heap m₀) (N : News h₀ env.locals s.heap news) (hj : J 0 m₀ news)
    (turn : ∀ i v m₁ news₁ h tk io, i < n → P i v → J i m₁ news₁ → (∀ p ∈ news₁, p.1 ≠ I) → Fr h₀ env.locals h (fun y => if y = x then some v else m₁ y) → News h₀ env.locals h ((I, io) :: news₁) →
      wpAny (model prog w) A (execs body env) (TurnJ h₀ env.locals I io (J (i + 1)) { s with heap := h, toks := tk } Q) E { s with heap := h, toks := tk })
    (done : ∀ m₁ news₁ h tk, J n m₁ news₁ → Fr h₀ env.locals h m₁ → News h₀ env.locals h news₁ → Q .next { s with heap := h, toks := tk }) :
    LoopAtV prog w A h₀ env x body Q E (.ref I) s := by
  refine ⟨I, [I], [I], n, P, St, m₀, news, J, rfl, W, ?_, ?_, ?_, hst, F, N, hj, ?_, ?_⟩
  · intro hm
    exact hLI (List.mem_singleton.mp hm)
  · intro b hb
    rw [List.mem_singleton.mp hb]; exact hI0
  · intro p hp hI
    exact hnw p hp (List.mem_singleton.mp hI)
  · rintro i v m₁ news₁ s₁ own ⟨hh', tk', rfl⟩ hin hP hJ hoff hsub hget hall hst' F₁ N₁
    obtain ⟨io, hio⟩ := hob _ _ hst'
    have hI : (I, io) ∈ own := hall I (by simp) hI0 io hio
    have N₂ : News h₀ env.locals hh' ((I, io) :: news₁) := by
      intro p hp
      rcases List.mem_cons.mp hp with rfl | hp
      · exact N₁ _ (List.mem_append_left _ hI)
      · exact N₁ _ (List.mem_append_right _ hp)
    refine wpAny_mono (turn i v m₁ news₁ hh' tk' io hin hP hJ (fun p hp q => hoff p hp (by rw [q]; exact List.mem_singleton.mpr rfl)) F₁ N₂) (fun f s₂ p => ?_) fun _ _ e => e
    have fin : TurnEndJ h₀ env.locals I io (J (i + 1)) { s with heap := hh', toks := tk' } s₂ → LoopStepU h₀ env.locals [I] own (J (i + 1)) { s with heap := hh', toks := tk' } .next s₂ := by
      rintro ⟨h', tk, m', news', e, F', N', ha, hm⟩
      refine ⟨rfl, h', tk, m', news', e, F', fun p hp => ?_, fun p hp q => ha p hp (List.mem_singleton.mp q), hm⟩
      rcases List.mem_append.mp hp with hp | hp
      · have h1 := hsub p hp
        have h2 := hget p hp
        have e1 := List.mem_singleton.mp h1
        have h3 : p = (I, io) := by
          refine Prod.ext e1 ?_
          rw [e1] at h2
          exact Option.some.inj (h2.symm.trans hio)
        rw [h3]
        exact N' _ (.head _)
      · exact N' p (.tail _ hp)
    cases f with
    | ret v => exact .ret p
    | brk => exact .brk p
    | next => exact .next (fin p)
    | cont => exact .cont (fin p)
  · rintro h' tk m' news' F' N' _ hJ
    exact done m' news' h' tk hJ F' N'
theorem iter_rangeN {r : Addr} {a₀ b₀ c₀ : Int} {t₀ u₀ v₀ : Tok} {n : Nat} {m₀ : Str → Option Value} {news : List (Addr × Obj)} (ns : List Str) (J : Nat → (Str → Option Value) → List (Addr × Obj) → Prop)
    (hh : A.handled = none) (hr : IsRange s.heap r a₀ b₀ c₀ t₀ u₀ v₀) (hsmall : Builtin.Range.small a₀ b₀ c₀ = true) (hn : Builtin.Range.rangeSize a₀ b₀ c₀ = (n : Int)) (F : Fr h₀ env.locals s.heap m₀) (N : News h₀ env.locals s.heap news) (hj : J 0 m₀ news)
    (turn : ∀ i tt f n₁ h tk I io, i < n → J i f n₁ → (∀ p ∈ news, p.1 < I) → (∀ p ∈ n₁, p.1 ≠ I) → Fr h₀ env.locals h (fun y => if y = x then some (.int (a₀ + i * c₀) tt) else offN f m₀ ns y) → News h₀ env.locals h ((I, io) :: n₁) →
      wpAny (model prog w) A (execs body env) (TurnJ h₀ env.locals I io (fun m' n' => (∀ y, y ∉ ns → m' y = m₀ y) ∧ J (i + 1) m' n') { s with heap := h, toks := tk } Q) E { s with heap := h, toks := tk })
    (done : ∀ f n₁ h tk, J n f n₁ → Fr h₀ env.locals h (offN f m₀ ns) → News h₀ env.locals h n₁ → Q .next { s with heap := h, toks := tk }) :
    wpAny (model prog w) A (pyIter (.ref r)) (fun it s₂ => LoopAtV prog w A h₀ env x body Q E it s₂) E s := by
  refine wpAny_pyIter_range hr hsmall ?_
  have W : Walks prog w A s.heap.objs.size [s.heap.objs.size] [s.heap.objs.size] n (fun i v => ∃ t, v = .int (a₀ + i * c₀) t)
      (fun i h => IsRangeIter h s.heap.objs.size (a₀ + (i : Nat) * c₀) ((n : Int) - (i : Nat)) c₀) := Walks.range hh _ a₀ c₀ n
  refine loop_one (s := { s with heap := s.heap.push _ }) (fun i m n => (∀ y, y ∉ ns → m y = m₀ y) ∧ J i m n) W (next_is_new F) (fun i h st => ⟨_, st⟩) (fun e => absurd F.ns.lt (e ▸ Nat.lt_irrefl _)) (fun p hp => Nat.ne_of_lt (Heap.lt_size (N p hp).1))
    (by show IsRangeIter _ _ _ _ _; rw [hn]; simpa using Heap.get?_push_size _ rfl) (F.push _) (fun p hp => ⟨Heap.get?_push_of_some _ (N p hp).1, (N p hp).2⟩) ⟨fun _ _ => rfl, hj⟩ ?_ ?_
  · rintro i v m₁ n₁ h tk io hi ⟨t, rfl⟩ hJ ha F₁ N₁
    exact turn i t m₁ n₁ h tk _ io hi hJ.2 (fun p hp => Heap.lt_size (N p hp).1) ha (by rw [offN_eq hJ.1]; exact F₁) N₁
  · rintro m₁ n₁ h tk hJ F₁ N₁
    exact done m₁ n₁ h tk hJ.2 (by rw [offN_eq hJ.1]; exact F₁) N₁
theorem iter_rangeA {r l : Addr} {ys0 : List Value} {k0 : Nat} {a₀ b₀ c₀ : Int} {t₀ u₀ v₀ : Tok} {n : Nat} {m₀ : Str → Option Value} {rest : List (Addr × Obj)} (ns : List Str) (P : Nat → List Value → (Str → Option Value) → Prop)
    (hh : A.handled = none) (hr : IsRange s.heap r a₀ b₀ c₀ t₀ u₀ v₀) (hsmall : Builtin.Range.small a₀ b₀ c₀ = true) (hn : Builtin.Range.rangeSize a₀ b₀ c₀ = (n : Int)) (F : Fr h₀ env.locals s.heap m₀) (N : News h₀ env.locals s.heap ((l, lstOf ys0 k0) :: rest)) (hj : P 0 ys0 m₀)
    (turn : ∀ i tt f ys k1 h tk I io, i < n → P i ys f → (∀ p ∈ (l, lstOf ys0 k0) :: rest, p.1 < I) → (∀ p ∈ (l, lstOf ys k1) :: rest, p.1 ≠ I) → Fr h₀ env.locals h (fun y => if y = x then some (.int (a₀ + i * c₀) tt) else offN f m₀ ns y) → News h₀ env.locals h ((I, io) :: (l, lstOf ys k1) :: rest) →
      wpAny (model prog w) A (execs body env) (TurnJ h₀ env.locals I io (fun m' n' => (∀ y, y ∉ ns → m' y = m₀ y) ∧ ∃ ys' k', n' = (l, lstOf ys' k') :: rest ∧ P (i + 1) ys' m') { s with heap := h, toks := tk } Q) E { s with heap := h, toks := tk })
    (done : ∀ f ys k1 h tk, P n ys f → Fr h₀ env.locals h (offN f m₀ ns) → News h₀ env.locals h ((l, lstOf ys k1) :: rest) → Q .next { s with heap := h, toks := tk }) :
    wpAny (model prog w) A (pyIter (.ref r)) (fun it s₂ => LoopAtV prog w A h₀ env x body Q E it s₂) E s := by
  refine iter_rangeN ns (fun i f n => ∃ ys' k', n = (l, lstOf ys' k') :: rest ∧ P i ys' f) hh hr hsmall hn F N ⟨_, _, rfl, hj⟩ ?_ ?_
  · rintro i tt f n h tk I io hi ⟨ys, k1, rfl, hP⟩ hI off F1 N1
    exact turn i tt f ys k1 h tk I io hi hP hI off F1 N1
  · rintro f n h tk ⟨ys, k1, rfl, hP⟩ F1 N1
    exact done f ys k1 h tk hP F1 N1
theorem off1_acc {l I : Addr} {ys : List Value} {k : Nat} {rest : List (Addr × Obj)} (off : ∀ p ∈ (l, lstOf ys k) :: rest, p.1 ≠ I) {ys' : List Value} {k' : Nat} : ∀ p ∈ (l, lstOf ys' k') :: rest, p.1 ≠ I := by
  intro p hp
  rcases List.mem_cons.mp hp with rfl | hp
  · exact off (l, lstOf ys k) (.head _)
  · exact off p (.tail _ hp)
end
theorem ints_get : ∀ {vs : List Value} {ns : List Int}, IntsAre vs ns → ∀ {i : Nat} {v : Value}, vs[i]? = some v → ∃ n t, v = .int n t ∧ ns[i]? = some n
  | _, _, .nil, i, v, h => by simp at h
  | _, _, .cons n t h, i, v, hv => by
    cases i with
    | zero => simp at hv; subst hv; exact ⟨_, _, rfl, rfl⟩
    | succ i => exact ints_get h (by simpa using hv)
theorem ints_one {n : Int} {t : Tok} : IntsAre [.int n t] [n] := IntsAre.cons n t .nil
noncomputable def overS (o : List Int) (x : Int) : List Int := o ++ [((x.fmod 400).fdiv 10).fmod (o.length : Int)]
noncomputable def overF (ns : List Int) : List Int := ns.foldl overS [0]
theorem overF_take {ns : List Int} {i : Nat} {x : Int} (h : ns[i]? = some x) : overF (ns.take (i + 1)) = overS (overF (ns.take i)) x := by
  unfold overF
  rw [List.take_add_one, h, List.foldl_append]; rfl
theorem overF_len (ns : List Int) : (overF ns).length = ns.length + 1 := by
  unfold overF
  suffices h : ∀ (ns o : List Int), (ns.foldl overS o).length = ns.length + o.length by simpa using h ns [0]
  intro ns
  induction ns with
  | nil => intro o; simp
  | cons n ns ih => intro o; rw [List.foldl_cons, ih]; simp [overS]; k_extra "omx"
example : True := by
  k_with "call builtin:len" => ((k_here; (with_reducible show wpAny _ _ (call (Value.builtin "len") [Value.ref _]) _ _ _); k_dflt (refine' len_L ?N ?m ?z ?_; (case N => k_asm); (case m => k_mem); (case z => omega); k_whole); intro _))
  trivial

example : True := by
  k_with "exec For Name Name cons nil" => ((k_here; k_extra "c_forT"))
  trivial

example : True := by
  k_with "exec For Name Call cons nil" => ((k_here; k_extra "c_forT"))
  trivial

set_option maxHeartbeats 4000000 in
theorem over_c (w : World) (news : List (Addr × Obj)) (l : Addr) (vs : List Value) (k : Nat) (ns : List Int) (hm : (l, lstOf vs k) ∈ news) (hns : IntsAre vs ns) (hlen : ns.length ≤ 100) :
    Con w 334 2 [.ref l] [] news (fun r n' => ∃ a ws k', r = .ref a ∧ n' = (a, lstOf ws k') :: news ∧ IntsAre ws (overF ns) ∧ ∀ p ∈ news, p.1 ≠ a) := by
  have hvl := hns.length
  (w_top off; unfold Con; intro dpZ unZ gdZ cnZ nmZ igZ icZ moZ aZ ccdZ clZ outerZ A₀Z baseZ h₀Z LZ mZ meanZ mgZ mbZ sZ QZ EZ BZ FZ XZ NZ TZ hdZ huZ hret; refine wpAny_call ?_; k_dflt k_enter)
  k_steps
  rename News _ _ _ _ => N1
  rename Fr _ _ _ _ => F1
  have hm1 : ∀ p ∈ news, p.1 ≠ _ := newer0 (by assumption) (fun _ h => h)
  refine iter_accN [Str.ofString "x"] (fun i ys _ => IntsAre ys (overF (ns.take i))) (by rfl) F1 N1 hm ints_one ?_ ?_
  · rintro i v f ys k1 h2 tk2 I io hv hJ hI off F2 N2
    clear F1 N1
    simp only [offN] at F2
    refine hide fun GZ kGZ => ?_
    obtain ⟨c, tc, rfl, hci⟩ := ints_get hns hv
    refine kGZ ?_
    clear kGZ GZ
    have hst := overF_take hci
    have hol := overF_len (ns.take i)
    have hyl := hJ.length
    rw [List.length_take] at hol
    k_steps
    rename News _ _ _ _ => N3
    refine append_L (by k_asm) N3 (.tail (Ne.symm (off (_, _) (.head _) _ (.head _))) (.head (by k_all))) (by k_extra "omx") (fun h9 F9 N9 => ?_)
    k_steps
    refine TurnX.intro (by k_asm) N9 (off_acc off) ⟨by k_extra "c_names", _, _, rfl, ?_⟩
    rw [hst]
    unfold overS
    rw [hyl]
    exact hJ.append ints_one
  · rintro f ys k1 h2 tk2 hJ F2 N2
    simp only [offN] at F2
    clear F1 N1
    rw [hvl, List.take_length] at hJ
    k_steps
    refine hret _ _ _ _ (by k_asm) (led_drop (by k_asm) (by k_extra "c_sub")) ⟨_, _, _, rfl, rfl, hJ, by k_all⟩
noncomputable def letF (k : Nat) : Str := Txt.item (Str.ofString "-abcdefghi") (k : Int)
noncomputable def placesN (os : List Int) : Nat → List Str
  | 0 => [Str.ofString "/"]
  | i + 1 => placesN os i ++ [joinF ((placesN os i).getD (os.getD (i + 1) 0).toNat (Str.ofString "")) (letF (i + 1))]
structure OverOk (os : List Int) : Prop where
  len : os.length ≤ 10
  pos : 1 ≤ os.length
  lo : ∀ i, i + 1 < os.length → 0 ≤ os.getD (i + 1) 0
  hi : ∀ i, i + 1 < os.length → os.getD (i + 1) 0 < ((i + 1 : Nat) : Int)
theorem placesN_len (os : List Int) : ∀ i, (placesN os i).length = i + 1
  | 0 => rfl
  | i + 1 => by rw [placesN, List.length_append, placesN_len os i]; rfl
theorem letF_len (k : Nat) : (letF k).length = 1 := rfl
theorem letF_ok : ∀ k, k < 10 → Txt.startswith (letF k) (Str.ofString "/") = false := by decide +kernel
theorem joinF_len (x y : Str) : x.length + y.length ≤ (joinF x y).length ∧ (joinF x y).length ≤ x.length + 1 + y.length := by
  unfold joinF
  have : (Str.ofString "/").length = 1 := rfl
  split
  · rw [Str.length_append]; k_extra "omx"
  · rw [Str.length_append, Str.length_append]; k_extra "omx"
theorem getD_mem_or {l : List Str} {i : Nat} {d : Str} : l.getD i d ∈ l ∨ l.getD i d = d := by
  rw [List.getD_eq_getElem?_getD]
  cases h : l[i]? with
  | none => exact .inr rfl
  | some x => exact .inl (List.mem_of_getElem? h)
theorem placesN_lens (os : List Int) : ∀ i, ∀ x ∈ placesN os i, 1 ≤ x.length ∧ x.length ≤ 1 + 2 * i
  | 0, x, h => by rw [placesN, List.mem_singleton] at h; subst h; decide
  | i + 1, x, h => by
    rw [placesN] at h
    rcases List.mem_append.mp h with h | h
    · have := placesN_lens os i x h; k_extra "omx"
    · rw [List.mem_singleton.mp h]
      have h1 := joinF_len ((placesN os i).getD (os.getD (i + 1) 0).toNat (Str.ofString "")) (letF (i + 1))
      rw [letF_len] at h1
      rcases getD_mem_or (l := placesN os i) (i := (os.getD (i + 1) 0).toNat) (d := Str.ofString "") with h2 | h2
      · have := placesN_lens os i _ h2; k_extra "omx"
      · rw [h2] at h1 ⊢
        have : (Str.ofString "").length = 0 := rfl
        k_extra "omx"
example : True := by
  k_with "exec For Name Call cons nil" => ((k_here; k_extra "c_for"))
  trivial

example : True := by
  k_with "c_noiter" => (fail_if_success (with_reducible show wpAny _ _ (pyIter (Value.ref _)) _ _ _))
  trivial

example : True := by
  k_with "c_steps" => (repeat' (first | (k_unfold; (try dsimp only)) | (k_end; wrow_close) | (k_extra "c_noiter"; walk1) | (k_extra "c_noiter"; dsimp only; walk1) | (leave1; try dsimp only) | fail "no step"))
  trivial

example : True := by
  k_with "subscriptTail" => ((k_here; (with_reducible show wpAny _ _ (subscriptTail _ _ (Value.ref _) (Value.int _ _)) _ _ _); (with_unfolding_all refine' sub_L ?N ?m ?h0 ?h1 ?hx ?_ ?r; (case N => k_asm); (case m => k_mem); (case hx => with_reducible assumption); (case h0 => first | with_reducible assumption | omega); (case h1 => first | with_reducible assumption | omega); (case r => with_unfolding_all rfl); k_whole)))
  trivial

theorem ints_at {vs : List Value} {ns : List Int} (h : IntsAre vs ns) {i : Nat} (hi : i < ns.length) : ∃ t, vs[i]? = some (.int (ns.getD i 0) t) := by
  have h1 : i < vs.length := by rw [h.length]; exact hi
  refine hide fun GZ kGZ => ?_
  obtain ⟨n, t, e, e2⟩ := ints_get h (List.getElem?_eq_getElem h1)
  refine kGZ ?_
  clear kGZ GZ
  refine ⟨t, ?_⟩
  rw [List.getElem?_eq_getElem h1, e, List.getD_eq_getElem?_getD, e2]; rfl
theorem strs_at {vs : List Value} {ns : List Str} (h : StrsL vs ns) {i : Nat} (hi : i < ns.length) (d : Str) : ∃ t, vs[i]? = some (.str (ns.getD i d) t) := by
  have h1 : i < vs.length := by rw [h.length]; exact hi
  refine hide fun GZ kGZ => ?_
  obtain ⟨n, t, e, e2⟩ := h.get (List.getElem?_eq_getElem h1)
  refine kGZ ?_
  clear kGZ GZ
  refine ⟨t, ?_⟩
  rw [List.getElem?_eq_getElem h1, e, List.getD_eq_getElem?_getD, e2]; rfl
example : True := by
  k_with "call ref" => (((with_reducible show wpAny _ _ (call (Value.ref 308) _ _) _ _ _); rename (∀ _ _ _, Con _ 308 _ _ _ _ _) => G9Z; (k_here; k_dflt ((first | (refine' con_use1s ((G9Z _ _ _)) ?k1 ?k2 ?k3 ?k4 ?k5 ?kd ?ku ?_) | (refine' con_use1i ((G9Z _ _ _)) ?k1 ?k2 ?k3 ?k4 ?k5 ?kd ?ku ?_)); (case k1 => k_asm); (case k2 => k_asm); (case k3 => k_asm); (case k4 => k_asm); (case k5 => k_asm); (case kd => k_extra "c_room"); (case ku => k_extra "c_units"); k_whole); intro u9Z hh9Z tk9Z F9Z N9Z; (try dsimp only); (try k_fold))))
  trivial

set_option maxHeartbeats 4000000 in
theorem places_c (w : World) (news : List (Addr × Obj)) (l : Addr) (vs : List Value) (k : Nat) (os : List Int) (hm : (l, lstOf vs k) ∈ news) (hns : IntsAre vs os) (hO : OverOk os) :
    Con w 341 4 [.ref l] [] news (fun r n' => ∃ a ws k', r = .ref a ∧ n' = (a, lstOf ws k') :: news ∧ StrsL ws (placesN os (os.length - 1)) ∧ ∀ p ∈ news, p.1 ≠ a) := by
  have hvl := hns.length
  have hle := hO.len
  have hat : ∀ i, i < os.length → ∃ t, vs[i]? = some (.int (os.getD i 0) t) := fun i hi => ints_at hns hi
  (w_top off; unfold Con; intro dpZ unZ gdZ cnZ nmZ igZ icZ moZ aZ ccdZ clZ outerZ A₀Z baseZ h₀Z LZ mZ meanZ mgZ mbZ sZ QZ EZ BZ FZ XZ NZ TZ hdZ huZ hret; refine wpAny_call ?_; k_dflt k_enter)
  k_extra "c_steps"
  rename News _ _ _ _ => N1
  rename Fr _ _ _ _ => F1
  rename IsRange _ _ _ _ _ _ _ _ => R1
  refine iter_rangeA (n := os.length - 1) [Str.ofString "k"] (fun i ys _ => StrsL ys (placesN os i)) (by rfl) R1 (small_one (by k_extra "omx") (by k_extra "omx") (by k_extra "omx") (by k_extra "omx")) (by rw [rangeSize_nat]; k_extra "omx") F1 N1 (.cons .nil) ?_ ?_
  · intro i tt f ys k1 h2 tk2 I io hi hJ hI off F2 N2
    clear F1 N1
    simp only [offN] at F2
    obtain ⟨to, eo⟩ := hat (i + 1) (by k_extra "omx")
    have o1 := hO.lo i (by k_extra "omx")
    have o2 := hO.hi i (by k_extra "omx")
    have hpl := placesN_len os i
    have hst : placesN os (i + 1) = placesN os i ++ [joinF ((placesN os i).getD (os.getD (i + 1) 0).toNat (Str.ofString "")) (letF (i + 1))] := rfl
    have hpe : (placesN os i).getD (os.getD (i + 1) 0).toNat (Str.ofString "") ∈ placesN os i := by
      rw [List.getD_eq_getElem?_getD, List.getElem?_eq_getElem (by k_extra "omx")]
      exact List.getElem_mem _
    generalize os.getD (i + 1) 0 = o at eo o1 o2 hst hpe
    obtain ⟨tx, ex⟩ := strs_at hJ (i := o.toNat) (by k_extra "omx") (Str.ofString "")
    generalize (placesN os i).getD o.toNat (Str.ofString "") = x at ex hst hpe
    have hxl := placesN_lens os i x hpe
    have hx1 : 1 ≤ x.length := hxl.1
    have hx2 : x.length ≤ 1000 := by k_extra "omx"
    have G : ∀ news t u, Con w 308 2 [.str x t, .str (letF (i + 1)) u] [] news (fun r n' => (∃ u, r = .str (joinF x (letF (i + 1))) u) ∧ n' = news) :=
      fun news t u => join_c w news x (letF (i + 1)) t u hx1 hx2 (letF_ok _ (by k_extra "omx")) (by rw [letF_len]; k_extra "omx")
    have ek : (1 + (i : Int) * 1) = ((i + 1 : Nat) : Int) := by k_extra "omx"
    rw [ek] at F2
    have eo2 : vs[(((i + 1 : Nat) : Int)).toNat]? = _ := eo
    clear eo ek hxl hpe
    k_extra "c_steps"
    rename News _ _ _ _ => N3
    have hyl := hJ.length
    refine append_L (by k_asm) N3 (.tail (Ne.symm (off (_, _) (.head _))) (.head (by k_all))) (by k_extra "omx") (fun h9 F9 N9 => ?_)
    k_extra "c_steps"
    refine TurnEndJ.intro (by k_asm) N9 (off1_acc off) ⟨by k_extra "c_names", _, _, rfl, ?_⟩
    rw [hst]
    exact hJ.snoc
  · intro f ys k1 h2 tk2 hJ F2 N2
    simp only [offN] at F2
    clear F1 N1
    k_steps
    refine hret _ _ _ _ (by k_asm) (led_drop (by k_asm) (by k_extra "c_sub")) ⟨_, _, _, rfl, rfl, hJ, by k_all⟩
example : True := by
  k_with "c_nomut" => ((fail_if_success (with_reducible show wpAny _ _ (call (Value.ref 179) _ _) _ _ _); fail_if_success (with_reducible show wpAny _ _ (call (Value.ref 102) _ _) _ _ _); fail_if_success (with_reducible show wpAny _ _ (call (Value.ref 193) _ _) _ _ _); fail_if_success (with_reducible show wpAny _ _ (call (Value.ref 200) _ _) _ _ _)))
  trivial

example : True := by
  k_with "c_stepm" => (repeat' (first | (k_unfold; (try dsimp only)) | (k_end; wrow_close) | (k_extra "c_noiter"; k_extra "c_nomut"; walk1) | (k_extra "c_noiter"; k_extra "c_nomut"; dsimp only; walk1) | (leave1; try dsimp only) | fail "no step"))
  trivial

example : True := by
  k_with "c_mem" => (first | with_reducible assumption | with_reducible exact List.mem_cons_self | (refine List.mem_cons_of_mem _ ?_; k_extra "c_mem") | (refine List.mem_append_left _ ?_; k_extra "c_mem") | (refine List.mem_append_right _ ?_; k_extra "c_mem"))
  trivial

example : True := by
  k_with "k_mem" => (k_extra "c_mem")
  trivial

noncomputable def linksN (os : List Int) (xs : List Str) : Nat → List (Str × Str)
  | 0 => []
  | i + 1 => linksN os xs i ++ [(xs.getD (i + 1) (Str.ofString ""), Str.ofString ".."), (Txt.upper (xs.getD (os.getD (i + 1) 0).toNat (Str.ofString "")), letF (i + 1))]
theorem linksN_len (os : List Int) (xs : List Str) : ∀ i, (linksN os xs i).length = 2 * i
  | 0 => rfl
  | i + 1 => by rw [linksN, List.length_append, linksN_len os xs i]; simp; k_extra "omx"
theorem add_s (w : World) (x dx hl : Addr) (hsh : Int) (th nd k : Nat) (vs : List Value) (rs : List (Str × Str)) (tup keep : List (Addr × Obj)) (nm va : Str) (t u : Tok) (hR : RowsAre tup vs rs) (ht : ∀ p ∈ tup, p.1 ≠ hl) (hr : rs.length ≤ 100)
    (hxl : (@Ne Nat x hl)) (hdl : (@Ne Nat dx hl)) (hoff : ∀ p ∈ keep, p.1 ≠ hl) (hnm : okS nm = true) (hva : okS va = true) (hz0 : nm.length ≤ 1000) (hz : va.length ≤ 1000) {I : Addr} {io : Obj} (hI : (I, io) ∈ keep) (hti : ∀ p ∈ tup, p.1 ≠ I) :
    Con w 179 2 [.ref x, .str nm t, .str va u] [] (tabLed x dx hl hsh th nd k vs (tup ++ keep)) (fun r n' => r = .none ∧ ∃ k' vs' tup', n' = tabLed x dx hl hsh th nd k' vs' (tup' ++ keep) ∧ RowsAre tup' vs' (rs ++ [(nm, va)]) ∧ (∀ p ∈ tup', p.1 ≠ hl) ∧ ∀ p ∈ tup', p.1 ≠ I) := by
  refine Con.led (add_c w x dx hl hsh th nd k vs (tup ++ keep) nm va t u hnm hva hz0 hz (by rw [hR.length]; k_extra "omx") hxl hdl (fun p hp => ?_)) (fun p hp => hp) ?_
  · rcases List.mem_append.mp hp with hp | hp
    · exact ht p hp
    · exact hoff p hp
  · intro r n hq2
    refine hide fun GZ kGZ => ?_
    obtain ⟨rfl, k', a, n2, t', u', rfl, hne⟩ := hq2
    refine kGZ ?_
    clear kGZ GZ
    refine ⟨_, ⟨rfl, k', vs ++ [.ref a], (a, tupOf [.str nm t', .str va u'] n2) :: tup, rfl, ?_, ?_, ?_⟩, fun p hp => ?_⟩
    · exact RowsAre.snoc (hR.mono fun p hp => .tail _ hp) (.head _)
    · intro p hp
      rcases List.mem_cons.mp hp with rfl | hp
      · exact Ne.symm (hne (hl, lstOf vs k) (by simp [tabLed]))
      · exact ht p hp
    · intro p hp
      rcases List.mem_cons.mp hp with rfl | hp
      · exact Ne.symm (hne (I, io) (by simp only [tabLed, List.mem_cons, List.mem_append, hI, or_true]))
      · exact hti p hp
    · simp only [tabLed, List.mem_cons, List.mem_append, List.cons_append] at hp ⊢
      rcases hp with h | h | h | h | h | h
      · exact .inr (.inl h)
      · exact .inr (.inr (.inl h))
      · exact .inr (.inr (.inr (.inl h)))
      · exact .inl h
      · exact .inr (.inr (.inr (.inr (.inl h))))
      · exact .inr (.inr (.inr (.inr (.inr h))))
theorem letF_okS : ∀ k, k < 9 → okS (letF (k + 1)) = true := by decide +kernel
theorem tab_names {h₀ h : Heap} {L x dx hl : Addr} {hsh : Int} {th nd k : Nat} {vs : List Value} {rest : List (Addr × Obj)} (_ : News h₀ L h (tabLed x dx hl hsh th nd k vs rest)) :
    ∃ x' dx' hl' : Addr, ∃ hsh' : Int, ∃ th' nd' : Nat, x' = x ∧ dx' = dx ∧ hl' = hl ∧ hsh' = hsh ∧ th' = th ∧ nd' = nd := ⟨_, _, _, _, _, _, rfl, rfl, rfl, rfl, rfl, rfl⟩
structure NameOk (x : Str) : Prop where
  ok : okS x = true
  okU : okS (Txt.upper x) = true
  len : x.length ≤ 1000
  lenU : (Txt.upper x).length ≤ 1000
set_option maxHeartbeats 4000000 in
theorem links_c (w : World) (news : List (Addr × Obj)) (l lp : Addr) (vs ps : List Value) (k kp : Nat) (os : List Int) (xs : List Str) (hm : (l, lstOf vs k) ∈ news) (hns : IntsAre vs os) (hO : OverOk os)
    (hmp : (lp, lstOf ps kp) ∈ news) (hps : StrsL ps xs) (hxl : xs.length = os.length) (hX : ∀ x ∈ xs, NameOk x) :
    Con w 348 4 [.ref l, .ref lp] [] news (fun r n' => ∃ x dx hl hsh th nd k' vs' tup, r = .ref x ∧ n' = tabLed x dx hl hsh th nd k' vs' (tup ++ news) ∧ RowsAre tup vs' (linksN os xs (os.length - 1)) ∧ (∀ p ∈ tup, p.1 ≠ hl) ∧
      (∀ p ∈ news, p.1 < hl) ∧ (@LT.lt Nat _ hl dx) ∧ (@LT.lt Nat _ dx x)) := by
  have hvl := hns.length
  have hle := hO.len
  have hat : ∀ i, i < os.length → ∃ t, vs[i]? = some (.int (os.getD i 0) t) := fun i hi => ints_at hns hi
  have hpt : ∀ i, i < os.length → ∃ t, ps[i]? = some (.str (xs.getD i (Str.ofString "")) t) := fun i hi => strs_at hps (by k_extra "omx") _
  have hxi : ∀ i, i < os.length → NameOk (xs.getD i (Str.ofString "")) := fun i hi => by
    refine hX _ ?_
    rw [List.getD_eq_getElem?_getD, List.getElem?_eq_getElem (by k_extra "omx")]
    exact List.getElem_mem _
  clear hX hps
  (w_top off; unfold Con; intro dpZ unZ gdZ cnZ nmZ igZ icZ moZ aZ ccdZ clZ outerZ A₀Z baseZ h₀Z LZ mZ meanZ mgZ mbZ sZ QZ EZ BZ FZ XZ NZ TZ hdZ huZ hret; refine wpAny_call ?_; k_dflt k_enter)
  k_extra "c_steps"
  k_extra "c_forT"
  k_extra "c_steps"
  rename News _ _ _ _ => N1
  rename Fr _ _ _ _ => F1
  refine iter_listX (vs := []) (k := 0) (fun _ m n => m = _ ∧ n = _) (by rfl) (by rintro i m n ⟨_, rfl⟩; k_mem) F1 N1 ⟨rfl, rfl⟩ ?_ ?_
  · intro i v m₁ n₁ h tk I io hv
    simp at hv
  intro m n h tk hq4 F2 N2
  refine hide fun GZ kGZ => ?_
  obtain ⟨rfl, rfl⟩ := hq4
  refine kGZ ?_
  clear kGZ GZ
  clear F1 N1
  k_extra "c_steps"
  rename News _ _ _ _ => N1
  rename Fr _ _ _ _ => F1
  rename IsRange _ _ _ _ _ _ _ _ => R1
  rename KLt _ _ => k9
  rename @LT.lt Nat _ _ _ => l2
  rename _ ∧ AllLt _ _ => l1
  rename ∀ p ∈ news, p.1 < _ => l0
  refine hide fun GZ kGZ => ?_
  refine exE6 (tab_names N1) ?_
  intro x dx hl hsh th nd hzZ
  refine andE6 hzZ ?_
  clear hzZ
  rintro e1 e2 e3 e4 e5 e6
  refine kGZ ?_
  clear kGZ GZ
  subst e1 e2 e3
  refine iter_rangeN (n := os.length - 1) [Str.ofString "k"] (fun i _ n => ∃ k' vs' tup, n = tabLed x dx hl hsh th nd k' vs' (tup ++ news) ∧ RowsAre tup vs' (linksN os xs i) ∧ ∀ p ∈ tup, p.1 ≠ hl) (by rfl) R1 (small_one (by k_extra "omx") (by k_extra "omx") (by k_extra "omx") (by k_extra "omx")) (by rw [rangeSize_nat]; k_extra "omx") F1 N1 ⟨0, [], [], by rw [e4, e5, e6]; rfl, .nil, by simp⟩ ?_ ?_
  · intro i tt f n1 h2 tk2 I io hi hq9 hI off F2 N2
    first | refine opqT fun Q9 hQ9 => ?_ | refine opq fun Q9 hQ9 => ?_
    refine hide fun GZ kGZ => ?_
    obtain ⟨k', vs', tup, rfl, hR, ht⟩ := hq9
    refine kGZ ?_
    clear kGZ GZ
    clear F1 N1
    simp only [offN] at F2
    obtain ⟨to, eo⟩ := hat (i + 1) (by k_extra "omx")
    have o1 := hO.lo i (by k_extra "omx")
    have o2 := hO.hi i (by k_extra "omx")
    obtain ⟨tx, ex⟩ := hpt (i + 1) (by k_extra "omx")
    obtain ⟨ty, ey⟩ := hpt (os.getD (i + 1) 0).toNat (by k_extra "omx")
    have hx := hxi (i + 1) (by k_extra "omx")
    have hy := hxi (os.getD (i + 1) 0).toNat (by k_extra "omx")
    have ek : (1 + (i : Int) * 1) = ((i + 1 : Nat) : Int) := by k_extra "omx"
    rw [ek] at F2
    have eo2 : vs[(((i + 1 : Nat) : Int)).toNat]? = _ := eo
    have ex2 : ps[(((i + 1 : Nat) : Int)).toNat]? = _ := ex
    have hst : linksN os xs (i + 1) = linksN os xs i ++ [(xs.getD (i + 1) (Str.ofString ""), Str.ofString ".."), (Txt.upper (xs.getD (os.getD (i + 1) 0).toNat (Str.ofString "")), letF (i + 1))] := rfl
    have hll := linksN_len os xs i
    have hlk := letF_okS i (by k_extra "omx")
    have N3 := led_drop (news := tabLed x dx hl hsh th nd k' vs' (tup ++ ((I, io) :: news))) N2 (by k_extra "c_sub")
    clear ek eo ex N2
    generalize os.getD (i + 1) 0 = o at eo2 o1 o2 ey hy hst
    generalize xs.getD (i + 1) (Str.ofString "") = X at ex2 hx hst
    generalize xs.getD o.toNat (Str.ofString "") = Y at ey hy hst
    have hoff : ∀ p ∈ (I, io) :: news, p.1 ≠ hl := by
      intro p hp
      rcases List.mem_cons.mp hp with rfl | hp
      · exact Ne.symm (off (hl, lstOf vs' k') (by simp [tabLed]))
      · exact Nat.ne_of_lt (l0 p hp)
    have hti : ∀ p ∈ tup, p.1 ≠ I := fun p hp => off p (by simp only [tabLed, List.mem_cons, List.mem_append, hp, true_or, or_true])
    have hyl : Y.length ≤ 1000 := hy.len
    have hxh : (@Ne Nat x hl) := Nat.ne_of_gt (Nat.lt_trans l1.1 l2)
    have hdh : (@Ne Nat dx hl) := Nat.ne_of_gt l1.1
    k_extra "c_stepm"
    (k_here; k_dflt (refine' con_use ((add_s w x dx hl hsh th nd k' vs' (linksN os xs i) tup ((I, io) :: news) X (Str.ofString "..") _ _ hR ht (by k_extra "omx") hxh hdh hoff hx.ok (by decide) hx.len (by decide) (.head _) hti)) ?k1 ?k2 ?k3 ?k4 ?k5 ?kd ?ku ?_; (case k1 => k_asm); (case k2 => k_asm); (case k3 => k_asm); (case k4 => k_asm); (case k5 => k_asm); (case kd => k_extra "c_room"); (case ku => k_extra "c_units"); k_whole))
    intro r3 h3 tk3 n3 F3 N4 hq6
    refine hide fun GZ kGZ => ?_
    obtain ⟨rfl, k3, vs3, tup3, rfl, hR3, ht3, hti3⟩ := hq6
    refine kGZ ?_
    clear kGZ GZ
    k_extra "c_stepm"
    (k_here; k_dflt (refine' con_use ((add_s w x dx hl hsh th nd k3 vs3 _ tup3 ((I, io) :: news) (Txt.upper Y) (letF (i + 1)) _ _ hR3 ht3 (by rw [List.length_append]; simp; k_extra "omx") hxh hdh hoff hy.okU hlk hy.lenU (by rw [letF_len]; decide) (.head _) hti3)) ?k1 ?k2 ?k3 ?k4 ?k5 ?kd ?ku ?_; (case k1 => k_asm); (case k2 => k_asm); (case k3 => k_asm); (case k4 => k_asm); (case k5 => k_asm); (case kd => k_extra "c_room"); (case ku => k_extra "c_units"); k_whole))
    intro r4 h4 tk4 n4 F4 N5 hq6
    refine hide fun GZ kGZ => ?_
    obtain ⟨rfl, k4, vs4, tup4, rfl, hR4, ht4, hti4⟩ := hq6
    refine kGZ ?_
    clear kGZ GZ
    k_extra "c_stepm"
    have N6 := led_drop (news := (I, io) :: tabLed x dx hl hsh th nd k4 vs4 (tup4 ++ news)) N5 (by k_extra "c_sub")
    refine hQ9 _ _ ?_; refine TurnEndJ.intro (by k_asm) N6 ?_ ⟨by k_extra "c_names", k4, vs4, tup4, rfl, ?_, ht4⟩
    · intro p hp
      simp only [tabLed, List.mem_cons, List.mem_append] at hp
      rcases hp with rfl | rfl | rfl | hp | hp
      · exact off (x, instObj 182 dx) (.head _)
      · exact off (dx, dictOf [⟨hsh, .str "_headers" th, .ref hl⟩] nd) (.tail _ (.head _))
      · exact off (hl, lstOf vs' k') (.tail _ (.tail _ (.head _)))
      · exact hti4 p hp
      · exact off p (by simp only [tabLed, List.mem_cons, List.mem_append, hp, or_true])
    · rw [hst, List.append_assoc] at *
      exact hR4
  · intro f n1 h2 tk2 hq4 F2 N2
    refine hide fun GZ kGZ => ?_
    obtain ⟨k', vs', tup, rfl, hR, ht⟩ := hq4
    refine kGZ ?_
    clear kGZ GZ
    simp only [offN] at F2
    clear F1 N1
    k_extra "c_steps"
    refine hret _ _ _ _ (by k_asm) (led_drop (by k_asm) (by k_extra "c_sub")) ⟨x, dx, hl, hsh, th, nd, _, _, tup, rfl, rfl, hR, ht, l0, l1.1, l2⟩
theorem slot_map_init : Slot "map" "__init__" "object.__init__" :=
  .of (owner := "object") (n := "__init__") (by rw [typeLookup_type, builtinLookup_eq_fast]; kernel_rfl) (by decide +kernel) (by decide +kernel) (by decide +kernel)
    (by first | exact .inl (by decide +kernel) | exact .inr (by decide +kernel)) (by rw [isSubtype_type]; kernel_rfl)
theorem slot_map_iter : Slot "map" "__iter__" "map.__iter__" :=
  .of (owner := "map") (n := "__iter__") (by rw [typeLookup_type, builtinLookup_eq_fast]; kernel_rfl) (by decide +kernel) (by decide +kernel) (by decide +kernel)
    (by first | exact .inl (by decide +kernel) | exact .inr (by decide +kernel)) (by rw [isSubtype_type]; kernel_rfl)
theorem slot_map_next : Slot "map" "__next__" "map.__next__" :=
  .of (owner := "map") (n := "__next__") (by rw [typeLookup_type, builtinLookup_eq_fast]; kernel_rfl) (by decide +kernel) (by decide +kernel) (by decide +kernel)
    (by first | exact .inl (by decide +kernel) | exact .inr (by decide +kernel)) (by rw [isSubtype_type]; kernel_rfl)
theorem args_map_iter (a : Value) : argsOk "map.__iter__" ⟨[a], []⟩ := by unfold argsOk; kernel_rfl
theorem args_map_next (a : Value) : argsOk "map.__next__" ⟨[a], []⟩ := by unfold argsOk; kernel_rfl
theorem entry_map_iter : entryFor table "map.__iter__" = some Builtin.«dict_keyiterator.__iter__» :=
  entryFor_alias (id' := "dict_keyiterator.__iter__") (by kernel_rfl) (by first | rfl | decide +kernel | (unfold String.splitOn; simp +decide [String.splitOnAux])) (by decide +kernel) (by kernel_rfl)
theorem entry_map_next : entryFor table "map.__next__" = some Builtin.«map.__next__» := entryFor_of_tree (by kernel_rfl)
theorem entry_map_new : entryFor table "map.__new__" = some Builtin.«map.__new__» := entryFor_of_tree (by kernel_rfl)
theorem mro_map : mroOf (.type "map") = pure [.type "map", .type "object"] := by rw [mroOf_type]; kernel_rfl
theorem lookup_map_new : typeLookup (.type "map") "__new__" = pure (some (.builtin "map.__new__")) := by rw [typeLookup_type, builtinLookup_eq_fast]; kernel_rfl
theorem called_map : TypeCalled "map" "map.__new__" "object.__init__" :=
  ⟨by decide +kernel, by decide +kernel, ⟨_, _, mro_map⟩, madeBy_type mro_map lookup_map_new (by decide +kernel), by decide +kernel, by rw [isSubtype_type]; kernel_rfl, slot_map_init⟩
theorem typeCall_map_2 (a b : Value) : checkTypeCall "map" ⟨[a, b], []⟩ = pure () := by kernel_rfl
theorem newCall_map_2 (a b : Value) : checkBuiltinCall "map.__new__" ⟨[.type "map", a, b], []⟩ = pure () := by kernel_rfl
theorem sub_map : isSubtype (.type "map") (.type "map") = pure true := by rw [isSubtype_type]; kernel_rfl
theorem map_no_len : typeLookup (.type "map") "__len__" = pure none := by rw [typeLookup_type, builtinLookup_eq_fast]; kernel_rfl
theorem map_no_hint : typeLookup (.type "map") "__length_hint__" = pure none := by rw [typeLookup_type, builtinLookup_eq_fast]; kernel_rfl

noncomputable abbrev mapObj (T : Addr) (f : Value) : Obj := { cls := .type "map", dict := none, data := .fields #[.ref T, f], slots := #[] }
noncomputable abbrev liObj (l : Addr) (k : Nat) : Obj := { cls := .type "list_iterator", data := .fields #[.ref l, rawInt k] }
noncomputable abbrev mapH1 (h : Heap) (l : Addr) : Heap := h.push { cls := .type "list_iterator", data := .fields #[.ref l, .int 0 0] }
noncomputable abbrev mapH2 (h : Heap) (l : Addr) : Heap := (mapH1 h l).push { cls := .type "tuple", data := .seq #[.ref h.objs.size] }
noncomputable abbrev mapH3 (h : Heap) (l : Addr) (f : Value) : Heap := (mapH2 h l).push (mapObj (mapH1 h l).objs.size f)
set_option maxHeartbeats 4000000 in
theorem meets_map_new (l : Addr) (f : Value) (xs : Array Value) :
    Meets (Builtin.«map.__new__» ⟨[.type "map", f, .ref l], []⟩) (fun _ R s => s.heap.IsList l xs ∧ R (.ok (.ret (.ref (mapH2 s.heap l).objs.size))) { s with heap := mapH3 s.heap l f }) :=
  .of_wp fun prog w A R s h => by
    obtain ⟨hp, g, d, tk, os⟩ := s; obtain ⟨hl1, h⟩ := h
    have hsub := sub_map
    have hL1 : Heap.IsList (Shared.heap ⟨hp, g, d, tk, os⟩) l xs := hl1
    wp_walk using wpAny_pyIter_list hL1
    exact ⟨_, rfl, h⟩
section
variable {prog : Program} {w : World} {A : Around} {E : Value → Shared → Prop} {s : Shared} {h₀ : Heap} {L : Addr} {m : Str → Option Value} {news : List (Addr × Obj)}
noncomputable abbrev mapLed (M T I : Addr) (io : Obj) (f : Value) (news : List (Addr × Obj)) : List (Addr × Obj) := (M, mapObj T f) :: (T, tupOf [.ref I]) :: (I, io) :: news
noncomputable def IterO (l : Addr) (k : Nat) (o : Obj) : Prop := o.cls = .type "list_iterator" ∧ o.data = .fields #[.ref l, rawInt k]
theorem call_map_K {l : Addr} {f : Value} {vs : List Value} {n : Nat} {Q : Value → Shared → Prop} (F : Fr h₀ L s.heap m) (N : News h₀ L s.heap news) (hm : (l, lstOf vs n) ∈ news)
    (h : ∀ h' I, Fr h₀ L h' m → News h₀ L h' (mapLed (I + 1 + 1) (I + 1) I (liObj l 0) f news) → (∀ p ∈ news, p.1 < I) → Q (.ref (I + 1 + 1)) { s with heap := h' }) : wpAny (model prog w) A (call (.type "map") [f, .ref l]) Q E s := by
  have hl : s.heap.IsList l vs.toArray := ⟨_, (N _ hm).1, rfl, n, rfl⟩
  refine callType_new called_map (by decide) (typeCall_map_2 _ _) (newCall_map_2 _ _) (fun obj => PySem.F.args_object_init_3 obj _ _) entry_map_new (meets_map_new l f vs.toArray) ⟨hl, ?_⟩
  have z1 : (mapH1 s.heap l).objs.size = s.heap.objs.size + 1 := Heap.size_push ..
  have z2 : (mapH2 s.heap l).objs.size = s.heap.objs.size + 1 + 1 := by rw [Heap.size_push, z1]
  have hlt : ∀ p ∈ news, p.1 < s.heap.objs.size := fun p hp => Heap.lt_size (N p hp).1
  have g3 : (mapH3 s.heap l f).get? (mapH2 s.heap l).objs.size = some _ := Heap.get?_push_size _ rfl
  have g2 : (mapH3 s.heap l f).get? (mapH1 s.heap l).objs.size = some _ := Heap.get?_push_of_some _ (Heap.get?_push_size _ rfl)
  have g1 : (mapH3 s.heap l f).get? s.heap.objs.size = some _ := Heap.get?_push_of_some _ (Heap.get?_push_of_some _ (Heap.get?_push_size _ rfl))
  have hF := ((F.push { cls := .type "list_iterator", data := .fields #[.ref l, .int 0 0] }).push { cls := .type "tuple", data := .seq #[.ref s.heap.objs.size] }).push (mapObj (mapH1 s.heap l).objs.size f)
  have new0 : ∀ a, s.heap.objs.size ≤ a → (@Ne Nat a L) ∧ h₀.get? a = none := fun a ha => by
    refine ⟨fun e => ?_, ?_⟩
    · subst e; exact absurd F.ns.lt (Nat.not_lt.mpr ha)
    · cases e : h₀.get? a with
      | none => rfl
      | some o => exact absurd (Heap.lt_size (F.keep _ _ e)) (Nat.not_lt.mpr ha)
  show _ ∧ _
  refine ⟨⟨_, g3, rfl⟩, ?_⟩
  rw [z2] at g3 ⊢
  rw [z1] at g2 g3
  refine h _ s.heap.objs.size hF ?_ hlt
  intro p hp
  rcases List.mem_cons.mp hp with rfl | hp
  · exact ⟨g3, new0 _ (by k_extra "omx")⟩
  rcases List.mem_cons.mp hp with rfl | hp
  · exact ⟨g2, new0 _ (by k_extra "omx")⟩
  rcases List.mem_cons.mp hp with rfl | hp
  · exact ⟨g1, new0 _ (by k_extra "omx")⟩
  · exact ⟨Heap.get?_push_of_some _ (Heap.get?_push_of_some _ (Heap.get?_push_of_some _ (N p hp).1)), (N p hp).2⟩
theorem news_chg {h h' : Heap} {D : Addr} {o o' : Obj} {pre post : List (Addr × Obj)} (N : News h₀ L h (pre ++ (D, o) :: post)) (h1 : ∀ p ∈ pre, p.1 ≠ D) (h2 : ∀ p ∈ post, p.1 ≠ D) (hs : Heap.SameBut D h h') (ho : h'.get? D = some o') : News h₀ L h' (pre ++ (D, o') :: post) := news_set N h1 h2 hs ho
theorem map_next_item {M T I l : Addr} {io : Obj} {f v : Value} {vs : List Value} {n k : Nat} {Q : Option Value → Shared → Prop} (F : Fr h₀ L s.heap m) (N : News h₀ L s.heap (mapLed M T I io f news)) (hio : IterO l k io) (hI : ∀ p ∈ news, p.1 ≠ I) (hM : (@Ne Nat M I)) (hT : (@Ne Nat T I))
    (hl : (l, lstOf vs n) ∈ news) (hx : vs[k]? = some v)
    (hcall : ∀ led (s₁ : Shared) (Q₁ : Value → Shared → Prop) (E₁ : Value → Shared → Prop), Fr h₀ L s₁.heap m → News h₀ L s₁.heap led → (∀ h' tk', Fr h₀ L h' m → News h₀ L h' led → Q₁ v { s₁ with heap := h', toks := tk' }) → wpAny (model prog w) A.in1 (call f [v]) Q₁ E₁ s₁)
    (hQ : ∀ h' tk' io', IterO l (k + 1) io' → Fr h₀ L h' m → News h₀ L h' (mapLed M T I io' f news) → Q (some v) { s with heap := h', toks := tk' }) : wpAny (model prog w) A (pyNext (.ref M)) Q E s := by
  have gM := (N (M, mapObj T f) (.head _)).1
  have gT := (N (T, tupOf [.ref I]) (.tail _ (.head _))).1
  have gI := (N (I, io) (.tail _ (.tail _ (.head _)))).1
  have gl := (N _ (.tail _ (.tail _ (.tail _ hl)))).1
  have hTy : s.TypeIs (.ref M) "map" := ⟨_, gM, rfl⟩
  unfold pyNext
  refine wpAny_bind (wpAny_attempt (wpAny_callSpecial?_slot (name := Str.ofString "__next__") hTy slot_map_next (wpAny_call_entry slot_map_next hTy entry_map_next ?_ (args_map_next _))))
  show wpAny _ _ (PySem.field (.ref M) 0 >>= _) _ _ _
  refine wpAny_bind (wpAny_field gM rfl (x := .ref T) rfl ?_)
  refine wpAny_bind (wpAny_seqItems gT rfl ?_)
  dsimp only
  refine wpAny_bind ?_
  refine wpAny_arrayLoop ?_
  rw [List.forIn_cons]
  refine wpAny_bind (wpAny_bind (wpAny_holding ?_))
  refine wpAny_nextOf_list_item (i := k) (items := vs.toArray) ⟨_, gI, hio.1, hio.2⟩ ⟨_, gl, rfl, n, rfl⟩ (by simpa using hx) fun h1 i1 b1 => ?_
  refine wpAny_pure ?_
  dsimp only
  rw [List.forIn_nil]
  refine wpAny_pure ?_
  obtain ⟨io', gI', hc', hd'⟩ := i1
  have N1 : News h₀ L h1 (mapLed M T I io' f news) := news_set (pre := [(M, mapObj T f), (T, tupOf [.ref I])]) N (by
    intro p hp
    simp only [List.mem_cons, List.not_mem_nil, or_false] at hp
    rcases hp with rfl | rfl
    · exact hM
    · exact hT) hI b1 gI'
  have F1 : Fr h₀ L h1 m := F.change b1 (N (I, io) (.tail _ (.tail _ (.head _)))).2.1 (N (I, io) (.tail _ (.tail _ (.head _)))).2.2
  have gM1 := (N1 (M, mapObj T f) (.head _)).1
  refine wpAny_bind (wpAny_field gM1 rfl (x := f) rfl ?_)
  refine wpAny_bind (wpAny_holding ?_)
  refine hcall (mapLed M T I io' f news) _ _ _ F1 N1 fun h2 tk2 F2 N2 => ?_
  refine wpAny_bind (wpAny_letGo ?_)
  refine wpAny_pure ⟨_, rfl, wpAny_pure ?_⟩
  exact hQ h2 tk2 io' ⟨hc', hd'⟩ F2 N2
theorem map_next_end {M T I l : Addr} {io : Obj} {f : Value} {vs : List Value} {n : Nat} {Q : Option Value → Shared → Prop} (hh : A.handled = none) (F : Fr h₀ L s.heap m) (N : News h₀ L s.heap (mapLed M T I io f news)) (hio : IterO l vs.length io) (hI : ∀ p ∈ news, p.1 ≠ I) (hM : (@Ne Nat M I)) (hT : (@Ne Nat T I))
    (hl : (l, lstOf vs n) ∈ news)
    (hQ : ∀ h' tk', Fr h₀ L h' m → News h₀ L h' ((M, mapObj T f) :: (T, tupOf [.ref I]) :: news) → Q none { s with heap := h', toks := tk' }) : wpAny (model prog w) A (pyNext (.ref M)) Q E s := by
  have gM := (N (M, mapObj T f) (.head _)).1
  have gT := (N (T, tupOf [.ref I]) (.tail _ (.head _))).1
  have zI := N (I, io) (.tail _ (.tail _ (.head _)))
  have gl := (N _ (.tail _ (.tail _ (.tail _ hl)))).1
  have hTy : s.TypeIs (.ref M) "map" := ⟨_, gM, rfl⟩
  unfold pyNext
  refine wpAny_bind (wpAny_attempt (wpAny_callSpecial?_slot (name := Str.ofString "__next__") hTy slot_map_next (wpAny_call_entry slot_map_next hTy entry_map_next ?_ (args_map_next _))))
  show wpAny _ _ (PySem.field (.ref M) 0 >>= _) _ _ _
  refine wpAny_bind (wpAny_field gM rfl (x := .ref T) rfl ?_)
  refine wpAny_bind (wpAny_seqItems gT rfl ?_)
  dsimp only
  refine wpAny_bind ?_
  refine wpAny_arrayLoop ?_
  rw [List.forIn_cons]
  refine wpAny_bind (wpAny_bind (wpAny_holding ?_))
  refine wpAny_nextOf_list_end hh (i := vs.length) (items := vs.toArray) ⟨_, zI.1, hio.1, hio.2⟩ ⟨_, gl, rfl, n, rfl⟩ (by simp) fun h1 e b1 he => ?_
  obtain ⟨o, ho, hc⟩ := he
  refine wpAny_bind (wpAny_isInstance (T := "StopIteration") (b := true) ⟨o, ho, hc⟩ isSubtype_stop ?_)
  refine wpAny_pure (hQ h1 s.toks ?_ ?_)
  · obtain ⟨oL, a1, a2, hoL, a3⟩ := F.ns
    refine ⟨⟨oL, a1, a2, b1 L _ (Ne.symm zI.2.1) hoL, a3⟩, fun b x e => b1 b x (fun hb => ?_) (F.keep b x e), F.above⟩
    subst hb
    rw [zI.2.2] at e
    cases e
  · intro p hp
    have hne : p.1 ≠ I := by
      rcases List.mem_cons.mp hp with rfl | hp
      · exact hM
      rcases List.mem_cons.mp hp with rfl | hp
      · exact hT
      · exact hI p hp
    have z := N p (by
      rcases List.mem_cons.mp hp with rfl | hp
      · exact .head _
      rcases List.mem_cons.mp hp with rfl | hp
      · exact .tail _ (.head _)
      · exact .tail _ (.tail _ (.tail _ hp)))
    exact ⟨b1 _ _ hne z.1, z.2⟩
theorem mapSeq_push (xs : List Value) (v : Value) (c : Nat) : Obj.mapSeq (·.push v) (lstOf xs c) = lstOf (xs ++ [v]) (c + 1) := by
  simp [Obj.mapSeq, lstOf]
theorem extend_map {M T I l S : Addr} {f : Value} {vs : List Value} {n : Nat} {R : Result → Shared → Prop} (hh : A.handled = none) (hI : ∀ p ∈ news, p.1 ≠ I) (hM : (@Ne Nat M I)) (hT : (@Ne Nat T I)) (hS : ∀ p ∈ news, p.1 ≠ S) (hSM : (@Ne Nat M S)) (hST : (@Ne Nat T S)) (hSI : (@Ne Nat I S))
    (hl : (l, lstOf vs n) ∈ news) (hz : vs.length ≤ 1000) (res : Value)
    (hcall : ∀ v ∈ vs, ∀ led (s₁ : Shared) (Q₁ : Value → Shared → Prop) (E₁ : Value → Shared → Prop), Fr h₀ L s₁.heap m → News h₀ L s₁.heap led → (∀ h' tk', Fr h₀ L h' m → News h₀ L h' led → Q₁ v { s₁ with heap := h', toks := tk' }) → wpAny (model prog w) A.in1.in1 (call f [v]) Q₁ E₁ s₁)  :
    ∀ (j i : Nat) (s : Shared) (io : Obj) (c : Nat), i + j = vs.length → IterO l i io → Fr h₀ L s.heap m → News h₀ L s.heap (mapLed M T I io f ((S, lstOf (vs.take i) c) :: news)) →
      (∀ h' tk' c', Fr h₀ L h' m → News h₀ L h' ((S, lstOf vs c') :: news) → R (.ok (.ret res)) { s with heap := h', toks := tk' }) →
      codeAny (model prog w) A (.builtin "list.extend.loop" ⟨[.ref S, .ref M, res], []⟩) R s := by
  intro j
  induction j with
  | zero =>
    intro i s io c hij hio F N hR
    have hi : i = vs.length := by k_extra "omx"
    subst hi
    refine codeAny_builtin PySem.F.entry_extend_loop ?_
    rw [Around.under_plainId PySem.F.plain_extend_loop _]
    show wpAny _ A.in1 (pyNext (.ref M) >>= _) _ _ s
    refine wpAny_bind (map_next_end hh F N hio (fun p hp => ?_) hM hT (.tail _ hl) fun h' tk' F' N' => wpAny_pure (hR h' tk' c F' ?_))
    · rcases List.mem_cons.mp hp with rfl | hp
      · exact Ne.symm hSI
      · exact hI p hp
    · rw [List.take_length] at N'
      exact fun p hp => N' p (.tail _ (.tail _ hp))
  | succ j ih =>
    intro i s io c hij hio F N hR
    have hlt : i < vs.length := by k_extra "omx"
    refine codeAny_builtin PySem.F.entry_extend_loop ?_
    rw [Around.under_plainId PySem.F.plain_extend_loop _]
    show wpAny _ A.in1 (pyNext (.ref M) >>= _) _ _ s
    refine wpAny_bind (map_next_item (v := vs[i]) F N hio (fun p hp => ?_) hM hT (.tail _ hl) (List.getElem?_eq_getElem hlt) (hcall _ (List.getElem_mem _)) fun h' tk' io' hio' F' N' => ?_)
    · rcases List.mem_cons.mp hp with rfl | hp
      · exact Ne.symm hSI
      · exact hI p hp
    have gS := N' (S, lstOf (vs.take i) c) (.tail _ (.tail _ (.tail _ (.head _))))
    show wpAny _ A.in1 (updateSeq S (·.push vs[i]) >>= _) _ _ _
    refine wpAny_bind ?_
    have hsb := Heap.SameBut.update h' S (Obj.mapSeq (·.push vs[i]))
    have ho := Heap.get?_update_self (Obj.mapSeq (·.push vs[i])) gS.1 rfl
    have htk : vs.take (i + 1) = vs.take i ++ [vs[i]] := by rw [List.take_add_one, List.getElem?_eq_getElem hlt]; rfl
    refine wpAny_updateSeq gS.1 rfl (wpAny_pure ⟨plainId_quiet PySem.F.plain_extend_loop _, ih (i + 1) _ io' (c + 1) (by k_extra "omx") hio' (F'.change hsb gS.2.1 gS.2.2) ?_ fun h'' tk'' c' F'' N'' => hR h'' tk'' c' F'' N''⟩) (by rw [sizeLine_eq]; simp; k_extra "omx") (by rw [sizeLine_eq]; simp; k_extra "omx")
    refine news_set (pre := [(M, mapObj T f), (T, tupOf [.ref I]), (I, io')]) N' ?_ hS hsb ?_
    · intro p hp
      simp only [List.mem_cons, List.not_mem_nil, or_false] at hp
      rcases hp with rfl | rfl | rfl
      · exact hSM
      · exact hST
      · exact hSI
    · rw [ho, htk]
      exact congrArg some (mapSeq_push _ _ _)
theorem mapSeq_touch (c : Nat) : Obj.mapSeq (·.pop) (Obj.mapSeq (·.push Value.none) (lstOf [] c)) = lstOf [] (c + 1 + 1) := by
  simp [Obj.mapSeq, lstOf]
theorem pyIter_map {M T : Addr} {f : Value} {Q : Value → Shared → Prop} (hM : s.heap.get? M = some (mapObj T f)) (h : Q (.ref M) s) : wpAny (model prog w) A (pyIter (.ref M)) Q E s := by
  have hT : s.TypeIs (.ref M) "map" := ⟨_, hM, rfl⟩
  refine wpAny_pyIter_slot hT slot_map_iter (wpAny_call_entry slot_map_iter hT entry_map_iter ?_ (args_map_iter _))
  show wpAny _ _ (ret (.ref M)) _ _ s
  exact wpAny_pure ⟨_, rfl, "map", _, hT, slot_map_next.lookup, h⟩
theorem collect_map {M T I l : Addr} {io : Obj} {f : Value} {vs : List Value} {n : Nat} {Q : List Value → Shared → Prop} (hh : A.handled = none) (F : Fr h₀ L s.heap m) (N : News h₀ L s.heap (mapLed M T I io f news)) (hio : IterO l 0 io)
    (hI : ∀ p ∈ news, p.1 ≠ I) (hM : (@Ne Nat M I)) (hT : (@Ne Nat T I)) (hl : (l, lstOf vs n) ∈ news) (hz : vs.length ≤ 1000)
    (hcall : ∀ v ∈ vs, ∀ led (s₁ : Shared) (Q₁ : Value → Shared → Prop) (E₁ : Value → Shared → Prop), Fr h₀ L s₁.heap m → News h₀ L s₁.heap led → (∀ h' tk', Fr h₀ L h' m → News h₀ L h' led → Q₁ v { s₁ with heap := h', toks := tk' }) → wpAny (model prog w) A.in1.in1 (call f [v]) Q₁ E₁ s₁)
    (hQ : ∀ h' tk', Fr h₀ L h' m → News h₀ L h' news → Q vs { s with heap := h', toks := tk' }) : wpAny (model prog w) A (collect (.ref M)) Q E s := by
  have lt : ∀ p ∈ mapLed M T I io f news, p.1 < s.heap.objs.size := fun p hp => Heap.lt_size (N p hp).1
  have hSM : (@Ne Nat M s.heap.objs.size) := Nat.ne_of_lt (lt _ (.head _))
  have hST : (@Ne Nat T s.heap.objs.size) := Nat.ne_of_lt (lt (T, tupOf [.ref I]) (.tail _ (.head _)))
  have hSI : (@Ne Nat I s.heap.objs.size) := Nat.ne_of_lt (lt (I, io) (.tail _ (.tail _ (.head _))))
  have hS : ∀ p ∈ news, p.1 ≠ s.heap.objs.size := fun p hp => Nat.ne_of_lt (lt p (.tail _ (.tail _ (.tail _ hp))))
  have gM := (N (M, mapObj T f) (.head _)).1
  have gM1 : (s.heap.push { cls := .type "list", data := .seq ([] : List Value).toArray }).get? M = some (mapObj T f) := Heap.get?_push_of_some _ gM
  have hTy : ({ s with heap := s.heap.push { cls := .type "list", data := .seq ([] : List Value).toArray } } : Shared).TypeIs (.ref M) "map" := ⟨_, gM1, rfl⟩
  unfold collect
  refine wpAny_bind (wpAny_runValue (codeAny_builtin PySem.F.entry_proto_collect ?_))
  rw [Around.under_plainId PySem.F.plain_proto_collect _]
  show wpAny _ A.in1 (newList [] >>= fun l => again (.builtin "list.__iadd__" ⟨[l, .ref M], []⟩)) _ _ s
  refine wpAny_bind (wpAny_newObj_type ?_)
  refine wpAny_pure ⟨plainId_quiet PySem.F.plain_list_iadd _, codeAny_builtin PySem.F.entry_list_iadd ?_⟩
  rw [Around.under_plainId PySem.F.plain_list_iadd _]
  show wpAny _ A.in1 (Builtin.List.listExtendWith (.ref s.heap.objs.size) (.ref M) (.ref s.heap.objs.size)) _ _ _
  unfold Builtin.List.listExtendWith
  refine wpAny_bind (wpAny_typeOf hTy ?_)
  have h1 : Builtin.List.listSameRef (.ref s.heap.objs.size) (.ref M) = false := by simp [Builtin.List.listSameRef, Ne.symm hSM]
  have h2 : (Value.type "map" == Value.type "list") = false := by decide
  have h3 : (Value.type "map" == Value.type "tuple") = false := by decide
  simp only [h1, h2, h3, Bool.or_false, Bool.false_eq_true, if_false]
  refine wpAny_bind (pyIter_map gM1 ?_)
  refine wpAny_bind (wpAny_holding ?_)
  unfold Builtin.List.listLengthHint
  refine wpAny_bind (wpAny_specialOf hTy map_no_len ?_)
  show wpAny _ A.in1 (specialOf (Value.ref M) (Str.ofString "__length_hint__") >>= _) _ _ _
  refine wpAny_bind (wpAny_specialOf hTy map_no_hint ?_)
  refine wpAny_pure ?_
  show wpAny _ A.in1 (rule "list.extend.makes-room" >>= fun _ => Builtin.List.listTouch (.ref s.heap.objs.size) >>= fun _ =>
    again (.builtin "list.extend.loop" ⟨[.ref s.heap.objs.size, .ref M, .ref s.heap.objs.size], []⟩)) _ _ _
  refine wpAny_bind (wpAny_rule ?_)
  have F1 := F.push { cls := .type "list", data := .seq ([] : List Value).toArray }
  have new0 : (@Ne Nat s.heap.objs.size L) ∧ h₀.get? s.heap.objs.size = none := by
    refine ⟨fun e => ?_, ?_⟩
    · exact absurd F.ns.lt (e ▸ Nat.lt_irrefl _)
    · cases e : h₀.get? s.heap.objs.size with
      | none => rfl
      | some o => exact absurd (Heap.lt_size (F.keep _ _ e)) (Nat.lt_irrefl _)
  have N1 : News h₀ L (s.heap.push { cls := .type "list", data := .seq ([] : List Value).toArray }) (mapLed M T I io f ((s.heap.objs.size, lstOf [] 0) :: news)) := by
    intro p hp
    have old : ∀ p ∈ mapLed M T I io f news, (s.heap.push { cls := .type "list", data := .seq ([] : List Value).toArray }).get? p.1 = some p.2 ∧ p.1 ≠ L ∧ h₀.get? p.1 = none := fun p hp => ⟨Heap.get?_push_of_some _ (N p hp).1, (N p hp).2⟩
    rcases List.mem_cons.mp hp with rfl | hp
    · exact old _ (.head _)
    rcases List.mem_cons.mp hp with rfl | hp
    · exact old _ (.tail _ (.head _))
    rcases List.mem_cons.mp hp with rfl | hp
    · exact old _ (.tail _ (.tail _ (.head _)))
    rcases List.mem_cons.mp hp with rfl | hp
    · exact ⟨Heap.get?_push_size _ rfl, new0⟩
    · exact old _ (.tail _ (.tail _ (.tail _ hp)))
  have hpre : ∀ p ∈ [(M, mapObj T f), (T, tupOf [.ref I]), (I, io)], p.1 ≠ s.heap.objs.size := by
    intro p hp
    simp only [List.mem_cons, List.not_mem_nil, or_false] at hp
    rcases hp with rfl | rfl | rfl
    · exact hSM
    · exact hST
    · exact hSI
  have gS := (N1 (s.heap.objs.size, lstOf [] 0) (.tail _ (.tail _ (.tail _ (.head _))))).1
  refine wpAny_bind ?_
  show wpAny _ A.in1 (updateSeq s.heap.objs.size (·.push .none) >>= fun _ => updateSeq s.heap.objs.size (·.pop)) _ _ _
  refine wpAny_bind (wpAny_updateSeq gS rfl ?_)
  have sb1 := Heap.SameBut.update (s.heap.push { cls := .type "list", data := .seq ([] : List Value).toArray }) s.heap.objs.size (Obj.mapSeq (·.push Value.none))
  have ho1 := Heap.get?_update_self (Obj.mapSeq (·.push Value.none)) gS rfl
  have N2 := news_set (pre := [(M, mapObj T f), (T, tupOf [.ref I]), (I, io)]) N1 hpre hS sb1 ho1
  have F2 := F1.change sb1 new0.1 new0.2
  refine wpAny_updateSeq ho1 rfl ?_
  have sb2 := Heap.SameBut.update ((s.heap.push { cls := .type "list", data := .seq ([] : List Value).toArray }).update s.heap.objs.size (Obj.mapSeq (·.push Value.none))) s.heap.objs.size (Obj.mapSeq (·.pop))
  have ho2 := Heap.get?_update_self (Obj.mapSeq (·.pop)) ho1 rfl
  have N3 := news_set (pre := [(M, mapObj T f), (T, tupOf [.ref I]), (I, io)]) N2 hpre hS sb2 ho2
  have F3 := F2.change sb2 new0.1 new0.2
  rw [mapSeq_touch] at N3
  refine wpAny_pure ⟨plainId_quiet PySem.F.plain_extend_loop _, extend_map (A := A) hh hI hM hT hS hSM hST hSI hl hz _ hcall vs.length 0 _ io 2 (by k_extra "omx") hio F3 N3 fun h' tk' c' F' N' => ?_⟩
  show wpAny _ A (load s.heap.objs.size >>= _) _ _ _
  refine wpAny_bind (wpAny_load (N' _ (.head _)).1 ?_)
  exact wpAny_pure (hQ h' tk' F' (fun p hp => N' p (.tail _ hp)))
set_option maxHeartbeats 4000000 in
theorem code_tuple_new_map {M T I l : Addr} {io : Obj} {f : Value} {vs : List Value} {n : Nat} {Q₁ : Value → Shared → Prop} (hh : A.handled = none) (F : Fr h₀ L s.heap m) (N : News h₀ L s.heap (mapLed M T I io f news)) (hio : IterO l 0 io)
    (hI : ∀ p ∈ news, p.1 ≠ I) (hM : (@Ne Nat M I)) (hT : (@Ne Nat T I)) (hl : (l, lstOf vs n) ∈ news) (hz : vs.length ≤ 1000)
    (hcall : ∀ v ∈ vs, ∀ led (s₁ : Shared) (Q₁ : Value → Shared → Prop) (E₁ : Value → Shared → Prop), Fr h₀ L s₁.heap m → News h₀ L s₁.heap led → (∀ h' tk', Fr h₀ L h' m → News h₀ L h' led → Q₁ v { s₁ with heap := h', toks := tk' }) → wpAny (model prog w) A.in1.in1.in1 (call f [v]) Q₁ E₁ s₁)
    (hQ : ∀ h' tk', Fr h₀ L h' m → News h₀ L h' news → Q₁ (.ref h'.objs.size) { s with heap := h'.push { cls := .type "tuple", data := .seq vs.toArray }, toks := tk' }) :
    codeAny (model prog w) A (.call (.builtin "tuple.__new__") ⟨[.type "tuple", .ref M], []⟩) (wants Q₁ E) s := by
  refine codeAny_of_tree ?_
  show wpAny _ A.in1 (do checkBuiltinCall "tuple.__new__" ⟨[.type "tuple", .ref M], []⟩; again (.builtin "tuple.__new__" ⟨[.type "tuple", .ref M], []⟩)) _ _ s
  refine wpAny_bind (wpAny_of_eq (PySem.F.newCall_tuple_1 _) (wpAny_pure ⟨plainId_quiet PySem.F.plain_tuple_new _, codeAny_builtin PySem.F.entry_tuple_new ?_⟩))
  rw [Around.under_plainId PySem.F.plain_tuple_new _]
  have hsub := sub_tuple_self
  have hinit := init_tuple_lookup
  have hmh := madeHere_tuple
  have hTI : s.TypeIs (.ref M) "map" := ⟨_, (N (M, mapObj T f) (.head _)).1, rfl⟩
  have hcol := fun {Q : List Value → Shared → Prop} {E : Value → Shared → Prop} => collect_map (prog := prog) (w := w) (A := A.in1) (E := E) (Q := Q) hh F N hio hI hM hT hl hz hcall
  wp_walk using wpAny_typeOf hTI, hcol
  intro h' tk' F' N'
  show wpAny _ _ (Builtin.Tuple.tupleExact vs.toArray >>= fun v => ret v) _ _ _
  unfold Builtin.Tuple.tupleExact
  refine wpAny_bind (wpAny_newObj_type ?_ (by show vs.toArray.size ≤ sizeLine; rw [sizeLine_eq]; simp; k_extra "omx"))
  exact wpAny_pure (hQ h' tk' F' N')
theorem call_tuple_map {M T I l : Addr} {io : Obj} {f : Value} {vs : List Value} {n : Nat} {Q : Value → Shared → Prop} (hh : A.handled = none) (F : Fr h₀ L s.heap m) (N : News h₀ L s.heap (mapLed M T I io f news)) (hio : IterO l 0 io)
    (hI : ∀ p ∈ news, p.1 ≠ I) (hM : (@Ne Nat M I)) (hT : (@Ne Nat T I)) (hl : (l, lstOf vs n) ∈ news) (hz : vs.length ≤ 1000)
    (hcall : ∀ v ∈ vs, ∀ led (s₁ : Shared) (Q₁ : Value → Shared → Prop) (E₁ : Value → Shared → Prop), Fr h₀ L s₁.heap m → News h₀ L s₁.heap led → (∀ h' tk', Fr h₀ L h' m → News h₀ L h' led → Q₁ v { s₁ with heap := h', toks := tk' }) → wpAny (model prog w) A.in1.in1.in1.in1 (call f [v]) Q₁ E₁ s₁)
    (hQ : ∀ h' tk' D, Fr h₀ L h' m → News h₀ L h' ((D, tupOf vs) :: news) → (∀ p ∈ news, p.1 < D) → Q (.ref D) { s with heap := h', toks := tk' }) :
    wpAny (model prog w) A (call (.type "tuple") [.ref M]) Q E s := by
  refine callType_codes (Q₁ := fun obj s₁ => s₁.TypeIs obj "tuple" ∧ Q obj s₁) PySem.F.called_tuple (PySem.F.typeCall_tuple_1 _) PySem.F.entry_object_init
    (code_tuple_new_map (A := A.in1) hh F N hio hI hM hT hl hz hcall fun h' tk' F' N' => ⟨⟨_, Heap.get?_push_size _ rfl, rfl⟩, hQ _ tk' h'.objs.size (F'.push _) ?_ (fun p hp => Heap.lt_size (N' p hp).1)⟩) fun obj s₁ h₁ => ?_
  · intro p hp
    rcases List.mem_cons.mp hp with rfl | hp
    · refine ⟨Heap.get?_push_size _ rfl, fun e => ?_, ?_⟩
      · have e : h'.objs.size = L := e
        exact absurd F'.ns.lt (e ▸ Nat.lt_irrefl _)
      · cases e : h₀.get? h'.objs.size with
        | none => rfl
        | some o => exact absurd (Heap.lt_size (F'.keep _ _ e)) (Nat.lt_irrefl _)
    · exact ⟨Heap.get?_push_of_some _ (N' p hp).1, (N' p hp).2⟩
  · exact ⟨h₁.1, PySem.F.args_object_init_2 obj _, object_init_meets PySem.F.called_tuple.init.lookup PySem.F.called_tuple.made (by decide) prog w A.in1 _ s₁ ⟨h₁.1, rfl, h₁.2⟩⟩
end
section
variable {prog : Program} {w : World} {A : Around} {E : Value → Shared → Prop} {s : Shared} {h₀ : Heap} {L : Addr} {m : Str → Option Value} {env : Env}
theorem tuple_st {ax I : Addr} {its : Array Value} {k : Nat} : ∀ i (h h' : Heap) (o : Obj) (nw : List (Addr × Obj)), (h.IsTupleIter I ax i ∧ h.IsTuple ax its) → h.get? I = some o → h'.get? I = some o → (∀ b o, h₀.get? b = some o → h'.get? b = some o) → News h₀ L h' nw → (ax, ({ cls := .type "tuple", data := .seq its k } : Obj)) ∈ nw → (h'.IsTupleIter I ax i ∧ h'.IsTuple ax its) :=
  fun i h h' o nw st e e' k N S => ⟨by obtain ⟨o', q, r⟩ := st.1; rw [e] at q; cases q; exact ⟨o, e', r⟩, ⟨_, (N _ S).1, rfl, _, rfl⟩⟩
noncomputable def SrcTp (prog : Program) (w : World) (A : Around) (h₀ : Heap) (L : Addr) (m : Str → Option Value) (env : Env) (elt : Expr) (x : Str) (scope : Scope) (cl : List (Str × Addr)) (Fin : Shared → List Value → List (Addr × Obj) → Prop) (xv : Value) (s₁ : Shared) : Prop :=
  ∃ (ax : Addr) (its : Array Value) (k : Nat) (news : List (Addr × Obj)), xv = .ref ax ∧ A.handled = none ∧ Fr h₀ L s₁.heap m ∧ News h₀ L s₁.heap news ∧ (ax, ({ cls := .type "tuple", data := .seq its k } : Obj)) ∈ news ∧ its.size ≤ sizeLine ∧
    ∀ s₂ : Shared, (∃ h, s₂ = { s₁ with heap := h }) → CompRest prog w A h₀ L m env elt x scope cl s₂ (fun n => (ax, ({ cls := .type "tuple", data := .seq its k } : Obj)) ∈ n) (fun i v => its[i]? = some v) (Fin s₂) its.size 0 [] news
theorem SrcTp.ledger {elt : Expr} {x : Str} {scope : Scope} {cl : List (Str × Addr)} {Fin : Shared → List Value → List (Addr × Obj) → Prop} {ax : Addr} {its : Array Value} {k : Nat} {news : List (Addr × Obj)} {s₁ : Shared}
    (hh : A.handled = none) (F : Fr h₀ L s₁.heap m) (N : News h₀ L s₁.heap news) (hm : (ax, ({ cls := .type "tuple", data := .seq its k } : Obj)) ∈ news) (hsz : its.size ≤ sizeLine)
    (h : ∀ g, CompRest prog w A h₀ L m env elt x scope cl { s₁ with heap := g } (fun n => (ax, ({ cls := .type "tuple", data := .seq its k } : Obj)) ∈ n) (fun i v => its[i]? = some v) (Fin { s₁ with heap := g }) its.size 0 [] news) :
    SrcTp prog w A h₀ L m env elt x scope cl Fin (.ref ax) s₁ := ⟨ax, its, k, news, rfl, hh, F, N, hm, hsz, fun _ ⟨g, e⟩ => e ▸ h g⟩
theorem Assign_ListComp_Tp {elt iter : Expr} {x y : Str} {px py : Pos} {scope : Scope} {cl : List (Str × Addr)} {pos spos : Pos} {Q : Flow → Shared → Prop} (F₀ : Fr h₀ L s.heap m) (hLe : env.locals = L)
    (hsw : swapsWith (.ListComp elt [⟨.Name x px, iter, [], 0⟩] scope pos) (some (.Name y py)) spos.line env = pure true)
    (hclos : closureFor scope env = pure cl) (hcell : ∀ z ∈ scope.names, z.2 ≠ .cell) (hkind : scope.kind = .function)
    (hnames : ∀ z ∈ scope.names, z.2 = .local → scope.names.lookup z.1 = some .local) (hx : scope.names.lookup x = some .local)
    (hy : env.kindOf y = some .local) (hp : (env.scope.kind == .class || (env.scope.kind == .module && env.locals != env.globals)) = false)
    (h : wpAny (model prog w) A (eval iter env) (SrcTp prog w A h₀ L m env elt x scope cl (fun s₂ => FinA h₀ L m s₂ y Q)) E s)
    (hs : ∀ x, foldedSetIterable iter env x = pure x := by intro _; rfl) :
    wpAny (model prog w) A (exec (.Assign [.Name y py] (.ListComp elt [⟨.Name x px, iter, [], 0⟩] scope pos) spos) env) Q E s := by
  subst hLe
  rw [exec_Assign_Name_used _ _ _ _ hsw]
  refine wpAny_bind (wpAny_standAt (wpAny_bind ?_))
  show wpAny _ A (do let _ ← comprehension (.ListComp elt [⟨.Name x px, iter, [], 0⟩] scope pos) scope env _ (newList []) false (eval iter env) (some (assign (.Name y py) env))) _ _ s
  refine wpAny_bind (wpAny_mono (wpAny_comprehension_free (use := some (assign (.Name y py) env)) (Q := fun _ s' => Q .next s') rfl hs hclos hkind hnames
    (wpAny_mono h (fun xv s₁ h₁ => ?_) fun _ _ e => e)) (fun _ s' hq => wpAny_pure (wpAny_pure hq)) fun _ _ e => e)
  obtain ⟨ax, its, k, news, rfl, hh, F, N, S, hsz, R⟩ := h₁
  have hl : s₁.heap.IsTuple ax its := ⟨_, (N _ S).1, rfl, k, rfl⟩
  have hlt : ax < s₁.heap.objs.size := Heap.lt_size (N _ S).1
  refine wpAny_pyIter_tuple hl ?_
  have up : ∀ b o, s₁.heap.get? b = some o → (s₁.heap.push { cls := .type "tuple_iterator", data := .fields #[.ref ax, .int 0 0] }).get? b = some o := fun b o e => Heap.get?_push_of_some _ e
  refine block_U (Walks.tuple hh s₁.heap.objs.size ax (Nat.ne_of_lt hlt) its) hsz (fun i h st => by obtain ⟨o, e, _⟩ := st.1; exact ⟨o, e⟩) (tuple_st (k := k)) hcell hkind hx ⟨⟨_, Heap.get?_push_size _ rfl, rfl, rfl⟩, by obtain ⟨o, ho, r⟩ := hl; exact ⟨o, Heap.get?_push_of_some _ ho, r⟩⟩ (fun b hb => ?_)
    (F.keeps up) (N.grown up) (Nat.ne_of_lt F.ns.lt) (next_is_new F) (fun p hp => Nat.ne_of_lt (Heap.lt_size (N p hp).1)) S (R _ ⟨_, rfl⟩) ?_
  · show b < (s₁.heap.push _).objs.size
    rw [Heap.size_push]
    rcases List.mem_cons.mp hb with rfl | hb
    · exact Nat.lt_succ_self _
    · rw [List.mem_singleton.mp hb]; exact Nat.lt_succ_of_lt hlt
  · intro D C h' tk m' ys news' F' N' o1 hn hC₀ hD₀ hCL hDL hCD offC fin
    show wpAny _ A (assign (.Name y py) env (.ref D)) _ _ _
    refine wpAny_assign_Name (wpAny_storeName_local hy F'.ns (fun h₂ hn₂ hs₂ => ?_) hp)
    have hL₀ : h₀.get? env.locals = none := Heap.get?_none_of_le F'.above
    have F₂ : Fr h₀ env.locals h₂ (fun z => if z = y then some (.ref D) else m z) := ⟨hn₂, fun b o e => hs₂.extBut b o (fun q => by rw [q, hL₀] at e; cases e) (F'.keep b o e), F'.above⟩
    refine ⟨m', hn.sameBut hs₂ hCL, fun h'' hs'' => fin D h'' _ (F₂.change hs'' hCL hC₀) (fun p hp => ?_) o1⟩
    have z : h₂.get? p.1 = some p.2 := hs₂.extBut _ _ (N' p hp).2.1 (N' p hp).1
    refine ⟨hs''.extBut _ _ ?_ z, (N' p hp).2⟩
    rcases List.mem_cons.mp hp with rfl | hp
    · exact Ne.symm hCD
    · exact offC p hp
end
noncomputable abbrev t1 (led : Bool) : SetTable := { mask := 7, place := #[1], dummies := #[], finger := 0, led := led, moves := 0, plain := true }
noncomputable abbrev set0 (led : Bool) : Obj := { cls := .type "set", dict := none, data := .set #[] 0 (.fresh 0 0 led) }
noncomputable abbrev set1 (led : Bool) : Obj := { cls := .type "set", dict := none, data := .set #[(1, .bool true)] 1 (t1 led) }
section
variable {prog : Program} {w : World} {A : Around} {E : Value → Shared → Prop} {s : Shared} {h₀ : Heap} {L : Addr} {m : Str → Option Value} {news : List (Addr × Obj)}
theorem newSet_led {Q : Value → Shared → Prop} (h : Q (.ref s.heap.objs.size) { s with heap := s.heap.push (set0 (!w.params.followText "set-order")) }) : wpAny (model prog w) A (newSet (.type "set")) Q E s := by
  unfold newSet setsByText
  refine wpAny_bind (wpAny_bind (wpAny_askSetting (wpAny_pure ?_)))
  dsimp only
  simp only [newObj]
  exact wpAny_bind (wpAny_alloc (wpAny_pure h))
theorem typeIs_bool (s : Shared) (b : Bool) : s.TypeIs (.bool b) "bool" := rfl
theorem pyHash_true {Q : Int → Shared → Prop} (h : Q 1 { s with toks := s.toks + 1 }) : wpAny (model prog w) A (pyHash (.bool true)) Q E s := by
  unfold pyHash
  have hv : [Value.bool true].any Value.onHeap = false := rfl
  refine wpAny_bind ?_
  rw [cRoomFor, if_neg (by rw [hv]; exact Bool.false_ne_true)]; refine wpAny_pure ?_
  refine wpAny_bind (wpAny_specialOf (typeIs_bool s true) PySem.F.slot_bool_hash.lookup ?_)
  show wpAny _ _ (if (some (Value.builtin "int.__hash__") == some Value.none) = true then _ else _) Q E s
  rw [if_neg (by rw [beq_builtin_none]; exact Bool.false_ne_true)]
  refine wpAny_bind (wpAny_specialOf (typeIs_bool s true) PySem.F.slot_bool_hash.lookup ?_)
  show wpAny _ _ (callSpecialIfBoundUnlessNone? (.bool true) "__hash__" _ >>= _) Q E s
  refine wpAny_bind (wpAny_callSpecialIfBoundUnlessNone?_slot (typeIs_bool s true) PySem.F.slot_bool_hash
    (wpAny_call_entry PySem.F.slot_bool_hash (typeIs_bool s true) entry_int_hash
      (show wpAny _ _ (do ret (← mkInt 1)) _ _ s from wpAny_ret_mkInt ?_) (args_int_hash _)))
  show wpAny _ _ (if (decide (-(2 : Int) ^ 63 ≤ 1) && decide ((1 : Int) < 2 ^ 63)) = true then _ else _) Q E _
  rw [if_pos (by decide)]
  exact wpAny_pure h
theorem eqBool_true {Q : Bool → Shared → Prop} (h : Q true s) : wpAny (model prog w) A (eqBool (.bool true) (.bool true)) Q E s := by
  unfold eqBool
  refine wpAny_holding ?_
  rw [if_pos (by decide)]
  exact wpAny_bind (wpAny_rule (wpAny_pure h))
theorem add_first {D : Addr} {led : Bool} {Q : Bool → Shared → Prop} (hD : s.heap.get? D = some (set0 led))
    (h : Q true { s with heap := s.heap.update D (Obj.putSet #[(1, .bool true)] (t1 led)), toks := s.toks + 1 }) : wpAny (model prog w) A (setAdd D (.bool true)) Q E s := by
  unfold setAdd
  refine wpAny_holding (wpAny_bind (pyHash_true ?_))
  unfold setAddHashed setAddHashedIn
  refine wpAny_holding (wpAny_bind (wpAny_setState_of hD rfl rfl ?_))
  dsimp only
  rw [if_pos (show byScan (.bool true) #[] = true by simp [byScan, Value.scannable, scanBound])]
  unfold setAddByScan
  refine wpAny_bind ?_
  refine wpAny_bind (wpAny_rule ?_)
  refine wpAny_bind (show wpAny _ _ (pure ScanMet.absent) _ _ _ from wpAny_pure ?_)
  dsimp only
  have hl : layNew (.fresh 0 0 led) #[] 1 (.bool true) = (#[(1, .bool true)], t1 led, false, false) := rfl
  rw [hl]
  dsimp only
  refine wpAny_bind (show wpAny _ _ (pure ()) _ _ _ from wpAny_pure ?_)
  rw [if_pos (show (t1 led).plain = true from rfl)]
  refine wpAny_bind (show wpAny _ _ (hashByValue 8 (.bool true) >>= _) _ _ _ from ?_)
  rw [hashByValue_scannable 8 (show (Value.bool true).scannable = true from rfl)]
  show wpAny _ _ (pure true) _ _ _
  refine wpAny_pure ?_
  rw [if_pos rfl]
  refine wpAny_bind (wpAny_storeSet_of hD rfl ?_ (by decide))
  rw [if_neg (show ¬ ((!false && (t1 led).tooFull) = true) by cases led <;> decide)]
  exact wpAny_pure (wpAny_pure h)
theorem add_again {D : Addr} {led : Bool} {Q : Bool → Shared → Prop} (hD : s.heap.get? D = some (set1 led))
    (h : Q false { s with toks := s.toks + 1 }) : wpAny (model prog w) A (setAdd D (.bool true)) Q E s := by
  unfold setAdd
  refine wpAny_holding (wpAny_bind (pyHash_true ?_))
  unfold setAddHashed setAddHashedIn
  refine wpAny_holding (wpAny_bind (wpAny_setState_of hD rfl rfl ?_))
  dsimp only
  rw [if_pos (show byScan (.bool true) #[(1, .bool true)] = true by simp [byScan, Value.scannable, scanBound])]
  unfold setAddByScan
  refine wpAny_bind ?_
  refine wpAny_bind (wpAny_rule ?_)
  refine wpAny_bind (show wpAny _ _ (setScanFrom D (.bool true) 1 true [(1, .bool true)] 0) _ _ _ from ?_)
  unfold setScanFrom
  rw [if_pos (by decide)]
  refine wpAny_bind (wpAny_setEpoch_of hD rfl rfl ?_)
  refine wpAny_bind (eqBool_true ?_)
  rw [if_pos (by decide)]
  refine wpAny_pure ?_
  dsimp only
  exact wpAny_pure (wpAny_pure h)
end
theorem compTurn_set1 (elt target iter : Expr) (scope : Scope) (pos : Pos) (it acc : Value) (env : Env) :
    compTurn (.SetComp elt [⟨target, iter, [], 0⟩] scope pos) 0 it acc env = (standAt iter.pos >>= fun _ => pyNext it >>= fun r => match r with
      | none => pure (.done .next)
      | some v => letOwnedTupleGo target it v >>= fun _ => assign target env v >>= fun _ =>
        (eval elt env >>= fun x => standAt elt.pos >>= fun _ => call (.builtin "set.add") [acc, x] >>= fun _ => pure ()) >>= fun _ =>
          again (.compLoop (.SetComp elt [⟨target, iter, [], 0⟩] scope pos) 0 it acc env)) := by rfl
section
variable {prog : Program} {w : World} {A : Around} {E : Value → Shared → Prop} {s : Shared} {h₀ : Heap} {L : Addr} {m : Str → Option Value} {env : Env} {R : Result → Shared → Prop}
theorem compLoop_set {elt target iter : Expr} {scope : Scope} {pos : Pos} {it acc : Value} {env : Env} (I : Nat → Shared → Prop)
    (turn : ∀ n s, I n s → wpAny (model prog w) A (pyNext it) (fun r s₁ => match r with
      | none => R (.ok .next) s₁
      | some v => wpAny (model prog w) A (assign target env v) (fun _ s₂ => wpAny (model prog w) A (eval elt env) (fun x s₃ =>
          wpAny (model prog w) A (call (.builtin "set.add") [acc, x]) (fun _ s₄ => ∃ m, m < n ∧ I m s₄) (notedBy (model prog w) A env fun e s' => R (.error e) s') s₃)
          (notedBy (model prog w) A env fun e s' => R (.error e) s') s₂) (notedBy (model prog w) A env fun e s' => R (.error e) s') s₁) (notedBy (model prog w) A env fun e s' => R (.error e) s') s)
    (n : Nat) (h : I n s) (ht : ∀ v, letOwnedTupleGo target it v = pure () := by intro _; rfl) :
    codeAny (model prog w) A (.compLoop (.SetComp elt [⟨target, iter, [], 0⟩] scope pos) 0 it acc env) R s := by
  refine codeAny_loop rfl I (fun n s hI => ?_) n h
  show wpAny _ _ ((compTurn (.SetComp elt [⟨target, iter, [], 0⟩] scope pos) 0 it acc env).onRaise (fun x => do noteFrame x env; theTreesLotGoes x)) _ _ s
  refine wpAny_noted ?_
  rw [compTurn_set1]
  refine wpAny_bind (wpAny_standAt (wpAny_bind (wpAny_mono (turn n s hI) (fun r s₁ h₁ => ?_) fun _ _ h' => h')))
  cases r with
  | none => exact wpAny_pure h₁
  | some v =>
    refine wpAny_bind (wpAny_of_eq (ht v) ?_)
    exact wpAny_bind (wpAny_mono h₁ (fun _ s₂ h₂ => wpAny_bind (wpAny_bind (wpAny_mono h₂ (fun x s₃ h₃ => wpAny_bind (wpAny_standAt (wpAny_bind (wpAny_mono h₃
      (fun _ s₄ h₄ => wpAny_pure (wpAny_pure ⟨rfl, h₄⟩)) fun _ _ h' => h')))) fun _ _ h' => h'))) fun _ _ h' => h')
theorem compStart_set {elt target iter ifs rest scope pos it acc env}
    (h0 : codeAny (model prog w) A (.compLoop (.SetComp elt (⟨target, iter, ifs, 0⟩ :: rest) scope pos) 0 it acc env) R s)
    (h : wpAny (model prog w) A (pyIter it) (fun it' s' => codeAny (model prog w) A (.compLoop (.SetComp elt (⟨target, iter, ifs, 0⟩ :: rest) scope pos) 0 it' acc env) R s')
      (notedBy (model prog w) A env fun x s' => R (.error x) s') s) :
    codeAny (model prog w) A (.compStart (.SetComp elt (⟨target, iter, ifs, 0⟩ :: rest) scope pos) 0 it acc env) R s := by
  refine codeAny_of_tree ?_
  show wpAny _ _ ((compStart (.SetComp elt (⟨target, iter, ifs, 0⟩ :: rest) scope pos) 0 it acc env).onRaise (fun x => do noteFrame x env; standAt theWindowsPlace)) _ _ s
  refine wpAny_notedAt ?_
  unfold compStart
  show wpAny _ _ (ask >>= _) _ _ s
  refine wpAny_bind (wpAny_askSetting (wpAny_ite ?_))
  split
  · first
      | exact wpAny_bind (wpAny_pure (wpAny_pure (And.intro rfl h0)))
      | exact wpAny_pure (And.intro rfl h0)
  · first
      | exact wpAny_bind (wpAny_rule (wpAny_bind (wpAny_standAt (wpAny_bind (wpAny_mono h (fun it' s' h' => wpAny_pure (And.intro rfl h')) fun _ _ x => x)))))
      | (refine wpAny_bind (wpAny_rule ?_); show wpAny _ _ (standAt iter.pos >>= _) _ _ s; exact wpAny_bind (wpAny_standAt (wpAny_bind (wpAny_mono h (fun it' s' h' => wpAny_pure (And.intro rfl h')) fun _ _ x => x))))
noncomputable def setN (led : Bool) : Nat → Obj
  | 0 => set0 led
  | _ + 1 => set1 led
theorem set_add_true {D : Addr} {led : Bool} {i : Nat} {Q : Value → Shared → Prop} (hD : s.heap.get? D = some (setN led i))
    (h : ∀ h' tk', Heap.SameBut D s.heap h' → h'.get? D = some (set1 led) → Q .none { s with heap := h', toks := tk' }) : wpAny (model prog w) A (call (.builtin "set.add") [.ref D, .bool true]) Q E s := by
  have hT : s.TypeIs (.ref D) "set" := by cases i <;> exact ⟨_, hD, rfl⟩
  refine wpAny_call_entry PySem.F.slot_set_add hT PySem.F.entry_set_add ?_ (PySem.F.args_set_add_2 _ _)
  unfold Builtin.«set.add» Builtin.Frozenset.oneOther
  simp only [List.isEmpty_nil, bind_assoc]
  unfold Builtin.Frozenset.addrOf
  refine wpAny_bind (wpAny_pure ?_)
  try dsimp only
  refine wpAny_bind (wpAny_pure ?_)
  try dsimp only
  refine wpAny_bind ?_
  cases i with
  | zero =>
    have ho := Heap.get?_update_self (Obj.putSet #[(1, .bool true)] (t1 led)) hD rfl
    exact add_first hD (wpAny_pure ⟨_, rfl, h _ _ (Heap.SameBut.update ..) ho⟩)
  | succ i =>
    exact add_again hD (wpAny_pure ⟨_, rfl, h _ _ (Heap.SameBut.refl D s.heap) hD⟩)
noncomputable def SetTurn (h₀ : Heap) (L : Addr) (m : Str → Option Value) (s₁ : Shared) (led : List (Addr × Obj)) (y : Value) (s₂ : Shared) : Prop :=
  y = .bool true ∧ ∃ h' tk', s₂ = { s₁ with heap := h', toks := tk' } ∧ Fr h₀ L h' m ∧ News h₀ L h' led
theorem SetTurn.intro {h₀ : Heap} {L : Addr} {m : Str → Option Value} {s₁ : Shared} {led : List (Addr × Obj)} {b : Bool} {h' : Heap} {tk : Nat} (hb : b = true) (F : Fr h₀ L h' m) (N : News h₀ L h' led) : SetTurn h₀ L m s₁ led (.bool b) { s₁ with heap := h', toks := tk } :=
  ⟨by rw [hb], h', tk, rfl, F, N⟩
noncomputable def SetSrc (prog : Program) (w : World) (A : Around) (h₀ : Heap) (L : Addr) (m : Str → Option Value) (env : Env) (elt : Expr) (x : Str) (scope : Scope) (cl : List (Str × Addr)) (Q : Value → Shared → Prop) (xv : Value) (s₁ : Shared) : Prop :=
  ∃ (ax : Addr) (vs : List Value) (k : Nat) (news : List (Addr × Obj)), xv = .ref ax ∧ A.handled = none ∧ Fr h₀ L s₁.heap m ∧ News h₀ L s₁.heap news ∧ (ax, tupOf vs k) ∈ news ∧ 1 ≤ vs.length ∧
    (∀ v ∈ vs, ∀ I oI C oC D oD m₂ h tk (E' : Value → Shared → Prop), NsObj oC m₂ → m₂ x = some v → Fr h₀ L h m → News h₀ L h ((I, oI) :: (C, oC) :: (D, oD) :: news) → Off3 I C D news → ((@Ne Nat I C) ∧ (@Ne Nat I D) ∧ (@Ne Nat C D)) →
      wpAny (model prog w) A (eval elt (compEnvC scope cl C env)) (SetTurn h₀ L m s₁ ((I, oI) :: (C, oC) :: (D, oD) :: news)) E' { s₁ with heap := h, toks := tk }) ∧
    (∀ D h tk, Fr h₀ L h m → News h₀ L h ((D, set1 (!w.params.followText "set-order")) :: news) → Off1 D news → Q (.ref D) { s₁ with heap := h, toks := tk })
theorem SetComp_true {elt iter : Expr} {x : Str} {px : Pos} {scope : Scope} {cl : List (Str × Addr)} {pos : Pos} {Q : Value → Shared → Prop} (F₀ : Fr h₀ L s.heap m)
    (hclos : closureFor scope env = pure cl) (hcell : ∀ y ∈ scope.names, y.2 ≠ .cell) (hkind : scope.kind = .function)
    (hnames : ∀ y ∈ scope.names, y.2 = .local → scope.names.lookup y.1 = some .local) (hx : scope.names.lookup x = some .local)
    (h : wpAny (model prog w) A (eval iter env) (SetSrc prog w A h₀ L m env elt x scope cl Q) E s)
    (hs : ∀ x, foldedSetIterable iter env x = pure x := by intro _; rfl) :
    wpAny (model prog w) A (eval (.SetComp elt [⟨.Name x px, iter, [], 0⟩] scope pos) env) Q E s := by
  rw [arm_eval_SetComp]
  refine wpAny_comprehension_free (use := none) rfl hs hclos hkind hnames (wpAny_mono h (fun xv s₁ h₁ => ?_) fun _ _ e => e)
  obtain ⟨ax, vs, k, news, rfl, hh, F, N, hm, hne1, turns, fin⟩ := h₁
  have hl : s₁.heap.IsTuple ax vs.toArray := ⟨_, (N _ hm).1, rfl, k, rfl⟩
  have hlt : ax < s₁.heap.objs.size := Heap.lt_size (N _ hm).1
  refine wpAny_pyIter_tuple hl ?_
  generalize hI : s₁.heap.objs.size = I at hlt ⊢
  have up : ∀ b o, s₁.heap.get? b = some o → (s₁.heap.push { cls := .type "tuple_iterator", data := .fields #[.ref ax, .int 0 0] }).get? b = some o := fun b o e => Heap.get?_push_of_some _ e
  have W := Walks.tuple (prog := prog) (w := w) hh I ax (Nat.ne_of_lt hlt) vs.toArray
  have hst : (s₁.heap.push { cls := .type "tuple_iterator", data := .fields #[.ref ax, .int 0 0] }).IsTupleIter I ax 0 ∧ (s₁.heap.push { cls := .type "tuple_iterator", data := .fields #[.ref ax, .int 0 0] }).IsTuple ax vs.toArray :=
    ⟨⟨_, hI ▸ Heap.get?_push_size _ rfl, rfl, rfl⟩, by obtain ⟨o, ho, r⟩ := hl; exact ⟨o, Heap.get?_push_of_some _ ho, r⟩⟩
  have F1 := F.keeps up
  have N1 := N.grown up
  have hIL : L ≠ I := hI ▸ Nat.ne_of_lt F.ns.lt
  have hI₀ : h₀.get? I = none := hI ▸ next_is_new F
  have offI : ∀ p ∈ news, p.1 ≠ I := hI ▸ fun p hp => Nat.ne_of_lt (Heap.lt_size (N p hp).1)
  have hsz1 : (s₁.heap.push { cls := .type "tuple_iterator", data := .fields #[.ref ax, .int 0 0] }).objs.size = I + 1 := by rw [Heap.size_push, hI]
  have hIlt : I < (s₁.heap.push { cls := .type "tuple_iterator", data := .fields #[.ref ax, .int 0 0] }).objs.size := by rw [hsz1]; exact Nat.lt_succ_self _
  generalize hh1 : s₁.heap.push { cls := .type "tuple_iterator", data := .fields #[.ref ax, .int 0 0] } = H1 at up hst F1 N1 hsz1 hIlt ⊢
  clear hh1
  refine newSet_led (wpAny_newFunctionEnv hcell (by intro y hy; simp at hy) (fun h₁ hns₁ hsb₁ => ?_) hkind)
  dsimp only at hns₁ hsb₁ ⊢
  generalize hled : (!w.params.followText "set-order") = led at fin hns₁ hsb₁ ⊢
  generalize hH2 : H1.push (set0 led) = H2 at hns₁ hsb₁ ⊢
  have hC : H2.objs.size = H1.objs.size + 1 := by rw [← hH2, Heap.size_push]
  have hDC : H1.objs.size ≠ H2.objs.size := by rw [hC]; exact Nat.ne_of_lt (Nat.lt_succ_self _)
  have below : ∀ b, b < H1.objs.size → b ≠ H2.objs.size ∧ b ≠ H1.objs.size := fun b hb => ⟨by rw [hC]; exact Nat.ne_of_lt (Nat.lt_succ_of_lt hb), Nat.ne_of_lt hb⟩
  have old : ∀ b o, H1.get? b = some o → h₁.get? b = some o := fun b o e => hsb₁.extBut b o (below b (Heap.lt_size e)).1 (Heap.get?_push_of_some _ (hH2 ▸ Heap.get?_push_of_some _ e))
  have hacc : h₁.get? H1.objs.size = some (set0 led) := hsb₁.extBut _ _ hDC (Heap.get?_push_of_some _ (hH2 ▸ Heap.get?_push_size _ rfl))
  have hst₁ := W.frame 0 _ h₁ hst fun b _ o e => old b o e
  have fresh₀ : ∀ a, H1.objs.size ≤ a → h₀.get? a = none := fun a ha => by
    cases e : h₀.get? a with
    | none => rfl
    | some o' => exact absurd (Heap.lt_size (F1.keep a o' e)) (Nat.not_lt.mpr ha)
  have hD₀ : h₀.get? H1.objs.size = none := fresh₀ _ (Nat.le_refl _)
  have hC₀ : h₀.get? H2.objs.size = none := fresh₀ _ (by rw [hC]; exact Nat.le_succ _)
  have hLlt : L < H1.objs.size := F1.ns.lt
  have hDL : H1.objs.size ≠ L := Ne.symm (below L hLlt).2
  have hCL : H2.objs.size ≠ L := Ne.symm (below L hLlt).1
  have hCI : I ≠ H2.objs.size := (below I hIlt).1
  have hDI : I ≠ H1.objs.size := (below I hIlt).2
  have hDf : ∀ b ∈ [I, ax], b ≠ H1.objs.size ∧ b ≠ H2.objs.size := fun b hb => by
    rcases List.mem_cons.mp hb with rfl | hb
    · exact ⟨hDI, hCI⟩
    · rw [List.mem_singleton.mp hb]
      exact ⟨(below _ (Heap.lt_size (N1 _ hm).1)).2, (below _ (Heap.lt_size (N1 _ hm).1)).1⟩
  have off₀ : Off3 I H2.objs.size H1.objs.size news := Off3.of fun p hp => ⟨offI p hp, (below _ (Heap.lt_size (N1 p hp).1)).1, (below _ (Heap.lt_size (N1 p hp).1)).2⟩
  have off3 := off₀.mem
  have loop : ∀ s₃ : Shared, s₃ = { s₁ with heap := h₁, toks := s₁.toks + ([] : List (Str × Value)).length } →
      codeAny (model prog w) A (.compLoop (.SetComp elt [⟨.Name x px, iter, [], 0⟩] scope pos) 0 (.ref I) (.ref H1.objs.size) (compEnvC scope cl H2.objs.size env))
        (compPost (model prog w) A E none Q (.ref H1.objs.size) H2.objs.size) s₃ := by
    rintro s₃ rfl
    refine compLoop_set
      (fun kk s' => ∃ h' tk i m', s' = { s₁ with heap := h', toks := tk } ∧ i ≤ vs.length ∧ kk = vs.length + 1 - i ∧ (h'.IsTupleIter I ax i ∧ h'.IsTuple ax vs.toArray) ∧ Fr h₀ L h' m ∧ h'.Ns H2.objs.size m' ∧ News h₀ L h' ((H1.objs.size, setN led i) :: news)) ?_ (vs.length + 1)
      ⟨h₁, _, 0, _, rfl, Nat.zero_le _, rfl, hst₁, F1.keeps old, hns₁, fun p hp => ?_⟩
    · rintro kk s' ⟨h', tk, i, m', rfl, hi, rfl, hst', F', hn', N'⟩
      have hvs : vs.toArray.size = vs.length := by simp
      by_cases hlt : i < vs.length
      · refine W.item i _ _ _ (by rw [hvs]; exact hlt) hst' fun v h₂ tk₂ hPv hst₂ hk₂ => ?_
        have hPv' : vs[i]? = some v := by simpa using hPv
        refine wpAny_assign_Name (wpAny_storeName_local (lookup_relabel_local hx) (hn'.at' fun o e => hk₂ _ o (by simpa using Ne.symm hCI) e) (fun h₃ hn₃ hs₃ => ?_) (by simp [compEnvC, relabel, hkind]))
        have hst₃ := W.frame (i + 1) _ h₃ hst₂ fun b hb o e => hs₃.extBut b o (hDf b hb).2 e
        obtain ⟨oI, heI⟩ : ∃ o, h₃.get? I = some o := by obtain ⟨o, e, _⟩ := hst₃.1; exact ⟨o, e⟩
        obtain ⟨oC, heC, hoC⟩ := ns_obj hn₃
        have F₃ : Fr h₀ L h₃ m := (fr_but F' hk₂ hIL hI₀).change hs₃ hCL hC₀
        have N₂ : News h₀ L h₂ ((H1.objs.size, setN led i) :: news) := news_but N' hk₂ fun p hp => by
          rcases List.mem_cons.mp hp with rfl | hp
          · exact Ne.symm hDI
          · exact (off3 p hp).1
        have N₃ : News h₀ L h₃ ((I, oI) :: (H2.objs.size, oC) :: (H1.objs.size, setN led i) :: news) := fun p hp => by
          rcases List.mem_cons.mp hp with rfl | hp
          · exact ⟨heI, Ne.symm hIL, hI₀⟩
          · rcases List.mem_cons.mp hp with rfl | hp
            · exact ⟨heC, hCL, hC₀⟩
            · have z := N₂ p hp
              refine ⟨hs₃.extBut _ _ ?_ z.1, z.2⟩
              rcases List.mem_cons.mp hp with rfl | hp
              · exact hDC
              · exact (off3 p hp).2.1
        refine wpAny_mono (turns v (List.mem_of_getElem? hPv') I oI H2.objs.size oC H1.objs.size (setN led i) _ h₃ _ _ hoC (by simp) F₃ N₃ off₀ ⟨hCI, hDI, Ne.symm hDC⟩) (fun y s₄ h₄ => ?_) fun _ _ e => e
        obtain ⟨rfl, h₄, tk₄, rfl, F₄, N₄⟩ := h₄
        have zI := (N₄ (I, oI) List.mem_cons_self).1
        have zC := (N₄ (H2.objs.size, oC) (List.mem_cons_of_mem _ List.mem_cons_self)).1
        have zD := (N₄ (H1.objs.size, setN led i) (List.mem_cons_of_mem _ (List.mem_cons_of_mem _ List.mem_cons_self))).1
        have N₄' : News h₀ L h₄ news := fun p hp => N₄ p (List.mem_cons_of_mem _ (List.mem_cons_of_mem _ (List.mem_cons_of_mem _ hp)))
        have hst₄ := tuple_st (k := k) _ _ _ _ _ hst₃ heI zI F₄.keep N₄' hm
        refine set_add_true (s := { s₁ with heap := h₄, toks := tk₄ }) zD fun h₅ tk₅ hs₅ hD₅ => ?_
        refine ⟨vs.length + 1 - (i + 1), by k_extra "omx", h₅, tk₅, i + 1, _, rfl, hlt, rfl, W.frame _ _ _ hst₄ fun b hb o e => hs₅.extBut b o (hDf b hb).1 e, F₄.change hs₅ hDL hD₀, (hoC.ns zC).sameBut hs₅ (Ne.symm hDC), fun p hp => ?_⟩
        rcases List.mem_cons.mp hp with rfl | hp
        · exact ⟨hD₅, hDL, hD₀⟩
        · exact ⟨hs₅.extBut _ _ (off3 p hp).2.2 (N₄' p hp).1, (N₄' p hp).2⟩
      · obtain rfl : i = vs.length := Nat.le_antisymm hi (Nat.not_lt.mp hlt)
        rw [← hvs] at hst'
        refine W.done _ _ _ hst' fun h₂ tk₂ hk₂ => ?_
        have e1 : setN led vs.length = set1 led := by
          obtain ⟨j, hj⟩ : ∃ j, vs.length = j + 1 := ⟨vs.length - 1, by k_extra "omx"⟩
          rw [hj]; rfl
        rw [e1] at N'
        have N₂ : News h₀ L h₂ ((H1.objs.size, set1 led) :: news) := news_but N' hk₂ fun p hp => by
          rcases List.mem_cons.mp hp with rfl | hp
          · exact Ne.symm hDI
          · exact (off3 p hp).1
        refine ⟨m', hn'.at' fun o e => hk₂ _ o (by simpa using Ne.symm hCI) e, fun h'' hs'' => fin _ h'' tk₂ ((fr_but F' hk₂ hIL hI₀).change hs'' hCL hC₀) (fun p hp => ?_) off₀.one⟩
        refine ⟨hs''.extBut _ _ ?_ (N₂ p hp).1, (N₂ p hp).2⟩
        rcases List.mem_cons.mp hp with rfl | hp
        · exact hDC
        · exact (off3 p hp).2.1
    · rcases List.mem_cons.mp hp with rfl | hp
      · exact ⟨hacc, hDL, hD₀⟩
      · exact ⟨old _ _ (N1 p hp).1, (N1 p hp).2⟩
  exact compStart_set (loop _ rfl) (W.self 0 _ _ _ hst₁ (loop _ rfl))
end
theorem entry_set_iter : entryFor table "set.__iter__" = some Builtin.«frozenset.__iter__» :=
  entryFor_alias (id' := "frozenset.__iter__") (by kernel_rfl) (by first | rfl | decide +kernel | (unfold String.splitOn; simp +decide [String.splitOnAux])) (by decide +kernel) (by kernel_rfl)
theorem slot_sit_next : Slot "set_iterator" "__next__" "set_iterator.__next__" :=
  .of (owner := "set_iterator") (n := "__next__") (by rw [typeLookup_type, builtinLookup_eq_fast]; kernel_rfl) (by decide +kernel) (by decide +kernel) (by decide +kernel)
    (by first | exact .inl (by decide +kernel) | exact .inr (by decide +kernel)) (by rw [isSubtype_type]; kernel_rfl)
theorem entry_sit_next : entryFor table "set_iterator.__next__" = some Builtin.«set_iterator.__next__» := entryFor_of_tree (by kernel_rfl)
theorem args_sit_next (a : Value) : argsOk "set_iterator.__next__" ⟨[a], []⟩ := by unfold argsOk; kernel_rfl
section
variable {prog : Program} {w : World} {A : Around} {E : Value → Shared → Prop} {s : Shared} {h₀ : Heap} {L : Addr} {m : Str → Option Value} {news : List (Addr × Obj)}
noncomputable abbrev sitObj (D : Addr) (f : Value) (i : Int) : Obj := { cls := .type "set_iterator", dict := none, data := .fields #[f, rawInt i, .ref D, rawInt 1, rawInt 1], slots := #[] }
theorem set_iter {D : Addr} {Q : Value → Shared → Prop} (hD : s.heap.get? D = some (set1 (!w.params.followText "set-order"))) (h : ∀ h', h' = s.heap.push (sitObj D (rawInt 0) 0) → Q (.ref s.heap.objs.size) { s with heap := h' }) : wpAny (model prog w) A (pyIter (.ref D)) Q E s := by
  have hT : s.TypeIs (.ref D) "set" := ⟨_, hD, rfl⟩
  refine wpAny_pyIter_slot hT PySem.F.slot_set_iter (wpAny_call_entry PySem.F.slot_set_iter hT entry_set_iter ?_ (PySem.F.args_set_iter_1 _))
  unfold Builtin.«frozenset.__iter__» Builtin.Frozenset.slot0 Builtin.Frozenset.sizeOf
  refine wpAny_bind (wpAny_bind (wpAny_pure ?_))
  refine wpAny_pure ?_
  dsimp only
  refine wpAny_bind (wpAny_bind (wpAny_setEntries_of hD rfl rfl (wpAny_pure ?_)))
  refine wpAny_bind ?_
  unfold setDrawn
  refine wpAny_bind (wpAny_setState_of hD rfl rfl ?_)
  unfold setsByText
  dsimp only
  refine wpAny_bind (wpAny_bind (wpAny_askSetting (wpAny_pure ?_)))
  refine wpAny_pure ?_
  dsimp only
  generalize w.params.followText "set-order" = bt at hD ⊢
  rw [if_neg (by generalize (model prog w).w.params.followText "set-order" = b2; cases b2 <;> cases bt <;> exact Bool.false_ne_true)]
  refine wpAny_bind (wpAny_pure ?_)
  refine wpAny_bind (wpAny_setEpoch_of hD rfl rfl ?_)
  unfold newFields
  refine wpAny_bind (wpAny_newObj_type ?_)
  have hI := Heap.get?_push_size s.heap (o := sitObj D (rawInt 0) 0) rfl
  exact wpAny_pure ⟨_, rfl, "set_iterator", _, ⟨_, hI, rfl⟩, slot_sit_next.lookup, h _ rfl⟩
theorem pickOrder_one (f : Nat → Nat) (x : Int × Value) : pickOrder f #[x] = #[x] := by
  unfold pickOrder
  show pickOrder.go f 1 0 [x] #[] = #[x]
  unfold pickOrder.go
  have e : [x][f 0 % [x].length]? = some x := by
    have : f 0 % [x].length = 0 := Nat.mod_one _
    rw [this]; rfl
  rw [e]
  dsimp only
  unfold pickOrder.go
  rfl
theorem set_walk1 {D : Addr} {led : Bool} {Q : Array (Int × Value) → Shared → Prop} (hD : s.heap.get? D = some (set1 led)) (hb : w.params.followText "set-order" = true) (h : Q #[(1, .bool true)] s) : wpAny (model prog w) A (setWalk D) Q E s := by
  unfold setWalk
  refine wpAny_bind (wpAny_setState_of hD rfl rfl ?_)
  unfold setsByText
  dsimp only
  refine wpAny_bind (wpAny_bind (wpAny_askSetting (wpAny_pure ?_)))
  rw [if_pos (show (model prog w).w.params.followText "set-order" = true from hb)]
  refine wpAny_bind (wpAny_askSetting ?_)
  refine wpAny_pure ?_
  rw [pickOrder_one]
  exact h
theorem set_next_in {D : Addr} {i : Nat} {slot : Nat} {Q : Option (Value × Nat) → Shared → Prop} (hD : s.heap.get? D = some (set1 (!w.params.followText "set-order")))
    (h1 : w.params.followText "set-order" = true → Q ((#[(1, Value.bool true)] : Array (Int × Value))[i]?.map fun e => (e.2, slot)) s)
    (h2 : w.params.followText "set-order" = false → Q (match (#[(1, Value.bool true)] : Array (Int × Value))[SetTable.below #[1] slot]?, (#[1] : Array Nat)[SetTable.below #[1] slot]? with
          | some (_, x), some j => some (x, j + 1)
          | _, _ => none) s) : wpAny (model prog w) A (setNext D slot i 1) Q E s := by
  unfold setNext
  refine wpAny_bind (wpAny_setState_of hD rfl rfl ?_)
  unfold setsByText
  dsimp only
  refine wpAny_bind (wpAny_bind (wpAny_askSetting (wpAny_pure ?_)))
  cases hb : w.params.followText "set-order" with
  | true =>
    rw [if_pos (show (model prog w).w.params.followText "set-order" = true from hb)]
    rw [hb] at hD
    rw [if_neg (by decide)]
    refine wpAny_bind (set_walk1 hD hb ?_)
    exact wpAny_pure (h1 hb)
  | false =>
    rw [if_neg (show ¬ (model prog w).w.params.followText "set-order" = true by intro e; have e2 : w.params.followText "set-order" = true := e; rw [hb] at e2; cases e2)]
    rw [hb] at hD
    rw [if_neg (by exact Bool.false_ne_true)]
    refine wpAny_bind (show wpAny _ _ (pure PUnit.unit) _ _ _ from wpAny_pure ?_)
    exact wpAny_pure (h2 hb)
theorem sit_next1 {I D : Addr} {Q : Option Value → Shared → Prop} (hI : s.heap.get? I = some (sitObj D (rawInt 0) 0)) (hD : s.heap.get? D = some (set1 (!w.params.followText "set-order")))
    (h : ∀ h' f, Heap.SameBut I s.heap h' → h'.get? I = some (sitObj D f 1) → (w.params.followText "set-order" = true → f = rawInt 0) → (w.params.followText "set-order" = false → f = rawInt 2) → Q (some (.bool true)) { s with heap := h' }) : wpAny (model prog w) A (pyNext (.ref I)) Q E s := by
  have hT : s.TypeIs (.ref I) "set_iterator" := ⟨_, hI, rfl⟩
  unfold pyNext
  refine wpAny_bind (wpAny_attempt (wpAny_callSpecial?_slot (name := Str.ofString "__next__") hT slot_sit_next (wpAny_call_entry slot_sit_next hT entry_sit_next ?_ (args_sit_next _))))
  show wpAny _ _ (PySem.fieldsOf (.ref I) >>= _) _ _ _
  unfold PySem.fieldsOf
  refine wpAny_bind (wpAny_bind (wpAny_load hI ?_))
  dsimp only
  refine wpAny_pure ?_
  dsimp only
  refine wpAny_bind (wpAny_setEntries_of hD rfl rfl ?_)
  rw [if_neg (by decide)]
  show wpAny _ _ (setNext D 0 0 1 >>= _) _ _ _
  refine wpAny_bind (set_next_in hD ?_ ?_)
  · intro hb
    show wpAny _ _ (PySem.setField (.ref I) 0 _ >>= _) _ _ _
    refine wpAny_bind (wpAny_setField_rec hI (by simp) fun h₁ hz₁ hs₁ => ?_)
    refine wpAny_bind (wpAny_setField_rec hz₁ (by simp) fun h₂ hz₂ hs₂ => ?_)
    exact wpAny_pure ⟨_, rfl, wpAny_pure (h h₂ (rawInt 0) (hs₁.trans hs₂) hz₂ (fun _ => rfl) (fun e => by rw [hb] at e; cases e))⟩
  · intro hb
    show wpAny _ _ (PySem.setField (.ref I) 0 _ >>= _) _ _ _
    refine wpAny_bind (wpAny_setField_rec hI (by simp) fun h₁ hz₁ hs₁ => ?_)
    refine wpAny_bind (wpAny_setField_rec hz₁ (by simp) fun h₂ hz₂ hs₂ => ?_)
    exact wpAny_pure ⟨_, rfl, wpAny_pure (h h₂ (rawInt 2) (hs₁.trans hs₂) hz₂ (fun e => by rw [hb] at e; cases e) (fun _ => rfl))⟩
theorem sit_next2 {I D : Addr} {f : Value} {Q : Option Value → Shared → Prop} (hI : s.heap.get? I = some (sitObj D f 1)) (hD : s.heap.get? D = some (set1 (!w.params.followText "set-order")))
    (f1 : w.params.followText "set-order" = true → f = rawInt 0) (f2 : w.params.followText "set-order" = false → f = rawInt 2) (hh : A.handled = none)
    (h : ∀ h', Heap.ExtBut I s.heap h' → Q none { s with heap := h' }) : wpAny (model prog w) A (pyNext (.ref I)) Q E s := by
  have hT : s.TypeIs (.ref I) "set_iterator" := ⟨_, hI, rfl⟩
  have stop : ∀ h₁, Heap.SameBut I s.heap h₁ → wpAny (model prog w) A.in1 (do raiseNew (← newExc (.type "StopIteration") [])) (fun fin s' => ∃ v, fin = Fin.done (Flow.ret v) ∧ wpAny (model prog w) A (pure (some v)) Q E s')
      (fun e s' => wpAny (model prog w) A (do if ← isInstance e (.type "StopIteration") then pure none else throw e) Q E s') { s with heap := h₁ } := by
    intro h₁ hs₁
    refine wpAny_bind ?_
    simp only [newExc, newTuple]
    refine wpAny_bind (wpAny_newObj_type ?_ (by size_fits))
    refine wpAny_bind (m := firstArgMember _ _) (wpAny_of_eq (a := Value.none) (by first | rfl | (simp only [firstArgMember]; rfl)) ?_)
    refine wpAny_newObj_type ?_ (by size_fits)
    simp only [raiseNew]
    refine wpAny_bind (wpAny_handled ?_)
    rw [show A.in1.handled = none from hh]
    refine wpAny_bind (wpAny_pure (wpAny_throw ?_))
    refine wpAny_bind (wpAny_isInstance (T := "StopIteration") (b := true) ⟨_, Heap.get?_push_size _ rfl, rfl⟩ isSubtype_stop ?_)
    exact wpAny_pure (h _ ((hs₁.extBut.push _).push _))
  unfold pyNext
  refine wpAny_bind (wpAny_attempt (wpAny_callSpecial?_slot (name := Str.ofString "__next__") hT slot_sit_next (wpAny_call_entry slot_sit_next hT entry_sit_next ?_ (args_sit_next _))))
  show wpAny _ _ (PySem.fieldsOf (.ref I) >>= _) _ _ _
  unfold PySem.fieldsOf
  refine wpAny_bind (wpAny_bind (wpAny_load hI ?_))
  dsimp only
  refine wpAny_pure ?_
  dsimp only
  refine wpAny_bind (wpAny_setEntries_of hD rfl rfl ?_)
  rw [if_neg (by decide)]
  cases hb : w.params.followText "set-order" with
  | true =>
    have e := f1 hb
    subst e
    show wpAny _ _ (setNext D 0 1 1 >>= _) _ _ _
    refine wpAny_bind (set_next_in hD (fun _ => ?_) (fun e => by rw [hb] at e; cases e))
    show wpAny _ _ (PySem.setField (.ref I) 2 .none >>= _) _ _ _
    refine wpAny_bind (wpAny_setField_rec hI (by simp) fun h₁ hz₁ hs₁ => ?_)
    exact stop h₁ hs₁
  | false =>
    have e := f2 hb
    subst e
    show wpAny _ _ (setNext D 2 1 1 >>= _) _ _ _
    refine wpAny_bind (set_next_in hD (fun e => by rw [hb] at e; cases e) (fun _ => ?_))
    show wpAny _ _ (PySem.setField (.ref I) 2 .none >>= _) _ _ _
    refine wpAny_bind (wpAny_setField_rec hI (by simp) fun h₁ hz₁ hs₁ => ?_)
    exact stop h₁ hs₁
theorem unpack_set1 {D : Addr} {Q : List Value → Shared → Prop} (hh : A.handled = none) (F : Fr h₀ L s.heap m) (N : News h₀ L s.heap news) (hm : (D, set1 (!w.params.followText "set-order")) ∈ news)
    (h : ∀ h', Fr h₀ L h' m → News h₀ L h' news → Q [.bool true] { s with heap := h' }) : wpAny (model prog w) A (unpackItems (.ref D) 1 none) Q E s := by
  have hD := (N _ hm).1
  have hT : s.TypeIs (.ref D) "set" := ⟨_, hD, rfl⟩
  have hlt : ∀ p ∈ news, p.1 ≠ s.heap.objs.size := fun p hp => Nat.ne_of_lt (Heap.lt_size (N p hp).1)
  have hLI : L ≠ s.heap.objs.size := Nat.ne_of_lt F.ns.lt
  have hI₀ : h₀.get? s.heap.objs.size = none := next_is_new F
  unfold unpackItems notIterableAtAll
  refine wpAny_bind (wpAny_bind (wpAny_specialOf hT PySem.F.slot_set_iter.lookup ?_))
  show wpAny _ _ (pure false) _ _ _
  refine wpAny_pure ?_
  rw [if_neg Bool.false_ne_true]
  refine wpAny_bind (wpAny_holding (set_iter hD fun h1 e1 => ?_))
  have gD1 : h1.get? D = some (set1 (!w.params.followText "set-order")) := by rw [e1]; exact Heap.get?_push_of_some _ hD
  have gI1 : h1.get? s.heap.objs.size = some (sitObj D (rawInt 0) 0) := by rw [e1]; exact Heap.get?_push_size _ rfl
  have k1 : ∀ b o, s.heap.get? b = some o → h1.get? b = some o := fun b o e => by rw [e1]; exact Heap.get?_push_of_some _ e
  dsimp only
  refine wpAny_bind (wpAny_holding ?_)
  unfold draw
  refine wpAny_bind (sit_next1 gI1 gD1 fun h2 f hs2 gI2 f1 f2 => ?_)
  dsimp only
  refine wpAny_bind (wpAny_holding ?_)
  unfold draw
  refine wpAny_pure (wpAny_pure ?_)
  rw [if_neg (by decide)]
  have gD2 : h2.get? D = some (set1 (!w.params.followText "set-order")) := hs2.extBut _ _ (hlt _ hm) gD1
  refine wpAny_bind (wpAny_holding (sit_next2 gI2 gD2 f1 f2 hh fun h3 hs3 => ?_))
  rw [if_neg (show ¬ ((none : Option Value).isSome = true) by decide)]
  have k3 : ∀ b o, b ≠ s.heap.objs.size → s.heap.get? b = some o → h3.get? b = some o := fun b o hb e => hs3 _ _ hb (hs2.extBut _ _ hb (k1 _ _ e))
  refine wpAny_pure (h h3 ?_ ?_)
  · obtain ⟨oL, a1, a2, hoL, a3⟩ := F.ns
    refine ⟨⟨oL, a1, a2, k3 L _ hLI hoL, a3⟩, fun b x e => k3 b x (fun hb => ?_) (F.keep b x e), F.above⟩
    rw [hb, hI₀] at e
    cases e
  · exact fun p hp => ⟨k3 _ _ (hlt p hp) (N p hp).1, (N p hp).2⟩
theorem assign_set1 {env : Env} {x : Str} {px pos : Pos} {k : Nat} {D : Addr} {Q : Unit → Shared → Prop} (hh : A.handled = none) (F : Fr h₀ L s.heap m) (N : News h₀ L s.heap news) (hm : (D, set1 (!w.params.followText "set-order")) ∈ news)
    (h : ∀ h', Fr h₀ L h' m → News h₀ L h' news → wpAny (model prog w) A (storeName env x (.bool true)) Q E { s with heap := h' }) : wpAny (model prog w) A (assign (.Tuple [.Name x px] k pos) env (.ref D)) Q E s := by
  rw [arm_assign_Tuple]
  refine wpAny_bind (wpAny_standAt ?_)
  unfold unpack
  refine wpAny_bind (wpAny_holding (unpack_set1 hh F N hm fun h' F' N' => ?_))
  refine assignInOrder_cons ?_
  refine wpAny_assign_Name ?_
  exact wpAny_mono (h h' F' N') (fun _ s₂ q => assignInOrder_nil q) fun _ _ e => e
end
end Mine


section
namespace Mine
open AutoSeq1 (wpAny_loadPart')
noncomputable def strLt (x y : Str) : Bool := decide (x.cps.toList < y.cps.toList)
noncomputable def ltL : List Str → List Str → Bool
  | x :: xs, y :: ys => if x = y then ltL xs ys else strLt x y
  | [], ys => decide (0 < ys.length)
  | _ :: _, [] => false
theorem strsL_at {vs : List Value} {xs : List Str} (h : StrsL vs xs) {i : Nat} {x : Str} (hx : xs[i]? = some x) : ∃ t, vs[i]? = some (.str x t) := by
  have hi := (List.getElem?_eq_some_iff.mp hx).1
  have h1 : i < vs.length := by rw [h.length]; exact hi
  obtain ⟨n, t, e, e2⟩ := h.get (List.getElem?_eq_getElem h1)
  rw [hx] at e2
  cases e2
  exact ⟨t, by rw [List.getElem?_eq_getElem h1, e]⟩
theorem strsL_no {vs : List Value} {xs : List Str} (h : StrsL vs xs) {i : Nat} (hx : xs[i]? = none) : vs[i]? = none := by
  rw [List.getElem?_eq_none_iff] at hx ⊢
  rw [h.length]; exact hx
theorem gt_str {prog : Program} {w : World} {A : Around} {E : Value → Shared → Prop} {s : Shared} {x y : Str} {t u : Tok} {Q : Value → Shared → Prop} (h : Q (.bool (strLt y x)) s) : wpAny (model prog w) A (compareOp .Gt (.str x t) (.str y u)) Q E s :=
  compareOp_gives (op := .Gt) (typeIs_str s x t) (typeIs_str s y u) PySem.F.slot_str_gt PySem.F.entry_str_gt (PySem.F.args_str_gt_2 _ _) (show Gives (Builtin.«str.__gt__» ⟨[.str x t, .str y u], []⟩) (.val (.bool (strLt y x))) from .of_eq rfl) (fun e => nomatch e) h
set_option maxHeartbeats 4000000 in
theorem lt_loop (a b : Addr) (us ws : List Value) (n n2 : Nat) (xs ys : List Str) (hu : StrsL us xs) (hw : StrsL ws ys) (k : Nat) :
    ∀ i : Nat, xs.length - i = k → i ≤ xs.length → i ≤ ys.length → Meets (Builtin.«list.__eq__.loop» ⟨[.ref a, .ref b, rawInt i, rawInt 0], []⟩)
      (fun _ R s => s.heap.get? a = some { cls := .type "list", dict := none, data := .seq us.toArray n, slots := #[] } ∧ s.heap.get? b = some { cls := .type "list", dict := none, data := .seq ws.toArray n2, slots := #[] } ∧
        R (.ok (.ret (.bool (ltL (xs.drop i) (ys.drop i))))) s) := by
  have hul := hu.length
  have hwl := hw.length
  induction k with
  | zero =>
    intro i hk hi1 hi2 prog w A R s h
    obtain ⟨hp, g, d, tk, os⟩ := s; obtain ⟨hl, hb, h⟩ := h
    have hi : i = xs.length := by k_extra "omx"
    wp_walk using wpAny_loadPart' hl, wpAny_loadPart' hb
    have e1 : us.toArray[((i : Nat) : Int).toNat]? = none := by simp; k_extra "omx"
    rw [e1]
    wp_walk using wpAny_loadPart' hl, wpAny_loadPart' hb
    show R (.ok (.ret (.bool (decide (us.toArray.size < ws.toArray.size))))) _
    have e2 : xs.drop i = [] := by rw [hi, List.drop_length]
    have e3 : ltL (xs.drop i) (ys.drop i) = decide (us.toArray.size < ws.toArray.size) := by
      rw [e2]
      simp [ltL, hul, hwl]; k_extra "omx"
    rw [e3] at h
    exact h
  | succ k ih =>
    intro i hk hi1 hi2 prog w A R s h
    obtain ⟨hp, g, d, tk, os⟩ := s; obtain ⟨hl, hb, h⟩ := h
    have hlt : i < xs.length := by k_extra "omx"
    obtain ⟨t, hx⟩ := strsL_at hu (List.getElem?_eq_getElem hlt)
    have ex : us.toArray[((i : Nat) : Int).toNat]? = some (.str xs[i] t) := by simpa using hx
    have dx : xs.drop i = xs[i] :: xs.drop (i + 1) := List.drop_eq_getElem_cons hlt
    rw [dx] at h
    wp_walk using wpAny_loadPart' hl, wpAny_loadPart' hb
    rw [ex]
    by_cases hly : i < ys.length
    · obtain ⟨u, hy⟩ := strsL_at hw (List.getElem?_eq_getElem hly)
      have ey : ws.toArray[((i : Nat) : Int).toNat]? = some (.str ys[i] u) := by simpa using hy
      have dy : ys.drop i = ys[i] :: ys.drop (i + 1) := List.drop_eq_getElem_cons hly
      rw [dy] at h
      rw [ey]
      have hc : ((i : Int) + 1) = ((i + 1 : Nat) : Int) := by push_cast; rfl
      refine wpAny_bind (wpAny_eqBool_str ?_)
      by_cases he : xs[i] = ys[i]
      · rw [decide_eq_true he]
        have eh : ltL (xs[i] :: xs.drop (i + 1)) (ys[i] :: ys.drop (i + 1)) = ltL (xs.drop (i + 1)) (ys.drop (i + 1)) := by
          simp [ltL, he]
        rw [eh] at h
        wp_walk
        rw [hc]
        exact ⟨plainId_quiet MeetsSeq3.plain_eq_loop _, codeAny_builtin MeetsSeq3.entry_eq_loop (by
          rw [Around.under_plainId MeetsSeq3.plain_eq_loop _]
          exact ih (i + 1) (by k_extra "omx") (by k_extra "omx") (by k_extra "omx") prog w A R _ ⟨hl, hb, h⟩)⟩
      · rw [decide_eq_false he]
        have eh : ltL (xs[i] :: xs.drop (i + 1)) (ys[i] :: ys.drop (i + 1)) = strLt xs[i] ys[i] := by
          simp [ltL, he]
        rw [eh] at h
        wp_walk using wpAny_loadPart' hl, wpAny_loadPart' hb
        rw [ex, ey]
        show wpAny _ _ (compareOp .Lt (.str xs[i] t) (.str ys[i] u) >>= _) _ _ _
        refine wpAny_bind (P.lt_str (wpAny_pure ?_))
        exact h
    · have ey : ws.toArray[((i : Nat) : Int).toNat]? = none := by simp; k_extra "omx"
      have dy : ys.drop i = [] := List.drop_eq_nil_iff.mpr (by k_extra "omx")
      rw [dy] at h
      rw [ey]
      wp_walk using wpAny_loadPart' hl, wpAny_loadPart' hb
      show R (.ok (.ret (.bool (decide (us.toArray.size < ws.toArray.size))))) _
      have e3 : ltL (xs[i] :: xs.drop (i + 1)) [] = decide (us.toArray.size < ws.toArray.size) := by
        simp [ltL, hul, hwl]; k_extra "omx"
      rw [e3] at h
      exact h
set_option maxHeartbeats 4000000 in
theorem gt_loop (a b : Addr) (us ws : List Value) (n n2 : Nat) (xs ys : List Str) (hu : StrsL us xs) (hw : StrsL ws ys) (k : Nat) :
    ∀ i : Nat, xs.length - i = k → i ≤ xs.length → i ≤ ys.length → Meets (Builtin.«list.__eq__.loop» ⟨[.ref a, .ref b, rawInt i, rawInt 4], []⟩)
      (fun _ R s => s.heap.get? a = some { cls := .type "list", dict := none, data := .seq us.toArray n, slots := #[] } ∧ s.heap.get? b = some { cls := .type "list", dict := none, data := .seq ws.toArray n2, slots := #[] } ∧
        R (.ok (.ret (.bool (ltL (ys.drop i) (xs.drop i))))) s) := by
  have hul := hu.length
  have hwl := hw.length
  induction k with
  | zero =>
    intro i hk hi1 hi2 prog w A R s h
    obtain ⟨hp, g, d, tk, os⟩ := s; obtain ⟨hl, hb, h⟩ := h
    have hi : i = xs.length := by k_extra "omx"
    wp_walk using wpAny_loadPart' hl, wpAny_loadPart' hb
    have e1 : us.toArray[((i : Nat) : Int).toNat]? = none := by simp; k_extra "omx"
    rw [e1]
    wp_walk using wpAny_loadPart' hl, wpAny_loadPart' hb
    show R (.ok (.ret (.bool (decide (us.toArray.size > ws.toArray.size))))) _
    have e2 : xs.drop i = [] := by rw [hi, List.drop_length]
    have e3 : ltL (ys.drop i) (xs.drop i) = decide (us.toArray.size > ws.toArray.size) := by
      rw [e2]
      cases hd : ys.drop i with
      | nil => simp [ltL, hul, hwl]; have := congrArg List.length hd; simp at this; k_extra "omx"
      | cons y l => simp [ltL, hul, hwl]; have := congrArg List.length hd; simp at this; k_extra "omx"
    rw [e3] at h
    exact h
  | succ k ih =>
    intro i hk hi1 hi2 prog w A R s h
    obtain ⟨hp, g, d, tk, os⟩ := s; obtain ⟨hl, hb, h⟩ := h
    have hlt : i < xs.length := by k_extra "omx"
    obtain ⟨t, hx⟩ := strsL_at hu (List.getElem?_eq_getElem hlt)
    have ex : us.toArray[((i : Nat) : Int).toNat]? = some (.str xs[i] t) := by simpa using hx
    have dx : xs.drop i = xs[i] :: xs.drop (i + 1) := List.drop_eq_getElem_cons hlt
    rw [dx] at h
    wp_walk using wpAny_loadPart' hl, wpAny_loadPart' hb
    rw [ex]
    by_cases hly : i < ys.length
    · obtain ⟨u, hy⟩ := strsL_at hw (List.getElem?_eq_getElem hly)
      have ey : ws.toArray[((i : Nat) : Int).toNat]? = some (.str ys[i] u) := by simpa using hy
      have dy : ys.drop i = ys[i] :: ys.drop (i + 1) := List.drop_eq_getElem_cons hly
      rw [dy] at h
      rw [ey]
      have hc : ((i : Int) + 1) = ((i + 1 : Nat) : Int) := by push_cast; rfl
      refine wpAny_bind (wpAny_eqBool_str ?_)
      by_cases he : xs[i] = ys[i]
      · rw [decide_eq_true he]
        have eh : ltL (ys[i] :: ys.drop (i + 1)) (xs[i] :: xs.drop (i + 1)) = ltL (ys.drop (i + 1)) (xs.drop (i + 1)) := by
          simp [ltL, he]
        rw [eh] at h
        wp_walk
        rw [hc]
        exact ⟨plainId_quiet MeetsSeq3.plain_eq_loop _, codeAny_builtin MeetsSeq3.entry_eq_loop (by
          rw [Around.under_plainId MeetsSeq3.plain_eq_loop _]
          exact ih (i + 1) (by k_extra "omx") (by k_extra "omx") (by k_extra "omx") prog w A R _ ⟨hl, hb, h⟩)⟩
      · rw [decide_eq_false he]
        have eh : ltL (ys[i] :: ys.drop (i + 1)) (xs[i] :: xs.drop (i + 1)) = strLt ys[i] xs[i] := by
          simp [ltL, Ne.symm he]
        rw [eh] at h
        wp_walk using wpAny_loadPart' hl, wpAny_loadPart' hb
        rw [ex, ey]
        show wpAny _ _ (compareOp .Gt (.str xs[i] t) (.str ys[i] u) >>= _) _ _ _
        refine wpAny_bind (gt_str (wpAny_pure ?_))
        exact h
    · have ey : ws.toArray[((i : Nat) : Int).toNat]? = none := by simp; k_extra "omx"
      have dy : ys.drop i = [] := List.drop_eq_nil_iff.mpr (by k_extra "omx")
      rw [dy] at h
      rw [ey]
      wp_walk using wpAny_loadPart' hl, wpAny_loadPart' hb
      show R (.ok (.ret (.bool (decide (us.toArray.size > ws.toArray.size))))) _
      have e3 : ltL [] (xs[i] :: xs.drop (i + 1)) = decide (us.toArray.size > ws.toArray.size) := by
        simp [ltL, hul, hwl]; k_extra "omx"
      rw [e3] at h
      exact h
end Mine


end
section
namespace Mine
open AutoSeq1 (wpAny_loadPart')
theorem meets_list_lt (a b : Addr) (us ws : List Value) (n n2 : Nat) (xs ys : List Str) (hu : StrsL us xs) (hw : StrsL ws ys) :
    Meets (Builtin.«list.__lt__» ⟨[.ref a, .ref b], []⟩)
      (fun _ R s => s.heap.get? a = some { cls := .type "list", dict := none, data := .seq us.toArray n, slots := #[] } ∧ s.heap.get? b = some { cls := .type "list", dict := none, data := .seq ws.toArray n2, slots := #[] } ∧
        R (.ok (.ret (.bool (ltL xs ys)))) s) := by
  intro prog w A R s h
  obtain ⟨hp, g, d, tk, os⟩ := s; obtain ⟨hl, hb, h⟩ := h
  have f3 := AutoSeq1.sub_list_list
  wp_walk using wpAny_loadPart' hl, wpAny_loadPart' hb
  exact ⟨plainId_quiet MeetsSeq3.plain_eq_loop _, codeAny_builtin MeetsSeq3.entry_eq_loop (by
    rw [Around.under_plainId MeetsSeq3.plain_eq_loop _]
    exact lt_loop a b us ws n n2 xs ys hu hw _ 0 rfl (Nat.zero_le _) (Nat.zero_le _) prog w A R _ ⟨hl, hb, by simpa using h⟩)⟩
theorem meets_list_gt (a b : Addr) (us ws : List Value) (n n2 : Nat) (xs ys : List Str) (hu : StrsL us xs) (hw : StrsL ws ys) :
    Meets (Builtin.«list.__gt__» ⟨[.ref a, .ref b], []⟩)
      (fun _ R s => s.heap.get? a = some { cls := .type "list", dict := none, data := .seq us.toArray n, slots := #[] } ∧ s.heap.get? b = some { cls := .type "list", dict := none, data := .seq ws.toArray n2, slots := #[] } ∧
        R (.ok (.ret (.bool (ltL ys xs)))) s) := by
  intro prog w A R s h
  obtain ⟨hp, g, d, tk, os⟩ := s; obtain ⟨hl, hb, h⟩ := h
  have f3 := AutoSeq1.sub_list_list
  wp_walk using wpAny_loadPart' hl, wpAny_loadPart' hb
  exact ⟨plainId_quiet MeetsSeq3.plain_eq_loop _, codeAny_builtin MeetsSeq3.entry_eq_loop (by
    rw [Around.under_plainId MeetsSeq3.plain_eq_loop _]
    exact gt_loop a b us ws n n2 xs ys hu hw _ 0 rfl (Nat.zero_le _) (Nat.zero_le _) prog w A R _ ⟨hl, hb, by simpa using h⟩)⟩
noncomputable def ltE (p q : Int × Str) : Bool := if p.1 = q.1 then (if p.2 = q.2 then false else strLt p.2 q.2) else decide (p.1 < q.1)
set_option maxHeartbeats 2000000 in
theorem meets_tuple_lt (a b : Addr) (i j : Int) (x y : Str) (t u t2 u2 : Tok) (n n2 : Nat) :
    Meets (Builtin.«tuple.__lt__» ⟨[.ref a, .ref b], []⟩)
      (fun _ R s => s.heap.get? a = some { cls := .type "tuple", dict := none, data := .seq #[.int i t, .str x u] n, slots := #[] } ∧ s.heap.get? b = some { cls := .type "tuple", dict := none, data := .seq #[.int j t2, .str y u2] n2, slots := #[] } ∧
        R (.ok (.ret (.bool (ltE (i, x) (j, y))))) s) := by
  intro prog w A R s h
  obtain ⟨hp, g, d, tk, os⟩ := s; obtain ⟨hl, hb, h⟩ := h
  have f3 := sub_tuple_self
  have q1 : ∀ {A : Around} {E : Value → Shared → Prop} {s : Shared} {Q : Bool → Shared → Prop}, Q (i == j) s → wpAny (model prog w) A (eqBool (.int i t) (.int j t2)) Q E s := fun h => wpAny_eqBool_int h
  have q2 : ∀ {A : Around} {E : Value → Shared → Prop} {s : Shared} {Q : Bool → Shared → Prop}, Q (decide (x = y)) s → wpAny (model prog w) A (eqBool (.str x u) (.str y u2)) Q E s := fun h => wpAny_eqBool_str h
  have q3 : ∀ {A : Around} {E : Value → Shared → Prop} {s : Shared} {Q : Value → Shared → Prop}, Q (.bool (strLt x y)) s → wpAny (model prog w) A (richCompare .Lt (.str x u) (.str y u2)) Q E s := fun h => P.lt_str h
  have q4 : ∀ {A : Around} {E : Value → Shared → Prop} {s : Shared} {Q : Value → Shared → Prop}, Q (.bool (decide (i < j))) s → wpAny (model prog w) A (richCompare .Lt (.int i t) (.int j t2)) Q E s := fun {A E s Q} h => richCompare_gives (op := .Lt) (typeIs_int s _ t) (typeIs_int s _ t2) PySem.F.slot_int_lt PySem.F.entry_int_lt (PySem.F.args_int_lt_2 _ _) (gives_int_lt _ _ t t2) (fun x => nomatch x) h
  wp_walk using wpAny_loadPart' hl, wpAny_loadPart' hb, q1
  by_cases hij : i = j
  · rw [if_neg (by simp [hij])]
    wp_walk using q2
    by_cases hxy : x = y
    · rw [if_neg (by simp [hxy])]
      have e3 : ltE (i, x) (j, y) = false := by simp [ltE, hij, hxy]
      rw [e3] at h
      wp_walk
      exact h
    · rw [if_pos (by simp [hxy])]
      have e3 : ltE (i, x) (j, y) = strLt x y := by simp [ltE, hij, hxy]
      rw [e3] at h
      show wpAny _ _ (rule "tuple.compare.by-the-first-pair-that-differs" >>= fun _ => richCompare .Lt (.str x u) (.str y u2) >>= _) _ _ _
      refine wpAny_bind (wpAny_rule (wpAny_bind (q3 ?_)))
      wp_walk
      exact h
  · rw [if_pos (by simp [hij])]
    have e3 : ltE (i, x) (j, y) = decide (i < j) := by simp [ltE, hij]
    rw [e3] at h
    show wpAny _ _ (rule "tuple.compare.by-the-first-pair-that-differs" >>= fun _ => richCompare .Lt (.int i t) (.int j t2) >>= _) _ _ _
    refine wpAny_bind (wpAny_rule (wpAny_bind (q4 ?_)))
    wp_walk
    exact h
end Mine


end
namespace Mine
section
variable {prog : Program} {w : World} {A : Around} {E : Value → Shared → Prop} {s : Shared} {h₀ : Heap} {L : Addr} {m : Str → Option Value} {news : List (Addr × Obj)}
theorem rc_list_lt {a b : Addr} {us ws : List Value} {n n2 : Nat} {xs ys : List Str} {Q : Value → Shared → Prop} (N : News h₀ L s.heap news) (ha : (a, lstOf us n) ∈ news) (hb : (b, lstOf ws n2) ∈ news) (hu : StrsL us xs) (hw : StrsL ws ys) (hun : A.units < cLine)
    (h : Q (.bool (ltL xs ys)) s) : wpAny (model prog w) A (richCompare .Lt (.ref a) (.ref b)) Q E s :=
  richCompare_meets_room (op := .Lt) ⟨_, (N _ ha).1, rfl⟩ ⟨_, (N _ hb).1, rfl⟩ PySem.F.slot_list_lt PySem.F.entry_list_lt (PySem.F.args_list_lt_2 _ _) (meets_list_lt a b us ws n n2 xs ys hu hw) ⟨(N _ ha).1, (N _ hb).1, fun e => (nomatch e), h⟩ hun
theorem rc_list_gt {a b : Addr} {us ws : List Value} {n n2 : Nat} {xs ys : List Str} {Q : Value → Shared → Prop} (N : News h₀ L s.heap news) (ha : (a, lstOf us n) ∈ news) (hb : (b, lstOf ws n2) ∈ news) (hu : StrsL us xs) (hw : StrsL ws ys) (hun : A.units < cLine)
    (h : Q (.bool (ltL ys xs)) s) : wpAny (model prog w) A (richCompare .Gt (.ref a) (.ref b)) Q E s :=
  richCompare_meets_room (op := .Gt) ⟨_, (N _ ha).1, rfl⟩ ⟨_, (N _ hb).1, rfl⟩ PySem.F.slot_list_gt PySem.F.entry_list_gt (PySem.F.args_list_gt_2 _ _) (meets_list_gt a b us ws n n2 xs ys hu hw) ⟨(N _ ha).1, (N _ hb).1, fun e => (nomatch e), h⟩ hun
theorem rc_tuple_lt {a b : Addr} {i j : Int} {x y : Str} {t u t2 u2 : Tok} {n n2 : Nat} {Q : Value → Shared → Prop} (N : News h₀ L s.heap news) (ha : (a, tupOf [.int i t, .str x u] n) ∈ news) (hb : (b, tupOf [.int j t2, .str y u2] n2) ∈ news) (hun : A.units < cLine)
    (h : Q (.bool (ltE (i, x) (j, y))) s) : wpAny (model prog w) A (compareOp .Lt (.ref a) (.ref b)) Q E s :=
  richCompare_meets_room (op := .Lt) ⟨_, (N _ ha).1, rfl⟩ ⟨_, (N _ hb).1, rfl⟩ PySem.F.slot_tuple_lt PySem.F.entry_tuple_lt (PySem.F.args_tuple_lt_2 _ _) (meets_tuple_lt a b i j x y t u t2 u2 n n2) ⟨(N _ ha).1, (N _ hb).1, fun e => (nomatch e), h⟩ hun
theorem min2_K {D a b : Addr} {us ws : List Value} {n n2 k : Nat} {xs ys : List Str} {Q : Value → Shared → Prop} (hh : A.handled = none) (F : Fr h₀ L s.heap m) (N : News h₀ L s.heap news) (hD : (D, lstOf [.ref a, .ref b] k) ∈ news)
    (ha : (a, lstOf us n) ∈ news) (hb : (b, lstOf ws n2) ∈ news) (hu : StrsL us xs) (hw : StrsL ws ys) (hun : A.in1.units < cLine)
    (h : ∀ h' tk', Fr h₀ L h' m → News h₀ L h' news → Q (.ref (if ltL ys xs = true then b else a)) { s with heap := h', toks := tk' }) : wpAny (model prog w) A (call (.builtin "min") [.ref D]) Q E s := by
  have hname : (toString "min" ++ toString ".loop" : String) = "min.loop" := by decide
  have hl : s.heap.IsList D #[.ref a, .ref b] := ⟨_, (N _ hD).1, rfl, k, rfl⟩
  have hlt : D < s.heap.objs.size := Heap.lt_size (N _ hD).1
  refine call_function_tree PySem.F.kind_min PySem.F.plain_min PySem.F.entry_min (PySem.F.args_min1 _) ?_
  show wpAny _ A.in1 (Builtin.Builtins.bindParams "min" ["key", "default"] 0 ⟨[], []⟩ >>= _) _ _ s
  refine wpAny_bind (wpAny_of_eq (show Builtin.Builtins.bindParams "min" ["key", "default"] 0 ⟨[], []⟩ = pure [none, none] from rfl) ?_)
  refine wpAny_bind (wpAny_pure ?_)
  refine wpAny_bind (wpAny_pyIter_list hl ?_)
  refine wpAny_bind (wpAny_newObj_type ?_)
  rw [hname]
  have hI₀ : h₀.get? s.heap.objs.size = none := next_is_new F
  have hLI : s.heap.objs.size ≠ L := fun e => absurd F.ns.lt (e ▸ Nat.lt_irrefl _)
  generalize hIe : s.heap.objs.size = I at hlt hI₀ hLI ⊢
  have F1 := F.push { cls := .type "list_iterator", data := .fields #[.ref D, .int 0 0] }
  have hs1 : (s.heap.push { cls := .type "list_iterator", data := .fields #[.ref D, .int 0 0] }).objs.size = I + 1 := by rw [Heap.size_push, hIe]
  have up1 : ∀ b o, s.heap.get? b = some o → (s.heap.push { cls := .type "list_iterator", data := .fields #[.ref D, .int 0 0] }).get? b = some o := fun b o e => Heap.get?_push_of_some _ e
  have gI1 : (s.heap.push { cls := .type "list_iterator", data := .fields #[.ref D, .int 0 0] }).IsListIter I D 0 := ⟨_, hIe ▸ Heap.get?_push_size _ rfl, rfl, rfl⟩
  have nI : ∀ p ∈ news, p.1 ≠ I := fun p hp => hIe ▸ Nat.ne_of_lt (Heap.lt_size (N p hp).1)
  have nS : ∀ p ∈ news, p.1 ≠ I + 1 := fun p hp => Nat.ne_of_lt (Nat.lt_succ_of_lt (hIe ▸ Heap.lt_size (N p hp).1))
  have N1 : News h₀ L _ news := N.grown up1
  have hS₀ : h₀.get? (I + 1) = none := hs1 ▸ next_is_new F1
  have hLS : I + 1 ≠ L := fun e => absurd F1.ns.lt (by rw [hs1, e]; exact Nat.lt_irrefl _)
  generalize s.heap.push { cls := .type "list_iterator", data := .fields #[.ref D, .int 0 0] } = H1 at F1 hs1 up1 gI1 N1 ⊢
  rw [hs1]
  have F2 := F1.push { cls := .type "list", data := .seq ([] : List Value).toArray }
  have up2 : ∀ b o, H1.get? b = some o → (H1.push { cls := .type "list", data := .seq ([] : List Value).toArray }).get? b = some o := fun b o e => Heap.get?_push_of_some _ e
  have gS2 : (H1.push { cls := .type "list", data := .seq ([] : List Value).toArray }).get? (I + 1) = some (lstOf [] 0) := hs1 ▸ Heap.get?_push_size _ rfl
  have N2 : News h₀ L _ news := N1.grown up2
  have gI2 := gI1.at fun o e => up2 _ _ e
  generalize H1.push { cls := .type "list", data := .seq ([] : List Value).toArray } = H2 at F2 up2 gS2 N2 gI2 ⊢
  have W := Walks.list (prog := prog) (w := w) (A := A.in1) hh I D (Nat.ne_of_lt hlt) #[.ref a, .ref b]
  have hSI : I + 1 ≠ I := Nat.succ_ne_self I
  have keepL : ∀ h, News h₀ L h news → h.IsList D #[.ref a, .ref b] := fun h N => ⟨_, (N _ hD).1, rfl, k, rfl⟩
  -- the last look
  have third : ∀ (h' : Heap) (tk : Nat) (v : Value) (c : Nat), Fr h₀ L h' m → News h₀ L h' news → h'.IsListIter I D 2 → h'.get? (I + 1) = some (lstOf [v, v] c) → v = .ref (if ltL ys xs = true then b else a) →
      codeAny (model prog w) A (.builtin "min.loop" ⟨[.ref I, .none, .ref (I + 1)], []⟩) (fun r s' => match r with | .ok (.ret v) => Q v s' | .ok _ => False | .error e => E e s') { s with heap := h', toks := tk } := by
    intro h' tk v c F' N' gI gS hv
    refine codeAny_builtin PySem.F.entry_min_loop ?_
    rw [Around.under_plainId PySem.F.plain_min_loop _]
    show wpAny _ A.in1 (seqItems? (.ref (I + 1)) >>= _) _ _ _
    refine wpAny_bind (wpAny_seqItems gS rfl ?_)
    show wpAny _ A.in1 (tryCatch (pyNext (.ref I)) _ >>= _) _ _ _
    refine wpAny_bind (wpAny_tryCatch (W.done _ _ _ ⟨gI, keepL _ N'⟩ fun h3 tk3 hk3 => ?_))
    have F3 := kmb_fr F' hk3 hLI hI₀
    have N3 := kmb_news N' hk3 nI
    have gS3 := hk3 (I + 1) _ (by simp) gS
    have s1 := Heap.SameBut.update h3 (I + 1) (Obj.mapSeq fun _ => (#[] : Array Value))
    show wpAny _ A.in1 (updateSeq (I + 1) (fun _ => #[]) >>= _) _ _ _
    refine wpAny_bind ?_
    refine wpAny_updateSeq gS3 rfl (wpAny_bind (wpAny_letGo (wpAny_pure ?_)))
    show Q v _
    rw [hv]
    exact h _ _ (ksk_fr F3 s1 hLS hS₀) (ksk_news N3 s1 nS)
  -- the second
  have second : ∀ (h' : Heap) (tk : Nat) (c : Nat), Fr h₀ L h' m → News h₀ L h' news → h'.IsListIter I D 1 → h'.get? (I + 1) = some (lstOf [.ref a, .ref a] c) →
      codeAny (model prog w) A (.builtin "min.loop" ⟨[.ref I, .none, .ref (I + 1)], []⟩) (fun r s' => match r with | .ok (.ret v) => Q v s' | .ok _ => False | .error e => E e s') { s with heap := h', toks := tk } := by
    intro h' tk c F' N' gI gS
    refine codeAny_builtin PySem.F.entry_min_loop ?_
    rw [Around.under_plainId PySem.F.plain_min_loop _]
    show wpAny _ A.in1 (seqItems? (.ref (I + 1)) >>= _) _ _ _
    refine wpAny_bind (wpAny_seqItems gS rfl ?_)
    show wpAny _ A.in1 (tryCatch (pyNext (.ref I)) _ >>= _) _ _ _
    refine wpAny_bind (wpAny_tryCatch (W.item 1 _ _ _ (by simp) ⟨gI, keepL _ N'⟩ fun v h3 tk3 hP hst3 hk3 => ?_))
    have hP : (#[Value.ref a, Value.ref b] : Array Value)[1]? = some v := hP
    obtain rfl : v = .ref b := by simpa using hP.symm
    have F3 := kmb_fr F' hk3 hLI hI₀
    have N3 := kmb_news N' hk3 nI
    have gS3 := hk3 (I + 1) _ (by simp) gS
    show wpAny _ A.in1 (tryCatch (holding [.ref b, .ref b] (richCompare .Lt (.ref b) (.ref a) >>= _)) _ >>= _) _ _ _
    refine wpAny_bind (wpAny_tryCatch (wpAny_holding (wpAny_bind (rc_list_lt N3 hb ha hw hu hun ?_))))
    refine wpAny_bind (wpAny_holding (wpAny_truthy_bool ?_))
    refine wpAny_bind (wpAny_letGo (wpAny_pure ?_))
    cases hc : ltL ys xs with
    | true =>
      simp only [if_true]
      refine wpAny_bind ?_
      have ho := Heap.get?_update_self (Obj.mapSeq fun _ => (#[.ref b, .ref b] : Array Value)) gS3 rfl
      have s1 := Heap.SameBut.update h3 (I + 1) (Obj.mapSeq fun _ => (#[.ref b, .ref b] : Array Value))
      refine wpAny_updateSeq gS3 rfl (wpAny_bind (wpAny_letGo ?_))
      rw [hname]
      refine wpAny_pure ⟨plainId_quiet PySem.F.plain_min_loop _, third _ _ (.ref b) _ (ksk_fr F3 s1 hLS hS₀) (ksk_news N3 s1 nS) (hst3.1.extBut s1.extBut (Ne.symm hSI)) ho (by rw [hc]; rfl)⟩
    | false =>
      simp only [Bool.false_eq_true, if_false]
      refine wpAny_bind (wpAny_letGo ?_)
      rw [hname]
      exact wpAny_pure ⟨plainId_quiet PySem.F.plain_min_loop _, third _ _ (.ref a) _ F3 N3 hst3.1 gS3 (by rw [hc]; rfl)⟩
  refine wpAny_pure ⟨plainId_quiet PySem.F.plain_min_loop _, ?_⟩
  refine codeAny_builtin PySem.F.entry_min_loop ?_
  rw [Around.under_plainId PySem.F.plain_min_loop _]
  show wpAny _ A.in1 (seqItems? (.ref (I + 1)) >>= _) _ _ _
  refine wpAny_bind (wpAny_seqItems gS2 rfl ?_)
  show wpAny _ A.in1 (tryCatch (pyNext (.ref I)) _ >>= _) _ _ _
  refine wpAny_bind (wpAny_tryCatch (W.item 0 _ _ _ (by simp) ⟨gI2, keepL _ N2⟩ fun v h3 tk3 hP hst3 hk3 => ?_))
  have hP : (#[Value.ref a, Value.ref b] : Array Value)[0]? = some v := hP
  obtain rfl : v = .ref a := by simpa using hP.symm
  have F3 := kmb_fr F2 hk3 hLI hI₀
  have N3 := kmb_news N2 hk3 nI
  have gS3 := hk3 (I + 1) _ (by simp) gS2
  show wpAny _ A.in1 (updateSeq (I + 1) (fun _ => #[.ref a, .ref a]) >>= _) _ _ _
  refine wpAny_bind ?_
  have ho := Heap.get?_update_self (Obj.mapSeq fun _ => (#[.ref a, .ref a] : Array Value)) gS3 rfl
  have s1 := Heap.SameBut.update h3 (I + 1) (Obj.mapSeq fun _ => (#[.ref a, .ref a] : Array Value))
  refine wpAny_updateSeq gS3 rfl ?_
  rw [hname]
  exact wpAny_pure ⟨plainId_quiet PySem.F.plain_min_loop _, second _ _ _ (ksk_fr F3 s1 hLS hS₀) (ksk_news N3 s1 nS) (hst3.1.extBut s1.extBut (Ne.symm hSI)) ho⟩
theorem max2_K {D a b : Addr} {us ws : List Value} {n n2 k : Nat} {xs ys : List Str} {Q : Value → Shared → Prop} (hh : A.handled = none) (F : Fr h₀ L s.heap m) (N : News h₀ L s.heap news) (hD : (D, lstOf [.ref a, .ref b] k) ∈ news)
    (ha : (a, lstOf us n) ∈ news) (hb : (b, lstOf ws n2) ∈ news) (hu : StrsL us xs) (hw : StrsL ws ys) (hun : A.in1.units < cLine)
    (h : ∀ h' tk', Fr h₀ L h' m → News h₀ L h' news → Q (.ref (if ltL xs ys = true then b else a)) { s with heap := h', toks := tk' }) : wpAny (model prog w) A (call (.builtin "max") [.ref D]) Q E s := by
  have hname : (toString "max" ++ toString ".loop" : String) = "max.loop" := by decide
  have hl : s.heap.IsList D #[.ref a, .ref b] := ⟨_, (N _ hD).1, rfl, k, rfl⟩
  have hlt : D < s.heap.objs.size := Heap.lt_size (N _ hD).1
  refine call_function_tree PySem.F.kind_max PySem.F.plain_max PySem.F.entry_max (PySem.F.args_max1 _) ?_
  show wpAny _ A.in1 (Builtin.Builtins.bindParams "max" ["key", "default"] 0 ⟨[], []⟩ >>= _) _ _ s
  refine wpAny_bind (wpAny_of_eq (show Builtin.Builtins.bindParams "max" ["key", "default"] 0 ⟨[], []⟩ = pure [none, none] from rfl) ?_)
  refine wpAny_bind (wpAny_pure ?_)
  refine wpAny_bind (wpAny_pyIter_list hl ?_)
  refine wpAny_bind (wpAny_newObj_type ?_)
  rw [hname]
  have hI₀ : h₀.get? s.heap.objs.size = none := next_is_new F
  have hLI : s.heap.objs.size ≠ L := fun e => absurd F.ns.lt (e ▸ Nat.lt_irrefl _)
  generalize hIe : s.heap.objs.size = I at hlt hI₀ hLI ⊢
  have F1 := F.push { cls := .type "list_iterator", data := .fields #[.ref D, .int 0 0] }
  have hs1 : (s.heap.push { cls := .type "list_iterator", data := .fields #[.ref D, .int 0 0] }).objs.size = I + 1 := by rw [Heap.size_push, hIe]
  have up1 : ∀ b o, s.heap.get? b = some o → (s.heap.push { cls := .type "list_iterator", data := .fields #[.ref D, .int 0 0] }).get? b = some o := fun b o e => Heap.get?_push_of_some _ e
  have gI1 : (s.heap.push { cls := .type "list_iterator", data := .fields #[.ref D, .int 0 0] }).IsListIter I D 0 := ⟨_, hIe ▸ Heap.get?_push_size _ rfl, rfl, rfl⟩
  have nI : ∀ p ∈ news, p.1 ≠ I := fun p hp => hIe ▸ Nat.ne_of_lt (Heap.lt_size (N p hp).1)
  have nS : ∀ p ∈ news, p.1 ≠ I + 1 := fun p hp => Nat.ne_of_lt (Nat.lt_succ_of_lt (hIe ▸ Heap.lt_size (N p hp).1))
  have N1 : News h₀ L _ news := N.grown up1
  have hS₀ : h₀.get? (I + 1) = none := hs1 ▸ next_is_new F1
  have hLS : I + 1 ≠ L := fun e => absurd F1.ns.lt (by rw [hs1, e]; exact Nat.lt_irrefl _)
  generalize s.heap.push { cls := .type "list_iterator", data := .fields #[.ref D, .int 0 0] } = H1 at F1 hs1 up1 gI1 N1 ⊢
  rw [hs1]
  have F2 := F1.push { cls := .type "list", data := .seq ([] : List Value).toArray }
  have up2 : ∀ b o, H1.get? b = some o → (H1.push { cls := .type "list", data := .seq ([] : List Value).toArray }).get? b = some o := fun b o e => Heap.get?_push_of_some _ e
  have gS2 : (H1.push { cls := .type "list", data := .seq ([] : List Value).toArray }).get? (I + 1) = some (lstOf [] 0) := hs1 ▸ Heap.get?_push_size _ rfl
  have N2 : News h₀ L _ news := N1.grown up2
  have gI2 := gI1.at fun o e => up2 _ _ e
  generalize H1.push { cls := .type "list", data := .seq ([] : List Value).toArray } = H2 at F2 up2 gS2 N2 gI2 ⊢
  have W := Walks.list (prog := prog) (w := w) (A := A.in1) hh I D (Nat.ne_of_lt hlt) #[.ref a, .ref b]
  have hSI : I + 1 ≠ I := Nat.succ_ne_self I
  have keepL : ∀ h, News h₀ L h news → h.IsList D #[.ref a, .ref b] := fun h N => ⟨_, (N _ hD).1, rfl, k, rfl⟩
  -- the last look
  have third : ∀ (h' : Heap) (tk : Nat) (v : Value) (c : Nat), Fr h₀ L h' m → News h₀ L h' news → h'.IsListIter I D 2 → h'.get? (I + 1) = some (lstOf [v, v] c) → v = .ref (if ltL xs ys = true then b else a) →
      codeAny (model prog w) A (.builtin "max.loop" ⟨[.ref I, .none, .ref (I + 1)], []⟩) (fun r s' => match r with | .ok (.ret v) => Q v s' | .ok _ => False | .error e => E e s') { s with heap := h', toks := tk } := by
    intro h' tk v c F' N' gI gS hv
    refine codeAny_builtin PySem.F.entry_max_loop ?_
    rw [Around.under_plainId PySem.F.plain_max_loop _]
    show wpAny _ A.in1 (seqItems? (.ref (I + 1)) >>= _) _ _ _
    refine wpAny_bind (wpAny_seqItems gS rfl ?_)
    show wpAny _ A.in1 (tryCatch (pyNext (.ref I)) _ >>= _) _ _ _
    refine wpAny_bind (wpAny_tryCatch (W.done _ _ _ ⟨gI, keepL _ N'⟩ fun h3 tk3 hk3 => ?_))
    have F3 := kmb_fr F' hk3 hLI hI₀
    have N3 := kmb_news N' hk3 nI
    have gS3 := hk3 (I + 1) _ (by simp) gS
    have s1 := Heap.SameBut.update h3 (I + 1) (Obj.mapSeq fun _ => (#[] : Array Value))
    show wpAny _ A.in1 (updateSeq (I + 1) (fun _ => #[]) >>= _) _ _ _
    refine wpAny_bind ?_
    refine wpAny_updateSeq gS3 rfl (wpAny_bind (wpAny_letGo (wpAny_pure ?_)))
    show Q v _
    rw [hv]
    exact h _ _ (ksk_fr F3 s1 hLS hS₀) (ksk_news N3 s1 nS)
  -- the second
  have second : ∀ (h' : Heap) (tk : Nat) (c : Nat), Fr h₀ L h' m → News h₀ L h' news → h'.IsListIter I D 1 → h'.get? (I + 1) = some (lstOf [.ref a, .ref a] c) →
      codeAny (model prog w) A (.builtin "max.loop" ⟨[.ref I, .none, .ref (I + 1)], []⟩) (fun r s' => match r with | .ok (.ret v) => Q v s' | .ok _ => False | .error e => E e s') { s with heap := h', toks := tk } := by
    intro h' tk c F' N' gI gS
    refine codeAny_builtin PySem.F.entry_max_loop ?_
    rw [Around.under_plainId PySem.F.plain_max_loop _]
    show wpAny _ A.in1 (seqItems? (.ref (I + 1)) >>= _) _ _ _
    refine wpAny_bind (wpAny_seqItems gS rfl ?_)
    show wpAny _ A.in1 (tryCatch (pyNext (.ref I)) _ >>= _) _ _ _
    refine wpAny_bind (wpAny_tryCatch (W.item 1 _ _ _ (by simp) ⟨gI, keepL _ N'⟩ fun v h3 tk3 hP hst3 hk3 => ?_))
    have hP : (#[Value.ref a, Value.ref b] : Array Value)[1]? = some v := hP
    obtain rfl : v = .ref b := by simpa using hP.symm
    have F3 := kmb_fr F' hk3 hLI hI₀
    have N3 := kmb_news N' hk3 nI
    have gS3 := hk3 (I + 1) _ (by simp) gS
    show wpAny _ A.in1 (tryCatch (holding [.ref b, .ref b] (richCompare .Gt (.ref b) (.ref a) >>= _)) _ >>= _) _ _ _
    refine wpAny_bind (wpAny_tryCatch (wpAny_holding (wpAny_bind (rc_list_gt N3 hb ha hw hu hun ?_))))
    refine wpAny_bind (wpAny_holding (wpAny_truthy_bool ?_))
    refine wpAny_bind (wpAny_letGo (wpAny_pure ?_))
    cases hc : ltL xs ys with
    | true =>
      simp only [if_true]
      refine wpAny_bind ?_
      have ho := Heap.get?_update_self (Obj.mapSeq fun _ => (#[.ref b, .ref b] : Array Value)) gS3 rfl
      have s1 := Heap.SameBut.update h3 (I + 1) (Obj.mapSeq fun _ => (#[.ref b, .ref b] : Array Value))
      refine wpAny_updateSeq gS3 rfl (wpAny_bind (wpAny_letGo ?_))
      rw [hname]
      refine wpAny_pure ⟨plainId_quiet PySem.F.plain_max_loop _, third _ _ (.ref b) _ (ksk_fr F3 s1 hLS hS₀) (ksk_news N3 s1 nS) (hst3.1.extBut s1.extBut (Ne.symm hSI)) ho (by rw [hc]; rfl)⟩
    | false =>
      simp only [Bool.false_eq_true, if_false]
      refine wpAny_bind (wpAny_letGo ?_)
      rw [hname]
      exact wpAny_pure ⟨plainId_quiet PySem.F.plain_max_loop _, third _ _ (.ref a) _ F3 N3 hst3.1 gS3 (by rw [hc]; rfl)⟩
  refine wpAny_pure ⟨plainId_quiet PySem.F.plain_max_loop _, ?_⟩
  refine codeAny_builtin PySem.F.entry_max_loop ?_
  rw [Around.under_plainId PySem.F.plain_max_loop _]
  show wpAny _ A.in1 (seqItems? (.ref (I + 1)) >>= _) _ _ _
  refine wpAny_bind (wpAny_seqItems gS2 rfl ?_)
  show wpAny _ A.in1 (tryCatch (pyNext (.ref I)) _ >>= _) _ _ _
  refine wpAny_bind (wpAny_tryCatch (W.item 0 _ _ _ (by simp) ⟨gI2, keepL _ N2⟩ fun v h3 tk3 hP hst3 hk3 => ?_))
  have hP : (#[Value.ref a, Value.ref b] : Array Value)[0]? = some v := hP
  obtain rfl : v = .ref a := by simpa using hP.symm
  have F3 := kmb_fr F2 hk3 hLI hI₀
  have N3 := kmb_news N2 hk3 nI
  have gS3 := hk3 (I + 1) _ (by simp) gS2
  show wpAny _ A.in1 (updateSeq (I + 1) (fun _ => #[.ref a, .ref a]) >>= _) _ _ _
  refine wpAny_bind ?_
  have ho := Heap.get?_update_self (Obj.mapSeq fun _ => (#[.ref a, .ref a] : Array Value)) gS3 rfl
  have s1 := Heap.SameBut.update h3 (I + 1) (Obj.mapSeq fun _ => (#[.ref a, .ref a] : Array Value))
  refine wpAny_updateSeq gS3 rfl ?_
  rw [hname]
  exact wpAny_pure ⟨plainId_quiet PySem.F.plain_max_loop _, second _ _ _ (ksk_fr F3 s1 hLS hS₀) (ksk_news N3 s1 nS) (hst3.1.extBut s1.extBut (Ne.symm hSI)) ho⟩
end
theorem all_ne {d d' : Addr} {r l : List (Addr × Obj)} (h : ∀ p ∈ l, p.1 < d') (hs : ∀ p ∈ r, p ∈ l) (hd : (@LE.le Nat _ d' d)) : ∀ p ∈ r, p.1 ≠ d := fun p hp => Nat.ne_of_lt (Nat.lt_of_lt_of_le (h p (hs p hp)) hd)
example : True := by
  k_with "c_keep2" => ((rename (∀ p ∈ (_ : List (Addr × Obj)), p.1 < _) => k9Z; first | exact all_ne k9Z (by k_extra "c_sub") (by omega) | (clear k9Z; k_extra "c_keep2")))
  trivial

example : True := by
  k_with "k_all" => (first | assumption | k_extra "c_keep" | k_extra "c_keep2")
  trivial

example : True := by
  k_with "exec For Tuple Call" => ((k_here; k_extra "c_forT"))
  trivial

example : True := by
  k_with "exec For Tuple Call cons nil" => ((k_here; k_extra "c_forT"))
  trivial

example : True := by
  k_with "c_noenum" => (fail_if_success (with_reducible show wpAny _ _ (call (Value.type "enumerate") _ _) _ _ _))
  trivial

example : True := by
  k_with "c_stepe" => (repeat' (first | (k_unfold; (try dsimp only)) | (k_end; wrow_close) | (k_extra "c_noiter"; k_extra "c_nomut"; k_extra "c_noenum"; walk1) | (k_extra "c_noiter"; k_extra "c_nomut"; k_extra "c_noenum"; dsimp only; walk1) | (leave1; try dsimp only) | fail "no step"))
  trivial

theorem led_list {h₀ h : Heap} {L l : Addr} {news : List (Addr × Obj)} {vs : List Value} {k : Nat} (N : News h₀ L h news) (hm : (l, lstOf vs k) ∈ news) : h.IsList l vs.toArray := ⟨_, (N _ hm).1, rfl, k, rfl⟩
theorem slicePick_take (vs : List Value) (i : Nat) (hi : i ≤ vs.length) : (slicePick vs.toArray none (some (i : Int)) none).toList = vs.take i := by
  have e : sliceBounds none (some (i : Int)) none vs.toArray.size = sliceBounds (some ((0 : Nat) : Int)) (some (i : Int)) none vs.toArray.size := by
    simp [sliceBounds]
    try k_extra "omx"
  unfold slicePick
  rw [e]
  have := slicePick_run vs.toArray 0 i (by simpa using hi) (by k_extra "omx")
  unfold slicePick at this
  rw [this]
  simp
example : True := by
  k_with "subscriptTail Name Slice ref ref" => ((k_here; (with_reducible show wpAny _ _ (subscriptTail _ (PySem.Expr.Slice none (some _) none _) (Value.ref _) (Value.ref _)) _ _ _); k_dflt (refine' kmk_slice_lit ?F ?N ?l IsPart.none (IsPart.int _ _) ?e ?_ ?s ?t ?z; (case F => k_asm); (case N => k_asm); (case l => exact led_list (by k_asm) (by k_mem)); (case e => exact slicePick_take _ _ (by omega)); (case s => with_unfolding_all rfl); (case t => (intro _; with_unfolding_all rfl)); (case z => (rw [sizeLine_eq]; simp; omega))); intro D9qZ h9qZ F9qZ N9qZ l9Z))
  trivial

example : True := by
  k_with "exec Try" => ((k_here; (with_reducible show wpAny _ _ (exec (Stmt.Try _ (_ :: _) _ [] _) _) _ _ _); refine wpAny_Try_except ?_))
  trivial

example : True := by
  k_with "exec Assign cons ListComp" => ((k_here; (with_reducible show wpAny _ _ (exec (Stmt.Assign [Expr.Name _ _] (Expr.ListComp _ [⟨Expr.Name _ _, Expr.Name (Str.ofString "paths") _, [], _⟩] _ _) _) _) _ _ _); k_dflt (refine Assign_ListComp_Tp (F₀ := by k_asm) (by rfl) (by with_unfolding_all rfl) (by with_unfolding_all rfl) (by decide) (by rfl) (by decide) (by rfl) (by rfl) (by rfl) ?_)))
  trivial

example : True := by
  k_with "eval SetComp" => ((k_here; k_dflt (refine SetComp_true (F₀ := by k_asm) (by with_unfolding_all rfl) (by decide) (by rfl) (by decide) (by rfl) ?_)))
  trivial

example : True := by
  k_with "assign Tuple" => ((k_here; (with_reducible show wpAny _ _ (assign (Expr.Tuple [Expr.Name _ _] _ _) _ (Value.ref _)) _ _ _); k_dflt (refine' assign_set1 ?h ?F ?N ?m ?_; (case h => rfl); (case F => k_asm); (case N => k_asm); (case m => k_mem); k_whole); intro h9qZ F9qZ N9qZ))
  trivial

noncomputable def compOk (c : Str) : Bool := c != Str.ofString "" && c != Str.ofString "."
noncomputable def compsF (x : Str) : List Str := (Txt.split x (Str.ofString "/")).filter compOk
noncomputable def minL (a b : List Str) : List Str := if ltL b a = true then b else a
noncomputable def maxL (a b : List Str) : List Str := if ltL a b = true then b else a
noncomputable def lcpL : List Str → List Str → List Str
  | x :: xs, y :: ys => if x = y then x :: lcpL xs ys else []
  | _, _ => []
theorem lcpL_stop : ∀ (i : Nat) (p z : List Str) {a b : Str}, p.take i = z.take i → p[i]? = some a → z[i]? = some b → a ≠ b → p.take i = lcpL p z
  | 0, x :: p, y :: z, a, b, _, h1, h2, h3 => by
    simp only [List.getElem?_cons_zero, Option.some.injEq] at h1 h2
    subst h1 h2
    simp [lcpL, h3]
  | 0, [], _, a, b, _, h1, _, _ => by simp at h1
  | 0, _ :: _, [], a, b, _, _, h2, _ => by simp at h2
  | i + 1, [], _, a, b, _, h1, _, _ => by simp at h1
  | i + 1, _ :: _, [], a, b, _, _, h2, _ => by simp at h2
  | i + 1, x :: p, y :: z, a, b, h, h1, h2, h3 => by
    simp only [List.take_succ_cons, List.cons.injEq] at h
    simp only [List.getElem?_cons_succ] at h1 h2
    rw [List.take_succ_cons, lcpL, if_pos h.1, lcpL_stop i p z h.2 h1 h2 h3]
theorem lcpL_all : ∀ (p z : List Str), p = z.take p.length → p = lcpL p z
  | [], _, _ => by simp [lcpL]
  | _ :: _, [], h => by simp at h
  | a :: p, b :: z, h => by
    simp only [List.length_cons, List.take_succ_cons, List.cons.injEq] at h
    rw [lcpL, if_pos h.1, ← lcpL_all p z h.2]
theorem ltL_prefix : ∀ (i : Nat) (p z : List Str), i < p.length → z.length ≤ i → p.take i = z.take i → ltL p z = false
  | 0, [], _, h, _, _ => absurd h (Nat.lt_irrefl 0)
  | 0, _ :: _, [], _, _, _ => rfl
  | 0, _ :: _, _ :: _, _, h, _ => absurd h (by simp)
  | i + 1, [], _, h, _, _ => absurd h (by simp)
  | i + 1, _ :: _, [], _, _, _ => rfl
  | i + 1, a :: p, b :: z, h1, h2, h3 => by
    simp only [List.take_succ_cons, List.cons.injEq] at h3
    simp only [ltL, h3.1, if_true]
    exact ltL_prefix i p z (by simpa using h1) (by simpa using h2) h3.2
theorem min_max_in (a b : List Str) : ∀ i, i < (minL a b).length → (minL a b).take i = (maxL a b).take i → i < (maxL a b).length := by
  intro i h1 h2
  have key : minL a b = maxL a b ∨ ltL (minL a b) (maxL a b) = true := by
    unfold minL maxL
    cases h3 : ltL b a <;> cases h4 : ltL a b <;> simp [h3, h4]
  rcases key with e | e
  · rw [← e]; exact h1
  · refine Nat.lt_of_not_le fun h3 => ?_
    rw [ltL_prefix i _ _ h1 h3 h2] at e
    cases e
noncomputable def commonF (x y : Str) : Str := Str.ofString "/" ++ Txt.join (Str.ofString "/") (lcpL (minL (compsF x) (compsF y)) (maxL (compsF x) (compsF y)))
theorem StrsL.take {vs : List Value} {xs : List Str} (h : StrsL vs xs) : ∀ i, StrsL (vs.take i) (xs.take i) := by
  induction h with
  | nil => intro i; simp; exact .nil
  | cons _ ih =>
    intro i
    cases i with
    | zero => exact .nil
    | succ i => exact .cons (ih i)
inductive ListsAre (led : List (Addr × Obj)) : List Value → List (List Str) → Prop
  | nil : ListsAre led [] []
  | cons {a : Addr} {us : List Value} {k : Nat} {xs : List Str} {vs : List Value} {xss : List (List Str)} : (a, lstOf us k) ∈ led → StrsL us xs → ListsAre led vs xss → ListsAre led (.ref a :: vs) (xs :: xss)
theorem ListsAre.mono {led led' : List (Addr × Obj)} {vs : List Value} {xss : List (List Str)} (h : ListsAre led vs xss) (hs : ∀ p ∈ led, p ∈ led') : ListsAre led' vs xss := by
  induction h with
  | nil => exact .nil
  | cons hm hx _ ih => exact .cons (hs _ hm) hx ih
theorem ListsAre.snoc {led : List (Addr × Obj)} {vs : List Value} {xss : List (List Str)} (h : ListsAre led vs xss) {a : Addr} {us : List Value} {k : Nat} {xs : List Str} (hm : (a, lstOf us k) ∈ led) (hx : StrsL us xs) : ListsAre led (vs ++ [.ref a]) (xss ++ [xs]) := by
  induction h with
  | nil => exact .cons hm hx .nil
  | cons h1 h2 _ ih => exact .cons h1 h2 ih
theorem ListsAre.length {led : List (Addr × Obj)} {vs : List Value} {xss : List (List Str)} (h : ListsAre led vs xss) : vs.length = xss.length := by
  induction h with
  | nil => rfl
  | cons _ _ _ ih => simp [ih]
theorem ListsAre.get {led : List (Addr × Obj)} {vs : List Value} {xss : List (List Str)} (h : ListsAre led vs xss) : ∀ {i : Nat} {v : Value} {xs : List Str}, vs[i]? = some v → xss[i]? = some xs → ∃ a us k, v = .ref a ∧ (a, lstOf us k) ∈ led ∧ StrsL us xs := by
  induction h with
  | nil => intro i v xs h; simp at h
  | cons hm hx _ ih =>
    intro i v xs h1 h2
    cases i with
    | zero => simp at h1 h2; subst h1 h2; exact ⟨_, _, _, rfl, hm, hx⟩
    | succ i => exact ih (by simpa using h1) (by simpa using h2)
theorem mem_sum_le : ∀ {l : List Nat} {a : Nat}, a ∈ l → a ≤ l.sum
  | b :: l, a, h => by
    rw [List.sum_cons]
    rcases List.mem_cons.mp h with rfl | h
    · k_extra "omx"
    · have := mem_sum_le h; k_extra "omx"
theorem split_item_le {x c : Str} (h : c ∈ Txt.split x (Str.ofString "/")) : c.length ≤ x.length := by
  have h1 := split_weight x (Str.ofString "/") (by decide)
  have h2 := mem_sum_le (List.mem_map_of_mem (f := fun y : Str => y.length) h)
  have h3 := List.length_pos_of_mem h
  k_extra "omx"
theorem compsF_len {x : Str} (h : x.length ≤ 1000) : (compsF x).length ≤ 2000 := by
  have h1 := split_le x (Str.ofString "/")
  have h2 := List.length_filter_le compOk (Txt.split x (Str.ofString "/"))
  unfold compsF
  k_extra "omx"
theorem compsF_item {x c : Str} (h : c ∈ compsF x) : c.length ≤ x.length := split_item_le (List.mem_filter.mp h).1
theorem led_name {h₀ h : Heap} {L : Addr} {l : List (Addr × Obj)} (_ : News h₀ L h l) : ∃ l', l' = l := ⟨_, rfl⟩
theorem ListsAre.two {led : List (Addr × Obj)} {vs : List Value} {xs ys : List Str} (h : ListsAre led vs [xs, ys]) : ∃ a us k b ws k2, vs = [.ref a, .ref b] ∧ (a, lstOf us k) ∈ led ∧ (b, lstOf ws k2) ∈ led ∧ StrsL us xs ∧ StrsL ws ys := by
  cases h with
  | cons h1 h2 h3 =>
    cases h3 with
    | cons h4 h5 h6 =>
      cases h6
      exact ⟨_, _, _, _, _, _, rfl, h1, h4, h2, h5⟩
theorem strsL_values : ∀ l : List (Str × Tok), StrsL (strValues l) (l.map (·.1))
  | [] => .nil
  | _ :: l => .cons (strsL_values l)
theorem newer_ne {h₀ h : Heap} {L : Addr} {l : List (Addr × Obj)} (N : News h₀ L h l) {p : Addr × Obj} (hp : p ∈ l) : (@Ne Nat h.objs.size p.1) := Nat.ne_of_gt (Heap.lt_size (N p hp).1)
theorem compEnd_new {h₀ : Heap} {L I C D : Addr} {m : Str → Option Value} {s₁ : Shared} {oI oC oD : Obj} {S : List (Addr × Obj) → Prop} {rest : Value → List (Addr × Obj) → Prop} {y : Value} {h' : Heap} {tk : Nat} {P : Addr × Obj} {l : List (Addr × Obj)}
    (F : Fr h₀ L h' m) (N : News h₀ L h' (P :: (I, oI) :: (C, oC) :: (D, oD) :: l)) (off : Off3 I C D (P :: l)) (hS : S (P :: l)) (r : rest y (P :: l)) :
    CompEnd h₀ L m s₁ I oI C oC D oD S rest y { s₁ with heap := h', toks := tk } :=
  CompEnd.intro F N (P :: l) (by
    intro p hp
    simp only [List.mem_cons] at hp ⊢
    rcases hp with h | h | h | h | h
    · exact .inr (.inl h)
    · exact .inr (.inr (.inl h))
    · exact .inr (.inr (.inr (.inl h)))
    · exact .inl h
    · exact .inr (.inr (.inr (.inr h)))) off hS r
example : True := by
  k_with "c_holdC" => (((first | (with_reducible show LCg.CompSrc _ _ _ _ _ _ _ _ _ _ _ _ _ _) | (with_reducible show LCt.CompSrcT _ _ _ _ _ _ _ _ _ _ _ _ _ _ _) | (with_reducible show SrcTp _ _ _ _ _ _ _ _ _ _ _ _ _ _)); refine held_out ?_))
  trivial

example : True := by
  k_with "c_stepC" => (repeat' (first | k_extra "c_holdC" | (k_unfold; (try dsimp only)) | (k_end; wrow_close) | (k_extra "c_noiter"; k_extra "c_nomut"; walk1) | (k_extra "c_noiter"; k_extra "c_nomut"; dsimp only; walk1) | (leave1; try dsimp only) | fail "no step"))
  trivial

set_option maxHeartbeats 4000000 in
theorem common_c (w : World) (news : List (Addr × Obj)) (l : Addr) (x y : Str) (t u : Tok) (k : Nat) (hm : (l, lstOf [.str x t, .str y u] k) ∈ news) (hx1 : 1 ≤ x.length) (hx2 : x.length ≤ 1000) (hy1 : 1 ≤ y.length) (hy2 : y.length ≤ 1000) (hxs : Txt.startswith x (Str.ofString "/") = true) (hys : Txt.startswith y (Str.ofString "/") = true)
    (hjl : (Txt.join (Str.ofString "/") (lcpL (minL (compsF x) (compsF y)) (maxL (compsF x) (compsF y)))).length ≤ 900) :
    Con w 327 4 [.ref l] [] news (fun r n' => (∃ u, r = .str (commonF x y) u) ∧ n' = news) := by
  (w_top off; unfold Con; intro dpZ unZ gdZ cnZ nmZ igZ icZ moZ aZ ccdZ clZ outerZ A₀Z baseZ h₀Z LZ mZ meanZ mgZ mbZ sZ QZ EZ BZ FZ XZ NZ TZ hdZ huZ hret; refine wpAny_call ?_; k_dflt k_enter)
  k_extra "c_stepC"
  rename News _ _ _ _ => N1
  rename Fr _ _ _ _ => F1
  refine call_map_K F1 N1 (by k_mem) fun h2 I F2 N2 hI => ?_
  clear F1 N1
  k_extra "c_stepC"
  refine call_tuple_map (vs := [.str x t, .str y u]) (n := k) (by rfl) F2 N2 ⟨rfl, rfl⟩ (fun p hp => Nat.ne_of_lt (hI p hp)) (Nat.ne_of_gt (by k_extra "omx")) (Nat.ne_of_gt (by k_extra "omx")) (by k_mem) (by simp) ?_ fun h3 tk3 D F3 N3 hD => ?_
  · intro v hv led s₁ Q₁ E₁ F N hq
    simp only [List.mem_cons, List.not_mem_nil, or_false] at hv
    rcases hv with rfl | rfl
    · refine con_use (fspath_c w led x t) (by k_asm) F (by k_asm) N (by k_asm) (by k_extra "c_room") (by k_extra "c_units") ?_
      intro r h' tk' n' F' N' hq6
      refine hide fun GZ kGZ => ?_
      obtain ⟨rfl, rfl⟩ := hq6
      refine kGZ ?_
      clear kGZ GZ
      exact hq h' tk' F' N'
    · refine con_use (fspath_c w led y u) (by k_asm) F (by k_asm) N (by k_asm) (by k_extra "c_room") (by k_extra "c_units") ?_
      intro r h' tk' n' F' N' hq6
      refine hide fun GZ kGZ => ?_
      obtain ⟨rfl, rfl⟩ := hq6
      refine kGZ ?_
      clear kGZ GZ
      exact hq h' tk' F' N'
  clear F2 N2
  k_lt hD
  clear hI
  k_extra "c_stepC"
  rename News _ _ _ _ => N4
  refine held_in ?_; refine SrcTp.ledger (by rfl) (by k_asm) N4 (by k_mem) (by simp [sizeLine_eq]) ?_
  intro g
  refine compRest_inv 2 (fun i ys n => ∃ own, n = own ++ _ ∧ ListsAre own ys (([x, y].take i).map fun p => Txt.split p (Str.ofString "/"))) ?_ ?_ 2 0 [] _ rfl ⟨[], rfl, .nil⟩
  · intro i ys n v I oI C oC D m2 h5 tk5 E5 hi hq14 hv hC hx F5 N5 off5 ne5
    refine opq fun Q9 hQ9 => ?_
    refine hide fun GZ kGZ => ?_
    obtain ⟨own, rfl, hJ⟩ := hq14
    refine kGZ ?_
    clear kGZ GZ
    obtain ⟨z, tz, rfl, hz, hz1, hz2⟩ : ∃ z tz, v = .str z tz ∧ [x, y][i]? = some z ∧ 1 ≤ z.length ∧ z.length ≤ 1000 := by
      match i, hi with
      | 0, _ => exact ⟨x, t, by simpa using hv.symm, rfl, hx1, hx2⟩
      | 1, _ => exact ⟨y, u, by simpa using hv.symm, rfl, hy1, hy2⟩
    clear N4
    have q1 : (@Ne Nat h5.objs.size I) := newer_ne N5 (.head _)
    have q2 : (@Ne Nat h5.objs.size C) := newer_ne N5 (.tail _ (.head _))
    have q3 : (@Ne Nat h5.objs.size D) := newer_ne N5 (.tail _ (.tail _ (.head _)))
    k_steps
    rename _ = Txt.split _ _ => hsp
    rename News _ _ _ _ => Nb
    refine hQ9 _ _ ?_; refine compEnd_new (by k_asm) Nb ⟨⟨q1, q2, q3⟩, off5⟩ (by k_mem) ⟨(_, _) :: own, rfl, ?_⟩
    have e : ([x, y].take (i + 1)).map (fun p => Txt.split p (Str.ofString "/")) = ([x, y].take i).map (fun p => Txt.split p (Str.ofString "/")) ++ [Txt.split z (Str.ofString "/")] := by
      rw [List.take_add_one, hz]; simp
    rw [e, ← hsp]
    exact ListsAre.snoc (hJ.mono fun p hp => .tail _ hp) (.head _) (strsL_values _)
  · intro ys n hq2
    refine hide fun GZ kGZ => ?_
    obtain ⟨own, rfl, hJ⟩ := hq2
    refine kGZ ?_
    clear kGZ GZ
    refine fun D h tk F' N' o1 => ?_
    have hne := off1_ne o1
    k_extra "c_stepC"
    rename News _ _ _ _ => N6
    refine ⟨_, [.str x t, .str y u], _, _, rfl, by rfl, by k_asm, N6, by k_mem, by simp, ?_, ?_⟩
    · intro v hv I oI C oC D oD m2 h7 tk7 E7 hC hx F7 N7 off7 ne7
      obtain ⟨z, tz, rfl, hz1, hz2, hz3⟩ : ∃ z tz, v = .str z tz ∧ 1 ≤ z.length ∧ z.length ≤ 1000 ∧ Txt.startswith z (Str.ofString "/") = true := by
        simp only [List.mem_cons, List.not_mem_nil, or_false] at hv
        rcases hv with rfl | rfl
        · exact ⟨x, t, rfl, hx1, hx2, hxs⟩
        · exact ⟨y, u, rfl, hy1, hy2, hys⟩
      k_extra "c_stepC"
      refine SetTurn.intro hz3 (by k_asm) (by k_asm)
    · intro D5 h8 tk8 F8 N8 o8
      clear N6
      k_extra "c_stepC"
      rename News _ _ _ _ => N9
      have hyl : ys.length = 2 := by have := hJ.length; simpa using this
      refine held_in ?_; refine LCg.CompSrc.ledger (by rfl) (by k_asm) N9 (by k_mem) (by simp [sizeLine_eq]; k_extra "omx") ?_
      intro g2
      obtain ⟨base, eb⟩ := led_name N9
      refine compRest_inv 2 (fun i zs n => ∃ own2, n = own2 ++ base ∧ ListsAre own2 zs (([x, y].take i).map fun p => (Txt.split p (Str.ofString "/")).filter compOk)) ?_ ?_ _ 0 [] _ (by simp; k_extra "omx") ⟨[], by rw [eb]; simp, .nil⟩
      · intro i zs n v I oI C oC Dd m2 hh5 tk5 E5 hi hq14 hv hC hx F5 N5 off5 ne5
        refine opq fun Q8 hQ8 => ?_
        refine hide fun GZ kGZ => ?_
        obtain ⟨own2, rfl, hZ⟩ := hq14
        refine kGZ ?_
        clear kGZ GZ
        subst eb
        obtain ⟨z, hz, hz1⟩ : ∃ z, [x, y][i]? = some z ∧ z.length ≤ 1000 := by
          match i, hi with
          | 0, _ => exact ⟨x, rfl, hx2⟩
          | 1, _ => exact ⟨y, rfl, hy2⟩
        refine hide fun GZ kGZ => ?_
        obtain ⟨a, us, kk, rfl, ha, hus⟩ := hJ.get (i := i) (by simpa using hv) (by rw [List.take_of_length_le (by simp), List.getElem?_map, hz]; rfl)
        refine kGZ ?_
        clear kGZ GZ
        clear N9
        have q1 : (@Ne Nat hh5.objs.size I) := newer_ne N5 (.head _)
        have q2 : (@Ne Nat hh5.objs.size C) := newer_ne N5 (.tail _ (.head _))
        have q3 : (@Ne Nat hh5.objs.size Dd) := newer_ne N5 (.tail _ (.tail _ (.head _)))
        k_extra "c_stepC"
        rename News _ _ _ _ => Na
        replace hus : StrsL us (Txt.split z (Str.ofString "/")) := hus
        have hul : us.length ≤ 2000 := by have h1 := split_le z (Str.ofString "/"); have h2 := hus.length; k_extra "omx"
        refine held_in ?_; refine LCt.CompSrcT.ledger (by rfl) (by k_asm) Na (by k_mem) (by simp [sizeLine_eq]; k_extra "omx") ?_
        intro g3
        refine compRestT_inv us.length (fun j cs n => n = _ ∧ StrsL cs (((Txt.split z (Str.ofString "/")).take j).filter compOk)) ?_ ?_ _ 0 [] _ (by simp) ⟨rfl, .nil⟩
        · intro j cs n v I2 oI2 C2 oC2 D2 m3 hh6 tk6 E6 hj hq14 hv2 hC2 hx2' F6 N6 off6 ne6
          refine opqC fun Q9 P9 hQ9 hP9 => ?_
          refine hide fun GZ kGZ => ?_
          obtain ⟨rfl, hC3⟩ := hq14
          refine kGZ ?_
          clear kGZ GZ
          refine hide fun GZ kGZ => ?_
          obtain ⟨c, tc, rfl, hci⟩ := hus.get (by simpa using hv2)
          refine kGZ ?_
          clear kGZ GZ
          have hcl : c.length ≤ 1000 := Nat.le_trans (split_item_le (List.mem_of_getElem? hci)) hz1
          have est : ((Txt.split z (Str.ofString "/")).take (j + 1)).filter compOk = ((Txt.split z (Str.ofString "/")).take j).filter compOk ++ (if compOk c = true then [c] else []) := by
            rw [List.take_add_one, hci]; simp only [Option.toList_some, List.filter_append, List.filter_cons, List.filter_nil]
          clear Na
          by_cases e1 : c = Str.ofString ""
          · subst e1
            have hfin : StrsL cs (((Txt.split z (Str.ofString "/")).take (j + 1)).filter compOk) := by rw [est, if_neg (by decide), List.append_nil]; exact hC3
            clear est
            k_extra "c_stepC"
            (first | refine hQ9 _ _ ?_ | refine hP9 _ ?_); refine CompEnd.intro (by k_asm) (by k_asm) _ (by k_extra "c_sub") off6 (.inr ⟨_, by k_mem, rfl, _, rfl⟩) ⟨rfl, hfin⟩
          · have hc1 : 1 ≤ c.length := by
              rcases c with ⟨c⟩
              rcases Nat.eq_zero_or_pos c.size with h | h
              · exact absurd (by rw [Array.eq_empty_of_size_eq_zero h]; rfl) e1
              · exact h
            by_cases e2 : c = Str.ofString "."
            · subst e2
              have hfin : StrsL cs (((Txt.split z (Str.ofString "/")).take (j + 1)).filter compOk) := by rw [est, if_neg (by decide), List.append_nil]; exact hC3
              clear est
              k_extra "c_stepC"
              (first | refine hQ9 _ _ ?_ | refine hP9 _ ?_); refine CompEnd.intro (by k_asm) (by k_asm) _ (by k_extra "c_sub") off6 (.inr ⟨_, by k_mem, rfl, _, rfl⟩) ⟨rfl, hfin⟩
            · have e2' : (c != Str.ofString ".") = true := by simpa using e2
              have hfin : ∀ t, StrsL (cs ++ [Value.str c t]) (((Txt.split z (Str.ofString "/")).take (j + 1)).filter compOk) := fun t => by rw [est, if_pos (show compOk c = true by simp only [compOk, Bool.and_eq_true]; exact ⟨by simpa using e1, e2'⟩)]; exact hC3.snoc
              clear e1 e2 est
              k_extra "c_stepC"
              (first | refine hQ9 _ _ ?_ | refine hP9 _ ?_); refine CompEnd.intro (by k_asm) (by k_asm) _ (by k_extra "c_sub") off6 (.inr ⟨_, by k_mem, rfl, _, rfl⟩) ⟨rfl, hfin _⟩
        · intro cs n hq2
          refine hide fun GZ kGZ => ?_
          obtain ⟨rfl, hC3⟩ := hq2
          refine kGZ ?_
          clear kGZ GZ
          rw [hus.length, List.take_length] at hC3
          refine fun Dn h9 tk9 F9 N9 o9 => ?_
          have hn9 := off1_ne o9
          clear Na
          k_extra "c_stepC"
          refine hQ8 _ _ ?_; refine compEnd_new (by k_asm) N9 ⟨⟨Ne.symm (hn9 _ (.head _)), Ne.symm (hn9 _ (.tail _ (.head _))), Ne.symm (hn9 _ (.tail _ (.tail _ (.head _))))⟩, off5⟩ (.inr ⟨_, by k_mem, rfl, _, rfl⟩) ⟨(_, _) :: own2, rfl, ?_⟩
          have e : ([x, y].take (i + 1)).map (fun p => (Txt.split p (Str.ofString "/")).filter compOk) = ([x, y].take i).map (fun p => (Txt.split p (Str.ofString "/")).filter compOk) ++ [(Txt.split z (Str.ofString "/")).filter compOk] := by
            rw [List.take_add_one, hz]; simp
          rw [e]
          exact ListsAre.snoc (hZ.mono fun p hp => .tail _ hp) (.head _) hC3
      · intro zs n hq2
        refine hide fun GZ kGZ => ?_
        obtain ⟨own2, rfl, hZ⟩ := hq2
        refine kGZ ?_
        clear kGZ GZ
        subst eb
        refine fun D2 hh4 tk4 F4 N4 o4 => ?_
        clear N9
        obtain ⟨cx, ecx⟩ : ∃ c, c = compsF x := ⟨_, rfl⟩
        obtain ⟨cy, ecy⟩ : ∃ c, c = compsF y := ⟨_, rfl⟩
        have hZ2 : ListsAre own2 zs [compsF x, compsF y] := hZ
        rw [← ecx, ← ecy] at hZ2
        clear hZ
        refine hide fun GZ kGZ => ?_
        refine exE6 (hZ2.two) ?_
        intro pa ua ka pb ub kb hzZ
        refine andE5 hzZ ?_
        clear hzZ
        rintro rfl ha hb hua hub
        refine kGZ ?_
        clear kGZ GZ
        clear hZ2
        have hlx : cx.length ≤ 2000 := by rw [ecx]; exact compsF_len hx2
        have hly : cy.length ≤ 2000 := by rw [ecy]; exact compsF_len hy2
        k_extra "c_stepC"
        refine min2_K (k := 2) (by rfl) (by k_asm) N4 (by k_mem) (by k_mem) (by k_mem) hua hub (by k_extra "c_units") fun h5 tk5 F5 N5 => ?_
        clear N4
        generalize hp : (if ltL cy cx = true then pb else pa) = p
        k_extra "c_stepC"
        rename News _ _ _ _ => N6
        refine max2_K (k := 2) (by rfl) (by k_asm) N6 (by k_mem) (by k_mem) (by k_mem) hua hub (by k_extra "c_units") fun h6 tk6 F6 N7 => ?_
        clear N6
        generalize hq : (if ltL cx cy = true then pb else pa) = q
        obtain ⟨up, kp, P, hpm, hP, eP, hPl⟩ : ∃ up kp P, (p, lstOf up kp) ∈ own2 ∧ StrsL up P ∧ P = minL cx cy ∧ P.length ≤ 2000 := by
          subst hp
          unfold minL
          split
          · exact ⟨_, _, _, hb, hub, rfl, hly⟩
          · exact ⟨_, _, _, ha, hua, rfl, hlx⟩
        obtain ⟨uq, kq, Z, hqm, hZ, eZ, hZl⟩ : ∃ up kp P, (q, lstOf up kp) ∈ own2 ∧ StrsL up P ∧ P = maxL cx cy ∧ P.length ≤ 2000 := by
          subst hq
          unfold maxL
          split
          · exact ⟨_, _, _, hb, hub, rfl, hly⟩
          · exact ⟨_, _, _, ha, hua, rfl, hlx⟩
        have hcomm : lcpL P Z = lcpL (minL cx cy) (maxL cx cy) := by rw [eP, eZ]
        have hins : ∀ i, i < P.length → P.take i = Z.take i → i < Z.length := by rw [eP, eZ]; exact min_max_in cx cy
        have hPw : ∀ c ∈ P, c.length ≤ 1000 := by
          rw [eP, ecx, ecy]
          intro c hc
          unfold minL at hc
          split at hc
          · exact Nat.le_trans (compsF_item hc) hy2
          · exact Nat.le_trans (compsF_item hc) hx2
        have hZw : ∀ c ∈ Z, c.length ≤ 1000 := by
          rw [eZ, ecx, ecy]
          intro c hc
          unfold maxL at hc
          split at hc
          · exact Nat.le_trans (compsF_item hc) hy2
          · exact Nat.le_trans (compsF_item hc) hx2
        clear hp hq hua hub ha hb eP eZ
        k_extra "c_stepe"
        rename News _ _ _ _ => N8
        rename Fr _ _ _ _ => F8
        refine iter_enumN [Str.ofString "i", Str.ofString "c", Str.ofString "common"] (fun i f n => n = _ ∧ f (Str.ofString "common") = some (.ref p) ∧ P.take i = Z.take i) (by rfl) (by rintro i m n ⟨rfl, _⟩; k_mem) F8 N8 ⟨rfl, by rw [if_pos rfl], rfl⟩ ?_ ?_
        · intro i v f n1 h2 tk2 I io eo T t hv hT hq13 hI off F2 N2
          refine opqT fun Q9 hQ9 => ?_
          refine hide fun GZ kGZ => ?_
          obtain ⟨rfl, hf, hJ⟩ := hq13
          refine kGZ ?_
          clear kGZ GZ
          clear F8 N8
          simp only [offN, hf] at F2
          refine hide fun GZ kGZ => ?_
          obtain ⟨c, tc, rfl, hci⟩ := hP.get hv
          refine kGZ ?_
          clear kGZ GZ
          have hiP : i < P.length := (List.getElem?_eq_some_iff.mp hci).1
          have hiZ := hins i hiP hJ
          obtain ⟨tz, hz⟩ := strsL_at hZ (List.getElem?_eq_getElem hiZ)
          have hz2 : uq[((i : Nat) : Int).toNat]? = some (.str Z[i] tz) := hz
          have hcl : c.length ≤ 1000 := hPw c (List.mem_of_getElem? hci)
          have hzl : Z[i].length ≤ 1000 := hZw _ (List.getElem_mem _)
          by_cases e : c = Z[i]
          · have e' : (c != Z[i]) = false := by simpa using e
            have hJ2 : P.take (i + 1) = Z.take (i + 1) := by
              rw [List.take_add_one, List.take_add_one, hci, List.getElem?_eq_getElem hiZ, hJ, e]
            clear hJ e hins
            generalize Z[i] = zi at hz2 hzl e'
            k_extra "c_stepC"
            refine hQ9 _ _ ?_; refine TurnX.intro (by k_asm) (by k_asm) off ⟨by k_extra "c_names", rfl, ?_, hJ2⟩
            rfl
          · have e' : (c != Z[i]) = true := by simpa using e
            have hJ2 : P.take i = lcpL P Z := lcpL_stop i P Z hJ hci (List.getElem?_eq_getElem hiZ) e
            have hul2 : up.length ≤ 2000 := by rw [hP.length]; exact hPl
            have hiu : i ≤ up.length := by rw [hP.length]; k_extra "omx"
            clear hJ e hins
            generalize Z[i] = zi at hz2 hzl e'
            k_extra "c_stepC"
            dsimp only
            refine hQ9 _ _ ?_; try dsimp only [TurnP]
            k_extra "c_stepC"
            rename News _ _ _ _ => N9
            refine join_L N9 (.head _) (hP.take i) (by decide) (fun y hy => ?_) (by rw [List.length_take]; k_extra "omx") fun t9 k9 => ?_
            · exact hPw y (List.mem_of_mem_take hy)
            rw [hJ2, hcomm]
            have hnf : commonF x y = Str.ofString "/" ++ Txt.join (Str.ofString "/") (lcpL (minL (compsF x) (compsF y)) (maxL (compsF x) (compsF y))) := rfl
            rw [← ecx, ← ecy] at hnf
            rw [← ecx, ← ecy] at hjl
            rw [hnf] at hret
            clear hnf hcomm hPw hZw hJ2
            generalize Txt.join (Str.ofString "/") (lcpL (minL cx cy) (maxL cx cy)) = jj at hjl hret ⊢
            have hj2 : (Str.ofString "/" ++ jj).length ≤ 1000 := by rw [Str.length_append]; have : (Str.ofString "/").length = 1 := rfl; k_extra "omx"
            k_extra "c_stepC"
            refine hret _ _ _ _ (by k_asm) (led_drop (by k_asm) (by k_extra "c_sub")) ⟨⟨_, rfl⟩, rfl⟩
        · intro f n1 h2 tk2 hq4 F2 N2
          refine hide fun GZ kGZ => ?_
          obtain ⟨rfl, hf, hJ⟩ := hq4
          refine kGZ ?_
          clear kGZ GZ
          clear F8 N8
          simp only [offN, hf] at F2
          have hJ2 : P = lcpL P Z := by
            rw [hP.length, List.take_length] at hJ
            exact lcpL_all P Z hJ
          k_extra "c_stepC"
          rename News _ _ _ _ => N9
          refine join_L N9 (by k_mem) hP (by decide) (fun y hy => ?_) (by k_extra "omx") fun t9 k9 => ?_
          · exact hPw y (id hy)
          rw [hJ2, hcomm]
          have hnf : commonF x y = Str.ofString "/" ++ Txt.join (Str.ofString "/") (lcpL (minL (compsF x) (compsF y)) (maxL (compsF x) (compsF y))) := rfl
          rw [← ecx, ← ecy] at hnf
          rw [← ecx, ← ecy] at hjl
          rw [hnf] at hret
          clear hnf hcomm hPw hZw hJ2
          generalize Txt.join (Str.ofString "/") (lcpL (minL cx cy) (maxL cx cy)) = jj at hjl hret ⊢
          have hj2 : (Str.ofString "/" ++ jj).length ≤ 1000 := by rw [Str.length_append]; have : (Str.ofString "/").length = 1 := rfl; k_extra "omx"
          k_extra "c_stepC"
          refine hret _ _ _ _ (by k_asm) (led_drop (by k_asm) (by k_extra "c_sub")) ⟨⟨_, rfl⟩, rfl⟩
section
variable {prog : Program} {w : World} {A : Around} {E : Value → Shared → Prop} {s : Shared} {env : Env} {h₀ : Heap} {test : PySem.Expr} {body orelse : List Stmt} {Q : Flow → Shared → Prop}
noncomputable def WEnd (h₀ : Heap) (L : Addr) (s₁ : Shared) (J : (Str → Option Value) → List (Addr × Obj) → Prop) (s₂ : Shared) : Prop :=
  ∃ h' tk m' news', s₂ = { s₁ with heap := h', toks := tk } ∧ Fr h₀ L h' m' ∧ News h₀ L h' news' ∧ J m' news'
noncomputable def WTurn (h₀ : Heap) (L : Addr) (s₁ : Shared) (J : (Str → Option Value) → List (Addr × Obj) → Prop) (Q : Flow → Shared → Prop) (f : Flow) (s₂ : Shared) : Prop :=
  match f with
  | .ret v => Q (.ret v) s₂
  | .brk => Q .next s₂
  | _ => WEnd h₀ L s₁ J s₂
theorem WEnd.intro {L : Addr} {J : (Str → Option Value) → List (Addr × Obj) → Prop} {m' : Str → Option Value} {news' : List (Addr × Obj)} {s₁ : Shared} {h' : Heap} {tk : Nat} (F : Fr h₀ L h' m') (N : News h₀ L h' news')
    (hj : J m' news') : WEnd h₀ L s₁ J { s₁ with heap := h', toks := tk } := ⟨h', tk, m', news', rfl, F, N, hj⟩
theorem while_inv (J : Nat → (Str → Option Value) → List (Addr × Obj) → Prop) (hE : PassesOwn (model prog w) A env E)
    (turn : ∀ n m₁ news₁ h tk, J n m₁ news₁ → Fr h₀ env.locals h m₁ → News h₀ env.locals h news₁ →
      wpAny (model prog w) A (isTrue test env (eval test env)) (fun b s₂ => WhlIf b (wpAny (model prog w) A (execs body env) (WTurn h₀ env.locals s (fun m' n' => ∃ n2, n2 < n ∧ J n2 m' n') Q) E s₂) (wpAny (model prog w) A (execs orelse env) Q E s₂)) E { s with heap := h, toks := tk }) :
    ∀ (n : Nat) (m₁ : Str → Option Value) (news₁ : List (Addr × Obj)) (h : Heap) (tk : Nat), J n m₁ news₁ → Fr h₀ env.locals h m₁ → News h₀ env.locals h news₁ → WhlRest prog w A E env test body orelse Q 0 { s with heap := h, toks := tk } := by
  intro n
  induction n using Nat.strongRecOn with
  | _ n ih =>
    intro m₁ news₁ h tk hj F N
    show WhlRest prog w A E env test body orelse Q (0 + 1) _
    refine whl_turn hE (wpAny_mono (turn n m₁ news₁ h tk hj F N) (fun b s₂ h₂ => ?_) fun _ _ e => e)
    cases b with
    | false => exact h₂
    | true =>
      have h₃ : wpAny (model prog w) A (execs body env) (WTurn h₀ env.locals s (fun m' n' => ∃ n2, n2 < n ∧ J n2 m' n') Q) E s₂ := h₂
      refine WhlIf.yes rfl (wpAny_mono h₃ (fun f s₃ h₄ => ?_) fun _ _ e => e)
      have fin : WEnd h₀ env.locals s (fun m' n' => ∃ n2, n2 < n ∧ J n2 m' n') s₃ → WhlRest prog w A E env test body orelse Q 0 s₃ := by
        rintro ⟨h', tk', m', news', rfl, F', N', n2, hn2, hj2⟩
        exact ih n2 hn2 m' news' h' tk' hj2 F' N'
      cases f with
      | ret v => exact h₄
      | brk => exact h₄
      | next => exact fin h₄
      | cont => exact fin h₄
theorem while_invN {m₀ : Str → Option Value} {news : List (Addr × Obj)} {pos : Pos} (ns : List Str) (μ : Nat) (J : Nat → (Str → Option Value) → List (Addr × Obj) → Prop) (hE : PassesOwn (model prog w) A env E)
    (F : Fr h₀ env.locals s.heap m₀) (N : News h₀ env.locals s.heap news) (hj : J μ m₀ news)
    (turn : ∀ n f news₁ h tk, J n f news₁ → Fr h₀ env.locals h (offN f m₀ ns) → News h₀ env.locals h news₁ →
      wpAny (model prog w) A (isTrue test env (eval test env)) (fun b s₂ => WhlIf b (wpAny (model prog w) A (execs body env) (WTurn h₀ env.locals s (fun m' n' => (∀ y, y ∉ ns → m' y = m₀ y) ∧ ∃ n2, n2 < n ∧ J n2 m' n') Q) E s₂) (wpAny (model prog w) A (execs orelse env) Q E s₂)) E { s with heap := h, toks := tk }) :
    wpAny (model prog w) A (exec (.While test body orelse pos) env) Q E s := by
  refine whl_start 0 ?_
  have e : s = { s with heap := s.heap, toks := s.toks } := rfl
  rw [e]
  refine while_inv (h₀ := h₀) (s := s) (fun n m n' => (∀ y, y ∉ ns → m y = m₀ y) ∧ J n m n') hE ?_ μ m₀ news s.heap s.toks ⟨fun _ _ => rfl, hj⟩ F N
  rintro n m₁ news₁ h tk ⟨hm, hJ⟩ F1 N1
  refine wpAny_mono (turn n m₁ news₁ h tk hJ (by rw [offN_eq hm]; exact F1) N1) (fun b s₂ h₂ => ?_) fun _ _ e => e
  cases b with
  | false => exact h₂
  | true =>
    have h₃ : wpAny (model prog w) A (execs body env) (WTurn h₀ env.locals s (fun m' n' => (∀ y, y ∉ ns → m' y = m₀ y) ∧ ∃ n2, n2 < n ∧ J n2 m' n') Q) E s₂ := h₂
    refine WhlIf.yes rfl (wpAny_mono h₃ (fun f s₃ h₄ => ?_) fun _ _ e => e)
    have fin : WEnd h₀ env.locals s (fun m' n' => (∀ y, y ∉ ns → m' y = m₀ y) ∧ ∃ n2, n2 < n ∧ J n2 m' n') s₃ → WEnd h₀ env.locals s (fun m' n' => ∃ n2, n2 < n ∧ (∀ y, y ∉ ns → m' y = m₀ y) ∧ J n2 m' n') s₃ := by
      rintro ⟨h', tk', m', news', rfl, F', N', hk, n2, hn2, hj2⟩
      exact ⟨h', tk', m', news', rfl, F', N', n2, hn2, hk, hj2⟩
    cases f with
    | ret v => exact h₄
    | brk => exact h₄
    | next => exact fin h₄
    | cont => exact fin h₄
end
inductive ItemsAre (led : List (Addr × Obj)) : List Value → List (Int × Str) → Prop
  | nil : ItemsAre led [] []
  | cons {a : Addr} {i : Int} {x : Str} {t u n : Nat} {vs : List Value} {es : List (Int × Str)} : (a, tupOf [.int i t, .str x u] n) ∈ led → ItemsAre led vs es → ItemsAre led (.ref a :: vs) ((i, x) :: es)
theorem ItemsAre.length {led : List (Addr × Obj)} {vs : List Value} {es : List (Int × Str)} (h : ItemsAre led vs es) : vs.length = es.length := by
  induction h with
  | nil => rfl
  | cons _ _ ih => simp [ih]
theorem ItemsAre.get {led : List (Addr × Obj)} {vs : List Value} {es : List (Int × Str)} (h : ItemsAre led vs es) : ∀ {i : Nat}, i < es.length → ∃ a t u n, vs[i]? = some (.ref a) ∧ (a, tupOf [.int (es.getD i (0, Str.ofString "")).1 t, .str (es.getD i (0, Str.ofString "")).2 u] n) ∈ led := by
  induction h with
  | nil => intro i h; simp at h
  | cons hm _ ih =>
    intro i h
    cases i with
    | zero => exact ⟨_, _, _, _, rfl, by simpa using hm⟩
    | succ i =>
      refine hide fun GZ kGZ => ?_
      obtain ⟨a, t, u, n, e1, e2⟩ := ih (i := i) (by simpa using h)
      refine kGZ ?_
      clear kGZ GZ
      exact ⟨a, t, u, n, by simpa using e1, by simpa using e2⟩
theorem ItemsAre.mono {led led' : List (Addr × Obj)} {vs : List Value} {es : List (Int × Str)} (h : ItemsAre led vs es) (hs : ∀ p ∈ led, p ∈ led') : ItemsAre led' vs es := by
  induction h with
  | nil => exact .nil
  | cons hm _ ih => exact .cons (hs _ hm) ih
theorem ItemsAre.set {led : List (Addr × Obj)} {vs : List Value} {es : List (Int × Str)} (h : ItemsAre led vs es) {a : Addr} {e : Int × Str} {t u n : Nat} (hm : (a, tupOf [.int e.1 t, .str e.2 u] n) ∈ led) : ∀ i, ItemsAre led (vs.set i (.ref a)) (es.set i e) := by
  induction h with
  | nil => intro i; simp; exact .nil
  | cons h1 h2 ih =>
    intro i
    cases i with
    | zero => exact .cons hm h2
    | succ i => exact .cons h1 (ih i)
theorem ItemsAre.snoc {led : List (Addr × Obj)} {vs : List Value} {es : List (Int × Str)} (h : ItemsAre led vs es) {a : Addr} {e : Int × Str} {t u n : Nat} (hm : (a, tupOf [.int e.1 t, .str e.2 u] n) ∈ led) : ItemsAre led (vs ++ [.ref a]) (es ++ [e]) := by
  induction h with
  | nil => exact .cons hm .nil
  | cons h1 _ ih => exact .cons h1 ih
noncomputable abbrev e0 : Int × Str := (0, Str.ofString "")
noncomputable def sdGo (new : Int × Str) (pos : Nat) (es : List (Int × Str)) : List (Int × Str) :=
  if pos = 0 then es.set 0 new
  else if ltE new (es.getD ((pos - 1) / 2) e0) = true then sdGo new ((pos - 1) / 2) (es.set pos (es.getD ((pos - 1) / 2) e0))
  else es.set pos new
termination_by pos
decreasing_by k_extra "omx"
example : True := by
  k_with "c_nowhl" => ((fail_if_success (with_reducible show wpAny _ _ (exec (Stmt.While _ _ _ _) _) _ _ _)))
  trivial

example : True := by
  k_with "c_stepw" => (repeat' (first | (k_unfold; (try dsimp only)) | (k_end; wrow_close) | (k_extra "c_noiter"; k_extra "c_nomut"; k_extra "c_nowhl"; walk1) | (k_extra "c_noiter"; k_extra "c_nomut"; k_extra "c_nowhl"; dsimp only; walk1) | (leave1; try dsimp only) | fail "no step"))
  trivial

example : True := by
  k_with "compareOp Lt ref ref" => ((k_here; k_dflt (refine' rc_tuple_lt ?N ?a ?b ?u ?_; (case N => k_asm); (case a => k_mem); (case b => k_mem); (case u => k_extra "c_units"); k_whole)))
  trivial

set_option maxHeartbeats 4000000 in
theorem siftdown_c (w : World) (hp : Addr) (vs : List Value) (k : Nat) (es : List (Int × Str)) (tl rest : List (Addr × Obj)) (htl : ∀ p ∈ tl, p ∈ rest) (pos : Nat) (t0 tp : Tok) (hI : ItemsAre tl vs es) (hoff : ∀ p ∈ rest, p.1 ≠ hp) (hz : es.length ≤ 1000) (hpos : pos < es.length) :
    Con w 207 1 [.ref hp, .int 0 t0, .int (pos : Int) tp] [] ((hp, lstOf vs k) :: rest) (fun r n' => r = .none ∧ ∃ vs', n' = (hp, lstOf vs' k) :: rest ∧ ItemsAre tl vs' (sdGo (es.getD pos e0) pos es)) := by
  have hvl := hI.length
  refine hide fun GZ kGZ => ?_
  obtain ⟨b, tb, ub, nb, hb, hbm⟩ := hI.get hpos
  refine kGZ ?_
  clear kGZ GZ
  have hbr := htl _ hbm
  have hb2 : vs[((pos : Nat) : Int).toNat]? = some (.ref b) := hb
  (w_top off; unfold Con; intro dpZ unZ gdZ cnZ nmZ igZ icZ moZ aZ ccdZ clZ outerZ A₀Z baseZ h₀Z LZ mZ meanZ mgZ mbZ sZ QZ EZ BZ FZ XZ NZ TZ hdZ huZ hret; refine wpAny_call ?_; k_dflt k_enter)
  k_extra "c_stepw"
  rename News _ _ _ _ => N1
  rename Fr _ _ _ _ => F1
  refine absJ3 (fun (n : Nat) (f : Str → Option Value) (news : List (Addr × Obj)) => ∃ vs1 es1 tq, news = (hp, lstOf vs1 k) :: rest ∧ ItemsAre tl vs1 es1 ∧ es1.length = es.length ∧ n < es.length ∧ f (Str.ofString "pos") = some (.int (n : Int) tq) ∧ sdGo (es.getD pos e0) n es1 = sdGo (es.getD pos e0) pos es) fun J Jel Jmk => ?_
  refine while_invN [Str.ofString "parentpos", Str.ofString "parent", Str.ofString "pos"] pos J (by passes_own) F1 N1
    (Jmk _ _ _ ⟨vs, es, _, rfl, hI, rfl, hpos, rfl, rfl⟩) ?_
  intro n f news1 h2 tk2 hq5 F2 N2
  refine opqW fun Q9 P9 hQ9 hP9 => ?_
  refine hide fun GZ kGZ => ?_
  refine exE3 (Jel _ _ _ hq5) ?_
  clear hq5
  intro vs1 es1 tq hzZ
  refine andE6 hzZ ?_
  clear hzZ
  rintro rfl hI1 hl1 hn hf hgo
  refine kGZ ?_
  clear kGZ GZ
  clear F1 N1
  simp only [offN, hf] at F2
  have hv1 := hI1.length
  generalize es.getD pos e0 = new at hbm hbr hgo hret Jmk ⊢
  by_cases h0 : n = 0
  · subst h0
    k_extra "c_stepw"
    refine hP9 _ _ ?_
    k_extra "c_stepw"
    refine set_L (by k_asm) (by k_asm) (.head hoff) (by k_extra "omx") (by k_extra "omx") (by k_extra "omx") (fun h9 F9 N9 => ?_)
    k_steps
    refine hret _ _ _ _ (by k_asm) (led_drop (by k_asm) (by k_extra "c_sub")) ⟨rfl, _, rfl, ?_⟩
    rw [← hgo, sdGo, if_pos rfl]
    exact hI1.set hbm 0
  · k_extra "c_stepw"
    refine WhlIf.yes (decide_eq_true (by k_extra "omx")) ?_
    have hq : ((n : Int) - 1).fdiv (2 ^ (1 : Int).toNat) = (((n - 1) / 2 : Nat) : Int) := by
      rw [Int.fdiv_eq_ediv_of_nonneg _ (by decide)]
      show ((n : Int) - 1) / 2 = _
      k_extra "omx"
    have hqn : (n - 1) / 2 < es1.length := by k_extra "omx"
    refine hide fun GZ kGZ => ?_
    obtain ⟨c, tc, uc, nc, hc, hcm⟩ := hI1.get hqn
    refine kGZ ?_
    clear kGZ GZ
    have hcr := htl _ hcm
    have hq2 : vs1[(((n - 1) / 2 : Nat) : Int).toNat]? = some (.ref c) := hc
    rw [← hq] at hq2
    have hq3 : 0 ≤ ((n : Int) - 1).fdiv (2 ^ (1 : Int).toNat) := by k_extra "omx"
    have hq4 : ((n : Int) - 1).fdiv (2 ^ (1 : Int).toNat) < 2 ^ 63 := by k_extra "omx"
    generalize hpe : es1.getD ((n - 1) / 2) e0 = pe at hcm hcr
    k_extra "c_stepw"
    · refine set_L (by k_asm) (by k_asm) (.head hoff) (by k_extra "omx") (by k_extra "omx") (by k_extra "omx") (fun h9 F9 N9 => ?_)
      k_extra "c_stepw"
      refine hQ9 _ _ ?_; dsimp only [WTurn]
      refine WEnd.intro (by k_asm) (by k_asm) ⟨by k_extra "c_names", (n - 1) / 2, by k_extra "omx", Jmk _ _ _ (exI3 _ (es1.set n pe) _ (andI6 rfl (hI1.set hcm n) (by simp [hl1]) (by k_extra "omx") (congrArg (fun z => some (Value.int z _)) hq) ?_))⟩
      rw [← hgo]
      conv => rhs; rw [sdGo]
      rw [if_neg h0, hpe, if_pos ‹ltE _ _ = true›]
    · refine hQ9 _ _ ?_; dsimp only [WTurn]
      k_extra "c_stepw"
      refine set_L (by k_asm) (by k_asm) (.head hoff) (by k_extra "omx") (by k_extra "omx") (by k_extra "omx") (fun h9 F9 N9 => ?_)
      k_steps
      refine hret _ _ _ _ (by k_asm) (led_drop (by k_asm) (by k_extra "c_sub")) ⟨rfl, _, rfl, ?_⟩
      rw [← hgo, sdGo, if_neg h0, hpe, if_neg (by rw [show ltE new pe = false from ‹_›]; exact Bool.false_ne_true)]
      exact hI1.set hbm n
noncomputable def suC (pos : Nat) (es : List (Int × Str)) : Nat :=
  if 2 * pos + 2 < es.length ∧ ltE (es.getD (2 * pos + 1) e0) (es.getD (2 * pos + 2) e0) = false then 2 * pos + 2 else 2 * pos + 1
theorem suC_lt {pos : Nat} {es : List (Int × Str)} : pos < suC pos es := by unfold suC; split <;> k_extra "omx"
noncomputable def suGo (new : Int × Str) (pos : Nat) (es : List (Int × Str)) : List (Int × Str) :=
  if 2 * pos + 1 < es.length then suGo new (suC pos es) (es.set pos (es.getD (suC pos es) e0))
  else sdGo new pos (es.set pos new)
termination_by es.length - pos
decreasing_by have := @suC_lt pos es; rw [List.length_set]; k_extra "omx"
example : True := by
  k_with "c_nosift" => ((fail_if_success (with_reducible show wpAny _ _ (call (Value.ref 207) _ _) _ _ _); fail_if_success (with_reducible show wpAny _ _ (call (Value.ref 214) _ _) _ _ _)))
  trivial

example : True := by
  k_with "c_stepz" => (repeat' (first | (k_unfold; (try dsimp only)) | (k_end; wrow_close) | (k_extra "c_noiter"; k_extra "c_nomut"; k_extra "c_nowhl"; k_extra "c_nosift"; walk1) | (k_extra "c_noiter"; k_extra "c_nomut"; k_extra "c_nowhl"; k_extra "c_nosift"; dsimp only; walk1) | (leave1; try dsimp only) | fail "no step"))
  trivial

set_option maxHeartbeats 4000000 in
theorem siftup_c (w : World) (hp : Addr) (vs : List Value) (k : Nat) (es : List (Int × Str)) (tl rest : List (Addr × Obj)) (htl : ∀ p ∈ tl, p ∈ rest) (t0 : Tok) (hI : ItemsAre tl vs es) (hoff : ∀ p ∈ rest, p.1 ≠ hp) (hz : es.length ≤ 1000) (hpos : 0 < es.length) :
    Con w 214 2 [.ref hp, .int 0 t0] [] ((hp, lstOf vs k) :: rest) (fun r n' => r = .none ∧ ∃ vs', n' = (hp, lstOf vs' k) :: rest ∧ ItemsAre tl vs' (suGo (es.getD 0 e0) 0 es)) := by
  have hvl := hI.length
  refine hide fun GZ kGZ => ?_
  obtain ⟨b, tb, ub, nb, hb, hbm⟩ := hI.get hpos
  refine kGZ ?_
  clear kGZ GZ
  have hbr := htl _ hbm
  have hb2 : vs[(0 : Int).toNat]? = some (.ref b) := hb
  (w_top off; unfold Con; intro dpZ unZ gdZ cnZ nmZ igZ icZ moZ aZ ccdZ clZ outerZ A₀Z baseZ h₀Z LZ mZ meanZ mgZ mbZ sZ QZ EZ BZ FZ XZ NZ TZ hdZ huZ hret; refine wpAny_call ?_; k_dflt k_enter)
  k_extra "c_stepz"
  rename News _ _ _ _ => N1
  rename Fr _ _ _ _ => F1
  refine absJ3 (fun (n : Nat) (f : Str → Option Value) (news : List (Addr × Obj)) => ∃ p vs1 es1 tq tc, n + p = es.length ∧ news = (hp, lstOf vs1 k) :: rest ∧ ItemsAre tl vs1 es1 ∧ es1.length = es.length ∧ p < es.length ∧ f (Str.ofString "pos") = some (.int (p : Int) tq) ∧ f (Str.ofString "childpos") = some (.int (2 * (p : Int) + 1) tc) ∧ suGo (es.getD 0 e0) p es1 = suGo (es.getD 0 e0) 0 es) fun J Jel Jmk => ?_
  refine while_invN [Str.ofString "rightpos", Str.ofString "childpos", Str.ofString "pos"] es.length J (by passes_own) F1 N1
    (Jmk _ _ _ ⟨0, vs, es, _, _, rfl, rfl, hI, rfl, hpos, rfl, rfl, rfl⟩) ?_
  intro n f news1 h2 tk2 hq5 F2 N2
  refine opqW fun Q9 P9 hQ9 hP9 => ?_
  refine hide fun GZ kGZ => ?_
  refine exE5 (Jel _ _ _ hq5) ?_
  clear hq5
  intro p vs1 es1 tq tc hzZ
  refine andE8 hzZ ?_
  clear hzZ
  rintro hnp rfl hI1 hl1 hp1 hf hfc hgo
  refine kGZ ?_
  clear kGZ GZ
  clear F1 N1
  simp only [offN, hf, hfc] at F2
  have hv1 := hI1.length
  generalize es.getD 0 e0 = new at hbm hbr hgo hret Jmk ⊢
  by_cases h0 : 2 * p + 1 < es.length
  · k_extra "c_stepz"
    refine WhlIf.yes (decide_eq_true (by k_extra "omx")) ?_
    refine hide fun GZ kGZ => ?_
    obtain ⟨c1, t1, u1, n1, hc1, hm1⟩ := hI1.get (i := 2 * p + 1) (by k_extra "omx")
    refine kGZ ?_
    clear kGZ GZ
    have hr1 := htl _ hm1
    have hq1 : vs1[(2 * (p : Int) + 1).toNat]? = some (.ref c1) := by rw [show (2 * (p : Int) + 1).toNat = 2 * p + 1 by k_extra "omx"]; exact hc1
    generalize he1 : es1.getD (2 * p + 1) e0 = d1 at hm1 hr1
    have hi1 : (2 * (p : Int) + 1) = ((2 * p + 1 : Nat) : Int) := by k_extra "omx"
    have hend1 : suC p es1 = 2 * p + 1 → suGo new (2 * p + 1) (es1.set p d1) = suGo new 0 es := fun hs => by
      rw [← hgo]; conv => rhs; rw [suGo]
      rw [if_pos (by k_extra "omx"), hs, he1]
    k_extra "c_stepz"
    · refine hide fun GZ kGZ => ?_
      obtain ⟨c2, t2, u2, n2, hc2, hm2⟩ := hI1.get (i := 2 * p + 2) (by k_extra "omx")
      refine kGZ ?_
      clear kGZ GZ
      have hr2 := htl _ hm2
      have hq2 : vs1[(2 * (p : Int) + 1 + 1).toNat]? = some (.ref c2) := by rw [show (2 * (p : Int) + 1 + 1).toNat = 2 * p + 2 by k_extra "omx"]; exact hc2
      generalize he2 : es1.getD (2 * p + 2) e0 = d2 at hm2 hr2
      have hi2 : (2 * (p : Int) + 1 + 1) = ((2 * p + 2 : Nat) : Int) := by k_extra "omx"
      k_extra "c_stepz"
      · refine set_L (by k_asm) (by k_asm) (.head hoff) (by k_extra "omx") (by k_extra "omx") (by k_extra "omx") (fun h9 F9 N9 => ?_)
        k_extra "c_stepz"
        refine hQ9 _ _ ?_; dsimp only [WTurn]
        refine WEnd.intro (by k_asm) (by k_asm) ⟨by k_extra "c_names", es.length - (2 * p + 1), by k_extra "omx", Jmk _ _ _ (exI5 (2 * p + 1) _ (es1.set p d1) _ _ (andI8 (by k_extra "omx") rfl (hI1.set hm1 p) (by simp [hl1]) (by k_extra "omx") (congrArg (fun z => some (Value.int z _)) hi1) (congrArg (fun z => some (Value.int (2 * z + 1) _)) hi1) ?_))⟩
        exact hend1 (by unfold suC; rw [he1, he2]; exact if_neg (fun h => by have h2 := h.2; rw [show ltE d1 d2 = true from ‹ltE _ _ = true›] at h2; exact Bool.noConfusion h2))
      · refine set_L (by k_asm) (by k_asm) (.head hoff) (by k_extra "omx") (by k_extra "omx") (by k_extra "omx") (fun h9 F9 N9 => ?_)
        k_extra "c_stepz"
        refine hQ9 _ _ ?_; dsimp only [WTurn]
        refine WEnd.intro (by k_asm) (by k_asm) ⟨by k_extra "c_names", es.length - (2 * p + 2), by k_extra "omx", Jmk _ _ _ (exI5 (2 * p + 2) _ (es1.set p d2) _ _ (andI8 (by k_extra "omx") rfl (hI1.set hm2 p) (by simp [hl1]) (by k_extra "omx") (congrArg (fun z => some (Value.int z _)) hi2) (congrArg (fun z => some (Value.int (2 * z + 1) _)) hi2) ?_))⟩
        have hs : suC p es1 = 2 * p + 2 := by unfold suC; rw [he1, he2]; exact if_pos ⟨by k_extra "omx", ‹ltE _ _ = false›⟩
        rw [← hgo]; conv => rhs; rw [suGo]
        rw [if_pos (by k_extra "omx"), hs, he2]
    · refine set_L (by k_asm) (by k_asm) (.head hoff) (by k_extra "omx") (by k_extra "omx") (by k_extra "omx") (fun h9 F9 N9 => ?_)
      k_extra "c_stepz"
      refine hQ9 _ _ ?_; dsimp only [WTurn]
      refine WEnd.intro (by k_asm) (by k_asm) ⟨by k_extra "c_names", es.length - (2 * p + 1), by k_extra "omx", Jmk _ _ _ (exI5 (2 * p + 1) _ (es1.set p d1) _ _ (andI8 (by k_extra "omx") rfl (hI1.set hm1 p) (by simp [hl1]) (by k_extra "omx") (congrArg (fun z => some (Value.int z _)) hi1) (congrArg (fun z => some (Value.int (2 * z + 1) _)) hi1) ?_))⟩
      exact hend1 (by unfold suC; exact if_neg (fun h => by have := h.1; k_extra "omx"))
  · k_extra "c_stepz"
    refine WhlIf.no (decide_eq_false (by k_extra "omx")) ?_
    k_extra "c_stepz"
    refine hP9 _ _ ?_
    k_extra "c_stepz"
    refine set_L (by k_asm) (by k_asm) (.head hoff) (by k_extra "omx") (by k_extra "omx") (by k_extra "omx") (fun h9 F9 N9 => ?_)
    k_extra "c_stepz"
    (k_here; k_dflt (refine' con_use ((siftdown_c w hp _ k (es1.set p new) tl rest htl p _ _ (hI1.set hbm p) hoff (by simp; k_extra "omx") (by simp; k_extra "omx"))) ?k1 ?k2 ?k3 ?k4 ?k5 ?kd ?ku ?_; (case k1 => k_asm); (case k2 => k_asm); (case k3 => k_asm); (case k4 => k_asm); (case k5 => k_asm); (case kd => k_extra "c_room"); (case ku => k_extra "c_units"); k_whole))
    intro r h' tk' news' F8 N8 hq6
    refine hide fun GZ kGZ => ?_
    obtain ⟨rfl, vs8, rfl, hI8⟩ := hq6
    refine kGZ ?_
    clear kGZ GZ
    k_steps
    refine hret _ _ _ _ (by k_asm) (led_drop (by k_asm) (by k_extra "c_sub")) ⟨rfl, _, rfl, ?_⟩
    rw [← hgo, suGo, if_neg (by k_extra "omx")]
    have e : (es1.set p new).getD p e0 = new := by simp [List.getD_eq_getElem?_getD, hl1, hp1]
    rw [e] at hI8
    exact hI8
noncomputable def pushF (e : Int × Str) (es : List (Int × Str)) : List (Int × Str) := sdGo e es.length (es ++ [e])
noncomputable def popF (l : Int × Str) (es : List (Int × Str)) : List (Int × Str) := if es = [] then [] else suGo l 0 (es.set 0 l)
noncomputable def popTop (l : Int × Str) (es : List (Int × Str)) : Int × Str := if es = [] then l else es.getD 0 e0
theorem ItemsAre.split_snoc {led : List (Addr × Obj)} {es : List (Int × Str)} {l : Int × Str} : ∀ {vs : List Value}, ItemsAre led vs (es ++ [l]) → ∃ ys a t u n, vs = ys ++ [.ref a] ∧ ItemsAre led ys es ∧ (a, tupOf [.int l.1 t, .str l.2 u] n) ∈ led := by
  induction es with
  | nil =>
    intro vs h
    cases h with
    | cons hm h2 => cases h2; exact ⟨[], _, _, _, _, rfl, .nil, hm⟩
  | cons e es ih =>
    intro vs h
    cases h with
    | cons hm h2 =>
      refine hide fun GZ kGZ => ?_
      obtain ⟨ys, a, t, u, n, e1, h3, h4⟩ := ih h2
      refine kGZ ?_
      clear kGZ GZ
      exact ⟨_ :: ys, a, t, u, n, by rw [e1]; rfl, .cons hm h3, h4⟩
set_option maxHeartbeats 4000000 in
theorem heappush_c (w : World) (hp it : Addr) (e : Int × Str) (t u : Tok) (nt : Nat) (vs : List Value) (k : Nat) (es : List (Int × Str)) (tl rest : List (Addr × Obj)) (htl : ∀ p ∈ tl, p ∈ rest) (hI : ItemsAre tl vs es) (hoff : ∀ p ∈ rest, p.1 ≠ hp) (hz : es.length ≤ 999) (hm : (it, tupOf [.int e.1 t, .str e.2 u] nt) ∈ tl) :
    Con w 193 2 [.ref hp, .ref it] [] ((hp, lstOf vs k) :: rest) (fun r n' => r = .none ∧ ∃ vs' k', n' = (hp, lstOf vs' k') :: rest ∧ ItemsAre tl vs' (pushF e es)) := by
  have hvl := hI.length
  have hI2 := hI.snoc hm
  have hlen : (vs ++ [Value.ref it]).length = es.length + 1 := by simp [hvl]
  (w_top off; unfold Con; intro dpZ unZ gdZ cnZ nmZ igZ icZ moZ aZ ccdZ clZ outerZ A₀Z baseZ h₀Z LZ mZ meanZ mgZ mbZ sZ QZ EZ BZ FZ XZ NZ TZ hdZ huZ hret; refine wpAny_call ?_; k_dflt k_enter)
  k_extra "c_stepz"
  have hli : (((vs ++ [Value.ref it]).length : Nat) : Int) - 1 = (es.length : Int) := by k_extra "omx"
  rw [hli]
  (k_here; k_dflt (refine' con_use ((siftdown_c w hp _ (k + 1) (es ++ [e]) tl rest htl es.length _ _ hI2 hoff (by simp; k_extra "omx") (by simp))) ?k1 ?k2 ?k3 ?k4 ?k5 ?kd ?ku ?_; (case k1 => k_asm); (case k2 => k_asm); (case k3 => k_asm); (case k4 => k_asm); (case k5 => k_asm); (case kd => k_extra "c_room"); (case ku => k_extra "c_units"); k_whole))
  intro r h' tk' news' F8 N8 hq6
  refine hide fun GZ kGZ => ?_
  obtain ⟨rfl, vs8, rfl, hI8⟩ := hq6
  refine kGZ ?_
  clear kGZ GZ
  k_steps
  refine hret _ _ _ _ (by k_asm) (led_drop (by k_asm) (by k_extra "c_sub")) ⟨rfl, _, _, rfl, ?_⟩
  have e9 : (es ++ [e]).getD es.length e0 = e := by simp [List.getD_eq_getElem?_getD]
  rw [e9] at hI8
  exact hI8
set_option maxHeartbeats 4000000 in
theorem heappop_c (w : World) (hp : Addr) (vs : List Value) (k : Nat) (es : List (Int × Str)) (l : Int × Str) (tl rest : List (Addr × Obj)) (htl : ∀ p ∈ tl, p ∈ rest) (hI : ItemsAre tl vs (es ++ [l])) (hoff : ∀ p ∈ rest, p.1 ≠ hp) (hz : es.length ≤ 999) :
    Con w 200 3 [.ref hp] [] ((hp, lstOf vs k) :: rest) (fun r n' => (∃ a t u n, r = .ref a ∧ (a, tupOf [.int (popTop l es).1 t, .str (popTop l es).2 u] n) ∈ tl) ∧ ∃ vs' k', n' = (hp, lstOf vs' k') :: rest ∧ ItemsAre tl vs' (popF l es)) := by
  refine hide fun GZ kGZ => ?_
  obtain ⟨ys, a, ta, ua, na, rfl, hI1, hm⟩ := hI.split_snoc
  refine kGZ ?_
  clear kGZ GZ
  have hyl := hI1.length
  (w_top off; unfold Con; intro dpZ unZ gdZ cnZ nmZ igZ icZ moZ aZ ccdZ clZ outerZ A₀Z baseZ h₀Z LZ mZ meanZ mgZ mbZ sZ QZ EZ BZ FZ XZ NZ TZ hdZ huZ hret; refine wpAny_call ?_; k_dflt k_enter)
  k_extra "c_stepz"
  refine pop_snoc (by k_asm) (by k_asm) (.head hoff) (by k_extra "omx") (fun h9 F9 N9 => ?_)
  k_extra "c_stepz"
  · have he : ys = [] := List.isEmpty_iff.mp ‹ys.isEmpty = true›
    have he2 : es = [] := List.length_eq_zero_iff.mp (by rw [← hyl, he]; rfl)
    refine hret _ _ _ _ (by k_asm) (led_drop (by k_asm) (by k_extra "c_sub")) ⟨⟨_, _, _, _, rfl, by rw [popTop, if_pos he2]; exact hm⟩, _, _, rfl, ?_⟩
    rw [popF, if_pos he2, he]; exact .nil
  · have he : ys ≠ [] := fun h => by have h9 := ‹ys.isEmpty = false›; rw [h] at h9; exact Bool.noConfusion h9
    have he1 : 0 < ys.length := List.length_pos_iff.mpr he
    have he2 : es ≠ [] := fun h => by rw [hyl, h] at he1; exact Nat.lt_irrefl _ he1
    refine hide fun GZ kGZ => ?_
    obtain ⟨b, tb, ub, nb, hb, hbm⟩ := hI1.get (i := 0) (by k_extra "omx")
    refine kGZ ?_
    clear kGZ GZ
    have hbr := htl _ hbm
    have hb2 : ys[(0 : Int).toNat]? = some (.ref b) := hb
    k_extra "c_stepz"
    refine set_L (by k_asm) (by k_asm) (.head hoff) (by k_extra "omx") (by k_extra "omx") (by k_extra "omx") (fun h9 F9 N9 => ?_)
    (iterate 11 (first | (k_unfold; (try dsimp only)) | walk1 | (dsimp only; walk1) | (leave1; try dsimp only)))
    (k_here; k_dflt (refine' con_use ((siftup_c w hp _ (k + 1) (es.set 0 l) tl rest htl _ (hI1.set hm 0) hoff (by simp; k_extra "omx") (by simp; k_extra "omx"))) ?k1 ?k2 ?k3 ?k4 ?k5 ?kd ?ku ?_; (case k1 => k_asm); (case k2 => k_asm); (case k3 => k_asm); (case k4 => k_asm); (case k5 => k_asm); (case kd => k_extra "c_room"); (case ku => k_extra "c_units"); k_whole))
    intro r h' tk' news' F8 N8 hq6
    refine hide fun GZ kGZ => ?_
    obtain ⟨rfl, vs8, rfl, hI8⟩ := hq6
    refine kGZ ?_
    clear kGZ GZ
    k_steps
    refine hret _ _ _ _ (by k_asm) (led_drop (by k_asm) (by k_extra "c_sub")) ⟨⟨_, _, _, _, rfl, by rw [popTop, if_neg he2]; exact hbm⟩, _, _, rfl, ?_⟩
    have e9 : (es.set 0 l).getD 0 e0 = l := by
      cases es with
      | nil => exact absurd rfl he2
      | cons _ _ => rfl
    rw [e9] at hI8
    rw [popF, if_neg he2]
    exact hI8
noncomputable def depthF (x : Str) : Int := if x == Str.ofString "/" then 0 else Txt.count x (Str.ofString "/")
set_option maxHeartbeats 4000000 in
theorem depth_c (w : World) (news : List (Addr × Obj)) (x : Str) (t : Tok) : Con w 372 1 [.str x t] [] news (fun r n' => (∃ u, r = .int (depthF x) u) ∧ n' = news) := by
  (w_top off; unfold Con; intro dpZ unZ gdZ cnZ nmZ igZ icZ moZ aZ ccdZ clZ outerZ A₀Z baseZ h₀Z LZ mZ meanZ mgZ mbZ sZ QZ EZ BZ FZ XZ NZ TZ hdZ huZ hret; refine wpAny_call ?_; k_dflt k_enter)
  k_extra "c_stepm"
  · refine hret _ _ _ _ (by k_asm) (led_drop (by k_asm) (by k_extra "c_sub")) ⟨⟨_, congrArg (fun z => Value.int z _) (if_pos ‹(x == Str.ofString "/") = true›).symm⟩, rfl⟩
  · refine hret _ _ _ _ (by k_asm) (led_drop (by k_asm) (by k_extra "c_sub")) ⟨⟨_, congrArg (fun z => Value.int z _) (if_neg (fun h => by rw [‹(x == Str.ofString "/") = false›] at h; exact Bool.noConfusion h)).symm⟩, rfl⟩
example : True := by
  k_with "call ref" => (((with_reducible show wpAny _ _ (call (Value.ref 372) _ _) _ _ _); (k_here; k_dflt ((first | (refine' con_use1s (depth_c _ _ _ _) ?k1 ?k2 ?k3 ?k4 ?k5 ?kd ?ku ?_) | (refine' con_use1i (depth_c _ _ _ _) ?k1 ?k2 ?k3 ?k4 ?k5 ?kd ?ku ?_)); (case k1 => k_asm); (case k2 => k_asm); (case k3 => k_asm); (case k4 => k_asm); (case k5 => k_asm); (case kd => k_extra "c_room"); (case ku => k_extra "c_units"); k_whole); intro u9Z hh9Z tk9Z F9Z N9Z; (try dsimp only); (try k_fold))))
  trivial

example : True := by
  k_with "c_hold" => (((first | (with_reducible show wpAny _ _ (call (Value.ref 327) _ _) _ _ _) | (with_reducible show wpAny _ _ (call (Value.ref 193) _ _) _ _ _) | (with_reducible show wpAny _ _ (call (Value.ref 200) _ _) _ _ _) | (with_reducible show wpAny _ _ (call (Value.ref 102) _ _) _ _ _) | (with_reducible show wpAny _ _ (call (Value.ref 379) _ _) _ _ _) | (with_reducible show wpAny _ _ (call (Value.ref 353) _ _) _ _ _)); refine held_out ?_))
  trivial

example : True := by
  k_with "c_steph" => (repeat' (first | k_extra "c_hold" | (k_unfold; (try dsimp only)) | (k_end; wrow_close) | (k_extra "c_noiter"; k_extra "c_nowhl"; walk1) | (k_extra "c_noiter"; k_extra "c_nowhl"; dsimp only; walk1) | (leave1; try dsimp only) | fail "no step"))
  trivial

noncomputable def stepsF (x y : Str) : Int := depthF x + depthF y - 2 * depthF (commonF x y)
set_option maxHeartbeats 4000000 in
theorem steps_c (w : World) (news : List (Addr × Obj)) (x y : Str) (t u : Tok) (hx1 : 1 ≤ x.length) (hx2 : x.length ≤ 1000) (hy1 : 1 ≤ y.length) (hy2 : y.length ≤ 1000) (hxs : Txt.startswith x (Str.ofString "/") = true) (hys : Txt.startswith y (Str.ofString "/") = true)
    (hjl : (Txt.join (Str.ofString "/") (lcpL (minL (compsF x) (compsF y)) (maxL (compsF x) (compsF y)))).length ≤ 900) :
    Con w 379 5 [.str x t, .str y u] [] news (fun r n' => (∃ u, r = .int (stepsF x y) u) ∧ n' = news) := by
  (w_top off; unfold Con; intro dpZ unZ gdZ cnZ nmZ igZ icZ moZ aZ ccdZ clZ outerZ A₀Z baseZ h₀Z LZ mZ meanZ mgZ mbZ sZ QZ EZ BZ FZ XZ NZ TZ hdZ huZ hret; refine wpAny_call ?_; k_dflt k_enter)
  k_extra "c_steph"
  refine held_in ?_
  (k_here; k_dflt (refine' con_use (common_c w _ _ x y _ _ 0 (.head _) hx1 hx2 hy1 hy2 hxs hys hjl) ?k1 ?k2 ?k3 ?k4 ?k5 ?kd ?ku ?_; (case k1 => k_asm); (case k2 => k_asm); (case k3 => k_asm); (case k4 => k_asm); (case k5 => k_asm); (case kd => k_extra "c_room"); (case ku => k_extra "c_units"); k_whole))
  intro r h' tk' news' F8 N8 hq6
  refine hide fun GZ kGZ => ?_
  obtain ⟨⟨u8, rfl⟩, rfl⟩ := hq6
  refine kGZ ?_
  clear kGZ GZ
  k_extra "c_steph"
  refine hret _ _ _ _ (by k_asm) (led_drop (by k_asm) (by k_extra "c_sub")) ⟨⟨_, rfl⟩, rfl⟩
noncomputable def belS (os b : List Int) (k : Nat) : List Int := b.set (os.getD k 0).toNat (b.getD (os.getD k 0).toNat 0 + b.getD k 0)
noncomputable def belN (os ls : List Int) : Nat → List Int
  | 0 => ls
  | i + 1 => belS os (belN os ls i) (os.length - 1 - i)
noncomputable def belowF (os ls : List Int) : List Int := belN os ls (os.length - 1)
theorem belN_len (os ls : List Int) : ∀ i, (belN os ls i).length = ls.length
  | 0 => rfl
  | i + 1 => by rw [belN, belS, List.length_set, belN_len os ls i]
theorem IntsAre.set {vs : List Value} {ns : List Int} (h : IntsAre vs ns) {n : Int} {t : Tok} : ∀ i, IntsAre (vs.set i (.int n t)) (ns.set i n) := by
  induction h with
  | nil => intro i; exact .nil
  | cons m u h2 ih =>
    intro i
    cases i with
    | zero => exact .cons _ _ h2
    | succ i => exact .cons _ _ (ih i)
noncomputable def lesserF (os ls : List Int) : List Int := ((belowF os ls).drop 1).map (fun x => if ls.sum - x < x then ls.sum - x else x)
theorem led_keep1 {h₀ h : Heap} {L : Addr} {x : Addr × Obj} {big rest : List (Addr × Obj)} (N : News h₀ L h (x :: big)) (hs : ∀ p ∈ rest, p ∈ big) : News h₀ L h (x :: rest) :=
  fun p hp => N p (List.mem_cons.mpr ((List.mem_cons.mp hp).imp id (hs p)))
theorem sum_L {prog : Program} {w : World} {A : Around} {E : Value → Shared → Prop} {s : Shared} {h₀ : Heap} {L : Addr} {m : Str → Option Value} {news : List (Addr × Obj)} {l : Addr} {vs : List Value} {ns : List Int} {k : Nat} {Q : Value → Shared → Prop} (hh : A.handled = none) (F : Fr h₀ L s.heap m) (N : News h₀ L s.heap news) (hm : (l, lstOf vs k) ∈ news) (hi : IntsAre vs ns)
    (h : ∀ h' tk t', Fr h₀ L h' m → News h₀ L h' news → Q (.int ns.sum t') { s with heap := h', toks := tk }) :
    wpAny (model prog w) A (call (.builtin "sum") [.ref l]) Q E s := sumK hh F N ⟨_, (N _ hm).1, rfl, k, rfl⟩ hi h
example : True := by
  k_with "call builtin:sum" => ((k_here; (with_reducible show wpAny _ _ (call (Value.builtin "sum") [Value.ref _]) _ _ _); (k_dflt (refine' sum_L ?k0 ?k1 ?k2 ?k3 ?k4 ?_; (case k0 => with_unfolding_all rfl); (case k1 => k_asm); (case k2 => k_asm); (case k3 => k_extra "c_mem"); (case k4 => with_reducible assumption); k_whole)); intro hqZ tkqZ tqZ FqZ NqZ))
  trivial

set_option maxHeartbeats 4000000 in
theorem lesser_c (w : World) (news : List (Addr × Obj)) (l lp : Addr) (vs ps : List Value) (k kp : Nat) (os ls : List Int) (hm : (l, lstOf vs k) ∈ news) (hns : IntsAre vs os) (hmp : (lp, lstOf ps kp) ∈ news) (hls : IntsAre ps ls) (hO : OverOk os) (hlen : ls.length = os.length) :
    Con w 365 4 [.ref l, .ref lp] [] news (fun r n' => ∃ a ws k' ns, r = .ref a ∧ n' = (a, lstOf ws k') :: news ∧ IntsAre ws ns ∧ ns.Perm (lesserF os ls) ∧ ns.Pairwise (· ≤ ·) ∧ ∀ p ∈ news, p.1 ≠ a) := by
  have hvl := hns.length
  have hpl := hls.length
  have hle := hO.len
  have hat : ∀ i, i < os.length → ∃ t, vs[i]? = some (.int (os.getD i 0) t) := fun i hi => ints_at hns hi
  (w_top off; unfold Con; intro dpZ unZ gdZ cnZ nmZ igZ icZ moZ aZ ccdZ clZ outerZ A₀Z baseZ h₀Z LZ mZ meanZ mgZ mbZ sZ QZ EZ BZ FZ XZ NZ TZ hdZ huZ hret; refine wpAny_call ?_; k_dflt k_enter)
  k_extra "c_steph"
  refine kup_listOf (its2 := ps.toArray) (by k_asm) (by k_asm) (.tail _ hmp) rfl (fun D c h9 F9 N9 l9 => ?_) (by simp [sizeLine_eq]; k_extra "omx")
  have l8 : ∀ p ∈ news, p.1 ≠ D := fun p hp => Nat.ne_of_lt (l9 p (.tail _ hp))
  k_extra "c_steph"
  rename News _ _ _ _ => N1
  rename Fr _ _ _ _ => F1
  rename IsRange _ _ _ _ _ _ _ _ => R1
  refine iter_rangeA (n := os.length - 1) [Str.ofString "k"] (fun i ys _ => IntsAre ys (belN os ls i)) (by rfl) R1 (small_down (by k_extra "omx") (by k_extra "omx") (by k_extra "omx") (by k_extra "omx")) (by rw [rangeSize_downNat]; k_extra "omx") F1 N1 hls ?_ ?_
  · intro i tt f ys k1 h2 tk2 I io hi hJ hI off F2 N2
    first | refine opqT fun Q9 hQ9 => ?_ | refine opq fun Q9 hQ9 => ?_
    clear F1 N1
    simp only [offN] at F2
    have ek : ((vs.length : Int) - 1 + (i : Int) * (-1)) = ((os.length - 1 - i : Nat) : Int) := by k_extra "omx"
    rw [ek] at F2
    obtain ⟨j, hj⟩ : ∃ j, os.length - 1 - i = j + 1 := ⟨os.length - 1 - i - 1, by k_extra "omx"⟩
    have hst : belN os ls (i + 1) = belS os (belN os ls i) (j + 1) := by rw [belN, hj]
    rw [hj] at F2
    obtain ⟨to, eo⟩ := hat (j + 1) (by k_extra "omx")
    have o1 := hO.lo j (by k_extra "omx")
    have o2 := hO.hi j (by k_extra "omx")
    have hbl := belN_len os ls i
    have hyl := hJ.length
    unfold belS at hst
    have eo2 : vs[(((j + 1 : Nat) : Int)).toNat]? = _ := eo
    clear eo
    generalize os.getD (j + 1) 0 = o at eo2 o1 o2 hst
    obtain ⟨t1, e1⟩ := ints_at hJ (i := o.toNat) (by k_extra "omx")
    obtain ⟨t2, e2⟩ := ints_at hJ (i := j + 1) (by k_extra "omx")
    have e3 : ys[(((j + 1 : Nat) : Int)).toNat]? = _ := e2
    clear e2
    have h63 : (((j + 1 : Nat) : Int)) < 2 ^ 63 := by k_extra "omx"
    have h64 : o < 2 ^ 63 := by k_extra "omx"
    have h65 : (0 : Int) ≤ ((j + 1 : Nat) : Int) := by k_extra "omx"
    k_extra "c_steph"
    refine set_L (by k_asm) (by k_asm) (.tail (Ne.symm (off (_, _) (.head _))) (.head (by k_all))) (by k_extra "omx") (by k_extra "omx") (by k_extra "omx") (fun h9 F9 N9 => ?_)
    k_extra "c_steph"
    refine hQ9 _ _ ?_; refine TurnEndJ.intro (by k_asm) N9 (off1_acc off) ⟨by k_extra "c_names", _, _, rfl, ?_⟩
    rw [hst]
    exact IntsAre.set hJ _
  · intro f ys k1 h2 tk2 hJ F2 N2
    simp only [offN] at F2
    clear F1 N1
    have hbl := belN_len os ls (os.length - 1)
    have hyl := hJ.length
    k_extra "c_steph"
    rename News _ _ _ _ => N9
    rename List.Perm _ _ => pp
    refine hret _ _ _ _ (by k_asm) (led_keep1 N9 (fun p hp => List.Mem.tail _ (List.Mem.tail _ (List.Mem.tail _ (List.Mem.tail _ hp))))) ⟨_, _, _, _, rfl, rfl, by with_reducible assumption, pp, by with_reducible assumption, by k_all⟩
noncomputable abbrev IsZipG (h : Heap) (z TI TO T : Addr) (b : Bool) : Prop :=
  h.get? z = some { cls := .type "zip", dict := none, data := .fields #[rawInt T, .bool b, .bool false, .ref TI, .ref TO], slots := #[] }
section
variable {prog : Program} {w : World} {A : Around} {E : Value → Shared → Prop} {s : Shared}
theorem zip_not_free {z TI TO T : Addr} {b : Bool} {oT : Obj} {Q : Bool → Shared → Prop} (hz : IsZipG s.heap z TI TO T b) (hT : s.heap.get? T = some oT) (hTz : (@Ne Nat T z))
    (hQ : ∀ h', IsZipG h' z TI TO T true → Heap.SameBut z s.heap h' → Q false { s with heap := h' }) :
    wpAny (model prog w) A (Builtin.SmallTypes.ownedTupleIsFree (.ref z)) Q E s := by
  unfold Builtin.SmallTypes.ownedTupleIsFree
  refine wpAny_bind (wpAny_field hz rfl (x := rawInt T) rfl ?_)
  show wpAny _ _ (loadIfAlive T >>= _) _ _ _
  refine wpAny_bind (kdx_alive hT ?_)
  simp only [Option.isNone_some, Bool.false_eq_true, if_false]
  refine wpAny_bind (wpAny_field hz rfl (x := .bool b) rfl ?_)
  cases b with
  | true => exact wpAny_pure (hQ _ hz ⟨rfl, fun _ _ => rfl⟩)
  | false =>
    show wpAny _ _ (setField (.ref z) 1 (.bool true) >>= _) _ _ _
    refine wpAny_bind (wpAny_setField_rec hz (by simp) fun h' hz' hs' => wpAny_pure (hQ h' hz' hs'))
theorem zip_next_out {z TI TO i1 i2 l1 l2 T : Addr} {f : Bool} {oT : Obj} {k1 k2 : Nat} {xs ys : Array Value} {x y : Value} {Q : Value → Shared → Prop} (D : ZipApart z TI TO i1 i2 l1 l2)
    (hz : IsZipG s.heap z TI TO T f) (hT : s.heap.get? T = some oT) (hTz : (@Ne Nat T z)) (hTI : IsPair s.heap TI (.ref i1) (.ref i2))
    (h1 : s.heap.IsListIter i1 l1 k1) (h2 : s.heap.IsListIter i2 l2 k2) (hl1 : s.heap.IsList l1 xs) (hl2 : s.heap.IsList l2 ys) (hx : xs[k1]? = some x) (hy : ys[k2]? = some y)
    (hQ : ∀ h', IsZipG h' z TI TO T true → h'.IsListIter i1 l1 (k1 + 1) → h'.IsListIter i2 l2 (k2 + 1) → IsPair h' s.heap.objs.size x y → h'.objs.size = s.heap.objs.size + 1 →
      (∀ c o, c ≠ z → c ≠ i1 → c ≠ i2 → s.heap.get? c = some o → h'.get? c = some o) → Q (.ref s.heap.objs.size) { s with heap := h' }) :
    wpAny (model prog w) A (Builtin.«zip.__next__» ⟨[.ref z], []⟩) (fun fin s' => ∃ v, fin = .done (.ret v) ∧ Q v s') E s := by
  show wpAny _ _ (field (.ref z) 2 >>= _) _ _ _
  refine wpAny_bind (wpAny_field hz rfl (x := .bool false) rfl ?_)
  show wpAny _ _ (field (.ref z) 3 >>= _) _ _ _
  refine wpAny_bind (wpAny_field hz rfl (x := .ref TI) rfl ?_)
  refine wpAny_bind (wpAny_seqItems hTI rfl ?_)
  show wpAny _ _ (Builtin.SmallTypes.ownedTupleIsFree (.ref z) >>= _) _ _ _
  refine wpAny_bind (zip_not_free hz hT hTz fun h₁ hz₁ hs₁ => ?_)
  simp only [Bool.false_eq_true, if_false]
  rw [← Array.forIn_toList]
  simp only [List.forIn_cons, List.forIn_nil]
  refine wpAny_bind (wpAny_bind (wpAny_bind (wpAny_holding ?_)))
  show wpAny _ _ (Builtin.SmallTypes.nextOf (.ref i1) >>= _) _ _ _
  refine wpAny_bind (wpAny_nextOf_list_item (h1.extBut hs₁.extBut D.i1z) (hl1.extBut hs₁.extBut D.l1z) hx fun h₂ h1₂ hs₂ => wpAny_pure (wpAny_pure ?_))
  refine wpAny_bind (wpAny_bind (wpAny_holding ?_))
  show wpAny _ _ (Builtin.SmallTypes.nextOf (.ref i2) >>= _) _ _ _
  refine wpAny_bind (wpAny_nextOf_list_item ((h2.extBut hs₁.extBut D.i2z).extBut hs₂.extBut D.i12.symm) ((hl2.extBut hs₁.extBut D.l2z).extBut hs₂.extBut D.l2i1) hy fun h₃ h2₃ hs₃ => wpAny_pure (wpAny_pure (wpAny_pure ?_)))
  show wpAny _ _ (newTuple [x, y] >>= _) _ _ _
  refine wpAny_bind (wpAny_newTuple ?_)
  refine wpAny_pure ⟨_, rfl, ?_⟩
  have hsz : h₃.objs.size = s.heap.objs.size := by rw [hs₃.1, hs₂.1, hs₁.1]
  have hz₃ : IsZipG h₃ z TI TO T true := hs₃.extBut _ _ D.i2z.symm (hs₂.extBut _ _ D.i1z.symm hz₁)
  have h1₃ : h₃.IsListIter i1 l1 (k1 + 1) := h1₂.extBut hs₃.extBut D.i12
  have up : ∀ c o, h₃.get? c = some o → (h₃.push { cls := .type "tuple", data := .seq #[x, y] }).get? c = some o := fun c o e => Heap.get?_push_of_some _ e
  show Q (.ref h₃.objs.size) _
  rw [hsz]
  exact hQ _ (up _ _ hz₃) (h1₃.at fun o e => up _ o e) (h2₃.at fun o e => up _ o e) (by rw [← hsz]; exact Heap.get?_push_size _ rfl) (by rw [Heap.size_push, hsz])
    fun c o c1 c3 c4 e => up _ _ (hs₃.extBut _ _ c4 (hs₂.extBut _ _ c3 (hs₁.extBut _ _ c1 e)))
theorem zip_next_stop {z TI TO i1 i2 l1 l2 T : Addr} {f : Bool} {oT : Obj} {k1 : Nat} {xs : Array Value} {Q : Fin → Shared → Prop} (hh : A.handled = none) (D : ZipApart z TI TO i1 i2 l1 l2)
    (hz : IsZipG s.heap z TI TO T f) (hT : s.heap.get? T = some oT) (hTz : (@Ne Nat T z)) (hTI : IsPair s.heap TI (.ref i1) (.ref i2))
    (h1 : s.heap.IsListIter i1 l1 k1) (hl1 : s.heap.IsList l1 xs) (hend : xs[k1]? = none)
    (hE : ∀ h' e, (∀ c o, c ≠ z → c ≠ i1 → s.heap.get? c = some o → h'.get? c = some o) → (∃ o, h'.get? e = some o ∧ o.cls = .type "StopIteration") → E (.ref e) { s with heap := h' }) :
    wpAny (model prog w) A (Builtin.«zip.__next__» ⟨[.ref z], []⟩) Q E s := by
  show wpAny _ _ (field (.ref z) 2 >>= _) _ _ _
  refine wpAny_bind (wpAny_field hz rfl (x := .bool false) rfl ?_)
  show wpAny _ _ (field (.ref z) 3 >>= _) _ _ _
  refine wpAny_bind (wpAny_field hz rfl (x := .ref TI) rfl ?_)
  refine wpAny_bind (wpAny_seqItems hTI rfl ?_)
  show wpAny _ _ (Builtin.SmallTypes.ownedTupleIsFree (.ref z) >>= _) _ _ _
  refine wpAny_bind (zip_not_free hz hT hTz fun h₁ hz₁ hs₁ => ?_)
  simp only [Bool.false_eq_true, if_false]
  rw [← Array.forIn_toList]
  simp only [List.forIn_cons, List.forIn_nil]
  refine wpAny_bind (wpAny_bind (wpAny_bind (wpAny_holding ?_)))
  show wpAny _ _ (Builtin.SmallTypes.nextOf (.ref i1) >>= _) _ _ _
  refine wpAny_bind (wpAny_nextOf_list_end hh (h1.extBut hs₁.extBut D.i1z) (hl1.extBut hs₁.extBut D.l1z) hend fun h₂ e hs₂ he => ?_)
  exact hE h₂ e (fun c o c1 c3 x => hs₂ _ _ c3 (hs₁.extBut _ _ c1 x)) he
theorem pyNext_zip_out {z TI TO i1 i2 l1 l2 T : Addr} {f : Bool} {oT : Obj} {k1 k2 : Nat} {xs ys : Array Value} {x y : Value} {Q : Option Value → Shared → Prop} (D : ZipApart z TI TO i1 i2 l1 l2)
    (hz : IsZipG s.heap z TI TO T f) (hT : s.heap.get? T = some oT) (hTz : (@Ne Nat T z)) (hTI : IsPair s.heap TI (.ref i1) (.ref i2))
    (h1 : s.heap.IsListIter i1 l1 k1) (h2 : s.heap.IsListIter i2 l2 k2) (hl1 : s.heap.IsList l1 xs) (hl2 : s.heap.IsList l2 ys) (hx : xs[k1]? = some x) (hy : ys[k2]? = some y)
    (hQ : ∀ h', IsZipG h' z TI TO T true → h'.IsListIter i1 l1 (k1 + 1) → h'.IsListIter i2 l2 (k2 + 1) → IsPair h' s.heap.objs.size x y → h'.objs.size = s.heap.objs.size + 1 →
      (∀ c o, c ≠ z → c ≠ i1 → c ≠ i2 → s.heap.get? c = some o → h'.get? c = some o) → Q (some (.ref s.heap.objs.size)) { s with heap := h' }) :
    wpAny (model prog w) A (pyNext (.ref z)) Q E s := by
  have hTy : s.TypeIs (.ref z) "zip" := ⟨_, hz, rfl⟩
  unfold pyNext
  exact wpAny_bind (wpAny_attempt (wpAny_callSpecial?_slot (name := Str.ofString "__next__") hTy F.slot_zip_next
    (wpAny_call_entry F.slot_zip_next hTy F.entry_zip_next
      (zip_next_out D hz hT hTz hTI h1 h2 hl1 hl2 hx hy fun h' a1 a2 a3 a4 a5 a6 => wpAny_pure (hQ h' a1 a2 a3 a4 a5 a6)) (F.args_zip_next_1 _))))
theorem pyNext_zip_stop {z TI TO i1 i2 l1 l2 T : Addr} {f : Bool} {oT : Obj} {k1 : Nat} {xs : Array Value} {Q : Option Value → Shared → Prop} (hh : A.handled = none) (D : ZipApart z TI TO i1 i2 l1 l2)
    (hz : IsZipG s.heap z TI TO T f) (hT : s.heap.get? T = some oT) (hTz : (@Ne Nat T z)) (hTI : IsPair s.heap TI (.ref i1) (.ref i2))
    (h1 : s.heap.IsListIter i1 l1 k1) (hl1 : s.heap.IsList l1 xs) (hend : xs[k1]? = none)
    (hQ : ∀ h', (∀ c o, c ≠ z → c ≠ i1 → s.heap.get? c = some o → h'.get? c = some o) → Q none { s with heap := h' }) : wpAny (model prog w) A (pyNext (.ref z)) Q E s := by
  have hTy : s.TypeIs (.ref z) "zip" := ⟨_, hz, rfl⟩
  unfold pyNext
  refine wpAny_bind (wpAny_attempt (wpAny_callSpecial?_slot (name := Str.ofString "__next__") hTy F.slot_zip_next
    (wpAny_call_entry F.slot_zip_next hTy F.entry_zip_next (zip_next_stop hh D hz hT hTz hTI h1 hl1 hend fun h' e hk he => ?_) (F.args_zip_next_1 _))))
  obtain ⟨o, ho, hc⟩ := he
  refine wpAny_bind (wpAny_isInstance (T := "StopIteration") (b := true) ⟨o, ho, hc⟩ isSubtype_stop ?_)
  exact wpAny_pure (hQ _ hk)
end
end Mine


namespace PySem.F
theorem entry_dict_update_loop : entryFor table "dict.update.loop" = some Builtin.«dict.update.loop» := entryFor_of_tree (by kernel_rfl)
theorem plain_dict_update_loop : plainId "dict.update.loop" = true := by decide +kernel
end PySem.F
namespace Mine
section
variable {prog : Program} {w : World} {A : Around} {E : Value → Shared → Prop} {s : Shared}
noncomputable def storeAll (kvs : List (Str × Value)) : List (Str × Value) → List (Str × Value)
  | [] => kvs
  | p :: ps => storeAll (stored kvs p.1 p.2) ps
theorem stored_len (kvs : List (Str × Value)) (k : Str) (v : Value) : (stored kvs k v).length ≤ kvs.length + 1 := by
  unfold stored; split <;> simp
theorem upd_loop {z TI TO i1 i2 l1 l2 T d : Addr} {oT : Obj} {xs ys : Array Value} {g : Heap} {R : Result → Shared → Prop} (hh : A.handled = none) (D : ZipApart z TI TO i1 i2 l1 l2) (ps : List (Str × Value))
    (hx : ∀ i (hi : i < ps.length), ∃ t, xs[i]? = some (.str (ps[i]).1 t)) (hy : ∀ i (hi : i < ps.length), ys[i]? = some (ps[i]).2) (hxe : xs[ps.length]? = none)
    (gz : g.objs.size ≤ z) (g1 : g.objs.size ≤ i1) (g2 : g.objs.size ≤ i2) (gd : g.objs.size ≤ d) (dz : (@Ne Nat d z)) (d1 : (@Ne Nat d i1)) (d2 : (@Ne Nat d i2)) (dI : (@Ne Nat d TI)) (dT : (@Ne Nat d T)) (dl1 : (@Ne Nat d l1)) (dl2 : (@Ne Nat d l2))
    (Tz : (@Ne Nat T z)) (T1 : (@Ne Nat T i1)) (T2 : (@Ne Nat T i2)) (res : Value) :
    ∀ (j i : Nat) (s : Shared) (kvs : List (Str × Value)) (f : Bool) (n : Int), i + j = ps.length → IsZipG s.heap z TI TO T f → s.heap.get? T = some oT → IsPair s.heap TI (.ref i1) (.ref i2) → s.heap.IsListIter i1 l1 i → s.heap.IsListIter i2 l2 i →
      s.heap.IsList l1 xs → s.heap.IsList l2 ys → s.heap.DictOf (strKind prog w) d kvs → kvs.length + j ≤ 1000 → (∀ c o, g.get? c = some o → s.heap.get? c = some o) →
      (∀ h' tk', h'.DictOf (strKind prog w) d (storeAll kvs (ps.drop i)) → (∀ c o, g.get? c = some o → h'.get? c = some o) → R (.ok (.ret res)) { s with heap := h', toks := tk' }) →
      codeAny (model prog w) A (.builtin "dict.update.loop" ⟨[.ref d, .ref z, rawInt n, res], []⟩) R s := by
  intro j
  induction j with
  | zero =>
    intro i s kvs f n hij hz hT hTI h1 h2 hl1 hl2 hd hlen hg hR
    have hi : i = ps.length := by k_extra "omx"
    subst hi
    refine codeAny_builtin PySem.F.entry_dict_update_loop ?_
    rw [Around.under_plainId PySem.F.plain_dict_update_loop _]
    show wpAny _ A.in1 (pyNext (.ref z) >>= _) _ _ s
    refine wpAny_bind (pyNext_zip_stop hh D hz hT Tz hTI h1 hl1 hxe fun h' hk => ?_)
    show wpAny _ _ (Builtin.Dict.addKeywords d [] >>= _) _ _ _
    refine wpAny_bind (wpAny_pure ?_)
    rw [List.drop_length] at hR
    refine wpAny_pure (hR h' s.toks (hd.at fun o e => hk _ o dz d1 e) fun c o e => hk c o ?_ ?_ (hg c o e))
    · exact fun x => absurd (Heap.lt_size e) (by rw [x]; exact Nat.not_lt_of_le gz)
    · exact fun x => absurd (Heap.lt_size e) (by rw [x]; exact Nat.not_lt_of_le g1)
  | succ j ih =>
    intro i s kvs f n hij hz hT hTI h1 h2 hl1 hl2 hd hlen hg hR
    have hlt : i < ps.length := by k_extra "omx"
    obtain ⟨t, hxi⟩ := hx i hlt
    refine codeAny_builtin PySem.F.entry_dict_update_loop ?_
    rw [Around.under_plainId PySem.F.plain_dict_update_loop _]
    show wpAny _ A.in1 (pyNext (.ref z) >>= _) _ _ s
    refine wpAny_bind (pyNext_zip_out D hz hT Tz hTI h1 h2 hl1 hl2 hxi (hy i hlt) fun h₁ hz₁ h1₁ h2₁ hP₁ hs₁ hk₁ => ?_)
    refine wpAny_bind (wpAny_holding ?_)
    refine wpAny_bind (wpAny_tryCatch ?_)
    unfold Builtin.Dict.pairItems
    refine wpAny_bind (wpAny_typeOf (T := "tuple") ⟨_, hP₁, rfl⟩ ?_)
    rw [if_pos (by decide)]
    refine wpAny_bind (wpAny_seqItems hP₁ rfl (wpAny_pure ?_))
    show wpAny _ _ (holding [Value.str (ps[i]).1 t, (ps[i]).2] (dictSet d (.str (ps[i]).1 t) (ps[i]).2)) _ _ _
    refine wpAny_holding ?_
    refine wpAny_dictSet_pairs (hsz := by rw [sizeLine_eq]; k_extra "omx") (strKind_is _ _ _ _) (hd.at fun o e => hk₁ _ o dz d1 d2 e) fun h₂ hd₂ hs₂ => ?_
    refine wpAny_pure ⟨plainId_quiet PySem.F.plain_dict_update_loop _, ?_⟩
    have kp : ∀ c o, c ≠ z → c ≠ i1 → c ≠ i2 → c ≠ d → s.heap.get? c = some o → h₂.get? c = some o := fun c o a b c3 c4 e => (hs₂.2 c c4).trans (hk₁ c o a b c3 e)
    have hex : ps.drop i = ps[i] :: ps.drop (i + 1) := List.drop_eq_getElem_cons hlt
    have hl := stored_len kvs (ps[i]).1 (ps[i]).2
    refine ih (i + 1) _ (stored kvs (ps[i]).1 (ps[i]).2) true (n + 1) (by k_extra "omx") ((hs₂.2 _ dz.symm).trans hz₁) (kp _ _ Tz T1 T2 dT.symm hT) (kp _ _ D.TIz D.TIi1 D.TIi2 dI.symm hTI)
      (h1₁.at fun o e => (hs₂.2 _ d1.symm).trans e) (h2₁.at fun o e => (hs₂.2 _ d2.symm).trans e)
      (hl1.at fun o e => kp _ o D.l1z D.l1i1 D.l1i2 dl1.symm e) (hl2.at fun o e => kp _ o D.l2z D.l2i1 D.l2i2 dl2.symm e) hd₂ (by k_extra "omx") ?_ ?_
    · intro c o e
      have hc := Heap.lt_size e
      exact kp c o (fun x => absurd hc (by rw [x]; exact Nat.not_lt_of_le gz)) (fun x => absurd hc (by rw [x]; exact Nat.not_lt_of_le g1)) (fun x => absurd hc (by rw [x]; exact Nat.not_lt_of_le g2)) (fun x => absurd hc (by rw [x]; exact Nat.not_lt_of_le gd)) (hg c o e)
    · intro h' tk' hd' hg'
      refine hR h' tk' ?_ hg'
      rw [hex]
      exact hd'
end
theorem lk_zip_keys : typeLookup (.type "zip") "keys" = pure none := by rw [typeLookup_type, builtinLookup_eq_fast]; kernel_rfl
theorem am_zip_getattr_none : typeLookup (.type "zip") "__getattr__" = pure none := by rw [typeLookup_type, builtinLookup_eq_fast]; kernel_rfl
theorem am_entry_zip_getattribute : entryFor table "zip.__getattribute__" = some Builtin.«object.__getattribute__» :=
  entryFor_alias (id' := "object.__getattribute__") (by kernel_rfl) (by decide +kernel) (by decide +kernel) (by kernel_rfl)
theorem meets_getattribute_miss_zip (a : Addr) (xs : Array Value) (sl : Array (Option Value)) (name : Str) (u : Tok) (hmiss : typeLookup (.type "zip") name = pure none) (hname : (["__module__", "__name__", "__qualname__", "__doc__", "__annotations__"] : List Str).contains name = false) (hsz : name.length + 100 ≤ sizeLine := by size_fits) :
    Meets (Builtin.«object.__getattribute__» ⟨[.ref a, .str name u], []⟩) (fun A R s => s.heap.get? a = some { cls := .type "zip", dict := none, data := .fields xs, slots := sl } ∧ raisesAttr (.ref a) name A R s) :=
  Meets.of_wp fun prog w A R s hs => by
    obtain ⟨hp, g, d, tk, os⟩ := s
    obtain ⟨hx, hs⟩ := hs
    have hT : (⟨hp, g, d, tk, os⟩ : Shared).TypeIs (.ref a) "zip" := ⟨_, hx, rfl⟩
    unfold Builtin.«object.__getattribute__»
    repeat (any_goals (first | assumption | wp_step))
    simp only [hname, Bool.false_eq_true, if_false]
    repeat (any_goals (first | assumption | wp_step))
    exact wpAny_raiseAttrError hs.1 hs.2 (attrMsg_fits (by decide +kernel) hsz)
theorem getAttr?_miss_zip {prog : Program} {w : World} {A : Around} {E : Value → Shared → Prop} {s : Shared} {a : Addr} {xs : Array Value} {sl : Array (Option Value)} {name : Str} {Q : Option Value → Shared → Prop}
    (hx : s.heap.get? a = some { cls := .type "zip", dict := none, data := .fields xs, slots := sl }) (hmiss : typeLookup (.type "zip") name = pure none) (hname : (["__module__", "__name__", "__qualname__", "__doc__", "__annotations__"] : List Str).contains name = false) (hA : A.handled = none)
    (h : ∀ h' tk, (∀ b o, s.heap.get? b = some o → h'.get? b = some o) → Q none { s with heap := h', toks := tk }) (hsz : name.length + 100 ≤ sizeLine := by size_fits) :
    wpAny (model prog w) A (getAttr? (.ref a) name) Q E s := by
  obtain ⟨hp, g, d, tk, os⟩ := s
  have hT : ∀ tk', (⟨hp, g, d, tk', os⟩ : Shared).TypeIs (.ref a) "zip" := fun _ => ⟨_, hx, rfl⟩
  have f1 := sub_AttributeError
  have f3 := F.slot_zip_getattribute.lookup
  have f4 := F.slot_zip_getattribute.bind (.ref a)
  have f5 := am_zip_getattr_none
  unfold getAttr? getAttrBy? getAttrBy
  repeat (any_goals (first | assumption | exact hT _ | ((with_reducible show wpAny _ _ (call (Value.builtin "zip.__getattribute__") _ _) _ _ _); refine call_meets F.slot_zip_getattribute (hT _) am_entry_zip_getattribute (F.args_zip_getattribute_2 _ _) (meets_getattribute_miss_zip a xs sl name _ hmiss hname hsz) ⟨hx, hA, fun h' tk' e hx' => ?_⟩) | wp_step))
  obtain ⟨t', u', he⟩ := hx'.there
  show wpAny _ _ (getattributeRaised _ _ _ _ _ _ _) _ _ _
  unfold getattributeRaised
  repeat (any_goals (first | assumption | wp_step))
  all_goals trace_state
  exact h _ _ hx'.keeps
structure ZipAt (h₀ : Heap) (L : Addr) (m : Str → Option Value) (news : List (Addr × Obj)) (g h : Heap) (z TI TO i1 i2 l1 l2 : Addr) (xs ys : Array Value) : Prop where
  F : Fr h₀ L g m
  N : News h₀ L g news
  D : ZipApart z TI TO i1 i2 l1 l2
  hz : IsZip h z TI TO .none
  hTI : IsPair h TI (.ref i1) (.ref i2)
  hTO : ∃ a b, IsPair h TO a b
  h1 : h.IsListIter i1 l1 0
  h2 : h.IsListIter i2 l2 0
  hl1 : h.IsList l1 xs
  hl2 : h.IsList l2 ys
  gz : g.objs.size ≤ z
  gO : g.objs.size ≤ TO
  g1 : g.objs.size ≤ i1
  g2 : g.objs.size ≤ i2
  keep : ∀ c o, g.get? c = some o → h.get? c = some o
section
variable {prog : Program} {w : World} {A : Around} {E : Value → Shared → Prop} {s : Shared} {h₀ : Heap} {L : Addr} {m : Str → Option Value} {news : List (Addr × Obj)}
theorem zip_L {l1 l2 : Addr} {vs1 vs2 : List Value} {k1 k2 : Nat} {Q : Value → Shared → Prop} (F : Fr h₀ L s.heap m) (N : News h₀ L s.heap news) (hm1 : (l1, lstOf vs1 k1) ∈ news) (hm2 : (l2, lstOf vs2 k2) ∈ news)
    (h : ∀ h' z TI TO i1 i2, Fr h₀ L h' m → News h₀ L h' news → ZipAt h₀ L m news s.heap h' z TI TO i1 i2 l1 l2 vs1.toArray vs2.toArray → Q (.ref z) { s with heap := h' }) :
    wpAny (model prog w) A (call (.type "zip") [.ref l1, .ref l2]) Q E s := by
  refine zip_rows (xs := vs1.toArray) (ys := vs2.toArray) F ⟨_, (N _ hm1).1, rfl, k1, rfl⟩ ⟨_, (N _ hm2).1, rfl, k2, rfl⟩ fun h' z TI TO i1 i2 D ⟨a1, a2, a3, a4, a5, a6, a7⟩ F' hk b1 b2 b3 b4 _ => ?_
  exact h h' z TI TO i1 i2 F' (fun p hp => ⟨hk _ _ (N p hp).1, (N p hp).2⟩) ⟨F, N, D, a1, a2, a3, a4, a5, a6, a7, b1, b2, b3, b4, hk⟩
theorem upd_first {z TI TO i1 i2 l1 l2 d : Addr} {xs ys : Array Value} {g : Heap} {R : Result → Shared → Prop} {a b : Value} (hh : A.handled = none) (D : ZipApart z TI TO i1 i2 l1 l2) (p0 : Str × Value) (ps : List (Str × Value))
    (hx : ∀ i (hi : i < (p0 :: ps).length), ∃ t, xs[i]? = some (.str ((p0 :: ps)[i]).1 t)) (hy : ∀ i (hi : i < (p0 :: ps).length), ys[i]? = some ((p0 :: ps)[i]).2) (hxe : xs[(p0 :: ps).length]? = none) (hlen : (p0 :: ps).length ≤ 900)
    (gz : g.objs.size ≤ z) (gO : g.objs.size ≤ TO) (g1 : g.objs.size ≤ i1) (g2 : g.objs.size ≤ i2) (gd : g.objs.size ≤ d) (dz : (@Ne Nat d z)) (dO : (@Ne Nat d TO)) (d1 : (@Ne Nat d i1)) (d2 : (@Ne Nat d i2)) (dI : (@Ne Nat d TI)) (dl1 : (@Ne Nat d l1)) (dl2 : (@Ne Nat d l2)) (res : Value)
    (hz : IsZip s.heap z TI TO .none) (hTI : IsPair s.heap TI (.ref i1) (.ref i2)) (hTO : IsPair s.heap TO a b) (h1 : s.heap.IsListIter i1 l1 0) (h2 : s.heap.IsListIter i2 l2 0)
    (hl1 : s.heap.IsList l1 xs) (hl2 : s.heap.IsList l2 ys) (hd : s.heap.DictOf (strKind prog w) d []) (hg : ∀ c o, g.get? c = some o → s.heap.get? c = some o)
    (hR : ∀ h' tk', h'.DictOf (strKind prog w) d (storeAll [] (p0 :: ps)) → (∀ c o, g.get? c = some o → h'.get? c = some o) → R (.ok (.ret res)) { s with heap := h', toks := tk' }) :
    codeAny (model prog w) A (.builtin "dict.update.loop" ⟨[.ref d, .ref z, rawInt 0, res], []⟩) R s := by
  obtain ⟨t, hxi⟩ := hx 0 (by simp)
  have szz := Heap.lt_size hz
  have sz1 : i1 < s.heap.objs.size := by obtain ⟨_, e, _⟩ := h1; exact Heap.lt_size e
  have sz2 : i2 < s.heap.objs.size := by obtain ⟨_, e, _⟩ := h2; exact Heap.lt_size e
  have szd : d < s.heap.objs.size := by obtain ⟨_, _, _, e, _⟩ := hd; exact Heap.lt_size e
  refine codeAny_builtin PySem.F.entry_dict_update_loop ?_
  rw [Around.under_plainId PySem.F.plain_dict_update_loop _]
  show wpAny _ A.in1 (pyNext (.ref z) >>= _) _ _ s
  refine wpAny_bind (wpAny_pyNext_zip_item D hz hTI hTO h1 h2 hl1 hl2 hxi (hy 0 (by simp)) fun h₁ hz₁ hTO₁ h1₁ h2₁ hP₁ hs₁ hk₁ => ?_)
  refine wpAny_bind (wpAny_holding ?_)
  refine wpAny_bind (wpAny_tryCatch ?_)
  unfold Builtin.Dict.pairItems
  refine wpAny_bind (wpAny_typeOf (T := "tuple") ⟨_, hP₁, rfl⟩ ?_)
  rw [if_pos (by decide)]
  refine wpAny_bind (wpAny_seqItems hP₁ rfl (wpAny_pure ?_))
  show wpAny _ _ (holding [Value.str p0.1 t, p0.2] (dictSet d (.str p0.1 t) p0.2)) _ _ _
  refine wpAny_holding ?_
  refine wpAny_dictSet_pairs (kvs := []) (hsz := by rw [sizeLine_eq]; simp) (strKind_is _ _ _ _) (hd.at fun o e => hk₁ _ o dz dO d1 d2 e) fun h₂ hd₂ hs₂ => ?_
  refine wpAny_pure ⟨plainId_quiet PySem.F.plain_dict_update_loop _, ?_⟩
  have kp : ∀ c o, c ≠ z → c ≠ TO → c ≠ i1 → c ≠ i2 → c ≠ d → s.heap.get? c = some o → h₂.get? c = some o := fun c o a b c3 c4 c5 e => (hs₂.2 c c5).trans (hk₁ c o a b c3 c4 e)
  have hl := stored_len [] p0.1 p0.2
  have hl0 : ([] : List (Str × Value)).length = 0 := rfl
  have hl3 : (p0 :: ps).length = ps.length + 1 := rfl
  have dT : (@Ne Nat d s.heap.objs.size) := Nat.ne_of_lt szd
  refine upd_loop (T := s.heap.objs.size) (g := g) hh D (p0 :: ps) hx hy hxe gz g1 g2 gd dz d1 d2 dI dT dl1 dl2 (Nat.ne_of_gt szz) (Nat.ne_of_gt sz1) (Nat.ne_of_gt sz2) res ps.length 1 _ (stored [] p0.1 p0.2) false (0 + 1) (by k_extra "omx")
    ((hs₂.2 _ dz.symm).trans hz₁) ((hs₂.2 _ dT.symm).trans hP₁) (kp _ _ D.TIz D.TITO D.TIi1 D.TIi2 dI.symm hTI)
    (h1₁.at fun o e => (hs₂.2 _ d1.symm).trans e) (h2₁.at fun o e => (hs₂.2 _ d2.symm).trans e)
    (hl1.at fun o e => kp _ o D.l1z D.l1TO D.l1i1 D.l1i2 dl1.symm e) (hl2.at fun o e => kp _ o D.l2z D.l2TO D.l2i1 D.l2i2 dl2.symm e) hd₂ (by k_extra "omx") ?_ ?_
  · intro c o e
    have hc := Heap.lt_size e
    exact kp c o (fun x => absurd hc (by rw [x]; exact Nat.not_lt_of_le gz)) (fun x => absurd hc (by rw [x]; exact Nat.not_lt_of_le gO)) (fun x => absurd hc (by rw [x]; exact Nat.not_lt_of_le g1)) (fun x => absurd hc (by rw [x]; exact Nat.not_lt_of_le g2)) (fun x => absurd hc (by rw [x]; exact Nat.not_lt_of_le gd)) (hg c o e)
  · exact fun h' tk' hd' hg' => hR h' tk' hd' hg'
theorem call_dict_zip {g : Heap} {z TI TO i1 i2 l1 l2 : Addr} {xs ys : Array Value} {Q : Value → Shared → Prop} (hh : A.handled = none) (Z : ZipAt h₀ L m news g s.heap z TI TO i1 i2 l1 l2 xs ys) (hbig : sysModules < h₀.objs.size) (p0 : Str × Value) (ps : List (Str × Value))
    (hx : ∀ i (hi : i < (p0 :: ps).length), ∃ t, xs[i]? = some (.str ((p0 :: ps)[i]).1 t)) (hy : ∀ i (hi : i < (p0 :: ps).length), ys[i]? = some ((p0 :: ps)[i]).2) (hxe : xs[(p0 :: ps).length]? = none) (hlen : (p0 :: ps).length ≤ 900)
    (h : ∀ h' d o tk', Fr h₀ L h' m → News h₀ L h' ((d, o) :: news) → (∀ p ∈ news, p.1 < d) → (d == sysModules) = false → o.IsDictOf (strKind prog w) (storeAll [] (p0 :: ps)) → Q (.ref d) { s with heap := h', toks := tk' }) :
    wpAny (model prog w) A (call (.type "dict") [.ref z]) Q E s := by
  refine callType_codes (Q₁ := fun obj s₁ => obj = .ref s.heap.objs.size ∧ s₁ = { s with heap := s.heap.push { cls := .type "dict", data := .dict #[] } }) F.kt_called_dict (F.kt_typeCall_dict_1 _) F.entry_dict_init (kt_code_dict_new _ ⟨rfl, rfl⟩) ?_
  rintro obj s₁ ⟨rfl, rfl⟩
  have hnew : (s.heap.push { cls := .type "dict", data := .dict #[] }).DictOf (strKind prog w) s.heap.objs.size [] := Heap.DictOf.new s.heap
  refine ⟨hnew.typeIs, F.args_dict_init_2 _ _, ?_⟩
  unfold Builtin.«dict.__init__»
  refine wpAny_bind ?_
  unfold Builtin.Dict.selfAndRest
  refine wpAny_bind (wpAny_notOrdered_dict hnew.typeIs ?_)
  show wpAny _ _ (pure (s.heap.objs.size, [Value.ref z])) _ _ _
  refine wpAny_pure ?_
  show wpAny _ _ (Builtin.Dict.updateFrom "dict.__init__" s.heap.objs.size (.ref z) [] .none) _ _ _
  unfold Builtin.Dict.updateFrom
  have up : ∀ c o, s.heap.get? c = some o → (s.heap.push { cls := .type "dict", data := .dict #[] }).get? c = some o := fun c o e => Heap.get?_push_of_some _ e
  refine wpAny_bind (wpAny_typeOf (T := "zip") ⟨_, up _ _ Z.hz, rfl⟩ ?_)
  rw [if_pos (by decide)]
  refine wpAny_bind (getAttr?_miss_zip (up _ _ Z.hz) lk_zip_keys (by decide) hh fun h₁ tk₁ hk₁ => ?_)
  simp only [Option.isNone_none, if_true]
  refine wpAny_bind (wpAny_rule ?_)
  have up2 : ∀ c o, s.heap.get? c = some o → h₁.get? c = some o := fun c o e => hk₁ c o (up c o e)
  refine wpAny_bind (wpAny_pyIter_zip (up2 _ _ Z.hz) ?_)
  refine wpAny_pure ⟨plainId_quiet PySem.F.plain_dict_update_loop _, ?_⟩
  obtain ⟨a, b, hTO⟩ := Z.hTO
  have ne : ∀ {c : Addr} {o : Obj}, s.heap.get? c = some o → (@Ne Nat s.heap.objs.size c) := fun e => Nat.ne_of_gt (Heap.lt_size e)
  have hgd : g.objs.size ≤ s.heap.objs.size := Nat.le_of_lt (Nat.lt_of_le_of_lt Z.gz (Heap.lt_size Z.hz))
  refine upd_first (A := A.in1) (s := { s with heap := h₁, toks := tk₁ }) (g := g) hh Z.D p0 ps hx hy hxe hlen Z.gz Z.gO Z.g1 Z.g2 hgd (ne Z.hz) (ne hTO) (by obtain ⟨_, e, _⟩ := Z.h1; exact ne e) (by obtain ⟨_, e, _⟩ := Z.h2; exact ne e) (ne Z.hTI) (by obtain ⟨_, e, _⟩ := Z.hl1; exact ne e) (by obtain ⟨_, e, _⟩ := Z.hl2; exact ne e) .none
    (up2 _ _ Z.hz) (up2 _ _ Z.hTI) (up2 _ _ hTO) (Z.h1.at fun o e => up2 _ o e) (Z.h2.at fun o e => up2 _ o e) (Z.hl1.at fun o e => up2 _ o e) (Z.hl2.at fun o e => up2 _ o e) (hnew.at fun o e => hk₁ _ o e) (fun c o e => up2 c o (Z.keep c o e)) ?_
  intro h' tk' hd' hg'
  obtain ⟨o', ho', hd2⟩ := Heap.dictOf_iff.mp hd'
  refine ⟨rfl, h h' s.heap.objs.size o' tk' (Z.F.keptAll hg') ?_ ?_ ?_ hd2⟩
  · intro p hp
    rcases List.mem_cons.mp hp with rfl | hp
    · exact ⟨ho', Nat.ne_of_gt (Nat.lt_of_lt_of_le Z.F.ns.lt hgd), Heap.get?_none_of_le (Nat.le_trans (Nat.le_trans Z.F.above (Nat.le_of_lt Z.F.ns.lt)) hgd)⟩
    · exact ⟨hg' _ _ (Z.N p hp).1, (Z.N p hp).2⟩
  · exact fun p hp => Nat.lt_of_lt_of_le (Heap.lt_size (Z.N p hp).1) hgd
  · have h9 : sysModules < s.heap.objs.size := Nat.lt_of_lt_of_le hbig (Nat.le_trans (Nat.le_trans Z.F.above (Nat.le_of_lt Z.F.ns.lt)) hgd)
    exact beq_false_of_ne (Nat.ne_of_gt h9)
end
inductive KvsAre : List (Str × Value) → List (Str × Int) → Prop
  | nil : KvsAre [] []
  | cons {x : Str} {n : Int} {t : Tok} {kvs : List (Str × Value)} {es : List (Str × Int)} : KvsAre kvs es → KvsAre ((x, .int n t) :: kvs) ((x, n) :: es)
noncomputable def loadOf (es : List (Str × Int)) (x : Str) : Int := ((es.find? fun p => p.1 = x).map (·.2)).getD 0
theorem KvsAre.fst {kvs : List (Str × Value)} {es : List (Str × Int)} (h : KvsAre kvs es) : kvs.map (·.1) = es.map (·.1) := by
  induction h with
  | nil => rfl
  | cons _ ih => simp [ih]
theorem KvsAre.length {kvs : List (Str × Value)} {es : List (Str × Int)} (h : KvsAre kvs es) : kvs.length = es.length := by
  have := congrArg List.length h.fst; simpa using this
theorem KvsAre.at {kvs : List (Str × Value)} {es : List (Str × Int)} (h : KvsAre kvs es) {x : Str} (hx : x ∈ es.map (·.1)) : ∃ t, valueAt kvs x = some (.int (loadOf es x) t) := by
  induction h with
  | nil => simp at hx
  | @cons y n t kvs es _ ih =>
    by_cases e : y = x
    · exact ⟨t, by simp [valueAt, loadOf, e]⟩
    · have hx : x ∈ es.map (·.1) := by
        rcases List.mem_cons.mp hx with h | h
        · exact absurd h.symm e
        · exact h
      obtain ⟨u, hu⟩ := ih hx
      refine ⟨u, ?_⟩
      unfold valueAt loadOf at hu ⊢
      simp only [List.find?_cons, e, decide_false]
      exact hu
theorem KvsAre.without {kvs : List (Str × Value)} {es : List (Str × Int)} (h : KvsAre kvs es) (x : Str) : KvsAre (without kvs x) (es.filter fun p => decide (p.1 ≠ x)) := by
  induction h with
  | nil => exact .nil
  | @cons y n t kvs es _ ih =>
    by_cases e : y = x
    · simpa [PySem.without, List.filter_cons, e] using ih
    · simpa [PySem.without, List.filter_cons, e] using KvsAre.cons ih
theorem KvsAre.stored {kvs : List (Str × Value)} {es : List (Str × Int)} (h : KvsAre kvs es) {x : Str} (hx : x ∈ es.map (·.1)) (n : Int) (t : Tok) : KvsAre (stored kvs x (.int n t)) (es.map fun p => if p.1 = x then (p.1, n) else p) := by
  have h1 : (kvs.any fun kv => kv.1 = x) = true := by
    rw [← h.fst] at hx
    obtain ⟨p, hp, e⟩ := List.mem_map.mp hx
    exact List.any_eq_true.mpr ⟨p, hp, decide_eq_true e⟩
  unfold PySem.stored
  rw [if_pos h1]
  clear h1 hx
  induction h with
  | nil => exact .nil
  | @cons y m u kvs es _ ih =>
    by_cases e : y = x
    · simpa [e] using KvsAre.cons ih
    · simpa [e] using KvsAre.cons ih
theorem keysS_of : ∀ {kvs : List (Str × Value)} {C : List Value → Prop}, (∀ vs, StrsL vs (kvs.map (·.1)) → C vs) → KdlKeysS kvs C
  | [], _, h => h [] .nil
  | _ :: _, _, h => fun _ => keysS_of fun vs hv => h _ (.cons hv)
section
variable {prog : Program} {w : World} {A : Around} {E : Value → Shared → Prop} {s : Shared} {h₀ : Heap} {L d : Addr} {m : Str → Option Value} {news : List (Addr × Obj)} {o : Obj} {kvs : List (Str × Value)} {es : List (Str × Int)}
theorem dict_list {Q : Value → Shared → Prop} (hh : A.handled = none) (F : Fr h₀ L s.heap m) (N : News h₀ L s.heap news) (hp : (d, o) ∈ news) (hd : o.IsDictOf (strKind prog w) kvs) (lo : (d == sysModules) = false) (hk : KvsAre kvs es) (hn : es.length ≤ 1000)
    (h : ∀ (B : Addr) c h' tk vs, StrsL vs (es.map (·.1)) → Fr h₀ L h' m → News h₀ L h' ((B, lstOf vs c) :: news) → (∀ q ∈ news, q.1 < B) → Q (.ref B) { s with heap := h', toks := tk }) :
    wpAny (model prog w) A (call (.type "list") [.ref d]) Q E s :=
  kdl_list_keysS hh F N hp hd lo (by rw [hk.length]; k_extra "omx") fun B c h' tk => keysS_of fun vs hv F' N' l1 => h B c h' tk vs (by rw [← hk.fst]; exact hv) F' N' l1
theorem dict_item {value slice : PySem.Expr} {x : Str} {u : Tok} {Q : Value → Shared → Prop} (N : News h₀ L s.heap news) (hp : (d, o) ∈ news) (hd : o.IsDictOf (strKind prog w) kvs) (hk : KvsAre kvs es) (hx : x ∈ es.map (·.1))
    (h : ∀ t, Q (.int (loadOf es x) t) { s with toks := s.toks + 1 })
    (hs : subscripted slice false (.ref d) (.str x u) = operate [.ref d, .str x u] (getItem (.ref d) (.str x u)) := by with_unfolding_all rfl) (hg : ∀ r, letTemporaryGo value (.ref d) r = pure () := by intro _; with_unfolding_all rfl) :
    wpAny (model prog w) A (subscriptTail value slice (.ref d) (.str x u)) Q E s := by
  obtain ⟨t, ht⟩ := hk.at hx
  exact kda_item N hp hd (strKind_is _ _ _ _) ht (h t) hs hg
theorem dict_len {Q : Value → Shared → Prop} (N : News h₀ L s.heap news) (hp : (d, o) ∈ news) (hd : o.IsDictOf (strKind prog w) kvs) (lo : (d == sysModules) = false) (hk : KvsAre kvs es) (hn : es.length ≤ 1000)
    (h : ∀ t tk, Q (.int es.length t) { s with toks := tk }) :
    wpAny (model prog w) A (call (.builtin "len") [.ref d]) Q E s := by
  refine kda_len N hp hd lo (by rw [hk.length]; k_extra "omx") ?_
  rw [hk.length]
  exact h _ _
theorem dict_store {x : Str} {u : Tok} {n : Int} {t : Tok} {rest : List (Addr × Obj)} {Q : Unit → Shared → Prop} (own : List (Addr × Obj)) (F : Fr h₀ L s.heap m) (N : News h₀ L s.heap (own ++ (d, o) :: rest)) (h1 : ∀ p ∈ own, p.1 ≠ d) (h2 : ∀ p ∈ rest, p.1 ≠ d) (hd : o.IsDictOf (strKind prog w) kvs) (hk : KvsAre kvs es) (hx : x ∈ es.map (·.1)) (hn : es.length ≤ 1000)
    (h : ∀ h' o' kvs' tk, Fr h₀ L h' m → News h₀ L h' (own ++ (d, o') :: rest) → o'.IsDictOf (strKind prog w) kvs' → KvsAre kvs' (es.map fun p => if p.1 = x then (p.1, n) else p) → Q () { s with heap := h', toks := tk }) :
    wpAny (model prog w) A (setItem (.ref d) (.str x u) (.int n t)) Q E s := by
  have hm := N (d, o) (List.mem_append_right _ (.head _))
  refine wpAny_setItem_pairs (hsz := by rw [sizeLine_eq, hk.length]; k_extra "omx") (strKind_is _ _ _ _) (Heap.dictOf_iff.mpr ⟨o, hm.1, hd⟩) fun h' hmm hs => ?_
  obtain ⟨o', ho', hd'⟩ := Heap.dictOf_iff.mp hmm
  exact h h' o' _ _ (F.change hs hm.2.1 hm.2.2) (News.setIn N h1 h2 hs ho') hd' (hk.stored hx n t)
theorem dict_del {x : Str} {u : Tok} {rest : List (Addr × Obj)} {Q : Unit → Shared → Prop} (own : List (Addr × Obj)) (F : Fr h₀ L s.heap m) (N : News h₀ L s.heap (own ++ (d, o) :: rest)) (h1 : ∀ p ∈ own, p.1 ≠ d) (h2 : ∀ p ∈ rest, p.1 ≠ d) (hd : o.IsDictOf (strKind prog w) kvs) (hk : KvsAre kvs es) (hx : x ∈ es.map (·.1)) (hn : es.length ≤ 1000)
    (h : ∀ h' o' kvs' tk, Fr h₀ L h' m → News h₀ L h' (own ++ (d, o') :: rest) → o'.IsDictOf (strKind prog w) kvs' → KvsAre kvs' (es.filter fun p => decide (p.1 ≠ x)) → Q () { s with heap := h', toks := tk }) :
    wpAny (model prog w) A (delItem (.ref d) (.str x u)) Q E s := by
  have hm := N (d, o) (List.mem_append_right _ (.head _))
  have hD : s.heap.DictOf (strKind prog w) d kvs := Heap.dictOf_iff.mpr ⟨o, hm.1, hd⟩
  obtain ⟨t, ht⟩ := hk.at hx
  unfold delItem
  try with_reducible refine wpAny_holding ?_
  refine wpAny_bind (wpAny_sequenceKey hD.typeIs (by decide) ?_)
  refine wpAny_bind (wpAny_callSpecial?_slot (name := Str.ofString "__delitem__") hD.typeIs PySem.F.slot_dict_delitem
    (call_meetsIn PySem.F.slot_dict_delitem hD.typeIs PySem.F.entry_dict_delitem (PySem.F.args_dict_delitem_2 _ _) (meets_dict_delitem_pairs (strKind prog w) d (strKind_is _ _ _ _)) ⟨kvs, hD, (by rw [sizeLine_eq, hk.length]; k_extra "omx"), by rw [ht]; rfl, fun h' hmm hs => ?_⟩))
  obtain ⟨o', ho', hd'⟩ := Heap.dictOf_iff.mp hmm
  exact wpAny_pure (h h' o' _ _ (F.change hs hm.2.1 hm.2.2) (News.setIn N h1 h2 hs ho') hd' (hk.without x))
end
structure CSt where
  rs : List (Str × Str)
  es : List (Str × Int)
  hp : List (Int × Str)
  car : List Int
noncomputable def heapS (rs : List (Str × Str)) (hp : List (Int × Str)) (p : Str × Int) : List (Int × Str) := if (neighR rs p.1).length = 1 then pushF (p.2, p.1) hp else hp
noncomputable def heap0 (rs : List (Str × Str)) (es : List (Str × Int)) : List (Int × Str) := es.foldl (heapS rs) []
noncomputable def top1 (hp : List (Int × Str)) : Int × Str := popTop (hp.getLastD e0) hp.dropLast
noncomputable def rest1 (hp : List (Int × Str)) : List (Int × Str) := popF (hp.getLastD e0) hp.dropLast
noncomputable def goal1 (s : CSt) : Str := (neighR s.rs (top1 s.hp).2).headD (Str.ofString "")
noncomputable def es1 (s : CSt) : List (Str × Int) := s.es.filter fun p => decide (p.1 ≠ (top1 s.hp).2)
noncomputable def rs1 (s : CSt) : List (Str × Str) := delR s.rs (Txt.lower (top1 s.hp).2)
noncomputable def new1 (s : CSt) : Int := loadOf (es1 s) (goal1 s) + (top1 s.hp).1
noncomputable def stepC (s : CSt) : CSt :=
  { rs := rs1 s, es := (es1 s).map fun p => if p.1 = goal1 s then (p.1, new1 s) else p
    hp := if (neighR (rs1 s) (goal1 s)).length = 1 then pushF (new1 s, goal1 s) (rest1 s.hp) else rest1 s.hp, car := s.car ++ [(top1 s.hp).1] }
noncomputable def runC : Nat → CSt → CSt
  | 0, s => s
  | n + 1, s => if 1 < s.es.length then runC n (stepC s) else s
noncomputable def carryF (rs : List (Str × Str)) (es : List (Str × Int)) : CSt := runC es.length ⟨rs, es, heap0 rs es, []⟩
structure PlaceOk (rs : List (Str × Str)) (p : Str) : Prop where
  l1 : 1 ≤ p.length
  l2 : p.length ≤ 1000
  ok : okS (Txt.lower p) = true
  l3 : (Txt.lower p).length ≤ 1000
  way : ∀ y ∈ getAllR rs (Txt.lower p), WayOk p y
structure StepOk (s : CSt) : Prop where
  hne : s.hp ≠ []
  hlen : s.hp.length ≤ 900
  twig : (top1 s.hp).2 ∈ s.es.map (·.1)
  pt : PlaceOk s.rs (top1 s.hp).2
  nne : neighR s.rs (top1 s.hp).2 ≠ []
  goal : goal1 s ∈ (es1 s).map (·.1)
  pg : PlaceOk (rs1 s) (goal1 s)
noncomputable def GoodRun : Nat → CSt → Prop
  | 0, s => s.es.length ≤ 1
  | n + 1, s => 1 < s.es.length → StepOk s ∧ GoodRun n (stepC s)
theorem swap_perm {α : Type} {es : List α} {new d : α} {i j : Nat} (hi : i < es.length) (hj : j < es.length) (hij : i ≠ j) : ((es.set i (es.getD j d)).set j new).Perm (es.set i new) := by
  have h := List.set_set_perm (as := es.set i new) (i := i) (j := j) (by simpa using hi) (by simpa using hj)
  have e1 : (es.set i new)[j]'(by simpa using hj) = es.getD j d := by
    rw [List.getElem_set_ne hij, List.getD_eq_getElem?_getD, List.getElem?_eq_getElem hj]; rfl
  have e2 : (es.set i new)[i]'(by simpa using hi) = new := by simp
  rw [e1, e2, List.set_set] at h
  exact h
theorem sdGo_perm (new : Int × Str) : ∀ (pos : Nat) (es : List (Int × Str)), pos < es.length → (sdGo new pos es).Perm (es.set pos new) := by
  intro pos
  induction pos using Nat.strongRecOn with
  | _ pos ih =>
    intro es h
    rw [sdGo]
    split
    · rename_i h0; subst h0; exact .refl _
    · rename_i h0
      split
      · have hp : (pos - 1) / 2 < pos := by lia
        exact (ih _ hp _ (by rw [List.length_set]; lia)).trans (swap_perm h (by lia) (by lia))
      · exact .refl _
theorem pushF_perm (e : Int × Str) (es : List (Int × Str)) : (pushF e es).Perm (e :: es) := by
  have h := sdGo_perm e es.length (es ++ [e]) (by simp)
  have e1 : (es ++ [e]).set es.length e = es ++ [e] := by simp
  rw [e1] at h
  exact h.trans (List.perm_append_comm)
theorem suC_len {pos : Nat} {es : List (Int × Str)} (h : 2 * pos + 1 < es.length) : suC pos es < es.length := by unfold suC; split <;> lia
theorem suGo_perm (new : Int × Str) : ∀ (n pos : Nat) (es : List (Int × Str)), es.length - pos = n → pos < es.length → (suGo new pos es).Perm (es.set pos new) := by
  intro n
  induction n using Nat.strongRecOn with
  | _ n ih =>
    intro pos es hn h
    rw [suGo]
    split
    · rename_i h1
      have hc := suC_len h1
      have hg := @suC_lt pos es
      exact (ih (es.length - suC pos es) (by lia) (suC pos es) _ (by rw [List.length_set]) (by rw [List.length_set]; exact hc)).trans (swap_perm h hc (by lia))
    · have h2 := sdGo_perm new pos (es.set pos new) (by rw [List.length_set]; exact h)
      rw [List.set_set] at h2
      exact h2
theorem popF_perm (l : Int × Str) (es : List (Int × Str)) : (popTop l es :: popF l es).Perm (es ++ [l]) := by
  cases es with
  | nil => exact .refl _
  | cons a r =>
    have h := suGo_perm l _ 0 ((a :: r).set 0 l) rfl (by simp)
    have e : ((a :: r).set 0 l).set 0 l = l :: r := rfl
    rw [e] at h
    show (a :: (if a :: r = [] then [] else suGo l 0 ((a :: r).set 0 l))).Perm (a :: (r ++ [l]))
    rw [if_neg (by simp)]
    exact (h.trans (List.perm_append_comm (l₁ := [l]) (l₂ := r))).cons a
section
variable {w : World} {x dx hl : Addr} {hsh : Int} {th nd k : Nat} {vs : List Value} {rs : List (Str × Str)} {news : List (Addr × Obj)} {p : Str} {t : Tok}
    {dp un : Nat} {gd : Option (List Code)} {cn : Str} {nms : List (Str × NameKind)} {ig ic : Bool} {mo : List (Str × Const)} {a : Addr} {ccd : Value} {cl : List (Str × Addr)} {outer : List Env} {A₀ : Around} {base h₀ : Heap} {L : Addr} {m : Str → Option Value}
    {mean : ExcName → Option Value} {mg mb : Str → Option Value} {s : Shared} {Q E : Value → Shared → Prop}
theorem neigh_use (B : Below A₀ base outer h₀) (F : Fr h₀ L s.heap m) (X : (K w.params).In h₀) (N : News h₀ L s.heap news) (T : Top qv (looseW qv loose) mean mg mb h₀) (hd : dp + 5 < recursionLimit) (hu : un + 8 * 5 < cLine)
    (hT : TabIn x dx hl hsh th nd k vs rs news) (hrl : rs.length ≤ 1000) (hP : PlaceOk rs p)
    (hret : ∀ l ws h' tk', StrsL ws (neighR rs p) → (∀ q ∈ news, q.1 ≠ l) → Fr h₀ L h' m → News h₀ L h' ((l, lst ws) :: news) → Q (.ref l) { s with heap := h', toks := tk' }) :
    wpAny (model pr w) (ktrTop dp un gd cn ⟨.function, nms, ig, ic, mo⟩ L a ccd cl outer) (call (.ref 353) [.ref x, .str p t] []) Q E s := by
  have C := neigh_c w x dx hl hsh th nd k vs rs news (hT.mono TabIn.some) p t hP.l1 hP.l2 hP.ok hP.l3 hrl hP.way
  refine con_use (Con.led (news := news) (Out' := fun r n' => ∃ l ws, r = .ref l ∧ n' = (l, lst ws) :: news ∧ StrsL ws (neighR rs p) ∧ ∀ q ∈ news, q.1 ≠ l) C hT.all ?_) B F X N T hd hu ?_
  · rintro r n ⟨l, ws, rfl, rfl, h1, h2⟩
    refine ⟨_, ⟨l, ws, rfl, rfl, h1, fun q hq => h2 q (TabIn.some q hq)⟩, fun q hq => ?_⟩
    rcases List.mem_cons.mp hq with rfl | hq
    · exact .head _
    · exact .tail _ (TabIn.some q hq)
  · rintro r h' tk' n F' N' ⟨l, ws, rfl, rfl, h1, h2⟩
    exact hret l ws h' tk' h1 h2 F' N'
end
theorem heapS_take {rs : List (Str × Str)} {es : List (Str × Int)} {i : Nat} {p : Str × Int} (h : es[i]? = some p) : (es.take (i + 1)).foldl (heapS rs) [] = heapS rs ((es.take i).foldl (heapS rs) []) p := by
  rw [List.take_add_one, h, List.foldl_append]; rfl
theorem pushF_len (e : Int × Str) (es : List (Int × Str)) : (pushF e es).length = es.length + 1 := by
  have key : ∀ (new : Int × Str) (pos : Nat) (es : List (Int × Str)), (sdGo new pos es).length = es.length := by
    intro new pos
    induction pos using Nat.strongRecOn with
    | _ pos ih =>
      intro es
      rw [sdGo]
      split
      · simp
      · split
        · rw [ih _ (by k_extra "omx")]; simp
        · simp
  unfold pushF
  rw [key]; simp
theorem heap_len (rs : List (Str × Str)) : ∀ (es : List (Str × Int)) (hp : List (Int × Str)), (es.foldl (heapS rs) hp).length ≤ hp.length + es.length
  | [], hp => by simp
  | e :: es, hp => by
    rw [List.foldl_cons]
    have h1 := heap_len rs es (heapS rs hp e)
    have h2 : (heapS rs hp e).length ≤ hp.length + 1 := by
      unfold heapS
      split
      · rw [pushF_len]; k_extra "omx"
      · k_extra "omx"
    rw [List.length_cons]; k_extra "omx"
theorem name_2 {h₀ h : Heap} {L : Addr} {p : Addr × Obj} {a : Addr} {o : Obj} {r : List (Addr × Obj)} (_ : News h₀ L h (p :: (a, o) :: r)) : ∃ a' : Addr, a' = a := ⟨_, rfl⟩
theorem name_1 {h₀ h : Heap} {L : Addr} {a : Addr} {o : Obj} {r : List (Addr × Obj)} (_ : News h₀ L h ((a, o) :: r)) : ∃ a' : Addr, a' = a := ⟨_, rfl⟩
theorem tabIn_of {x dx hl : Addr} {hsh : Int} {th nd k : Nat} {vs : List Value} {rs : List (Str × Str)} {rest news : List (Addr × Obj)} (hs : ∀ p ∈ tabLed x dx hl hsh th nd k vs rest, p ∈ news) (hR : RowsAre rest vs rs) (hl1 : vs.length ≤ 1000) (hno : NamesOk rs) : TabIn x dx hl hsh th nd k vs rs news :=
  ⟨fun p hp => hs p (by
    simp only [List.mem_cons, List.not_mem_nil, or_false] at hp ⊢
    rcases hp with h | h | h
    · exact .inl h
    · exact .inr (.inl h)
    · exact .inr (.inr (.inl h))), hR.mono fun p hp => hs p (.tail _ (.tail _ (.tail _ hp))), hl1, hno⟩
theorem neighR_len (rs : List (Str × Str)) (p : Str) : (neighR rs p).length ≤ rs.length := by
  unfold neighR goalsR getAllR
  refine Nat.le_trans (List.length_filter_le _ _) ?_
  rw [List.length_map, List.length_map]
  exact List.length_filter_le _ _
theorem loadOf_at {es : List (Str × Int)} (hn : (es.map (·.1)).Nodup) {i : Nat} {p : Str} {n : Int} (h : es[i]? = some (p, n)) : loadOf es p = n := by
  have key : es.find? (fun q => decide (q.1 = p)) = some (p, n) := by
    induction es generalizing i with
    | nil => simp at h
    | cons q es ih =>
      rw [List.map_cons, List.nodup_cons] at hn
      rw [List.find?_cons]
      cases i with
      | zero => simp at h; subst h; simp
      | succ i =>
        have h1 : es[i]? = some (p, n) := by simpa using h
        have h2 : q.1 ≠ p := fun e => hn.1 (by rw [e]; exact List.mem_map.mpr ⟨(p, n), List.mem_of_getElem? h1, rfl⟩)
        rw [decide_eq_false h2]
        exact ih hn.2 h1
  unfold loadOf
  rw [key]; rfl
theorem led_push {h₀ h : Heap} {L : Addr} {D l I p : Addr × Obj} {r : List (Addr × Obj)} (N : News h₀ L h (D :: l :: I :: p :: r)) : News h₀ L h (p :: D :: I :: r) := led_drop N (by
  intro q hq
  simp only [List.mem_cons] at hq ⊢
  rcases hq with h | h | h | h <;> simp [h])
theorem led_back {h₀ h : Heap} {L : Addr} {D I p : Addr × Obj} {a b : List (Addr × Obj)} (N : News h₀ L h (p :: D :: I :: (a ++ b))) : News h₀ L h (I :: p :: ((D :: a) ++ b)) := led_drop N (by
  intro q hq
  simp only [List.mem_cons, List.cons_append] at hq ⊢
  rcases hq with h | h | h | h <;> simp [h])
theorem led_drop2 {h₀ h : Heap} {L : Addr} {l I : Addr × Obj} {r : List (Addr × Obj)} (N : News h₀ L h (l :: I :: r)) : News h₀ L h (I :: r) := led_drop N fun _ h => .tail _ h
theorem off_push {o o' D : Addr × Obj} {a b its : List (Addr × Obj)} (off : ∀ p ∈ o :: (a ++ b), ∀ q ∈ its, p.1 ≠ q.1) (he : o'.1 = o.1) (hD : ∀ q ∈ its, D.1 ≠ q.1) : ∀ p ∈ o' :: ((D :: a) ++ b), ∀ q ∈ its, p.1 ≠ q.1 := by
  intro p hp q hq
  rcases List.mem_cons.mp hp with h | hp
  · rw [h, he]; exact off o (.head _) q hq
  · rcases List.mem_cons.mp hp with h | hp
    · rw [h]; exact hD q hq
    · exact off p (.tail _ hp) q hq
theorem hp_cut {α : Type} {hp : List α} {d : α} (h : hp ≠ []) : hp.dropLast ++ [hp.getLastD d] = hp := by
  rw [List.getLastD_eq_getLast?, List.getLast?_eq_some_getLast h]
  exact List.dropLast_concat_getLast h
theorem tab_addr {P : Addr → Prop} {x dx hl : Addr} {hsh : Int} {th nd k k' : Nat} {vs vs' : List Value} {rest : List (Addr × Obj)} (h : ∀ q ∈ tabLed x dx hl hsh th nd k vs rest, P q.1) : ∀ q ∈ tabLed x dx hl hsh th nd k' vs' rest, P q.1 := by
  intro q hq
  rcases List.mem_cons.mp hq with e | hq
  · rw [e]; exact h _ (.head _)
  · rcases List.mem_cons.mp hq with e | hq
    · rw [e]; exact h _ (.tail _ (.head _))
    · rcases List.mem_cons.mp hq with e | hq
      · rw [e]; exact h (hl, lstOf vs k) (.tail _ (.tail _ (.head _)))
      · exact h q (.tail _ (.tail _ (.tail _ hq)))
theorem strs_head {ws : List Value} {xs : List Str} (h : StrsL ws xs) (hn : xs ≠ []) (d : Str) : ∃ t, ws[(0 : Int).toNat]? = some (.str (xs.headD d) t) := by
  cases h with
  | nil => exact absurd rfl hn
  | cons h => exact ⟨_, rfl⟩
theorem runC_stop {n : Nat} {s : CSt} (h : ¬ 1 < s.es.length) : runC n s = s := by
  cases n with
  | zero => rfl
  | succ n => rw [runC, if_neg h]
theorem goodRun_step {n : Nat} {s : CSt} (h : GoodRun n s) (h1 : 1 < s.es.length) : ∃ n2, n = n2 + 1 ∧ StepOk s ∧ GoodRun n2 (stepC s) ∧ runC n s = runC n2 (stepC s) := by
  cases n with
  | zero => exact absurd h (Nat.not_le_of_lt h1)
  | succ n => exact ⟨n, rfl, (h h1).1, (h h1).2, by rw [runC, if_pos h1]⟩
theorem namesOk_del {rs : List (Str × Str)} (h : NamesOk rs) (l : Str) : NamesOk (delR rs l) := fun r hr => h r (List.mem_filter.mp hr).1
theorem delR_len (rs : List (Str × Str)) (l : Str) : (delR rs l).length ≤ rs.length := List.length_filter_le _ _
theorem stepC_es (s : CSt) : (stepC s).es.length ≤ s.es.length := by
  show (List.map _ (es1 s)).length ≤ _
  rw [List.length_map]
  exact List.length_filter_le _ _
theorem step_parts {st : CSt} (hS : StepOk st) : ∃ (ld : Int) (tw g : Str) (E1 : List (Str × Int)) (R1 : List (Str × Str)) (H1 : List (Int × Str)), (top1 st.hp).1 = ld ∧ (top1 st.hp).2 = tw ∧ rest1 st.hp = H1 ∧ tw ∈ st.es.map (·.1) ∧ PlaceOk st.rs tw ∧
    (∀ ws, StrsL ws (neighR st.rs tw) → ∃ t, ws[(0 : Int).toNat]? = some (.str g t)) ∧ (st.es.filter fun p => decide (p.1 ≠ tw)) = E1 ∧ g ∈ E1.map (·.1) ∧ delR st.rs (Txt.lower tw) = R1 ∧ PlaceOk R1 g ∧
    stepC st = ⟨R1, E1.map fun p => if p.1 = g then (p.1, loadOf E1 g + ld) else p, if (neighR R1 g).length = 1 then pushF (loadOf E1 g + ld, g) H1 else H1, st.car ++ [ld]⟩ :=
  ⟨(top1 st.hp).1, (top1 st.hp).2, goal1 st, es1 st, rs1 st, rest1 st.hp, rfl, rfl, rfl, hS.twig, hS.pt, fun _ h => strs_head h hS.nne _, rfl, hS.goal, rfl, hS.pg, rfl⟩
theorem led_tail {h₀ h : Heap} {L : Addr} {l : Addr × Obj} {r : List (Addr × Obj)} (N : News h₀ L h (l :: r)) : News h₀ L h r := led_drop N fun _ h => .tail _ h
theorem keys_upd {E : List (Str × Int)} {g : Str} {v : Int} : (E.map fun p => if p.1 = g then (p.1, v) else p).map (·.1) = E.map (·.1) := by
  rw [List.map_map]
  refine List.map_congr_left fun p _ => ?_
  show (if p.1 = g then (p.1, v) else p).1 = p.1
  split <;> rfl
theorem load_upd {E : List (Str × Int)} {g : Str} {v : Int} (hg : g ∈ E.map (·.1)) : loadOf (E.map fun p => if p.1 = g then (p.1, v) else p) g = v := by
  induction E with
  | nil => cases hg
  | cons q E ih =>
    unfold loadOf at ih ⊢
    rw [List.map_cons, List.find?_cons]
    by_cases e : q.1 = g
    · simp [e]
    · have h1 : g ∈ E.map (·.1) := by
        rcases List.mem_cons.mp hg with h | h
        · exact absurd h.symm e
        · exact h
      rw [if_neg e, decide_eq_false e]
      exact ih h1
theorem led_tab {h₀ h : Heap} {L x dx hl : Addr} {hsh : Int} {th nd k : Nat} {vs : List Value} {a b c : Addr × Obj} {u rest : List (Addr × Obj)} (N : News h₀ L h (a :: b :: c :: (u ++ tabLed x dx hl hsh th nd k vs rest))) :
    News h₀ L h (tabLed x dx hl hsh th nd k vs (a :: b :: c :: (u ++ rest))) := led_drop N (by
  intro q hq
  simp only [List.mem_cons, List.mem_append] at hq ⊢
  rcases hq with h | h | h | h | h | h | h | h <;> simp [h])
theorem led_untab {h₀ h : Heap} {L x dx hl : Addr} {hsh : Int} {th nd k : Nat} {vs : List Value} {a b c : Addr × Obj} {u rest : List (Addr × Obj)} (N : News h₀ L h (tabLed x dx hl hsh th nd k vs (a :: b :: c :: (u ++ rest)))) :
    News h₀ L h (a :: b :: c :: (u ++ tabLed x dx hl hsh th nd k vs rest)) := led_drop N (by
  intro q hq
  simp only [List.mem_cons, List.mem_append] at hq ⊢
  rcases hq with h | h | h | h | h | h | h | h <;> simp [h])
theorem led_push2 {h₀ h : Heap} {L : Addr} {D l p : Addr × Obj} {r : List (Addr × Obj)} (N : News h₀ L h (D :: l :: p :: r)) : News h₀ L h (p :: D :: r) := led_drop N (by
  intro q hq
  simp only [List.mem_cons] at hq ⊢
  rcases hq with h | h | h <;> simp [h])
theorem led_back2 {h₀ h : Heap} {L : Addr} {p D a b : Addr × Obj} {u t : List (Addr × Obj)} (N : News h₀ L h (p :: D :: a :: b :: (u ++ t))) : News h₀ L h (p :: a :: b :: ((D :: u) ++ t)) := led_drop N (by
  intro q hq
  simp only [List.mem_cons, List.mem_append] at hq ⊢
  rcases hq with h | h | h | (h | h) | h <;> simp [h])
theorem rest_len {hp : List (Int × Str)} (h : hp ≠ []) : (rest1 hp).length + 1 = hp.length := by
  have h1 := (popF_perm (hp.getLastD e0) hp.dropLast).length_eq
  rw [hp_cut h] at h1
  exact h1
theorem led_end {h₀ h : Heap} {L : Addr} {D B H C d : Addr × Obj} {u t : List (Addr × Obj)} (N : News h₀ L h (D :: B :: H :: C :: d :: (u ++ t))) : News h₀ L h (D :: C :: t) := led_drop N (by
  intro q hq
  simp only [List.mem_cons, List.mem_append] at hq ⊢
  rcases hq with h | h | h <;> simp [h])
theorem own_del {M : Model} {A : Around} {E : Value → Shared → Prop} {s : Shared} {K : Frag} {x C L f : Addr} {h₀ : Heap} {m : Str → Option Value} {ox : Obj} {od : Option Obj} {i : Value} {Q : Unit → Shared → Prop} (F : Fr h₀ L s.heap m) (X₀ : K.In h₀) (I : InstAt s.heap x ox C od) (hq : noSeq K C = true) (hs : findIn K (.ref C) "__delitem__" = some (some (.ref f))) (hf : isFn K (.ref f) = true)
    (h : wpAny M A (call (.ref f) [.ref x, i]) (fun _ s' => Q () s') E s) : wpAny M A (delItem (.ref x) i) Q E s := by
  have X := X₀.keeps F.keep
  unfold delItem sequenceKey
  refine wpAny_holding (wpAny_bind (wpAny_bind (I.type.here ?_)))
  refine wpAny_bind ((anyM_none X hq).here ?_)
  rw [if_pos (show (!false) = true from rfl)]
  exact wpAny_pure (wpAny_bind (special_fn X I hs (beq_iff_eq.mp hf) (wpAny_mono h (fun _ _ z => wpAny_pure z) fun _ _ z => z)))
example : True := by
  k_with "c_hold8" => (((first | (with_reducible show wpAny _ _ (call (Value.ref 353) _ _) _ _ _) | (with_reducible show wpAny _ _ (call (Value.ref 193) _ _) _ _ _) | (with_reducible show wpAny _ _ (call (Value.ref 200) _ _) _ _ _) | (with_reducible show wpAny _ _ (call (Value.ref 102) _ _) _ _ _) | (with_reducible show wpAny _ _ (call (Value.type "list") _ _) _ _ _) | (with_reducible show wpAny _ _ (call (Value.builtin "list.append") _ _) _ _ _) | (with_reducible show wpAny _ _ (delItem _ _) _ _ _) | (with_reducible show wpAny _ _ (setItem _ _ _) _ _ _)); refine held_out ?_))
  trivial

example : True := by
  k_with "c_step8" => (repeat' (first | k_extra "c_hold8" | (k_unfold; (try dsimp only)) | (k_end; wrow_close) | (k_extra "c_noiter"; k_extra "c_nowhl"; walk1) | (k_extra "c_noiter"; k_extra "c_nowhl"; dsimp only; walk1) | (leave1; try dsimp only) | fail "no step"))
  trivial

example : True := by
  k_with "c_hold9" => (((first | (with_reducible show wpAny _ _ (call (Value.ref 353) _ _) _ _ _) | (with_reducible show wpAny _ _ (call (Value.ref 193) _ _) _ _ _) | (with_reducible show wpAny _ _ (call (Value.ref 102) _ _) _ _ _) | (with_reducible show wpAny _ _ (setItem _ _ _) _ _ _)); refine held_out ?_))
  trivial

example : True := by
  k_with "c_step9" => (repeat' (first | k_extra "c_hold9" | (k_unfold; (try dsimp only)) | (k_end; wrow_close) | (k_extra "c_noiter"; k_extra "c_nowhl"; walk1) | (k_extra "c_noiter"; k_extra "c_nowhl"; dsimp only; walk1) | (leave1; try dsimp only) | fail "no step"))
  trivial

example : True := by
  k_with "delItem ref str" => ((k_here; (with_reducible show wpAny _ _ (delItem (Value.ref _) _) _ _ _); k_dflt (refine' own_del ?F ?X ?I ?hQ ?hS ?hF ?_; (case F => k_asm); (case X => k_asm); (case I => k_inst); (case hS => k_is); (case hF => k_is); (case hQ => k_is); k_whole)))
  trivial

example : True := by
  k_with "exec For Name Call cons nil" => ((k_here; k_extra "c_forT"))
  trivial

example : True := by
  k_with "call builtin:len" => ((k_here; (with_reducible show wpAny _ _ (call (Value.builtin "len") [Value.ref _]) _ _ _); k_dflt (refine' dict_len ?N ?m ?d ?lo ?k ?z ?_; (case d => with_reducible assumption); (case k => with_reducible assumption); (case N => k_asm); (case m => k_mem); (case lo => with_reducible assumption); (case z => omega); k_whole); intro _ _))
  trivial

example : True := by
  k_with "subscriptTail" => ((k_here; (with_reducible show wpAny _ _ (subscriptTail _ _ (Value.ref _) (Value.str _ _)) _ _ _); (with_unfolding_all refine' dict_item ?N ?m ?d ?k ?x ?_ ?s ?g; (case d => with_reducible assumption); (case k => with_reducible assumption); (case x => with_reducible assumption); (case N => k_asm); (case m => k_mem); (case s => with_unfolding_all rfl); (case g => (intro _; with_unfolding_all rfl)); k_whole); intro _))
  trivial

theorem name_tok {h₀ h : Heap} {L : Addr} {a : Addr × Obj} {ca : Addr} {cvs : List Value} {ld : Int} {t : Tok} {k : Nat} {rest : List (Addr × Obj)} (_ : News h₀ L h (a :: (ca, lstOf (cvs ++ [Value.int ld t]) k) :: rest)) : ∃ t', t' = t := ⟨t, rfl⟩
set_option maxHeartbeats 4000000 in
theorem carry_c (w : World) (d : Addr) (od : Obj) (kvs : List (Str × Value)) (x dx hl : Addr) (hsh : Int) (th nd k : Nat) (vs : List Value) (rs : List (Str × Str)) (es : List (Str × Int)) (rest : List (Addr × Obj)) (lastS : Str)
    (hd : od.IsDictOf (strKind pr w) kvs) (hlo : (d == sysModules) = false) (hk : KvsAre kvs es) (hR : RowsAre rest vs rs) (hoff : ∀ p ∈ rest, p.1 ≠ hl) (hxl : (@Ne Nat x hl)) (hdl : (@Ne Nat dx hl)) (hd1 : ∀ p ∈ tabLed x dx hl hsh th nd k vs rest, p.1 < d)
    (he : es.length ≤ 10) (hnd : (es.map (·.1)).Nodup) (hrl : rs.length ≤ 1000) (hno : NamesOk rs) (hpl : ∀ p ∈ es, PlaceOk rs p.1) (hgood : GoodRun es.length ⟨rs, es, heap0 rs es, []⟩) (hend : (carryF rs es).es.map (·.1) = [lastS]) :
    Con w 360 9 [.ref x, .ref d] [] ((d, od) :: tabLed x dx hl hsh th nd k vs rest) (fun r n' => ∃ t0 nt ca cvs ck lt k' vs', r = .ref t0 ∧ n' = (t0, tupOf [.ref ca, .str lastS lt] nt) :: (ca, lstOf cvs ck) :: tabLed x dx hl hsh th nd k' vs' rest ∧ IntsAre cvs (carryF rs es).car ∧ RowsAre rest vs' (carryF rs es).rs) := by
  have hvr := hR.length
  (w_top off; unfold Con; intro dpZ unZ gdZ cnZ nmZ igZ icZ moZ aZ ccdZ clZ outerZ A₀Z baseZ h₀Z LZ mZ meanZ mgZ mbZ sZ QZ EZ BZ FZ XZ NZ TZ hdZ huZ hret; refine wpAny_call ?_; k_dflt k_enter)
  k_extra "c_step8"
  refine held_in ?_
  refine dict_list (by rfl) (by k_asm) (by k_asm) (by k_mem) hd hlo hk (by k_extra "omx") (fun B c h2 tk2 bvs hB F2 N2 hlt => ?_)
  obtain ⟨hp, rfl⟩ := name_2 N2
  rename KLt _ _ => k9
  rename _ ∧ _ ∧ _ => l1
  have hpd : (@LT.lt Nat _ d hp) := k9.lt (d, od) (.head _)
  have hpr : ∀ p ∈ tabLed x dx hl hsh th nd k vs rest, (@LT.lt Nat _ p.1 hp) := fun p hp => k9.lt p (.tail _ hp)
  have hlp : (@LT.lt Nat _ hl hp) := hpr (hl, lstOf vs k) (by simp only [List.mem_cons, true_or, or_true])
  have hpB : (@LT.lt Nat _ hp B) := hlt (hp, lstOf [] 0) (.head _)
  have hdB : (@LT.lt Nat _ d B) := hlt (d, od) (.tail _ (.head _))
  have hbv := hB.length
  rw [List.length_map] at hbv
  clear k9 l1 hlt
  have hbase : ∀ q ∈ (B, lstOf bvs c) :: (d, od) :: tabLed x dx hl hsh th nd k vs rest, q.1 ≠ hp := by
    intro q hq
    rcases List.mem_cons.mp hq with h | hq
    · rw [h]; exact Nat.ne_of_gt hpB
    · rcases List.mem_cons.mp hq with h | hq
      · rw [h]; exact Nat.ne_of_lt hpd
      · exact Nat.ne_of_lt (hpr q hq)
  k_extra "c_step8"
  rename News _ _ _ _ => N1
  rename Fr _ _ _ _ => F1
  refine iter_listN (l := B) (vs := bvs) (k := c) [Str.ofString "place"] (fun i _ n => ∃ hvs hk tups, n = (hp, lstOf hvs hk) :: (tups ++ ((B, lstOf bvs c) :: (d, od) :: tabLed x dx hl hsh th nd k vs rest)) ∧ ItemsAre tups hvs ((es.take i).foldl (heapS rs) []) ∧ ∀ p ∈ tups, (@LT.lt Nat _ d p.1) ∧ p.1 ≠ hp ∧ p.1 ≠ hl) (by rfl) (by rintro i m n ⟨hvs, hk, tups, rfl, _⟩; k_extra "c_mem") F1 (led_drop N1 (by k_extra "c_sub")) ⟨[], 0, [], rfl, .nil, by simp⟩ ?_ ?_
  · intro i v f n1 h3 tk3 I io hv hq9 hlI off F3 N3
    refine hide fun GZ kGZ => ?_
    obtain ⟨hvs, hk1, tups, rfl, hI, hto⟩ := hq9
    refine kGZ ?_
    clear kGZ GZ
    clear F1 N1
    simp only [offN] at F3
    refine hide fun GZ kGZ => ?_
    obtain ⟨p, tp, rfl, hpi⟩ := hB.get hv
    refine kGZ ?_
    clear kGZ GZ
    rw [List.getElem?_map] at hpi
    refine hide fun GZ kGZ => ?_
    obtain ⟨⟨p, n⟩, hei, rfl⟩ := Option.map_eq_some_iff.mp hpi
    refine kGZ ?_
    clear kGZ GZ
    try dsimp only at F3
    have hpe : p ∈ es.map (·.1) := List.mem_map.mpr ⟨(p, n), List.mem_of_getElem? hei, rfl⟩
    have hP := hpl _ (List.mem_of_getElem? hei)
    have hst := heapS_take (rs := rs) hei
    k_extra "c_step8"
    refine held_in ?_
    rename News _ _ _ _ => N3
    refine neigh_use (x := x) (dx := dx) (hl := hl) (hsh := hsh) (th := th) (nd := nd) (k := k) (vs := vs) (rs := rs) (by k_asm) (by k_asm) (by k_asm) N3 (by k_asm) (by k_extra "c_room") (by k_extra "c_units") (tabIn_of (rest := rest) (fun p hp => .tail _ (.tail _ (List.mem_append_right _ (.tail _ (.tail _ hp))))) hR (by k_extra "omx") hno) hrl hP (fun l ws h4 tk4 hS hnl F4 N4 => ?_)
    have hwl := hS.length
    have hwz : ws.length ≤ 1000 := by rw [hwl]; exact Nat.le_trans (neighR_len _ _) hrl
    k_extra "c_step8"
    · rename ((_ : Int) = 1) => h1
      have hln := loadOf_at hnd hei
      rename News _ _ _ _ => N5
      rename KLt _ _ => k9
      rw [hln] at N5
      obtain ⟨D, rfl⟩ := name_1 N5
      have hDh := k9.lt (hp, lstOf hvs hk1) (.tail _ (.tail _ (.head _)))
      have N6 := led_push N5
      have hIh : (@Ne Nat I hp) := Ne.symm (off (hp, lstOf hvs hk1) (.head _) (I, io) (.head _))
      refine held_in ?_
      (k_here; k_dflt (refine' con_use ((heappush_c w hp D (n, p) _ _ _ hvs hk1 _ ((D, _) :: tups) ((D, _) :: (I, io) :: (tups ++ ((B, lstOf bvs c) :: (d, od) :: tabLed x dx hl hsh th nd k vs rest))) ?htl (hI.mono fun q hq => .tail _ hq) ?hoff ?hz (.head _))) ?k1 ?k2 ?k3 ?k4 ?k5 ?kd ?ku ?_; (case k1 => k_asm); (case k2 => k_asm); (case k3 => k_asm); (case k4 => k_asm); (case k5 => k_asm); (case kd => k_extra "c_room"); (case ku => k_extra "c_units"); k_whole))
      case htl =>
        intro q hq
        rcases List.mem_cons.mp hq with h | h
        · rw [h]; exact .head _
        · exact .tail _ (.tail _ (List.mem_append_left _ h))
      case hoff =>
        intro q hq
        rcases List.mem_cons.mp hq with h | hq
        · rw [h]; exact Nat.ne_of_gt hDh
        · rcases List.mem_cons.mp hq with h | hq
          · rw [h]; exact hIh
          · rcases List.mem_append.mp hq with h | h
            · exact (hto q h).2.1
            · exact hbase q h
      case hz =>
        have := heap_len rs (es.take i) []
        rw [List.length_take] at this
        simp only [List.length_nil] at this
        k_extra "omx"
      intro r h5 tk5 news5 F8 N8 hq6
      refine hide fun GZ kGZ => ?_
      obtain ⟨rfl, hvs8, hk8, rfl, hI8⟩ := hq6
      refine kGZ ?_
      clear kGZ GZ
      have hDI : (@Ne Nat D I) := Nat.ne_of_gt (k9.lt (I, io) (.tail _ (.head _)))
      k_extra "c_step8"
      rename News _ _ _ _ => N9
      refine TurnX.intro (by k_asm) (led_back N9) (off_push off rfl (fun q hq => by rw [List.mem_singleton.mp hq]; exact hDI)) ⟨by k_extra "c_names", hvs8, hk8, _ :: tups, rfl, ?_, ?_⟩
      · rw [hst]
        unfold heapS
        rw [if_pos (show (neighR rs p).length = 1 by k_extra "omx")]
        exact hI8
      · intro q hq
        rcases List.mem_cons.mp hq with h | h
        · rw [h]; exact ⟨Nat.lt_trans hpd hDh, Nat.ne_of_gt hDh, Nat.ne_of_gt (Nat.lt_trans hlp hDh)⟩
        · exact hto q h
    · rename ((_ : Int) ≠ 1) => h1
      rename News _ _ _ _ => N5
      refine TurnX.intro (by k_asm) (led_drop2 N5) off ⟨by k_extra "c_names", hvs, hk1, tups, rfl, ?_, hto⟩
      rw [hst]
      unfold heapS
      rw [if_neg (show ¬ (neighR rs p).length = 1 by k_extra "omx")]
      exact hI
  · intro f n1 h3 tk3 hq4 F3 N3
    refine hide fun GZ kGZ => ?_
    obtain ⟨hvs, hk1, tups, rfl, hI, hto⟩ := hq4
    refine kGZ ?_
    clear kGZ GZ
    clear F1 N1
    simp only [offN] at F3
    rw [hbv, List.take_length] at hI
    k_extra "c_step8"
    rename News _ _ _ _ => N1
    rename Fr _ _ _ _ => F1
    rename KLt _ _ => k9
    obtain ⟨ca, rfl⟩ := name_1 N1
    have hcp : (@LT.lt Nat _ hp ca) := k9.lt (hp, lstOf hvs hk1) (.head _)
    have hct : ∀ q ∈ tups, (@Ne Nat q.1 ca) := fun q hq => Nat.ne_of_lt (k9.lt q (.tail _ (List.mem_append_left _ hq)))
    have hcd : (@LT.lt Nat _ d ca) := Nat.lt_trans hpd hcp
    clear k9
    refine while_invN [Str.ofString "load", Str.ofString "twig", Str.ofString "goal"] es.length (fun n _ news => ∃ (st : CSt) (hvs cvs vs2 : List Value) (hk2 ck k2 : Nat) (od2 : Obj) (kvs2 : List (Str × Value)) (tups2 : List (Addr × Obj)),
      news = (hp, lstOf hvs hk2) :: (ca, lstOf cvs ck) :: (d, od2) :: (tups2 ++ tabLed x dx hl hsh th nd k2 vs2 rest) ∧ ItemsAre tups2 hvs st.hp ∧ (∀ p ∈ tups2, (@LT.lt Nat _ d p.1) ∧ p.1 ≠ hp ∧ p.1 ≠ hl ∧ p.1 ≠ ca) ∧ IntsAre cvs st.car ∧ st.car.length + n = es.length ∧
      od2.IsDictOf (strKind pr w) kvs2 ∧ KvsAre kvs2 st.es ∧ st.es.length ≤ 10 ∧ RowsAre rest vs2 st.rs ∧ NamesOk st.rs ∧ st.rs.length ≤ 1000 ∧ GoodRun n st ∧ runC n st = carryF rs es) (by passes_own) F1 (led_drop N1 (by k_extra "c_sub"))
      ⟨⟨rs, es, heap0 rs es, []⟩, hvs, [], vs, hk1, 0, k, od, kvs, tups, rfl, hI, fun q hq => ⟨(hto q hq).1, (hto q hq).2.1, (hto q hq).2.2, hct q hq⟩, .nil, by simp, hd, hk, he, hR, hno, hrl, hgood, rfl⟩ ?_
    clear hI hto hct hgood hpl hnd hB hbv F1 N1 hd hk hR
    intro n f news1 h2 tk2 hq5 F2 N2
    refine hide fun GZ kGZ => ?_
    refine exE10 (hq5) ?_
    clear hq5
    intro st hvs cvs vs2 hk2 ck k2 od2 kvs2 tups2 hzZ
    refine andE13 hzZ ?_
    clear hzZ
    rintro rfl hI hto hca hcl hd hk he1 hR hno1 hrl1 hgo hrun
    refine kGZ ?_
    clear kGZ GZ
    simp only [offN] at F2
    by_cases h1 : 1 < st.es.length
    · k_extra "c_step8"
      refine WhlIf.yes (decide_eq_true (by k_extra "omx")) ?_
      refine hide fun GZ kGZ => ?_
      obtain ⟨n2, rfl, hS, hgo2, hrun2⟩ := goodRun_step hgo h1
      refine kGZ ?_
      clear kGZ GZ
      refine hide fun GZ kGZ => ?_
      refine exE6 (step_parts hS) ?_
      intro ld tw g E1 R1 H1 hzZ
      refine andE11 hzZ ?_
      clear hzZ
      rintro q1 q2 q3 q4 q5 q6 q7 q8 q9 q10 q11
      refine kGZ ?_
      clear kGZ GZ
      have sne := hS.hne
      have slen := hS.hlen
      clear hS
      rw [← hp_cut (d := e0) sne] at hI
      have hsl : st.hp.dropLast.length ≤ 999 := by rw [List.length_dropLast]; k_extra "omx"
      k_extra "c_step8"
      refine held_in ?_
      rename News _ _ _ _ => N3
      (k_here; k_dflt (refine' con_use ((heappop_c w hp hvs hk2 st.hp.dropLast (st.hp.getLastD e0) tups2 ((ca, lstOf cvs ck) :: (d, od2) :: (tups2 ++ tabLed x dx hl hsh th nd k2 vs2 rest)) (fun q hq => .tail _ (.tail _ (List.mem_append_left _ hq))) hI ?hoff hsl)) ?k1 ?k2 ?k3 ?k4 ?k5 ?kd ?ku ?_; (case k1 => k_asm); (case k2 => k_asm); (case k3 => k_asm); (case k4 => k_asm); (case k5 => k_asm); (case kd => k_extra "c_room"); (case ku => k_extra "c_units"); k_whole))
      case hoff =>
        intro q hq
        rcases List.mem_cons.mp hq with h | hq
        · rw [h]; exact Nat.ne_of_gt hcp
        · rcases List.mem_cons.mp hq with h | hq
          · rw [h]; exact Nat.ne_of_lt hpd
          · rcases List.mem_append.mp hq with h | h
            · exact (hto q h).2.1
            · exact tab_addr (P := fun a => a ≠ hp) (fun q hq => Nat.ne_of_lt (hpr q hq)) q h
      intro r h5 tk5 news5 F8 N8 hq6
      refine hide fun GZ kGZ => ?_
      obtain ⟨⟨a, ta, ua, na, rfl, hma⟩, hvs8, hk8, rfl, hI8⟩ := hq6
      refine kGZ ?_
      clear kGZ GZ
      clear hI N3
      have hma : (a, tupOf [.int (top1 st.hp).1 ta, .str (top1 st.hp).2 ua] na) ∈ tups2 := hma
      have hI8 : ItemsAre tups2 hvs8 (rest1 st.hp) := hI8
      rw [q1, q2] at hma
      rw [q3] at hI8
      have hvr2 := hR.length
      k_extra "c_step8"
      refine held_in ?_
      rename News _ _ _ _ => N3
      refine neigh_use (x := x) (dx := dx) (hl := hl) (hsh := hsh) (th := th) (nd := nd) (k := k2) (vs := vs2) (rs := st.rs) (by k_asm) (by k_asm) (by k_asm) N3 (by k_asm) (by k_extra "c_room") (by k_extra "c_units") (tabIn_of (rest := rest) (fun p hp => .tail _ (.tail _ (.tail _ (List.mem_append_right _ hp)))) hR (by k_extra "omx") hno1) hrl1 q5 (fun l ws h6 tk6 hS6 hnl F6 N6 => ?_)
      obtain ⟨tg, hg0⟩ := q6 ws hS6
      clear N3
      k_extra "c_step8"
      refine held_in ?_
      rename News _ _ _ _ => N3
      replace N3 := led_tail N3
      clear hnl hg0 hS6
      have hcv := hca.length
      have hodd : ∀ q ∈ tabLed x dx hl hsh th nd k2 vs2 rest, (@LT.lt Nat _ q.1 d) := tab_addr (P := fun a => (@LT.lt Nat _ a d)) hd1
      have hotup : ∀ q ∈ tups2 ++ tabLed x dx hl hsh th nd k2 vs2 rest, q.1 ≠ ca ∧ q.1 ≠ d := by
        intro q hq
        rcases List.mem_append.mp hq with h | h
        · exact ⟨(hto q h).2.2.2, Nat.ne_of_gt (hto q h).1⟩
        · exact ⟨Nat.ne_of_lt (Nat.lt_trans (hodd q h) hcd), Nat.ne_of_lt (hodd q h)⟩
      refine append_L (by k_asm) N3 (.tail (Nat.ne_of_lt hcp) (.head ?call)) (by k_extra "omx") (fun h9 F9 N9 => ?_)
      case call =>
        intro q hq
        rcases List.mem_cons.mp hq with h | h
        · rw [h]; exact Nat.ne_of_lt hcd
        · exact (hotup q h).1
      clear N3
      k_extra "c_step8"
      refine held_in ?_
      rename News _ _ _ _ => N3
      obtain ⟨tz, rfl⟩ := name_tok N3
      refine dict_del [_, _] (by k_asm) N3 ?o1 (fun q h => (hotup q h).2) hd hk q4 (by k_extra "omx") (fun h10 od3 kvs3 tk10 F10 N10 hd3 hk3 => ?_)
      case o1 =>
        intro q hq
        rcases List.mem_cons.mp hq with h | hq
        · rw [h]; exact Nat.ne_of_gt hpd
        · rw [List.mem_singleton.mp hq]; exact Nat.ne_of_gt hcd
      rw [q7] at hk3
      have he3 : E1.length ≤ 10 := by rw [← q7]; exact Nat.le_trans (List.length_filter_le _ _) he1
      clear N3 hd hk
      replace N10 := led_tab N10
      k_extra "c_step9"
      refine held_in ?_
      rename News _ _ _ _ => N3
      have hohl : ∀ q ∈ (hp, lstOf hvs8 hk8) :: (ca, lstOf (cvs ++ [Value.int ld tz]) (ck + 1)) :: (d, od3) :: (tups2 ++ rest), q.1 ≠ hl := by
        intro q hq
        rcases List.mem_cons.mp hq with h | hq
        · rw [h]; exact Nat.ne_of_gt hlp
        · rcases List.mem_cons.mp hq with h | hq
          · rw [h]; exact Nat.ne_of_gt (Nat.lt_trans hlp hcp)
          · rcases List.mem_cons.mp hq with h | hq
            · rw [h]; exact Nat.ne_of_gt (hd1 (hl, lstOf vs k) (by simp only [List.mem_cons, true_or, or_true]))
            · rcases List.mem_append.mp hq with h | h
              · exact (hto q h).2.2.1
              · exact hoff q h
      (k_here; k_dflt (refine' con_use ((del_c w x dx hl hsh th nd k2 vs2 st.rs rest _ (fun q hq => .tail _ (.tail _ (.tail _ (List.mem_append_right _ hq)))) tw _ q5.ok q5.l2 q5.l3 hR (by k_extra "omx") hno1 hxl hdl hohl)) ?k1 ?k2 ?k3 ?k4 ?k5 ?kd ?ku ?_; (case k1 => k_asm); (case k2 => k_asm); (case k3 => k_asm); (case k4 => k_asm); (case k5 => k_asm); (case kd => k_extra "c_room"); (case ku => k_extra "c_units"); k_whole))
      intro r h11 tk11 news11 F11 N11 hq6
      refine hide fun GZ kGZ => ?_
      obtain ⟨rfl, k3, vs3, rfl, hR3⟩ := hq6
      refine kGZ ?_
      clear kGZ GZ
      have hno3 : NamesOk R1 := q9 ▸ namesOk_del hno1 _
      have hrl3 : R1.length ≤ 1000 := by rw [← q9]; exact Nat.le_trans (delR_len _ _) hrl1
      rw [q9] at hR3
      clear hR hohl
      have N12 := led_untab N11
      clear N11 N3
      k_extra "c_step9"
      refine held_in ?_
      rename News _ _ _ _ => N3
      have hotup3 : ∀ q ∈ tups2 ++ tabLed x dx hl hsh th nd k3 vs3 rest, q.1 ≠ d := by
        intro q hq
        rcases List.mem_append.mp hq with h | h
        · exact Nat.ne_of_gt (hto q h).1
        · exact tab_addr (P := fun a => a ≠ d) (fun q h => Nat.ne_of_lt (hd1 q h)) q h
      refine dict_store [_, _] (by k_asm) N3 ?o1 hotup3 hd3 hk3 q8 (by k_extra "omx") (fun h13 od4 kvs4 tk13 F13 N13 hd4 hk4 => ?_)
      case o1 =>
        intro q hq
        rcases List.mem_cons.mp hq with h | hq
        · rw [h]; exact Nat.ne_of_gt hpd
        · rw [List.mem_singleton.mp hq]; exact Nat.ne_of_gt hcd
      have hx2 : g ∈ (E1.map fun p => if p.1 = g then (p.1, loadOf E1 g + ld) else p).map (·.1) := by rw [keys_upd]; exact q8
      have hl2 := load_upd (v := loadOf E1 g + ld) q8
      have he4 : (E1.map fun p => if p.1 = g then (p.1, loadOf E1 g + ld) else p).length ≤ 10 := by rw [List.length_map]; exact he3
      rw [q11] at hgo2 hrun2
      generalize hv : loadOf E1 g + ld = v at hk4 hx2 hl2 he4 hgo2 hrun2
      generalize hE2 : (E1.map fun p => if p.1 = g then (p.1, v) else p) = E2 at hk4 hx2 hl2 he4 hgo2 hrun2
      clear hd3 hk3 q8 q4 q7 hE2
      have N14 : News _ _ _ ((hp, lstOf hvs8 hk8) :: (ca, lstOf (cvs ++ [Value.int ld tz]) (ck + 1)) :: (d, od4) :: (tups2 ++ tabLed x dx hl hsh th nd k3 vs3 rest)) := N13
      clear N3 N13
      have hvr3 := hR3.length
      k_extra "c_step9"
      refine held_in ?_
      rename News _ _ _ _ => N3
      refine neigh_use (x := x) (dx := dx) (hl := hl) (hsh := hsh) (th := th) (nd := nd) (k := k3) (vs := vs3) (rs := R1) (by k_asm) (by k_asm) (by k_asm) N3 (by k_asm) (by k_extra "c_room") (by k_extra "c_units") (tabIn_of (rest := rest) (fun p hp => .tail _ (.tail _ (.tail _ (List.mem_append_right _ hp)))) hR3 (by k_extra "omx") hno3) hrl3 q10 (fun l2 ws2 h15 tk15 hS15 hnl F15 N15 => ?_)
      have hwl := hS15.length
      have hwz : ws2.length ≤ 1000 := by rw [hwl]; exact Nat.le_trans (neighR_len _ _) hrl3
      have hca2 : IntsAre (cvs ++ [Value.int ld tz]) (st.car ++ [ld]) := hca.append ints_one
      clear N3
      k_extra "c_step9"
      · rename ((_ : Int) = 1) => hw1
        rename News _ _ _ _ => N5
        rename KLt _ _ => k9
        rw [hl2] at N5
        obtain ⟨D, rfl⟩ := name_1 N5
        have hDh := k9.lt (hp, lstOf hvs8 hk8) (.tail _ (.head _))
        have hDc := k9.lt (ca, lstOf (cvs ++ [Value.int ld tz]) (ck + 1)) (.tail _ (.tail _ (.head _)))
        have N6 := led_push2 N5
        have hHl : H1.length ≤ 999 := by
          have h1 := rest_len sne
          rw [q3] at h1
          k_extra "omx"
        refine held_in ?_
        (k_here; k_dflt (refine' con_use ((heappush_c w hp D (v, g) _ _ _ hvs8 hk8 H1 ((D, _) :: tups2) ((D, _) :: (ca, lstOf (cvs ++ [Value.int ld tz]) (ck + 1)) :: (d, od4) :: (tups2 ++ tabLed x dx hl hsh th nd k3 vs3 rest)) ?htl (hI8.mono fun q hq => .tail _ hq) ?hoff hHl (.head _))) ?k1 ?k2 ?k3 ?k4 ?k5 ?kd ?ku ?_; (case k1 => k_asm); (case k2 => k_asm); (case k3 => k_asm); (case k4 => k_asm); (case k5 => k_asm); (case kd => k_extra "c_room"); (case ku => k_extra "c_units"); k_whole))
        case htl =>
          intro q hq
          rcases List.mem_cons.mp hq with h | h
          · rw [h]; exact .head _
          · exact .tail _ (.tail _ (.tail _ (List.mem_append_left _ h)))
        case hoff =>
          intro q hq
          rcases List.mem_cons.mp hq with h | hq
          · rw [h]; exact Nat.ne_of_gt hDh
          · rcases List.mem_cons.mp hq with h | hq
            · rw [h]; exact Nat.ne_of_gt hcp
            · rcases List.mem_cons.mp hq with h | hq
              · rw [h]; exact Nat.ne_of_lt hpd
              · rcases List.mem_append.mp hq with h | h
                · exact (hto q h).2.1
                · exact tab_addr (P := fun a => a ≠ hp) (fun q hq => Nat.ne_of_lt (hpr q hq)) q h
        intro r h17 tk17 news17 F17 N17 hq6
        refine hide fun GZ kGZ => ?_
        obtain ⟨rfl, hvs9, hk9, rfl, hI9⟩ := hq6
        refine kGZ ?_
        clear kGZ GZ
        k_extra "c_step9"
        rename News _ _ _ _ => N18
        dsimp only [WTurn]
        refine WEnd.intro (by k_asm) (led_back2 N18) ⟨by k_extra "c_names", n2, by k_extra "omx", ⟨R1, E2, pushF (v, g) H1, st.car ++ [ld]⟩, hvs9, _, vs3, hk9, _, k3, od4, kvs4, (D, _) :: tups2, rfl, hI9, ?_, hca2, ?_, hd4, hk4, he4, hR3, hno3, hrl3, ?_, ?_⟩
        · intro q hq
          rcases List.mem_cons.mp hq with h | h
          · rw [h]; exact ⟨Nat.lt_trans hpd hDh, Nat.ne_of_gt hDh, Nat.ne_of_gt (Nat.lt_trans hlp hDh), Nat.ne_of_gt hDc⟩
          · exact hto q h
        · simp only [List.length_append, List.length_singleton]; k_extra "omx"
        · rw [if_pos (show (neighR R1 g).length = 1 by k_extra "omx")] at hgo2; exact hgo2
        · rw [if_pos (show (neighR R1 g).length = 1 by k_extra "omx")] at hrun2; rw [← hrun2]; exact hrun
      · rename ((_ : Int) ≠ 1) => hw1
        rename News _ _ _ _ => N5
        dsimp only [WTurn]
        refine WEnd.intro (by k_asm) (led_tail N5) ⟨by k_extra "c_names", n2, by k_extra "omx", ⟨R1, E2, H1, st.car ++ [ld]⟩, hvs8, _, vs3, hk8, _, k3, od4, kvs4, tups2, rfl, hI8, hto, hca2, ?_, hd4, hk4, he4, hR3, hno3, hrl3, ?_, ?_⟩
        · simp only [List.length_append, List.length_singleton]; k_extra "omx"
        · rw [if_neg (show ¬ (neighR R1 g).length = 1 by k_extra "omx")] at hgo2; exact hgo2
        · rw [if_neg (show ¬ (neighR R1 g).length = 1 by k_extra "omx")] at hrun2; rw [← hrun2]; exact hrun
    · rw [runC_stop h1] at hrun
      subst hrun
      k_extra "c_step8"
      refine WhlIf.no (decide_eq_false (by k_extra "omx")) ?_
      k_extra "c_step8"
      refine held_in ?_
      rename News _ _ _ _ => N3
      refine dict_list (by rfl) (by k_asm) N3 (by k_extra "c_mem") hd hlo hk (by k_extra "omx") (fun B2 c2 h4 tk4 bvs2 hB2 F4 N4 hlt2 => ?_)
      rw [hend] at hB2
      obtain ⟨tg, hg0⟩ := strs_head hB2 (by simp) (Str.ofString "")
      replace hg0 : bvs2[(0 : Int).toNat]? = some (.str lastS tg) := hg0
      k_extra "c_step8"
      rename News _ _ _ _ => N5
      refine hret _ _ _ _ (by k_asm) (led_end N5) ⟨_, _, ca, cvs, ck, tg, k2, vs2, rfl, rfl, hca, hR⟩
end Mine


section
open PySem PySem.W PySem.Calls PyProof.Rows PyProof.Rows.LCg PyProof.Rows.LCt PyProof.Rows.LCp
namespace Mine
section
variable {prog : Program} {w : World} {A : Around} {E : Value → Shared → Prop} {s : Shared} {h₀ : Heap} {L : Addr} {m : Str → Option Value} {env : Env}
noncomputable def ZEnd (h₀ : Heap) (L : Addr) (m : Str → Option Value) (led : List (Addr × Obj)) (s₁ : Shared) (r : Value → Prop) (y : Value) (s₂ : Shared) : Prop :=
  ∃ h' tk, s₂ = { s₁ with heap := h', toks := tk } ∧ Fr h₀ L h' m ∧ News h₀ L h' led ∧ r y
theorem ZEnd.intro {led : List (Addr × Obj)} {s₁ : Shared} {r : Value → Prop} {y : Value} {h' : Heap} {tk : Nat} (F : Fr h₀ L h' m) (N : News h₀ L h' led) (hr : r y) : ZEnd h₀ L m led s₁ r y { s₁ with heap := h', toks := tk } := ⟨h', tk, rfl, F, N, hr⟩
theorem block_Z {elt iter : Expr} {x x₂ : Str} {px px₂ tp : Pos} {tk} {scope : Scope} {cl : List (Str × Addr)} {pos : Pos} {s₂ : Shared} {I : Addr} {fp wr : List Addr} {n : Nat} {Pt : Nat → Array Value → Prop} {St : Nat → Heap → Prop} {Mid : Nat → Addr → Heap → Prop} {news : List (Addr × Obj)}
    {RR : Value → Addr → Result → Shared → Prop} (J : Nat → List Value → Prop)
    (W : WalksU prog w A I fp wr n Pt St Mid) (hsz : n ≤ sizeLine) (hPt : ∀ i vals, Pt i vals → ∃ va vb, vals = #[va, vb])
    (hcell : ∀ y ∈ scope.names, y.2 ≠ .cell) (hkind : scope.kind = .function) (hx : scope.names.lookup x = some .local) (hx₂ : scope.names.lookup x₂ = some .local) (hxx : x ≠ x₂) (hh : A.handled = none) (hst : St 0 s₂.heap) (hfp : ∀ b ∈ fp, b < s₂.heap.objs.size)
    (F : Fr h₀ L s₂.heap m) (N : News h₀ L s₂.heap news) (hLf : L ∉ fp) (hwr : ∀ b ∈ wr, h₀.get? b = none) (off : ∀ p ∈ news, p.1 ∉ wr) (hJ : J 0 [])
    (R : ∀ i ys v₁ v₂ own C oC D m₂ h tk (E' : Value → Shared → Prop), i < n → Pt i #[v₁, v₂] → J i ys → NsObj oC m₂ → m₂ x = some v₁ → m₂ x₂ = some v₂ → Fr h₀ L h m → News h₀ L h (own ++ (C, oC) :: (D, lst ys) :: news) →
      wpAny (model prog w) A (eval elt (compEnvC scope cl C env)) (ZEnd h₀ L m (own ++ (C, oC) :: (D, lst ys) :: news) { s₂ with heap := h, toks := tk } (fun y => J (i + 1) (ys ++ [y]))) E' { s₂ with heap := h, toks := tk })
    (hRR : ∀ D C h tk m' ys, Fr h₀ L h m → News h₀ L h ((D, lst ys) :: news) → (∀ p ∈ news, p.1 ≠ D) → h.Ns C m' → h₀.get? C = none → h₀.get? D = none → C ≠ L → D ≠ L → C ≠ D → (∀ p ∈ news, p.1 ≠ C) → J n ys → RR (.ref D) C (.ok .next) { s₂ with heap := h, toks := tk }) :
    wpAny (model prog w) A (newList []) (fun acc s₃ => wpAny (model prog w) A (newFunctionEnv scope env.globals cl [] env.qual none .none (some env)) (fun cenv s₄ =>
      codeAny (model prog w) A (.compStart (.ListComp elt [⟨.Tuple [.Name x px, .Name x₂ px₂] tk tp, iter, [], 0⟩] scope pos) 0 (.ref I) acc { cenv with scope := relabel scope env }) (RR acc cenv.locals) s₄) E s₃) E s₂ := by
  refine wpAny_newObj_type (wpAny_newFunctionEnv hcell (by intro y hy; simp at hy) (fun h₁ hns₁ hsb₁ => ?_) hkind)
  dsimp only at hns₁ hsb₁ ⊢
  generalize hH2 : s₂.heap.push { cls := .type "list", dict := none, data := .seq ([] : List Value).toArray } = H2 at hns₁ hsb₁ ⊢
  have hC : H2.objs.size = s₂.heap.objs.size + 1 := by rw [← hH2, Heap.size_push]
  have hDC : s₂.heap.objs.size ≠ H2.objs.size := by rw [hC]; exact Nat.ne_of_lt (Nat.lt_succ_self _)
  have below : ∀ b, b < s₂.heap.objs.size → b ≠ H2.objs.size ∧ b ≠ s₂.heap.objs.size := fun b hb => ⟨by rw [hC]; exact Nat.ne_of_lt (Nat.lt_succ_of_lt hb), Nat.ne_of_lt hb⟩
  have hDf : s₂.heap.objs.size ∉ fp := fun hm => Nat.lt_irrefl _ (hfp _ hm)
  have hCf : H2.objs.size ∉ fp := fun hm => by have := hfp _ hm; rw [hC] at this; exact Nat.lt_irrefl _ (Nat.lt_of_succ_lt this)
  have hDw : s₂.heap.objs.size ∉ wr := fun h => hDf (W.sub _ h)
  have hCw : H2.objs.size ∉ wr := fun h => hCf (W.sub _ h)
  have hLw : L ∉ wr := fun h => hLf (W.sub _ h)
  have old : ∀ b o, s₂.heap.get? b = some o → h₁.get? b = some o := fun b o e => hsb₁.extBut b o (below b (Heap.lt_size e)).1 (Heap.get?_push_of_some _ (hH2 ▸ Heap.get?_push_of_some _ e))
  have hacc : h₁.get? s₂.heap.objs.size = some (lst []) := hsb₁.extBut _ _ hDC (Heap.get?_push_of_some _ (hH2 ▸ Heap.get?_push_size _ rfl))
  have hst₁ : St 0 h₁ := W.frame _ _ _ hst fun b _ o e => old b o e
  have fresh : ∀ a, s₂.heap.objs.size ≤ a → s₂.heap.get? a = none := fun a ha => by
    cases e : s₂.heap.get? a with
    | none => rfl
    | some o' => exact absurd (Heap.lt_size e) (Nat.not_lt.mpr ha)
  have fresh₀ : ∀ a, s₂.heap.objs.size ≤ a → h₀.get? a = none := fun a ha => by
    cases e : h₀.get? a with
    | none => rfl
    | some o' => have := F.keep a o' e; rw [fresh a ha] at this; cases this
  have hD₀ : h₀.get? s₂.heap.objs.size = none := fresh₀ _ (Nat.le_refl _)
  have hC₀ : h₀.get? H2.objs.size = none := fresh₀ _ (by rw [hC]; exact Nat.le_succ _)
  have hLlt : L < s₂.heap.objs.size := F.ns.lt
  have hDL : s₂.heap.objs.size ≠ L := Ne.symm (below L hLlt).2
  have hCL : H2.objs.size ≠ L := Ne.symm (below L hLlt).1
  have offC : ∀ p ∈ news, p.1 ≠ H2.objs.size := fun p hp => (below _ (Heap.lt_size (N p hp).1)).1
  have offD : ∀ p ∈ news, p.1 ≠ s₂.heap.objs.size := fun p hp => (below _ (Heap.lt_size (N p hp).1)).2
  have keep0 : ∀ {h h' : Heap}, (∀ b o, b ∉ wr → h.get? b = some o → h'.get? b = some o) → (∀ b o, h₀.get? b = some o → h.get? b = some o) → ∀ b o, h₀.get? b = some o → h'.get? b = some o := fun hk h0 b o e => hk b o (fun hb => by rw [hwr b hb] at e; cases e) (h0 b o e)
  have frK : ∀ {h h' : Heap}, (∀ b o, b ∉ wr → h.get? b = some o → h'.get? b = some o) → Fr h₀ L h m → Fr h₀ L h' m := fun hk F => ⟨F.ns.at' fun o e => hk _ o hLw e, keep0 hk F.keep, F.above⟩
  have loop : ∀ s₃ : Shared, s₃ = { s₂ with heap := h₁, toks := s₂.toks + ([] : List (Str × Value)).length } →
      codeAny (model prog w) A (.compLoop (.ListComp elt [⟨.Tuple [.Name x px, .Name x₂ px₂] tk tp, iter, [], 0⟩] scope pos) 0 (.ref I) (.ref s₂.heap.objs.size) (compEnvC scope cl H2.objs.size env))
        (RR (.ref s₂.heap.objs.size) H2.objs.size) s₃ := by
    rintro s₃ rfl
    refine codeAny_compLoop_pair
      (fun k s' => ∃ h' tk i ys m', s' = { s₂ with heap := h', toks := tk } ∧ i ≤ n ∧ k = n + 1 - i ∧ ys.length = i ∧ St i h' ∧ Fr h₀ L h' m ∧ h'.Ns H2.objs.size m' ∧ News h₀ L h' ((s₂.heap.objs.size, lst ys) :: news) ∧ J i ys) ?_ (n + 1)
      ⟨h₁, _, 0, [], _, rfl, Nat.zero_le _, rfl, rfl, hst₁, F.keeps old, hns₁, fun p hp => ?_, hJ⟩
    · rintro k s' ⟨h', tk, i, ys, m', rfl, hi, rfl, hyl, hst', F', hn', N', hJi⟩
      have newsK : ∀ {h'' : Heap}, (∀ b o, b ∉ wr → h'.get? b = some o → h''.get? b = some o) → News h₀ L h'' ((s₂.heap.objs.size, lst ys) :: news) := fun hk p hp => ⟨hk _ _ (by
        rcases List.mem_cons.mp hp with rfl | hp
        · exact hDw
        · exact off p hp) (N' p hp).1, (N' p hp).2⟩
      by_cases hlt : i < n
      · refine W.item i _ _ _ hlt hst' fun T vals h₂ tk₂ hPv hT₂ hmid hk₂ => ?_
        obtain ⟨v₁, v₂, rfl⟩ := hPt i vals hPv
        refine W.go _ _ _ i T _ _ _ hmid fun h₃ hst₃ hk₃ => ?_
        have hT₃ : h₃.IsTuple T #[v₁, v₂] := let ⟨o, e, r⟩ := hT₂; ⟨o, hk₃ _ o (W.apart i T _ hmid) e, r⟩
        have ht : IsTup h₃ T #[v₁, v₂] := hT₃
        have hk : ∀ b o, b ∉ wr → h'.get? b = some o → h₃.get? b = some o := fun b o hb e => hk₃ b o hb (hk₂ b o hb e)
        refine assign_Tuple_tuple hh ht rfl rfl fun h₅ he => ?_
        have he' : ∀ b o, h₃.get? b = some o → h₅.get? b = some o := fun b o e => he b o (Nat.ne_of_lt (Heap.lt_size e)) e
        refine assignInOrder_cons (wpAny_assign_Name (wpAny_storeName_local (lookup_relabel_local hx) ((hn'.at' fun o e => hk _ o hCw e).at' fun o e => he' _ o e) (fun h₆ hn₆ hs₆ => ?_) (by simp [compEnvC, relabel, hkind])))
        refine assignInOrder_cons (wpAny_assign_Name (wpAny_storeName_local (lookup_relabel_local hx₂) hn₆ (fun h₇ hn₇ hs₇ => ?_) (by simp [compEnvC, relabel, hkind])))
        refine assignInOrder_nil ?_
        have old3 : ∀ b o, b ≠ H2.objs.size → h₃.get? b = some o → h₇.get? b = some o := fun b o hb e => hs₇.extBut b o hb (hs₆.extBut b o hb (he' b o e))
        have hst₇ : St (i + 1) h₇ := W.frame _ _ _ hst₃ fun b hb o e => old3 b o (fun q => hCf (by rw [← q]; exact hb)) e
        obtain ⟨oC, heC, hoC⟩ := ns_obj hn₇
        have F₇ : Fr h₀ L h₇ m := (((frK hk F').keeps he').change hs₆ hCL hC₀).change hs₇ hCL hC₀
        have N₃ := newsK hk
        have N₇ : News h₀ L h₇ (PyProof.Rows.ownOf h₀ fp h₇ ++ (H2.objs.size, oC) :: (s₂.heap.objs.size, lst ys) :: news) := by
          refine News.append (news_ownOf hLf) fun p hp => ?_
          rcases List.mem_cons.mp hp with rfl | hp
          · exact ⟨heC, hCL, hC₀⟩
          · have z := N₃ p hp
            refine ⟨old3 _ _ ?_ z.1, z.2⟩
            rcases List.mem_cons.mp hp with rfl | hp
            · exact hDC
            · exact offC p hp
        refine wpAny_mono (R i ys v₁ v₂ _ H2.objs.size oC s₂.heap.objs.size _ h₇ _ _ hlt hPv hJi hoC (by simp [hxx]) (by simp) F₇ N₇) (fun y s₄ h₄ => ?_) fun _ _ e => e
        obtain ⟨h₈, tk₈, rfl, F₈, N₈, hJ₈⟩ := h₄
        have zC := (N₈ (H2.objs.size, oC) (List.mem_append_right _ (.head _))).1
        have zD := (N₈ (s₂.heap.objs.size, lst ys) (List.mem_append_right _ (.tail _ (.head _)))).1
        have N₈' : News h₀ L h₈ news := fun p hp => N₈ p (List.mem_append_right _ (.tail _ (.tail _ hp)))
        have hst₈ : St (i + 1) h₈ := W.frame _ _ _ hst₇ fun b hb o e => by
          cases hn : h₀.get? b with
          | some o₀ =>
            have : o₀ = o := by have q := F₇.keep b o₀ hn; rw [e] at q; exact (Option.some.inj q).symm
            exact this ▸ F₈.keep b o₀ hn
          | none => exact (N₈ _ (List.mem_append_left _ (mem_ownOf hb hn e))).1
        refine append_at (hsz := by show ys.toArray.size ≤ sizeLine; rw [List.size_toArray, hyl]; exact Nat.le_trans hi hsz) zD fun h₉ hs₉ hD₉ => ?_
        refine ⟨n + 1 - (i + 1), by k_extra "omx", h₉, tk₈, i + 1, ys ++ [y], _, rfl, hlt, rfl, by rw [List.length_append, List.length_singleton, hyl], W.frame _ _ _ hst₈ fun b hb o e => hs₉.extBut b o (fun q => hDf (q ▸ hb)) e, F₈.change hs₉ hDL hD₀,
          (hoC.ns zC).sameBut hs₉ (Ne.symm hDC), fun p hp => ?_, hJ₈⟩
        rcases List.mem_cons.mp hp with rfl | hp
        · exact ⟨hD₉.trans (congrArg some (lst_snoc ys y)), hDL, hD₀⟩
        · exact ⟨hs₉.extBut _ _ (offD p hp) (N₈' p hp).1, (N₈' p hp).2⟩
      · obtain rfl : i = n := Nat.le_antisymm hi (Nat.not_lt.mp hlt)
        refine W.done _ _ _ hst' fun h₂ tk₂ hk₂ => ?_
        exact hRR _ _ h₂ tk₂ _ ys (frK hk₂ F') (newsK hk₂) offD (hn'.at' fun o e => hk₂ _ o hCw e) hC₀ hD₀ hCL hDL (Ne.symm hDC) offC hJi
    · rcases List.mem_cons.mp hp with rfl | hp
      · exact ⟨hacc, hDL, hD₀⟩
      · exact ⟨old _ _ (N p hp).1, (N p hp).2⟩
  exact codeAny_compStart_list (loop _ rfl) (W.self 0 _ _ _ hst₁ (loop _ rfl))
noncomputable def SrcZ (prog : Program) (w : World) (A : Around) (h₀ : Heap) (L : Addr) (m : Str → Option Value) (env : Env) (elt : Expr) (x x₂ : Str) (scope : Scope) (cl : List (Str × Addr)) (Q : Value → Shared → Prop) (xv : Value) (s₁ : Shared) : Prop :=
  ∃ (z TI TO i1 i2 l1 l2 : Addr) (g : Heap) (vs1 vs2 : List Value) (k1 k2 : Nat) (news : List (Addr × Obj)) (J : Nat → List Value → Prop), xv = .ref z ∧ A.handled = none ∧ ZipAt h₀ L m news g s₁.heap z TI TO i1 i2 l1 l2 vs1.toArray vs2.toArray ∧ (l1, lstOf vs1 k1) ∈ news ∧ (l2, lstOf vs2 k2) ∈ news ∧ vs1.length = vs2.length ∧ vs1.length ≤ 1000 ∧
    Fr h₀ L s₁.heap m ∧ J 0 [] ∧
    (∀ i ys v₁ v₂ own C oC D m₂ h tk (E' : Value → Shared → Prop), i < vs1.length → vs1[i]? = some v₁ → vs2[i]? = some v₂ → J i ys → NsObj oC m₂ → m₂ x = some v₁ → m₂ x₂ = some v₂ → Fr h₀ L h m → News h₀ L h (own ++ (C, oC) :: (D, lst ys) :: news) →
      wpAny (model prog w) A (eval elt (compEnvC scope cl C env)) (ZEnd h₀ L m (own ++ (C, oC) :: (D, lst ys) :: news) { s₁ with heap := h, toks := tk } (fun y => J (i + 1) (ys ++ [y]))) E' { s₁ with heap := h, toks := tk }) ∧
    ∀ D h tk ys, J vs1.length ys → Fr h₀ L h m → News h₀ L h ((D, lst ys) :: news) → (∀ p ∈ news, p.1 ≠ D) → Q (.ref D) { s₁ with heap := h, toks := tk }
theorem SrcZ.intro {elt : Expr} {x x₂ : Str} {scope : Scope} {cl : List (Str × Addr)} {Q : Value → Shared → Prop} {s₁ : Shared} {z TI TO i1 i2 l1 l2 : Addr} {g : Heap} {vs1 vs2 : List Value} {k1 k2 : Nat} {news : List (Addr × Obj)} (J : Nat → List Value → Prop) (hh : A.handled = none)
    (Z : ZipAt h₀ L m news g s₁.heap z TI TO i1 i2 l1 l2 vs1.toArray vs2.toArray) (hm1 : (l1, lstOf vs1 k1) ∈ news) (hm2 : (l2, lstOf vs2 k2) ∈ news) (hl : vs1.length = vs2.length) (hz : vs1.length ≤ 1000) (F : Fr h₀ L s₁.heap m) (hJ : J 0 [])
    (turn : ∀ i ys v₁ v₂ own C oC D m₂ h tk (E' : Value → Shared → Prop), i < vs1.length → vs1[i]? = some v₁ → vs2[i]? = some v₂ → J i ys → NsObj oC m₂ → m₂ x = some v₁ → m₂ x₂ = some v₂ → Fr h₀ L h m → News h₀ L h (own ++ (C, oC) :: (D, lst ys) :: news) →
      wpAny (model prog w) A (eval elt (compEnvC scope cl C env)) (ZEnd h₀ L m (own ++ (C, oC) :: (D, lst ys) :: news) { s₁ with heap := h, toks := tk } (fun y => J (i + 1) (ys ++ [y]))) E' { s₁ with heap := h, toks := tk })
    (fin : ∀ D h tk ys, J vs1.length ys → Fr h₀ L h m → News h₀ L h ((D, lst ys) :: news) → (∀ p ∈ news, p.1 ≠ D) → Q (.ref D) { s₁ with heap := h, toks := tk }) :
    SrcZ prog w A h₀ L m env elt x x₂ scope cl Q (.ref z) s₁ := ⟨z, TI, TO, i1, i2, l1, l2, g, vs1, vs2, k1, k2, news, J, rfl, hh, Z, hm1, hm2, hl, hz, F, hJ, turn, fin⟩
theorem ListComp_Z {elt iter : Expr} {x x₂ : Str} {px px₂ tp : Pos} {tk} {scope : Scope} {cl : List (Str × Addr)} {pos : Pos} {Q : Value → Shared → Prop} (F₀ : Fr h₀ L s.heap m)
    (hclos : closureFor scope env = pure cl) (hcell : ∀ y ∈ scope.names, y.2 ≠ .cell) (hkind : scope.kind = .function)
    (hnames : ∀ y ∈ scope.names, y.2 = .local → scope.names.lookup y.1 = some .local) (hx : scope.names.lookup x = some .local) (hx₂ : scope.names.lookup x₂ = some .local) (hxx : x ≠ x₂)
    (h : wpAny (model prog w) A (eval iter env) (SrcZ prog w A h₀ L m env elt x x₂ scope cl Q) E s)
    (hs : ∀ x, foldedSetIterable iter env x = pure x := by intro _; rfl) :
    wpAny (model prog w) A (eval (.ListComp elt [⟨.Tuple [.Name x px, .Name x₂ px₂] tk tp, iter, [], 0⟩] scope pos) env) Q E s := by
  rw [eval_ListComp]
  refine wpAny_comprehension_free (use := none) rfl hs hclos hkind hnames (wpAny_mono h (fun xv s₁ h₁ => ?_) fun _ _ e => e)
  obtain ⟨z, TI, TO, i1, i2, l1, l2, g, vs1, vs2, k1, k2, news, J, rfl, hh, Z, hm1, hm2, hl, hz, F, hJ, turn, fin⟩ := h₁
  refine wpAny_pyIter_zip Z.hz ?_
  have N : News h₀ L s₁.heap news := fun p hp => ⟨Z.keep _ _ (Z.N p hp).1, (Z.N p hp).2⟩
  have hgl : L < g.objs.size := Z.F.ns.lt
  have h0g : ∀ b, g.objs.size ≤ b → h₀.get? b = none := fun b hb => Heap.get?_none_of_le (Nat.le_trans (Nat.le_trans Z.F.above (Nat.le_of_lt hgl)) hb)
  have hLTI : L ≠ TI := by
    obtain ⟨o, e, es, ep, hd, _⟩ := ns_obj F.ns
    intro h1
    rw [h1] at e
    have e2 := e.symm.trans Z.hTI
    have e3 := Option.some.inj e2
    rw [e3] at hd
    cases hd
  have lt1 : l1 < s₁.heap.objs.size := Heap.lt_size (N _ hm1).1
  have lt2 : l2 < s₁.heap.objs.size := Heap.lt_size (N _ hm2).1
  obtain ⟨a, b, hTO⟩ := Z.hTO
  have hi1 : i1 < s₁.heap.objs.size := by obtain ⟨_, e, _⟩ := Z.h1; exact Heap.lt_size e
  have hi2 : i2 < s₁.heap.objs.size := by obtain ⟨_, e, _⟩ := Z.h2; exact Heap.lt_size e
  have W := (WalksT.zip2 (prog := prog) (w := w) hh z TI TO i1 i2 l1 l2 Z.D vs1.toArray vs2.toArray).toU
  have hmin : min vs1.toArray.size vs2.toArray.size = vs1.length := by simp [hl]
  rw [hmin] at W
  refine block_Z J W (by rw [sizeLine_eq]; k_extra "omx") (fun i vals ⟨x, y, _, _, e⟩ => ⟨x, y, e⟩) hcell hkind hx hx₂ hxx hh ⟨Z.hz, Z.hTI, Z.hTO, Z.h1, Z.h2, Z.hl1, Z.hl2⟩ ?_ F N ?_ ?_ ?_ hJ ?_ ?_
  · intro b hb
    simp only [List.mem_cons, List.not_mem_nil, or_false] at hb
    rcases hb with rfl | rfl | rfl | rfl | rfl | rfl | rfl
    · exact Heap.lt_size Z.hz
    · exact Heap.lt_size Z.hTI
    · exact Heap.lt_size hTO
    · exact hi1
    · exact hi2
    · exact lt1
    · exact lt2
  · intro hb
    simp only [List.mem_cons, List.not_mem_nil, or_false] at hb
    have g1 := Z.gz
    have g2 := Z.gO
    have g3 := Z.g1
    have g4 := Z.g2
    rcases hb with h | h | h | h | h | h | h
    · exact Nat.ne_of_lt (Nat.lt_of_lt_of_le hgl g1) h
    · exact hLTI h
    · exact Nat.ne_of_lt (Nat.lt_of_lt_of_le hgl g2) h
    · exact Nat.ne_of_lt (Nat.lt_of_lt_of_le hgl g3) h
    · exact Nat.ne_of_lt (Nat.lt_of_lt_of_le hgl g4) h
    · exact (N _ hm1).2.1 h.symm
    · exact (N _ hm2).2.1 h.symm
  · intro b hb
    simp only [List.mem_cons, List.not_mem_nil, or_false] at hb
    rcases hb with rfl | rfl | rfl | rfl
    · exact h0g _ Z.gz
    · exact h0g _ Z.gO
    · exact h0g _ Z.g1
    · exact h0g _ Z.g2
  · intro p hp hb
    have hpl := Heap.lt_size (Z.N p hp).1
    simp only [List.mem_cons, List.not_mem_nil, or_false] at hb
    rcases hb with h | h | h | h
    · exact Nat.ne_of_lt (Nat.lt_of_lt_of_le hpl Z.gz) h
    · exact Nat.ne_of_lt (Nat.lt_of_lt_of_le hpl Z.gO) h
    · exact Nat.ne_of_lt (Nat.lt_of_lt_of_le hpl Z.g1) h
    · exact Nat.ne_of_lt (Nat.lt_of_lt_of_le hpl Z.g2) h
  · intro i ys v₁ v₂ own C oC D m₂ h tk E' hi hP hJi hC h1 h2 F' N'
    obtain ⟨x', y', e1, e2, e3⟩ := hP
    have e4 : v₁ = x' ∧ v₂ = y' := by simpa using e3
    obtain ⟨rfl, rfl⟩ := e4
    exact turn i ys v₁ v₂ own C oC D m₂ h tk E' hi (by simpa using e1) (by simpa using e2) hJi hC h1 h2 F' N'
  · intro D C h tk m' ys F' N' offD hn hC₀ hD₀ hCL hDL hCD offC hJn
    refine ⟨m', hn, fun h'' hs'' => fin D h'' tk ys hJn (F'.change hs'' hCL hC₀) (fun p hp => ?_) offD⟩
    refine ⟨hs''.extBut _ _ ?_ (N' p hp).1, (N' p hp).2⟩
    rcases List.mem_cons.mp hp with rfl | hp
    · exact Ne.symm hCD
    · exact offC p hp
end
end Mine


end
namespace Mine
noncomputable def rowD (r : Str × Str) : PyData := .tuple [.str r.1, .str r.2]
theorem rowD_lay : ∀ rs : List (Str × Str), (∀ r ∈ rs, PyData.strOk r.1 = true ∧ PyData.strOk r.2 = true) → PyData.canLayAll0 (rs.map rowD) = true
  | [], _ => rfl
  | a :: r, h => by
    have h1 := h a (.head _)
    simp [PyData.canLayAll0, PyData.canLay0, rowD, rowD_lay r (fun x hx => h x (.tail _ hx)), h1.1, h1.2]
theorem rowD_depth : ∀ rs : List (Str × Str), PyData.depthAll (rs.map rowD) ≤ 1
  | [] => by simp [PyData.depthAll]
  | _ :: r => by
    have := rowD_depth r
    simp [PyData.depthAll, PyData.depth, rowD]
    k_extra "omx"
theorem rowD_shaped (rs : List (Str × Str)) (h : ∀ r ∈ rs, PyData.strOk r.1 = true ∧ PyData.strOk r.2 = true) : SeqAt.shaped (.list (rs.map rowD)) = true := by
  have := rowD_depth rs
  simp [SeqAt.shaped, PyData.canLay0, PyData.depth, rowD_lay rs h]
  k_extra "omx"
theorem rowD_eqv : ∀ rs : List (Str × Str), PyData.eqvAll (rs.map rowD) (rs.map rowD) = true
  | [] => by simp [PyData.eqvAll]
  | _ :: r => by simp [PyData.eqvAll, PyData.eqv, rowD, rowD_eqv r]
theorem rows_read {h₀ h : Heap} {L : Addr} {led : List (Addr × Obj)} (N : News h₀ L h led) {vs : List Value} {rs : List (Str × Str)} (R : RowsAre led vs rs) : ∃ as, ReadsAll h vs (rs.map rowD) as := by
  induction R with
  | nil => exact ⟨_, ReadsAll.nil⟩
  | cons hm _ ih =>
    obtain ⟨as, ha⟩ := ih
    exact ⟨_, ReadsAll.cons (reads_tuple_at (N _ hm).1 rfl rfl (ReadsAll.cons (Reads.str _ _) (ReadsAll.cons (Reads.str _ _) ReadsAll.nil))) ha⟩
theorem rows_eq {prog : Program} {w : World} {A : Around} {E : Value → Shared → Prop} {s : Shared} {h₀ : Heap} {L : Addr} {news : List (Addr × Obj)} {a b : Addr} {vs ws : List Value} {k k2 : Nat} {rs : List (Str × Str)} {Q : Value → Shared → Prop}
    (N : News h₀ L s.heap news) (hm1 : (a, lstOf vs k) ∈ news) (hm2 : (b, lstOf ws k2) ∈ news) (R1 : RowsAre news vs rs) (R2 : RowsAre news ws rs) (hok : ∀ r ∈ rs, PyData.strOk r.1 = true ∧ PyData.strOk r.2 = true) (hu : A.units + 64 < cLine) (h : Q (.bool true) s) : wpAny (model prog w) A (compareOp .Eq (.ref a) (.ref b)) Q E s := by
  obtain ⟨as, r1⟩ := rows_read N R1
  obtain ⟨bs, r2⟩ := rows_read N R2
  refine eq_dataH (reads_list_at (N _ hm1).1 rfl rfl r1) (reads_list_at (N _ hm2).1 rfl rfl r2) (rowD_shaped rs hok) (rowD_shaped rs hok) hu ?_
  simp only [PyData.eqv, rowD_eqv]
  exact h
noncomputable def sm : Nat → (Nat → Int) → Int
  | 0, _ => 0
  | n + 1, f => sm n f + f n
theorem sm_congr {f g : Nat → Int} : ∀ n, (∀ i, i < n → f i = g i) → sm n f = sm n g
  | 0, _ => rfl
  | n + 1, h => by rw [sm, sm, sm_congr n (fun i hi => h i (by lia)), h n (by lia)]
theorem sm_add (f g : Nat → Int) : ∀ n, sm n (fun i => f i + g i) = sm n f + sm n g
  | 0 => rfl
  | n + 1 => by rw [sm, sm, sm, sm_add f g n]; lia
theorem sm_zero : ∀ n, sm n (fun _ => 0) = 0
  | 0 => rfl
  | n + 1 => by rw [sm, sm_zero n]; rfl
theorem sm_one (a : Nat) (f : Nat → Int) : ∀ n, sm n (fun i => if i = a then f i else 0) = if a < n then f a else 0
  | 0 => rfl
  | n + 1 => by
    rw [sm, sm_one a f n]
    by_cases h : n = a
    · subst h; simp
    · by_cases h2 : a < n
      · rw [if_pos h2, if_neg h, if_pos (by lia)]; lia
      · rw [if_neg h2, if_neg h, if_neg (by lia)]; rfl
theorem sm_nonneg {f : Nat → Int} : ∀ n, (∀ i, i < n → 0 ≤ f i) → 0 ≤ sm n f
  | 0, _ => Int.le_refl _
  | n + 1, h => by
    have h1 := sm_nonneg n (fun i hi => h i (by lia))
    have h2 := h n (by lia)
    rw [sm]; lia
theorem sm_swap (f : Nat → Nat → Int) (m : Nat) : ∀ n, sm n (fun i => sm m (fun j => f i j)) = sm m (fun j => sm n (fun i => f i j))
  | 0 => by
    show (0 : Int) = _
    exact (sm_zero m).symm
  | n + 1 => by
    rw [sm, sm_swap f m n]
    show _ = sm m (fun j => sm n (fun i => f i j) + f n j)
    rw [sm_add]
theorem sm_change {f g : Nat → Int} {n a : Nat} (ha : a < n) (h : ∀ i, i < n → i ≠ a → f i = g i) : sm n f = sm n g + (f a - g a) := by
  have h1 : sm n f = sm n (fun i => g i + (if i = a then f i - g i else 0)) := sm_congr n fun i hi => by
    by_cases e : i = a
    · rw [if_pos e]; lia
    · rw [if_neg e, h i hi e]; lia
  rw [h1, sm_add, sm_one a (fun i => f i - g i), if_pos ha]
theorem sm_two {f : Nat → Int} {n a b : Nat} (h : ∀ i, i < n → 0 ≤ f i) (ha : a < n) (hb : b < n) (hab : a ≠ b) : f a + f b ≤ sm n f := by
  have h1 : sm n f = sm n (fun i => (if i = a then f i else 0) + ((if i = b then f i else 0) + (if i = a ∨ i = b then 0 else f i))) := sm_congr n fun i _ => by
    by_cases e : i = a
    · subst e; simp [hab]
    · by_cases e2 : i = b
      · subst e2; simp [e]
      · simp [e, e2]
  rw [h1, sm_add, sm_add, sm_one, sm_one, if_pos ha, if_pos hb]
  have h2 : 0 ≤ sm n (fun i => if i = a ∨ i = b then 0 else f i) := sm_nonneg n fun i hi => by
    split
    · exact Int.le_refl _
    · exact h i hi
  lia
section
variable (n : Nat) (par : Nat → Nat)
noncomputable def nbL (j : Nat) : List Nat := (List.range (n - 1)).flatMap fun i => (if i + 1 = j then [par (i + 1)] else []) ++ (if par (i + 1) = j then [i + 1] else [])
noncomputable def nb (al : Nat → Bool) (j : Nat) : List Nat := (nbL n par j).filter al
structure Conn (al : Nat → Bool) (r : Nat) : Prop where
  root : al r = true
  lt : ∀ k, al k = true → k < n
  min : ∀ k, al k = true → r ≤ k
  up : ∀ k, al k = true → k ≠ r → al (par k) = true
noncomputable def rid (al : Nat → Bool) (l : Nat) : Nat → Bool := fun k => al k && decide (k ≠ l)
end
section
variable {n : Nat} {par : Nat → Nat} {al : Nat → Bool} {r : Nat}
theorem rid_iff {l k : Nat} : rid al l k = true ↔ al k = true ∧ k ≠ l := by simp [rid]
theorem mem_nbL {j g : Nat} : g ∈ nbL n par j ↔ (1 ≤ j ∧ j < n ∧ g = par j) ∨ (1 ≤ g ∧ g < n ∧ par g = j) := by
  unfold nbL
  rw [List.mem_flatMap]
  constructor
  · rintro ⟨i, hi, h⟩
    rw [List.mem_range] at hi
    rcases List.mem_append.mp h with h | h
    · split at h
      · rename_i e; rw [List.mem_singleton.mp h]; exact .inl ⟨by lia, by lia, by rw [e]⟩
      · cases h
    · split at h
      · rename_i e; rw [List.mem_singleton.mp h]; exact .inr ⟨by lia, by lia, e⟩
      · cases h
  · rintro (⟨h1, h2, h3⟩ | ⟨h1, h2, h3⟩)
    · refine ⟨j - 1, List.mem_range.mpr (by lia), List.mem_append_left _ ?_⟩
      rw [if_pos (by lia), show j - 1 + 1 = j by lia, h3]; exact List.mem_singleton.mpr rfl
    · refine ⟨g - 1, List.mem_range.mpr (by lia), List.mem_append_right _ ?_⟩
      rw [show g - 1 + 1 = g by lia, if_pos h3]; exact List.mem_singleton.mpr rfl
theorem mem_nb {j g : Nat} : g ∈ nb n par al j ↔ al g = true ∧ ((1 ≤ j ∧ j < n ∧ g = par j) ∨ (1 ≤ g ∧ g < n ∧ par g = j)) := by
  unfold nb
  rw [List.mem_filter, mem_nbL, and_comm]
theorem nbL_nodup (hp : ∀ k, 1 ≤ k → k < n → par k < k) (j : Nat) : (nbL n par j).Nodup := by
  have key : ∀ m, m ≤ n - 1 → ((List.range m).flatMap fun i => (if i + 1 = j then [par (i + 1)] else []) ++ (if par (i + 1) = j then [i + 1] else [])).Nodup ∧
      ∀ g ∈ ((List.range m).flatMap fun i => (if i + 1 = j then [par (i + 1)] else []) ++ (if par (i + 1) = j then [i + 1] else [])), (g < j ∧ j ≤ m) ∨ (j < g ∧ g ≤ m) := by
    intro m
    induction m with
    | zero => intro _; simp
    | succ m ih =>
      intro hm
      obtain ⟨h1, h2⟩ := ih (by lia)
      have hpm := hp (m + 1) (by lia) (by lia)
      rw [List.range_succ, List.flatMap_append]
      simp only [List.flatMap_cons, List.flatMap_nil, List.append_nil]
      by_cases e1 : m + 1 = j
      · have e2 : par (m + 1) ≠ j := by lia
        rw [if_pos e1, if_neg e2]
        refine ⟨List.nodup_append.mpr ⟨h1, by simp, ?_⟩, ?_⟩
        · intro a ha b hb
          simp only [List.append_nil, List.mem_singleton] at hb
          have := h2 a ha
          lia
        · intro g hg
          rcases List.mem_append.mp hg with hg | hg
          · have := h2 g hg; lia
          · simp only [List.append_nil, List.mem_singleton] at hg; lia
      · rw [if_neg e1]
        by_cases e2 : par (m + 1) = j
        · rw [if_pos e2]
          refine ⟨List.nodup_append.mpr ⟨h1, by simp, ?_⟩, ?_⟩
          · intro a ha b hb
            simp only [List.nil_append, List.mem_singleton] at hb
            have := h2 a ha
            lia
          · intro g hg
            rcases List.mem_append.mp hg with hg | hg
            · have := h2 g hg; lia
            · simp only [List.nil_append, List.mem_singleton] at hg; lia
        · rw [if_neg e2]
          simp only [List.append_nil]
          exact ⟨h1, fun g hg => by have := h2 g hg; lia⟩
  exact (key (n - 1) (Nat.le_refl _)).1
theorem nb_nodup (hp : ∀ k, 1 ≤ k → k < n → par k < k) (j : Nat) : (nb n par al j).Nodup := (nbL_nodup hp j).filter _
theorem nb_sym {j g : Nat} (hj : al j = true) (hg : g ∈ nb n par al j) : j ∈ nb n par al g := by
  obtain ⟨_, h⟩ := mem_nb.mp hg
  rcases h with ⟨a, b, c⟩ | ⟨a, b, c⟩
  · exact mem_nb.mpr ⟨hj, .inr ⟨a, b, c.symm⟩⟩
  · exact mem_nb.mpr ⟨hj, .inl ⟨a, b, c.symm⟩⟩
theorem one_of_nodup {l : List Nat} {g : Nat} (hn : l.Nodup) (h : ∀ x ∈ l, x = g) (h1 : l ≠ []) : l = [g] := by
  cases l with
  | nil => exact absurd rfl h1
  | cons a l =>
    have ha := h a (.head _)
    subst ha
    cases l with
    | nil => rfl
    | cons b l =>
      have hb := h b (.tail _ (.head _))
      subst hb
      rw [List.nodup_cons] at hn
      exact absurd (.head _) hn.1
theorem nb_ne {j g : Nat} (hp : ∀ k, 1 ≤ k → k < n → par k < k) (hg : g ∈ nb n par al j) : g ≠ j := by
  obtain ⟨_, h⟩ := mem_nb.mp hg
  rcases h with ⟨a, b, c⟩ | ⟨a, b, c⟩
  · have := hp j a b; lia
  · have := hp g a b; lia
theorem nb_rid {l j : Nat} : nb n par (rid al l) j = (nb n par al j).filter fun k => decide (k ≠ l) := by
  unfold nb rid
  rw [List.filter_filter]
  refine List.filter_congr fun x _ => ?_
  rw [Bool.and_comm]
theorem nb_keep {l j : Nat} (h : l ∉ nb n par al j) : nb n par (rid al l) j = nb n par al j := by
  rw [nb_rid]
  refine List.filter_eq_self.mpr fun x hx => decide_eq_true fun e => h (e ▸ hx)
theorem least {P : Nat → Prop} : ∀ k, P k → ∃ k0, P k0 ∧ ∀ i, P i → k0 ≤ i := by
  intro k
  induction k using Nat.strongRecOn with
  | _ k ih =>
    intro h
    by_cases h2 : ∃ i, i < k ∧ P i
    · obtain ⟨i, hi, hP⟩ := h2; exact ih i hi hP
    · exact ⟨k, h, fun i hi => Nat.le_of_not_lt fun h3 => h2 ⟨i, h3, hi⟩⟩
theorem most {P : Nat → Prop} {m : Nat} (hm : ∀ i, P i → i < m) {k : Nat} (hk : P k) : ∃ k0, P k0 ∧ ∀ i, P i → i ≤ k0 := by
  obtain ⟨d, ⟨k0, h1, h2⟩, h3⟩ := least (P := fun d => ∃ i, P i ∧ d = m - i) (m - k) ⟨k, hk, rfl⟩
  refine ⟨k0, h1, fun i hi => ?_⟩
  have := h3 (m - i) ⟨i, hi, rfl⟩
  have := hm i hi
  have := hm k0 h1
  lia
theorem Conn.nb_some (C : Conn n par al r) (hp : ∀ k, 1 ≤ k → k < n → par k < k) {j x : Nat} (hj : al j = true) (hx : al x = true) (hxj : x ≠ j) : nb n par al j ≠ [] := by
  by_cases e : j = r
  · subst e
    obtain ⟨k0, ⟨h1, h2⟩, h3⟩ := least (P := fun k => al k = true ∧ k ≠ j) x ⟨hx, hxj⟩
    have h4 := C.min k0 h1
    have h5 := C.up k0 h1 h2
    have h6 := hp k0 (by lia) (C.lt k0 h1)
    have h7 : par k0 = j := by
      refine Decidable.byContradiction fun h8 => ?_
      have := h3 (par k0) ⟨h5, h8⟩
      lia
    exact List.ne_nil_of_mem (mem_nb.mpr ⟨h1, .inr ⟨by lia, C.lt k0 h1, h7⟩⟩)
  · have h4 := C.min j hj
    exact List.ne_nil_of_mem (mem_nb.mpr ⟨C.up j hj e, .inl ⟨by lia, C.lt j hj, rfl⟩⟩)
theorem Conn.rid_leaf (C : Conn n par al r) (hp : ∀ k, 1 ≤ k → k < n → par k < k) {l g : Nat} (hl : al l = true) (hg : nb n par al l = [g]) (hlr : l ≠ r) : g = par l ∧ Conn n par (rid al l) r ∧ ∀ k, al k = true → k ≠ r → par k ≠ l := by
  have h4 := C.min l hl
  have h5 : par l ∈ nb n par al l := mem_nb.mpr ⟨C.up l hl hlr, .inl ⟨by lia, C.lt l hl, rfl⟩⟩
  have h6 : g = par l := by rw [hg] at h5; exact (List.mem_singleton.mp h5).symm
  have h7 := hp l (by lia) (C.lt l hl)
  have h8 : ∀ k, al k = true → k ≠ r → par k ≠ l := by
    intro k hk hkr e
    have h9 := C.min k hk
    have h10 : k ∈ nb n par al l := mem_nb.mpr ⟨hk, .inr ⟨by lia, C.lt k hk, e⟩⟩
    rw [hg] at h10
    have h11 := List.mem_singleton.mp h10
    have h12 := hp k (by lia) (C.lt k hk)
    lia
  refine ⟨h6, ⟨rid_iff.mpr ⟨C.root, fun e => hlr e.symm⟩, fun k hk => C.lt k (rid_iff.mp hk).1, fun k hk => C.min k (rid_iff.mp hk).1, fun k hk hkr => ?_⟩, h8⟩
  have h9 := rid_iff.mp hk
  exact rid_iff.mpr ⟨C.up k h9.1 hkr, h8 k h9.1 hkr⟩
theorem Conn.rid_root (C : Conn n par al r) (hp : ∀ k, 1 ≤ k → k < n → par k < k) {g : Nat} (hg : nb n par al r = [g]) : par g = r ∧ g ≠ r ∧ al g = true ∧ 1 ≤ g ∧ Conn n par (rid al r) g ∧ ∀ k, al k = true → k ≠ r → par k = r → k = g := by
  have h0 : g ∈ nb n par al r := by rw [hg]; exact .head _
  have hne := nb_ne hp h0
  obtain ⟨hga, h1⟩ := mem_nb.mp h0
  have hgm := C.min g hga
  have h2 : 1 ≤ g ∧ g < n ∧ par g = r := by
    rcases h1 with ⟨a, b, c⟩ | h
    · have := hp r a b; lia
    · exact h
  have h3 : ∀ k, al k = true → k ≠ r → par k = r → k = g := by
    intro k hk hkr e
    have h9 := C.min k hk
    have h10 : k ∈ nb n par al r := mem_nb.mpr ⟨hk, .inr ⟨by lia, C.lt k hk, e⟩⟩
    rw [hg] at h10
    exact List.mem_singleton.mp h10
  have h4 : ∀ k, al k = true → k ≠ r → g ≤ k := by
    intro k
    induction k using Nat.strongRecOn with
    | _ k ih =>
      intro hk hkr
      have h9 := C.min k hk
      have h10 := hp k (by lia) (C.lt k hk)
      by_cases e : par k = r
      · exact Nat.le_of_eq (h3 k hk hkr e).symm
      · have := ih (par k) h10 (C.up k hk hkr) e; lia
  refine ⟨h2.2.2, hne, hga, h2.1, ⟨rid_iff.mpr ⟨hga, hne⟩, fun k hk => C.lt k (rid_iff.mp hk).1, fun k hk => h4 k (rid_iff.mp hk).1 (rid_iff.mp hk).2, fun k hk hkg => ?_⟩, h3⟩
  have h9 := rid_iff.mp hk
  exact rid_iff.mpr ⟨C.up k h9.1 h9.2, fun e => hkg (h3 k h9.1 h9.2 e)⟩
theorem Conn.two_leaves (hp : ∀ k, 1 ≤ k → k < n → par k < k) : ∀ (m : Nat) (al : Nat → Bool) (r : Nat), Conn n par al r → (∃ M, al M = true ∧ M ≤ m ∧ M ≠ r ∧ ∀ k, al k = true → k ≤ M) →
    ∃ a b, a ≠ b ∧ al a = true ∧ al b = true ∧ (nb n par al a).length = 1 ∧ (nb n par al b).length = 1 := by
  intro m
  induction m with
  | zero =>
    rintro al r C ⟨M, hM, h0, hr, _⟩
    have := C.min M hM
    lia
  | succ m ih =>
    rintro al r C ⟨M, hM, hm, hr, hmax⟩
    have hMr := C.min M hM
    have hMn := C.lt M hM
    have hleaf : nb n par al M = [par M] := by
      refine one_of_nodup (nb_nodup hp M) (fun x hx => ?_) (C.nb_some hp hM C.root (Ne.symm hr))
      obtain ⟨hxa, h⟩ := mem_nb.mp hx
      rcases h with ⟨_, _, h⟩ | ⟨h1, h2, h3⟩
      · exact h
      · have := hp x h1 h2; have := hmax x hxa; lia
    obtain ⟨_, C', hch⟩ := C.rid_leaf hp hM hleaf hr
    by_cases hx : ∃ x, al x = true ∧ x ≠ M ∧ x ≠ r
    · obtain ⟨x, hxa, hxM, hxr⟩ := hx
      obtain ⟨M', ⟨hM'1, hM'2⟩, hM'3⟩ := most (P := fun k => al k = true ∧ k ≠ M) (m := n) (fun i hi => C.lt i hi.1) (k := x) ⟨hxa, hxM⟩
      have hM'r : M' ≠ r := by
        have h1 := hM'3 x ⟨hxa, hxM⟩
        have h2 := C.min x hxa
        lia
      obtain ⟨a, b, hab, ha, hb, hla, hlb⟩ := ih (rid al M) r C' ⟨M', rid_iff.mpr ⟨hM'1, hM'2⟩, by have := hmax M' hM'1; lia, hM'r, fun k hk => hM'3 k (rid_iff.mp hk)⟩
      have ha' := rid_iff.mp ha
      have hb' := rid_iff.mp hb
      have key : ∀ c, al c = true → c ≠ M → c ≠ par M → nb n par (rid al M) c = nb n par al c := by
        intro c hc hcM hcp
        refine nb_keep fun h => ?_
        have h2 := nb_sym hc h
        rw [hleaf] at h2
        exact hcp (List.mem_singleton.mp h2)
      by_cases e : a = par M
      · have e2 : b ≠ par M := fun h => hab (e.trans h.symm)
        refine ⟨M, b, fun h => hb'.2 h.symm, hM, hb'.1, by rw [hleaf]; rfl, ?_⟩
        rw [← key b hb'.1 hb'.2 e2]; exact hlb
      · refine ⟨M, a, fun h => ha'.2 h.symm, hM, ha'.1, by rw [hleaf]; rfl, ?_⟩
        rw [← key a ha'.1 ha'.2 e]; exact hla
    · refine ⟨M, r, hr, hM, C.root, by rw [hleaf]; rfl, ?_⟩
      have : nb n par al r = [M] := by
        refine one_of_nodup (nb_nodup hp r) (fun x hx2 => ?_) (C.nb_some hp C.root hM hr)
        refine Decidable.byContradiction fun h => hx ⟨x, (mem_nb.mp hx2).1, h, nb_ne hp hx2⟩
      rw [this]; rfl
theorem Conn.other_leaf (C : Conn n par al r) (hp : ∀ k, 1 ≤ k → k < n → par k < k) {j x : Nat} (hj : al j = true) (hx : al x = true) (hxj : x ≠ j) (l : Nat) : ∃ a, a ≠ l ∧ al a = true ∧ (nb n par al a).length = 1 := by
  have h2 : ∃ y, al y = true ∧ y ≠ r := by
    by_cases e : x = r
    · exact ⟨j, hj, fun h => hxj (e.trans h.symm)⟩
    · exact ⟨x, hx, e⟩
  obtain ⟨y, hy, hyr⟩ := h2
  obtain ⟨M, hM, hmax⟩ := most (P := fun k => al k = true) (m := n) C.lt hy
  have hMr : M ≠ r := by
    have h1 := hmax y hy
    have h3 := C.min y hy
    lia
  obtain ⟨a, b, hab, ha, hb, hla, hlb⟩ := Conn.two_leaves hp M al r C ⟨M, hM, Nat.le_refl _, hMr, hmax⟩
  by_cases e : a = l
  · exact ⟨b, fun h => hab (e.trans h.symm), hb, hlb⟩
  · exact ⟨a, e, ha, hla⟩
end
noncomputable def lcpN : List Nat → List Nat → Nat
  | a :: as, b :: bs => if a = b then lcpN as bs + 1 else 0
  | _, _ => 0
theorem lcpN_pre : ∀ {a b : List Nat}, a <+: b → lcpN a b = a.length
  | [], b, _ => by cases b <;> rfl
  | x :: a, [], h => by simp at h
  | x :: a, y :: b, h => by
    rw [List.cons_prefix_cons] at h
    rw [lcpN, if_pos h.1, lcpN_pre h.2]; rfl
theorem lcpN_snoc : ∀ {a b : List Nat} {x : Nat}, ¬ (a ++ [x]) <+: b → lcpN (a ++ [x]) b = lcpN a b
  | [], [], _, _ => rfl
  | [], y :: b, x, h => by
    have h1 : x ≠ y := fun e => h (by subst e; simp)
    simp [lcpN, h1]
  | z :: a, [], _, _ => rfl
  | z :: a, y :: b, x, h => by
    by_cases e : z = y
    · subst e
      have h1 : ¬ (a ++ [x]) <+: b := fun h2 => h (by simpa using h2)
      simp only [List.cons_append, lcpN, if_true, lcpN_snoc h1]
    · simp [lcpN, e]
theorem lcpN_le : ∀ (a b : List Nat), lcpN a b ≤ a.length
  | [], b => by cases b <;> exact Nat.le_refl _
  | x :: a, [] => Nat.zero_le _
  | x :: a, y :: b => by
    have := lcpN_le a b
    rw [lcpN]; split
    · simp; lia
    · lia
noncomputable def dist (ch : Nat → List Nat) (a b : Nat) : Int := (ch a).length + (ch b).length - 2 * lcpN (ch a) (ch b)
noncomputable def cs (n : Nat) (par : Nat → Nat) (al : Nat → Bool) (r : Nat) (B : Nat → Int) (k : Nat) : Int := sm n fun c => if al c = true ∧ c ≠ r ∧ par c = k then B c else 0
structure Chain (n : Nat) (par : Nat → Nat) (ch : Nat → List Nat) : Prop where
  hp : ∀ k, 1 ≤ k → k < n → par k < k
  c0 : ch 0 = []
  cs : ∀ k, 1 ≤ k → k < n → ch k = ch (par k) ++ [k]
section
variable {n : Nat} {par : Nat → Nat} {al : Nat → Bool} {r : Nat} {ch : Nat → List Nat}
theorem Chain.mem (H : Chain n par ch) : ∀ {k x : Nat}, k < n → x ∈ ch k → 1 ≤ x ∧ x ≤ k := by
  intro k
  induction k using Nat.strongRecOn with
  | _ k ih =>
    intro x hk hx
    by_cases e : k = 0
    · subst e; rw [H.c0] at hx; cases hx
    · have h1 := H.hp k (by lia) hk
      rw [H.cs k (by lia) hk] at hx
      rcases List.mem_append.mp hx with hx | hx
      · have := ih (par k) h1 (by lia) hx; lia
      · have := List.mem_singleton.mp hx; lia
theorem Chain.self (H : Chain n par ch) {k : Nat} (h1 : 1 ≤ k) (hk : k < n) : k ∈ ch k := by rw [H.cs k h1 hk]; simp
theorem Chain.far (H : Chain n par ch) (C : Conn n par al r) {l : Nat} (hl : al l = true) (hch : ∀ k, al k = true → k ≠ r → par k ≠ l) : ∀ {x : Nat}, al x = true → x ≠ l → l ∉ ch x := by
  intro x
  induction x using Nat.strongRecOn with
  | _ x ih =>
    intro hx hxl hm
    have h1 := H.mem (C.lt x hx) hm
    have h2 := C.min l hl
    have hxr : x ≠ r := by lia
    have h3 := H.hp x (by lia) (C.lt x hx)
    rw [H.cs x (by lia) (C.lt x hx)] at hm
    rcases List.mem_append.mp hm with hm | hm
    · exact ih (par x) h3 (C.up x hx hxr) (hch x hx hxr) hm
    · exact hxl (List.mem_singleton.mp hm).symm
theorem Chain.near (H : Chain n par ch) (C : Conn n par al r) {g : Nat} (hch : ∀ k, al k = true → k ≠ r → par k = r → k = g) : ∀ {x : Nat}, al x = true → x ≠ r → ch g <+: ch x := by
  intro x
  induction x using Nat.strongRecOn with
  | _ x ih =>
    intro hx hxr
    have h2 := C.min x hx
    have h3 := H.hp x (by lia) (C.lt x hx)
    by_cases e : par x = r
    · rw [hch x hx hxr e]; exact List.prefix_rfl
    · have h4 := ih (par x) h3 (C.up x hx hxr) e
      rw [H.cs x (by lia) (C.lt x hx)]
      exact h4.trans (List.prefix_append _ _)
theorem dist_self (x : Nat) : dist ch x x = 0 := by unfold dist; rw [lcpN_pre List.prefix_rfl]; lia
theorem dist_leaf (H : Chain n par ch) (C : Conn n par al r) {l g x : Nat} (hl : al l = true) (hg : nb n par al l = [g]) (hx : al x = true) (hxl : x ≠ l) : dist ch l x = 1 + dist ch g x := by
  by_cases e : l = r
  · subst e
    obtain ⟨h1, h2, h3, h4, C', h5⟩ := C.rid_root H.hp hg
    have h6 := H.near C h5 hx hxl
    have h7 := H.cs g h4 (C.lt g h3)
    rw [h1] at h7
    have h8 : ch l <+: ch x := (h7 ▸ List.prefix_append (ch l) [g]).trans h6
    unfold dist
    rw [lcpN_pre h6, lcpN_pre h8, h7, List.length_append, List.length_singleton]
    lia
  · obtain ⟨h1, C', h2⟩ := C.rid_leaf H.hp hl hg e
    have h3 := C.min l hl
    have h4 := H.cs l (by lia) (C.lt l hl)
    have h5 := H.far C hl h2 hx hxl
    have h6 : ¬ (ch (par l) ++ [l]) <+: ch x := fun h => h5 (h.subset (by simp))
    unfold dist
    rw [h4, lcpN_snoc h6, h1, List.length_append, List.length_singleton]
    lia
end
noncomputable def upd (w : Nat → Int) (g : Nat) (v : Int) : Nat → Int := fun k => if k = g then v else w k
noncomputable def lesser (tot x : Int) : Int := if tot - x < x then tot - x else x
structure Inv (n : Nat) (par : Nat → Nat) (ch : Nat → List Nat) (ld B : Nat → Int) (tot : Int) (al : Nat → Bool) (r : Nat) (w : Nat → Int) (ed : List Nat) (car : List Int) : Prop where
  conn : Conn n par al r
  nn : ∀ k, al k = true → 0 ≤ w k
  bel : ∀ k, al k = true → (if k = r then tot else B k) = w k + cs n par al r B k
  total : sm n (fun k => if al k = true then w k else 0) = tot
  ednd : ed.Nodup
  edm : ∀ k, k ∈ ed ↔ 1 ≤ k ∧ k < n ∧ (al k = false ∨ k = r)
  hcar : car = ed.map fun k => lesser tot (B k)
  srt : car.Pairwise (· ≤ ·)
  low : ∀ j, al j = true → (nb n par al j).length = 1 → ∀ c ∈ car, c ≤ w j
  pot : ∀ x, al x = true → car.sum + sm n (fun j => if al j = true then w j * dist ch j x else 0) = sm n (fun i => ld i * dist ch i x)
section
variable {n : Nat} {par : Nat → Nat} {ch : Nat → List Nat} {ld B : Nat → Int} {tot : Int} {al : Nat → Bool} {r : Nat} {w : Nat → Int} {ed : List Nat} {car : List Int}
theorem Inv.step (H : Chain n par ch) (I : Inv n par ch ld B tot al r w ed car) {l g : Nat} (hl : al l = true) (hg : nb n par al l = [g]) (hmin : ∀ j, al j = true → (nb n par al j).length = 1 → w l ≤ w j) :
    ∃ r' e, Inv n par ch ld B tot (rid al l) r' (upd w g (w g + w l)) (ed ++ [e]) (car ++ [w l]) := by
  have C := I.conn
  have hgm : g ∈ nb n par al l := by rw [hg]; exact .head _
  have hgl := nb_ne H.hp hgm
  have hga := (mem_nb.mp hgm).1
  have hln := C.lt l hl
  have hgn := C.lt g hga
  have hwl := I.nn l hl
  have hwg := I.nn g hga
  -- the edge, the new top
  obtain ⟨r', e, C', hbel, he1, he2, he3⟩ : ∃ r' e, Conn n par (rid al l) r' ∧ (∀ k, rid al l k = true → (if k = r' then tot else B k) = upd w g (w g + w l) k + cs n par (rid al l) r' B k) ∧ e ∉ ed ∧
      (∀ k, k ∈ ed ++ [e] ↔ 1 ≤ k ∧ k < n ∧ (rid al l k = false ∨ k = r')) ∧ (B e = w l ∨ B e = tot - w l) := by
    by_cases elr : l = r
    · subst elr
      obtain ⟨h1, h2, h3, h4, C', h5⟩ := C.rid_root H.hp hg
      have hB : tot = w l + B g := by
        have h6 := I.bel l hl
        rw [if_pos rfl] at h6
        rw [h6]
        congr 1
        have h7 : cs n par al l B l = sm n (fun c => if c = g then B c else 0) := sm_congr n fun c hc => by
          by_cases h8 : c = g
          · subst h8; rw [if_pos ⟨hga, h2, h1⟩, if_pos rfl]
          · rw [if_neg (fun h9 => h8 (h5 c h9.1 h9.2.1 h9.2.2)), if_neg h8]
        rw [h7, sm_one, if_pos hgn]
      have hcs : ∀ k, al k = true → k ≠ l → cs n par (rid al l) g B k = cs n par al l B k := by
        intro k hk hkl
        refine sm_congr n fun c hc => ?_
        by_cases h8 : al c = true ∧ c ≠ l ∧ par c = k
        · rw [if_pos h8, if_pos ⟨rid_iff.mpr ⟨h8.1, h8.2.1⟩, fun h9 => hkl (by rw [← h8.2.2, h9, h1]), h8.2.2⟩]
        · rw [if_neg h8, if_neg (fun h9 => h8 ⟨(rid_iff.mp h9.1).1, (rid_iff.mp h9.1).2, h9.2.2⟩)]
      refine ⟨g, g, C', ?_, ?_, ?_, .inr (by lia)⟩
      · intro k hk
        have hk' := rid_iff.mp hk
        have h6 := I.bel k hk'.1
        rw [if_neg hk'.2] at h6
        rw [hcs k hk'.1 hk'.2]
        by_cases h8 : k = g
        · subst h8
          rw [if_pos rfl]; unfold upd; rw [if_pos rfl]; lia
        · rw [if_neg h8]; unfold upd; rw [if_neg h8]; exact h6
      · intro h6
        have := (I.edm g).mp h6
        rcases this.2.2 with h7 | h7
        · rw [h3] at h7; cases h7
        · exact h2 h7
      · intro k
        rw [List.mem_append, I.edm, List.mem_singleton]
        constructor
        · rintro (⟨h6, h7, h8⟩ | rfl)
          · refine ⟨h6, h7, .inl ?_⟩
            rcases h8 with h8 | h8
            · simp [rid, h8]
            · simp [rid, h8]
          · exact ⟨h4, hgn, .inr rfl⟩
        · rintro ⟨h6, h7, h8⟩
          by_cases h9 : k = g
          · exact .inr h9
          · refine .inl ⟨h6, h7, ?_⟩
            rcases h8 with h8 | h8
            · by_cases h10 : k = l
              · exact .inr h10
              · left
                cases h11 : al k with
                | false => rfl
                | true => rw [rid_iff.mpr ⟨h11, h10⟩] at h8; cases h8
            · exact absurd h8 h9
    · obtain ⟨h1, C', h2⟩ := C.rid_leaf H.hp hl hg elr
      have hl1 : 1 ≤ l := by have := C.min l hl; lia
      have hB : B l = w l := by
        have h6 := I.bel l hl
        rw [if_neg elr] at h6
        have h7 : cs n par al r B l = 0 := by
          have : cs n par al r B l = sm n (fun _ => 0) := sm_congr n fun c hc => if_neg fun h9 => h2 c h9.1 h9.2.1 h9.2.2
          rw [this, sm_zero]
        lia
      have hcs : ∀ k, al k = true → k ≠ l → cs n par al r B k = cs n par (rid al l) r B k + (if k = g then w l else 0) := by
        intro k hk hkl
        have h6 : cs n par al r B k = sm n (fun c => (if rid al l c = true ∧ c ≠ r ∧ par c = k then B c else 0) + (if c = l then (if k = g then w l else 0) else 0)) := sm_congr n fun c hc => by
          by_cases h8 : c = l
          · subst h8
            rw [if_neg (c := rid al c c = true ∧ c ≠ r ∧ par c = k) (fun h9 => (rid_iff.mp h9.1).2 rfl), if_pos rfl]
            by_cases h9 : k = g
            · rw [if_pos h9, if_pos ⟨hl, elr, by rw [h9, h1]⟩]; lia
            · rw [if_neg h9, if_neg (fun h10 => h9 (by rw [← h10.2.2, h1]))]; rfl
          · rw [if_neg h8]
            by_cases h9 : al c = true ∧ c ≠ r ∧ par c = k
            · rw [if_pos h9, if_pos ⟨rid_iff.mpr ⟨h9.1, h8⟩, h9.2⟩]; lia
            · rw [if_neg h9, if_neg (fun h10 => h9 ⟨(rid_iff.mp h10.1).1, h10.2⟩)]; rfl
        rw [h6, sm_add]
        congr 1
        rw [sm_one l (fun _ => if k = g then w l else 0), if_pos hln]
      refine ⟨r, l, C', ?_, ?_, ?_, .inl hB⟩
      · intro k hk
        have hk' := rid_iff.mp hk
        have h6 := I.bel k hk'.1
        rw [h6, hcs k hk'.1 hk'.2]
        unfold upd
        by_cases h8 : k = g
        · subst h8
          rw [if_pos rfl, if_pos rfl]; lia
        · rw [if_neg h8, if_neg h8]; lia
      · intro h6
        have := (I.edm l).mp h6
        rcases this.2.2 with h7 | h7
        · rw [hl] at h7; cases h7
        · exact elr h7
      · intro k
        rw [List.mem_append, I.edm, List.mem_singleton]
        constructor
        · rintro (⟨h6, h7, h8⟩ | rfl)
          · refine ⟨h6, h7, ?_⟩
            rcases h8 with h8 | h8
            · exact .inl (by simp [rid, h8])
            · exact .inr h8
          · exact ⟨hl1, hln, .inl (by simp [rid])⟩
        · rintro ⟨h6, h7, h8⟩
          by_cases h9 : k = l
          · exact .inr h9
          · refine .inl ⟨h6, h7, ?_⟩
            rcases h8 with h8 | h8
            · left
              cases h11 : al k with
              | false => rfl
              | true => rw [rid_iff.mpr ⟨h11, h9⟩] at h8; cases h8
            · exact .inr h8
  -- the lesser side
  have hles : lesser tot (B e) = w l := by
    obtain ⟨a, hal, haa, half⟩ := C.other_leaf H.hp hl hga hgl l
    have h1 := hmin a haa half
    have h2 := sm_two (f := fun k => if al k = true then w k else 0) (n := n) (a := l) (b := a) (fun i _ => by
      by_cases h3 : al i = true
      · simp only [h3, if_true]; exact I.nn i h3
      · simp only [h3]; exact Int.le_refl _) hln (C.lt a haa) (Ne.symm hal)
    simp only [hl, haa, if_true] at h2
    have h3 := I.total
    have h4 : w l + w a ≤ tot := by rw [← h3]; exact h2
    unfold lesser
    rcases he3 with h5 | h5
    · rw [h5, if_neg (by lia)]
    · rw [h5]
      split <;> lia
  have hw : ∀ (f : Nat → Int), sm n (fun k => if rid al l k = true then upd w g (w g + w l) k * f k else 0) = sm n (fun k => if al k = true then w k * f k else 0) + (w l * f g - w l * f l) := by
    intro f
    have h1 : sm n (fun k => if rid al l k = true then upd w g (w g + w l) k * f k else 0) = sm n (fun k => (if al k = true then w k * f k else 0) + ((if k = g then w l * f g else 0) + (if k = l then - (w l * f l) else 0))) := sm_congr n fun k hk => by
      by_cases h8 : k = l
      · subst h8
        rw [if_neg (fun h9 => (rid_iff.mp h9).2 rfl), if_pos hl, if_neg (Ne.symm hgl), if_pos rfl]; lia
      · rw [if_neg (c := k = l) h8]
        by_cases h9 : k = g
        · subst h9
          rw [if_pos (rid_iff.mpr ⟨hga, h8⟩), if_pos hga, if_pos rfl]
          unfold upd
          rw [if_pos rfl, Int.add_mul]; lia
        · rw [if_neg (c := k = g) h9]
          unfold upd
          by_cases h10 : al k = true
          · rw [if_pos (rid_iff.mpr ⟨h10, h8⟩), if_pos h10, if_neg h9]; lia
          · rw [if_neg (fun h11 => h10 (rid_iff.mp h11).1), if_neg h10]; rfl
    rw [h1, sm_add, sm_add, sm_one g (fun _ => w l * f g), sm_one l (fun _ => - (w l * f l)), if_pos hgn, if_pos hln]; lia
  refine ⟨r', e, C', ?_, hbel, ?_, ?_, he2, ?_, ?_, ?_, ?_⟩
  · intro k hk
    unfold upd
    split
    · lia
    · exact I.nn k (rid_iff.mp hk).1
  · have h1 := hw (fun _ => 1)
    simp only [Int.mul_one] at h1
    rw [h1, I.total]; lia
  · exact List.nodup_append.mpr ⟨I.ednd, by simp, fun a ha b hb => by rw [List.mem_singleton.mp hb]; exact fun h => he1 (h ▸ ha)⟩
  · rw [List.map_append, I.hcar]; simp [hles]
  · rw [List.pairwise_append]
    refine ⟨I.srt, by simp, fun a ha b hb => ?_⟩
    rw [List.mem_singleton.mp hb]
    exact I.low l hl (by rw [hg]; rfl) a ha
  · intro j hj hlf c hc
    have hj' := rid_iff.mp hj
    have hcl : c ≤ w l := by
      rcases List.mem_append.mp hc with hc | hc
      · exact I.low l hl (by rw [hg]; rfl) c hc
      · rw [List.mem_singleton.mp hc]; exact Int.le_refl _
    unfold upd
    by_cases h8 : j = g
    · rw [if_pos h8]; lia
    · rw [if_neg h8]
      have h9 : l ∉ nb n par al j := fun h10 => by
        have h11 := nb_sym hj'.1 h10
        rw [hg] at h11
        exact h8 (List.mem_singleton.mp h11)
      rw [nb_keep h9] at hlf
      exact Int.le_trans hcl (hmin j hj'.1 hlf)
  · intro x hx
    have hx' := rid_iff.mp hx
    have h1 := hw (fun j => dist ch j x)
    rw [h1, List.sum_append, List.sum_singleton, ← I.pot x hx'.1, dist_leaf H C hl hg hx'.1 hx'.2, Int.mul_add]
    lia
end
end Mine


section
namespace Mine
open PySem PySem.Builtin.Str PyProof.Rows
noncomputable abbrev SL : Str := Str.ofString "/"
theorem SL_eq : SL = ⟨#[47]⟩ := by decide +kernel
theorem SL_list : SL.cps.toList = [47] := by rw [SL_eq]
theorem DD_list : (Str.ofString "..").cps.toList = [46, 46] := by decide +kernel
theorem EE_list : (Str.ofString "").cps.toList = [] := by decide +kernel
theorem letF_eq0 : ∀ k, k < 9 → (letF (k + 1)).cps.toList = [97 + k] := by decide +kernel
theorem letF_list {k : Nat} (h : 1 ≤ k ∧ k ≤ 9) : (letF k).cps.toList = [96 + k] := by
  have h1 := letF_eq0 (k - 1) (by lia)
  rw [show k - 1 + 1 = k by lia] at h1
  rw [h1, show 97 + (k - 1) = 96 + k by lia]
theorem str_ext {a b : Str} (h : a.cps.toList = b.cps.toList) : a = b := Str.ext' (Array.toList_inj.mp h)
theorem app_list (a b : Str) : (a ++ b).cps.toList = a.cps.toList ++ b.cps.toList := by rw [Str.cps_append, Array.toList_append]
theorem len_list (a : Str) : a.length = a.cps.toList.length := by simp [Str.length]
structure ChOk (c : List Nat) : Prop where
  lim : ∀ k ∈ c, 1 ≤ k ∧ k ≤ 9
  len : c.length ≤ 9
theorem ChOk.sub {c d : List Nat} (h : ChOk c) (hs : d.Sublist c) : ChOk d := ⟨fun k hk => h.lim k (hs.subset hk), Nat.le_trans hs.length_le h.len⟩
theorem ends_last {x : Str} {a : List Nat} {l : Nat} (h : x.cps.toList = a ++ [l]) : Txt.endswith x SL = decide (l = 47) := by
  have h1 : x.length = a.length + 1 := by rw [len_list, h]; simp
  have h2 : SL.length = 1 := rfl
  unfold Txt.endswith
  rw [StrLaws.subAt_eq, h1, h2, SL_list, h, show a.length + 1 - 1 = a.length by lia, List.drop_left, decide_eq_true (show 0 + 1 ≤ a.length + 1 by lia), Bool.true_and]
  show ([l] == [47]) = _
  by_cases e : l = 47
  · subst e; rfl
  · rw [decide_eq_false e]; simpa using e
noncomputable def pathC (c : List Nat) : Str := c.foldl (fun s k => joinF s (letF k)) SL
theorem pathC_snoc (c : List Nat) (k : Nat) : joinF (pathC c) (letF k) = pathC (c ++ [k]) := by unfold pathC; rw [List.foldl_append]; rfl
theorem joinF_no {x y : Str} {a : List Nat} {l : Nat} (h : x.cps.toList = a ++ [l]) (hl : l ≠ 47) : joinF x y = x ++ (SL ++ y) := by
  unfold joinF
  rw [if_neg]
  rw [ends_last h, decide_eq_false hl]; exact Bool.false_ne_true
theorem fold_list : ∀ (c : List Nat) (s : Str) (a : List Nat) (l : Nat), (∀ k ∈ c, 1 ≤ k ∧ k ≤ 9) → s.cps.toList = a ++ [l] → l ≠ 47 → (c.foldl (fun s k => joinF s (letF k)) s).cps.toList = s.cps.toList ++ c.flatMap fun k => [47, 96 + k]
  | [], s, a, l, _, _, _ => by simp
  | k :: c, s, a, l, hc, hs, hl => by
    have hk := hc k (.head _)
    have h1 : (joinF s (letF k)).cps.toList = s.cps.toList ++ [47, 96 + k] := by rw [joinF_no hs hl, app_list, app_list, SL_list, letF_list hk]; rfl
    rw [List.foldl_cons, fold_list c _ (s.cps.toList ++ [47]) (96 + k) (fun x hx => hc x (.tail _ hx)) (by rw [h1]; simp) (by lia), h1, List.flatMap_cons, List.append_assoc]
theorem pathC_list {c : List Nat} (hc : ∀ k ∈ c, 1 ≤ k ∧ k ≤ 9) (hn : c ≠ []) : (pathC c).cps.toList = c.flatMap fun k => [47, 96 + k] := by
  cases c with
  | nil => exact absurd rfl hn
  | cons k c =>
    have hk := hc k (.head _)
    have h1 : (joinF SL (letF k)).cps.toList = [47, 96 + k] := by
      unfold joinF
      rw [if_pos (by decide +kernel), app_list, SL_list, letF_list hk]; rfl
    unfold pathC
    rw [List.foldl_cons, fold_list c _ [47] (96 + k) (fun x hx => hc x (.tail _ hx)) h1 (by lia), h1]; rfl
theorem join_cons2 (x y : Str) (r : List Str) : (Str.join SL (x :: y :: r)).cps.toList = x.cps.toList ++ 47 :: (Str.join SL (y :: r)).cps.toList := by
  show (x ++ SL ++ Str.join SL (y :: r)).cps.toList = _
  rw [app_list, app_list, SL_list]; simp
theorem join_letters : ∀ {c : List Nat}, (∀ k ∈ c, 1 ≤ k ∧ k ≤ 9) → c ≠ [] → 47 :: (Str.join SL (c.map letF)).cps.toList = c.flatMap fun k => [47, 96 + k]
  | [], _, h => absurd rfl h
  | [k], hc, _ => by
    show 47 :: (letF k).cps.toList = _
    rw [letF_list (hc k (.head _))]; rfl
  | k :: j :: c, hc, _ => by
    have h1 := join_letters (c := j :: c) (fun x hx => hc x (.tail _ hx)) (by simp)
    rw [List.map_cons, List.map_cons, join_cons2, ← List.map_cons, h1, letF_list (hc k (.head _))]; rfl
theorem pathC_join {c : List Nat} (hc : ∀ k ∈ c, 1 ≤ k ∧ k ≤ 9) : SL ++ Str.join SL (c.map letF) = pathC c := by
  by_cases e : c = []
  · subst e; exact Str.append_empty _
  · refine str_ext ?_
    rw [app_list, SL_list, pathC_list hc e, ← join_letters hc e]; rfl
theorem txt_join (s : Str) (l : List Str) : Txt.join s l = Str.join s l := StrLaws.glued_eq_join s l
theorem flat_len : ∀ c : List Nat, (c.flatMap fun k => [47, 96 + k]).length = 2 * c.length
  | [] => rfl
  | k :: c => by rw [List.flatMap_cons, List.length_append, flat_len c, List.length_cons]; simp; lia
theorem pathC_len {c : List Nat} (h : ChOk c) : 1 ≤ (pathC c).length ∧ (pathC c).length ≤ 18 := by
  have := h.len
  by_cases e : c = []
  · subst e; decide
  · rw [len_list, pathC_list h.lim e, flat_len]
    have := List.length_pos_iff.mpr e
    lia
theorem pathC_chars {c : List Nat} (h : ChOk c) : ∀ x ∈ (pathC c).cps.toList, x = 47 ∨ (97 ≤ x ∧ x ≤ 105) := by
  by_cases e : c = []
  · subst e; intro x hx; left; have : (pathC []).cps.toList = [47] := SL_list; rw [this] at hx; exact List.mem_singleton.mp hx
  · intro x hx
    rw [pathC_list h.lim e, List.mem_flatMap] at hx
    obtain ⟨k, hk, hx⟩ := hx
    have := h.lim k hk
    simp only [List.mem_cons, List.not_mem_nil, or_false] at hx
    lia
theorem path_lower {c : List Nat} (h : ChOk c) : Txt.lower (pathC c) = pathC c :=
  PySem.W.KXs.lower_still fun x hx => by have := pathC_chars h x hx; lia
theorem path_upper {c : List Nat} (h : ChOk c) : (Txt.upper (pathC c)).cps.toList = (pathC c).cps.toList.map up1 := by
  rw [upper_ascii (fun x hx => by have := pathC_chars h x hx; lia), Array.toList_map]
theorem up1_cases {x : Nat} (h : x = 47 ∨ (97 ≤ x ∧ x ≤ 105)) : (up1 x = 47 ∨ (65 ≤ up1 x ∧ up1 x ≤ 73)) ∧ lo1 (up1 x) = x := by
  unfold up1 lo1
  rcases h with h | h
  · subst h; simp
  · rw [if_pos (by lia)]
    exact ⟨.inr (by lia), by rw [if_pos (by lia)]; lia⟩
theorem path_lowup {c : List Nat} (h : ChOk c) : Txt.lower (Txt.upper (pathC c)) = pathC c := by
  have h1 := path_upper h
  have h2 : ∀ x ∈ (Txt.upper (pathC c)).cps.toList, x < 128 := by
    intro x hx
    rw [h1] at hx
    obtain ⟨y, hy, rfl⟩ := List.mem_map.mp hx
    have := (up1_cases (pathC_chars h y hy)).1
    lia
  rw [lower_ascii h2]
  refine str_ext ?_
  show ((Txt.upper (pathC c)).cps.map lo1).toList = _
  rw [Array.toList_map, h1, List.map_map]
  conv => rhs; rw [← List.map_id (pathC c).cps.toList]
  refine List.map_congr_left fun x hx => ?_
  exact (up1_cases (pathC_chars h x hx)).2
theorem chars_lo : ∀ x, x < 106 → (x = 47 ∨ 97 ≤ x) → chars.contains x = true := by decide +kernel
theorem chars_up : ∀ x, x < 74 → (x = 47 ∨ 65 ≤ x) → chars.contains x = true := by decide +kernel
theorem path_ok {c : List Nat} (h : ChOk c) : okS (pathC c) = true := List.all_eq_true.mpr fun x hx => by
  have := pathC_chars h x hx
  exact chars_lo x (by lia) (by lia)
theorem path_okU {c : List Nat} (h : ChOk c) : okS (Txt.upper (pathC c)) = true := List.all_eq_true.mpr fun x hx => by
  rw [path_upper h] at hx
  obtain ⟨y, hy, rfl⟩ := List.mem_map.mp hx
  have := (up1_cases (pathC_chars h y hy)).1
  exact chars_up _ (by lia) (by lia)
theorem path_name {c : List Nat} (h : ChOk c) : NameOk (pathC c) := by
  have h1 := pathC_len h
  refine ⟨path_ok h, path_okU h, by lia, ?_⟩
  rw [len_list, path_upper h, List.length_map, ← len_list]; lia
theorem path_starts {c : List Nat} (h : ChOk c) : Txt.startswith (pathC c) SL = true := by
  have h1 := pathC_len h
  have h2 : ∃ l, (pathC c).cps.toList = 47 :: l := by
    by_cases e : c = []
    · subst e; exact ⟨[], SL_list⟩
    · cases c with
      | nil => exact absurd rfl e
      | cons k c => exact ⟨_, by rw [pathC_list h.lim e, List.flatMap_cons]; rfl⟩
  obtain ⟨l, hl⟩ := h2
  have h3 : SL.length = 1 := rfl
  unfold Txt.startswith
  rw [StrLaws.subAt_eq, h3, SL_list, hl, decide_eq_true (by lia)]; rfl
-- splitting
noncomputable def Free (x : Str) : Prop := 47 ∉ x.cps.toList
theorem cut_eq : ∀ {a b A B : List Nat}, 47 ∉ a → 47 ∉ b → a ++ 47 :: A = b ++ 47 :: B → a = b ∧ A = B
  | [], [], A, B, _, _, h => ⟨rfl, by simpa using h⟩
  | [], y :: b, A, B, _, hb, h => by
    simp only [List.nil_append, List.cons_append, List.cons.injEq] at h
    exact absurd (by rw [h.1]; exact .head _) hb
  | x :: a, [], A, B, ha, _, h => by
    simp only [List.nil_append, List.cons_append, List.cons.injEq] at h
    exact absurd (by rw [← h.1]; exact .head _) ha
  | x :: a, y :: b, A, B, ha, hb, h => by
    simp only [List.cons_append, List.cons.injEq] at h
    obtain ⟨h1, h2⟩ := cut_eq (fun h => ha (.tail _ h)) (fun h => hb (.tail _ h)) h.2
    exact ⟨by rw [h.1, h1], h2⟩
theorem join_inj : ∀ {l m : List Str}, l ≠ [] → m ≠ [] → (∀ x ∈ l, Free x) → (∀ x ∈ m, Free x) → Str.join SL l = Str.join SL m → l = m
  | [], _, h, _, _, _, _ => absurd rfl h
  | _, [], _, h, _, _, _ => absurd rfl h
  | [x], [y], _, _, _, _, h => by
    have : x = y := h
    rw [this]
  | [x], y :: z :: r, _, _, hl, _, h => by
    have h1 : x.cps.toList = _ := congrArg (fun s : Str => s.cps.toList) h
    rw [join_cons2] at h1
    exact absurd (by rw [h1]; simp) (hl x (.head _))
  | x :: y :: r, [z], _, _, _, hm, h => by
    have h1 : _ = z.cps.toList := congrArg (fun s : Str => s.cps.toList) h
    rw [join_cons2] at h1
    exact absurd (by rw [← h1]; simp) (hm z (.head _))
  | x :: y :: r, x' :: y' :: r', _, _, hl, hm, h => by
    have h1 := congrArg (fun s : Str => s.cps.toList) h
    simp only [join_cons2] at h1
    obtain ⟨h2, h3⟩ := cut_eq (hl x (.head _)) (hm x' (.head _)) h1
    rw [str_ext h2, join_inj (by simp) (by simp) (fun z hz => hl z (.tail _ hz)) (fun z hz => hm z (.tail _ hz)) (str_ext h3)]
theorem split_ne (x y : Str) : Txt.split x y ≠ [] := by
  unfold Txt.split
  split
  · simp
  · split
    · simp
    · rw [StrLaws.partsBetween_eq]
      obtain ⟨p, r, e⟩ := StrLaws.partsFrom_ne x y.length 0 (occurrences x y 0 x.length (x.length + 1))
      rw [e]; simp
theorem split_join {l : List Str} (hl : l ≠ []) (hf : ∀ x ∈ l, Free x) : Txt.split (Str.join SL l) SL = l := by
  refine join_inj (split_ne _ _) hl (fun x hx => ?_) hf (StrLaws.join_split _ _)
  rw [SL_eq] at hx
  exact StrLaws.split_free _ 47 x hx
theorem letF_free {k : Nat} (h : 1 ≤ k ∧ k ≤ 9) : Free (letF k) := by
  unfold Free; rw [letF_list h]; simp; lia
theorem letF_inj {j k : Nat} (hj : 1 ≤ j ∧ j ≤ 9) (hk : 1 ≤ k ∧ k ≤ 9) (h : letF j = letF k) : j = k := by
  have h1 := congrArg (fun s : Str => s.cps.toList) h
  simp only [letF_list hj, letF_list hk, List.cons.injEq, and_true] at h1
  lia
theorem map_inj : ∀ {c d : List Nat}, (∀ k ∈ c, 1 ≤ k ∧ k ≤ 9) → (∀ k ∈ d, 1 ≤ k ∧ k ≤ 9) → c.map letF = d.map letF → c = d
  | [], [], _, _, _ => rfl
  | [], _ :: _, _, _, h => by simp at h
  | _ :: _, [], _, _, h => by simp at h
  | j :: c, k :: d, hc, hd, h => by
    simp only [List.map_cons, List.cons.injEq] at h
    rw [letF_inj (hc j (.head _)) (hd k (.head _)) h.1, map_inj (fun x hx => hc x (.tail _ hx)) (fun x hx => hd x (.tail _ hx)) h.2]
theorem EE_eq : Str.ofString "" = Str.empty := by decide +kernel
theorem pathC_join2 {c : List Nat} (hc : ∀ k ∈ c, 1 ≤ k ∧ k ≤ 9) (hn : c ≠ []) : Str.join SL (Str.ofString "" :: c.map letF) = pathC c := by
  rw [← pathC_join hc, EE_eq]
  cases c with
  | nil => exact absurd rfl hn
  | cons k c =>
    show Str.empty ++ SL ++ _ = _
    rw [Str.empty_append]
theorem split_path {c : List Nat} (h : ChOk c) (hn : c ≠ []) : Txt.split (pathC c) SL = Str.ofString "" :: c.map letF := by
  rw [← pathC_join2 h.lim hn]
  refine split_join (by simp) fun x hx => ?_
  rcases List.mem_cons.mp hx with rfl | hx
  · unfold Free; rw [EE_list]; simp
  · obtain ⟨k, hk, rfl⟩ := List.mem_map.mp hx
    exact letF_free (h.lim k hk)
theorem let_ne {k : Nat} (h : 1 ≤ k ∧ k ≤ 9) : letF k ≠ Str.ofString "" ∧ letF k ≠ Str.ofString "." ∧ letF k ≠ Str.ofString ".." := by
  have h1 := letF_list h
  refine ⟨fun e => ?_, fun e => ?_, fun e => ?_⟩
  · rw [e, EE_list] at h1; simp at h1
  · rw [e, show (Str.ofString ".").cps.toList = [46] by decide +kernel] at h1; simp at h1; lia
  · rw [e, DD_list] at h1; simp at h1
theorem comps_path {c : List Nat} (h : ChOk c) : compsF (pathC c) = c.map letF := by
  by_cases e : c = []
  · subst e; decide +kernel
  · unfold compsF
    rw [split_path h e, List.filter_cons, if_neg (by decide +kernel)]
    refine List.filter_eq_self.mpr fun x hx => ?_
    obtain ⟨k, hk, rfl⟩ := List.mem_map.mp hx
    have := let_ne (h.lim k hk)
    simp [compOk, this.1, this.2.1]
theorem path_inj {c d : List Nat} (hc : ChOk c) (hd : ChOk d) (h : pathC c = pathC d) : c = d := by
  have h1 := comps_path hc
  rw [h, comps_path hd] at h1
  exact (map_inj hd.lim hc.lim h1).symm
theorem partsFrom_len (x : Str) (w : Nat) : ∀ (cuts : List Nat) (a : Nat), (StrLaws.partsFrom x w a cuts).length = cuts.length + 1
  | [], _ => rfl
  | c :: r, a => by rw [StrLaws.partsFrom, List.length_cons, partsFrom_len x w r, List.length_cons]
theorem split_count {x : Str} {a b : Str} {r : List Str} (h : Txt.split x SL = a :: b :: r) : Txt.count x SL = ((r.length + 1 : Nat) : Int) := by
  unfold Txt.split at h
  split at h
  · simp at h
  · split at h
    · simp at h
    · rw [StrLaws.partsBetween_eq] at h
      have h1 := partsFrom_len x SL.length (occurrences x SL 0 x.length (x.length + 1)) 0
      rw [h] at h1
      unfold Txt.count
      simp only [List.length_cons] at h1
      congr 1
      lia
theorem depth_path {c : List Nat} (h : ChOk c) : depthF (pathC c) = (c.length : Int) := by
  by_cases e : c = []
  · subst e; decide +kernel
  · cases c with
    | nil => exact absurd rfl e
    | cons k c =>
      have h1 := split_path h e
      rw [List.map_cons] at h1
      have h2 : (pathC (k :: c) == SL) = false := by
        rw [beq_eq_false_iff_ne]
        intro h3
        have h4 : pathC (k :: c) = pathC [] := h3
        exact absurd (path_inj h ⟨by simp, by simp⟩ h4) (by simp)
      unfold depthF
      rw [h2]
      show Txt.count _ SL = _
      rw [split_count h1]; simp
-- slices
theorem slice_text (x : Str) (l u : Option Int) : Txt.slice x l u = StrLaws.sliceText x l u := by
  unfold Txt.slice StrLaws.sliceText
  simp
theorem slice_from1 {x : Str} {a : Nat} {r : List Nat} (h : x.cps.toList = a :: r) : (Txt.slice x (some 1) none).cps.toList = r := by
  rw [slice_text, StrLaws.sliceText_from (by rw [h]; simp; lia), h]
  simp
theorem slice_to1 {x : Str} {a : Nat} {r : List Nat} (h : x.cps.toList = a :: r) : (Txt.slice x none (some 1)).cps.toList = [a] := by
  rw [slice_text, StrLaws.sliceText_to (by rw [h]; simp; lia), h]
  simp
theorem slice_12 {x : Str} {a b : Nat} {r : List Nat} (h : x.cps.toList = a :: b :: r) : (Txt.slice x (some 1) (some 2)).cps.toList = [b] := by
  rw [slice_text, StrLaws.sliceText_plain (by rw [h]; simp; lia), h]
  simp
theorem normF_join {l : List Str} (hl : l ≠ []) (hf : ∀ x ∈ l, Free x) : normF (SL ++ Str.join SL l) = SL ++ Str.join SL (normL l) := by
  have h1 : Txt.slice (SL ++ Str.join SL l) (some 1) none = Str.join SL l := str_ext (slice_from1 (a := 47) (by rw [app_list, SL_list]; rfl))
  unfold normF
  rw [h1, split_join hl hf, txt_join]
theorem normFold_letters : ∀ (c : List Nat) (ys : List Str), (∀ k ∈ c, 1 ≤ k ∧ k ≤ 9) → (c.map letF).foldl normStep ys = ys ++ c.map letF
  | [], ys, _ => by simp
  | k :: c, ys, h => by
    have h1 := let_ne (h k (.head _))
    rw [List.map_cons, List.foldl_cons]
    have h2 : normStep ys (letF k) = ys ++ [letF k] := by unfold normStep; rw [if_neg h1.1, if_neg h1.2.1, if_neg h1.2.2]
    rw [h2, normFold_letters c _ (fun x hx => h x (.tail _ hx)), List.append_assoc]; rfl
theorem normL_letters {c : List Nat} (h : ∀ k ∈ c, 1 ≤ k ∧ k ≤ 9) : normL (c.map letF) = c.map letF := by
  unfold normL; rw [normFold_letters c [] h, List.nil_append]
theorem normL_up {c : List Nat} (h : ∀ k ∈ c, 1 ≤ k ∧ k ≤ 9) : normL (c.map letF ++ [Str.ofString ".."]) = c.dropLast.map letF := by
  have h1 := normL_letters h
  unfold normL at h1 ⊢
  rw [List.foldl_append, h1]
  show normStep (c.map letF) (Str.ofString "..") = _
  unfold normStep
  rw [if_neg (by decide +kernel), if_neg (by decide +kernel), if_pos rfl, List.map_dropLast]
theorem free_letters {c : List Nat} (h : ∀ k ∈ c, 1 ≤ k ∧ k ≤ 9) : ∀ x ∈ c.map letF, Free x := fun x hx => by
  obtain ⟨k, hk, rfl⟩ := List.mem_map.mp hx
  exact letF_free (h k hk)
theorem norm_path {c : List Nat} (h : ChOk c) (hn : c ≠ []) : normF (pathC c) = pathC c := by
  rw [← pathC_join h.lim, normF_join (by simpa using hn) (free_letters h.lim), normL_letters h.lim]
theorem path_last {c : List Nat} (h : ChOk c) (hn : c ≠ []) : ∃ a l, (pathC c).cps.toList = a ++ [l] ∧ l ≠ 47 := by
  obtain ⟨d, k, rfl⟩ : ∃ d k, c = d ++ [k] := ⟨c.dropLast, c.getLast hn, (List.dropLast_concat_getLast hn).symm⟩
  have hk := h.lim k (by simp)
  refine ⟨(d.flatMap fun k => [47, 96 + k]) ++ [47], 96 + k, ?_, by lia⟩
  rw [pathC_list h.lim hn, List.flatMap_append]; simp
theorem join_app : ∀ (l : List Str) (z : Str), l ≠ [] → Str.join SL (l ++ [z]) = Str.join SL l ++ (SL ++ z)
  | [], _, h => absurd rfl h
  | [x], z, _ => by
    show x ++ SL ++ z = x ++ (SL ++ z)
    rw [Str.append_assoc]
  | x :: y :: r, z, _ => by
    have h1 := join_app (y :: r) z (by simp)
    show x ++ SL ++ Str.join SL (y :: r ++ [z]) = x ++ SL ++ Str.join SL (y :: r) ++ (SL ++ z)
    rw [h1]
    simp only [Str.append_assoc]
theorem join_up {c : List Nat} (h : ChOk c) (hn : c ≠ []) (z : Str) : joinF (pathC c) z = SL ++ Str.join SL (c.map letF ++ [z]) := by
  obtain ⟨a, l, h1, h2⟩ := path_last h hn
  rw [joinF_no h1 h2, join_app _ _ (by simpa using hn), ← pathC_join h.lim, Str.append_assoc]
theorem norm_up {c : List Nat} (h : ChOk c) (hn : c ≠ []) : normF (joinF (pathC c) (Str.ofString "..")) = pathC c.dropLast := by
  rw [join_up h hn, normF_join (by simp) ?_, normL_up h.lim, pathC_join (fun k hk => h.lim k (List.dropLast_subset _ hk))]
  intro x hx
  rcases List.mem_append.mp hx with hx | hx
  · exact free_letters h.lim x hx
  · rw [List.mem_singleton.mp hx]; unfold Free; rw [DD_list]; simp
theorem join_short {c : List Nat} (h : ChOk c) : (Str.join SL (c.map letF)).length ≤ 900 := by
  have h1 := pathC_len h
  rw [← pathC_join h.lim, Str.length_append] at h1
  lia
theorem path_second {c : List Nat} (h : ChOk c) (hn : c ≠ []) : ∃ b r, (pathC c).cps.toList = 47 :: b :: r ∧ b ≠ 47 := by
  cases c with
  | nil => exact absurd rfl hn
  | cons k c =>
    have := h.lim k (.head _)
    exact ⟨96 + k, c.flatMap fun k => [47, 96 + k], by rw [pathC_list h.lim hn]; rfl, by lia⟩
theorem ne_SL {x : Str} {b : Nat} (h : x.cps.toList = [b]) (hb : b ≠ 47) : (x != SL) = true := by
  rw [bne_iff_ne]
  intro e
  rw [e, SL_list] at h
  simp at h
  lia
theorem eq_SL {x : Str} (h : x.cps.toList = [47]) : (x != SL) = false := by
  have : x = SL := str_ext (h.trans SL_list.symm)
  rw [this]; simp
theorem way_up {c : List Nat} (h : ChOk c) (hn : c ≠ []) : WayOk (pathC c) (Str.ofString "..") := by
  obtain ⟨b, r, h1, h2⟩ := path_second h hn
  obtain ⟨a, l, h3, h4⟩ := path_last h hn
  have h5 := pathC_len h
  have hd := h.sub (List.dropLast_sublist c)
  have h6 := pathC_len hd
  have h7 := joinF_len (pathC c) (Str.ofString "..")
  have h8 : (Str.ofString "..").length = 2 := by rw [len_list, DD_list]; rfl
  have h9 : (joinF (pathC c) (Str.ofString "..")).cps.toList = 47 :: b :: (r ++ [47, 46, 46]) := by rw [joinF_no h3 h4, app_list, app_list, SL_list, DD_list, h1]; simp
  have h10 := norm_up h hn
  refine ⟨by decide +kernel, by lia, by lia, by lia, eq_SL (slice_to1 h9), ne_SL (slice_12 h9) h2, ?_, ?_, ?_, ?_⟩
  · have h11 : Str.join SL (normL (Txt.split (Txt.slice (joinF (pathC c) (Str.ofString "..")) (some 1) none) SL)) = Str.join SL (c.dropLast.map letF) := by
      unfold normF at h10
      rw [txt_join, ← pathC_join hd.lim] at h10
      have h12 := congrArg (fun s : Str => s.cps.toList) h10
      simp only [app_list] at h12
      exact str_ext (List.append_cancel_left h12)
    rw [txt_join, h11]; exact join_short hd
  · rw [h10, path_lower hd]; exact path_ok hd
  · rw [h10]; lia
  · rw [h10, path_lower hd]; lia
theorem way_let {c : List Nat} {k : Nat} (h : ChOk (c ++ [k])) : WayOk (pathC c) (letF k) := by
  have hn : c ++ [k] ≠ [] := by simp
  obtain ⟨b, r, h1, h2⟩ := path_second h hn
  have h5 := pathC_len h
  have hk := h.lim k (by simp)
  have h10 := norm_path h hn
  have e9 := pathC_snoc c k
  refine ⟨letF_ok k (by lia), by rw [letF_len]; decide, ?_, ?_, ?_, ?_, ?_, ?_, ?_, ?_⟩
  all_goals rw [e9]
  · lia
  · lia
  · exact eq_SL (slice_to1 h1)
  · exact ne_SL (slice_12 h1) h2
  · have h11 : Str.join SL (normL (Txt.split (Txt.slice (pathC (c ++ [k])) (some 1) none) SL)) = Str.join SL ((c ++ [k]).map letF) := by
      unfold normF at h10
      rw [txt_join, ← pathC_join h.lim] at h10
      have h12 := congrArg (fun s : Str => s.cps.toList) h10
      simp only [app_list] at h12
      rw [pathC_join h.lim] at h12
      exact str_ext (List.append_cancel_left h12)
    rw [txt_join, h11]; exact join_short h
  · rw [h10, path_lower h]; exact path_ok h
  · rw [h10]; lia
  · rw [h10, path_lower h]; lia
-- the common path
theorem lcpL_comm : ∀ a b : List Str, lcpL a b = lcpL b a
  | [], [] => rfl
  | [], _ :: _ => rfl
  | _ :: _, [] => rfl
  | x :: a, y :: b => by
    unfold lcpL
    by_cases e : x = y
    · subst e; rw [if_pos rfl, if_pos rfl, lcpL_comm a b]
    · rw [if_neg e, if_neg (Ne.symm e)]
theorem strLt_let0 : ∀ j, j < 9 → ∀ k, k < 9 → strLt (letF (j + 1)) (letF (k + 1)) = decide (j < k) := by decide +kernel
theorem strLt_let {j k : Nat} (hj : 1 ≤ j ∧ j ≤ 9) (hk : 1 ≤ k ∧ k ≤ 9) : strLt (letF j) (letF k) = decide (j < k) := by
  have h := strLt_let0 (j - 1) (by lia) (k - 1) (by lia)
  rw [show j - 1 + 1 = j by lia, show k - 1 + 1 = k by lia] at h
  rw [h]
  by_cases e : j < k
  · rw [decide_eq_true e, decide_eq_true (by lia)]
  · rw [decide_eq_false e, decide_eq_false (by lia)]
theorem ltL_tri : ∀ {c d : List Nat}, (∀ k ∈ c, 1 ≤ k ∧ k ≤ 9) → (∀ k ∈ d, 1 ≤ k ∧ k ≤ 9) → (ltL (c.map letF) (d.map letF) = true ∧ ltL (d.map letF) (c.map letF) = false) ∨ (ltL (c.map letF) (d.map letF) = false ∧ ltL (d.map letF) (c.map letF) = true) ∨ c = d
  | [], [], _, _ => .inr (.inr rfl)
  | [], _ :: _, _, _ => .inl ⟨by simp [ltL], by simp [ltL]⟩
  | _ :: _, [], _, _ => .inr (.inl ⟨by simp [ltL], by simp [ltL]⟩)
  | j :: c, k :: d, hc, hd => by
    have hj := hc j (.head _)
    have hk := hd k (.head _)
    by_cases e : j = k
    · subst e
      have h1 := ltL_tri (c := c) (d := d) (fun x hx => hc x (.tail _ hx)) (fun x hx => hd x (.tail _ hx))
      simp only [List.map_cons, ltL, if_true]
      rcases h1 with h1 | h1 | h1
      · exact .inl h1
      · exact .inr (.inl h1)
      · exact .inr (.inr (by rw [h1]))
    · have e2 : letF j ≠ letF k := fun h => e (letF_inj hj hk h)
      simp only [List.map_cons, ltL, if_neg e2, if_neg (Ne.symm e2), strLt_let hj hk, strLt_let hk hj]
      by_cases h : j < k
      · exact .inl ⟨decide_eq_true h, decide_eq_false (by lia)⟩
      · exact .inr (.inl ⟨decide_eq_false h, decide_eq_true (by lia)⟩)
theorem lcpL_map : ∀ {c d : List Nat}, (∀ k ∈ c, 1 ≤ k ∧ k ≤ 9) → (∀ k ∈ d, 1 ≤ k ∧ k ≤ 9) → lcpL (c.map letF) (d.map letF) = (c.take (lcpN c d)).map letF
  | [], [], _, _ => rfl
  | [], _ :: _, _, _ => rfl
  | _ :: _, [], _, _ => rfl
  | j :: c, k :: d, hc, hd => by
    rw [List.map_cons, List.map_cons, lcpL, lcpN]
    by_cases e : j = k
    · subst e
      rw [if_pos rfl, if_pos rfl, lcpL_map (fun x hx => hc x (.tail _ hx)) (fun x hx => hd x (.tail _ hx))]; rfl
    · rw [if_neg (fun h => e (letF_inj (hc j (.head _)) (hd k (.head _)) h)), if_neg e]; rfl
theorem lcp_minmax {c d : List Nat} (hc : ∀ k ∈ c, 1 ≤ k ∧ k ≤ 9) (hd : ∀ k ∈ d, 1 ≤ k ∧ k ≤ 9) : lcpL (minL (c.map letF) (d.map letF)) (maxL (c.map letF) (d.map letF)) = (c.take (lcpN c d)).map letF := by
  unfold minL maxL
  rcases ltL_tri hc hd with ⟨h1, h2⟩ | ⟨h1, h2⟩ | rfl
  · rw [h1, h2, if_neg Bool.false_ne_true, if_pos rfl, lcpL_map hc hd]
  · rw [h1, h2, if_neg Bool.false_ne_true, if_pos rfl, lcpL_comm, lcpL_map hc hd]
  · rw [ite_self, lcpL_map hc hc]
theorem common_path {c d : List Nat} (hc : ChOk c) (hd : ChOk d) : commonF (pathC c) (pathC d) = pathC (c.take (lcpN c d)) := by
  unfold commonF
  rw [comps_path hc, comps_path hd, lcp_minmax hc.lim hd.lim, txt_join, pathC_join (hc.sub (List.take_sublist _ _)).lim]
theorem common_short {c d : List Nat} (hc : ChOk c) (hd : ChOk d) : (Txt.join SL (lcpL (minL (compsF (pathC c)) (compsF (pathC d))) (maxL (compsF (pathC c)) (compsF (pathC d))))).length ≤ 900 := by
  rw [comps_path hc, comps_path hd, lcp_minmax hc.lim hd.lim, txt_join]
  exact join_short (hc.sub (List.take_sublist _ _))
theorem steps_path {c d : List Nat} (hc : ChOk c) (hd : ChOk d) : stepsF (pathC c) (pathC d) = (c.length : Int) + d.length - 2 * lcpN c d := by
  have h1 := lcpN_le c d
  unfold stepsF
  rw [common_path hc hd, depth_path hc, depth_path hd, depth_path (hc.sub (List.take_sublist _ _)), List.length_take, Nat.min_eq_left h1]
end Mine


end
namespace Mine
noncomputable def HOk (es : List (Int × Str)) : Prop := ∀ i, 0 < i → i < es.length → (es.getD ((i - 1) / 2) e0).1 ≤ (es.getD i e0).1
theorem getD_set {α : Type} {es : List α} {i j : Nat} {x d : α} : (es.set i x).getD j d = if i = j ∧ j < es.length then x else es.getD j d := by
  rw [List.getD_eq_getElem?_getD, List.getElem?_set, List.getD_eq_getElem?_getD]
  by_cases h : i = j
  · subst h
    by_cases h2 : i < es.length
    · simp [h2]
    · simp [h2]
  · simp [h]
theorem sdGo_ok (hlt : ∀ a b, ltE a b = true → a.1 ≤ b.1) (hge : ∀ a b, ltE a b = false → b.1 ≤ a.1) (new : Int × Str) : ∀ (pos : Nat) (es : List (Int × Str)), pos < es.length →
    (∀ i, 0 < i → i < es.length → i ≠ pos → (i - 1) / 2 ≠ pos → (es.getD ((i - 1) / 2) e0).1 ≤ (es.getD i e0).1) →
    (∀ i, 0 < i → i < es.length → (i - 1) / 2 = pos → new.1 ≤ (es.getD i e0).1 ∧ (0 < pos → (es.getD ((pos - 1) / 2) e0).1 ≤ (es.getD i e0).1)) → HOk (sdGo new pos es) := by
  intro pos
  induction pos using Nat.strongRecOn with
  | _ pos ih =>
    intro es h h1 h2
    rw [sdGo]
    split
    · rename_i h0; subst h0
      intro i hi hl
      rw [List.length_set] at hl
      rw [getD_set, getD_set]
      have hi0 : i ≠ 0 := by lia
      by_cases hp : (i - 1) / 2 = 0
      · rw [if_pos ⟨hp.symm, by lia⟩, if_neg (by lia)]
        exact (h2 i hi hl hp).1
      · rw [if_neg (by lia), if_neg (by lia)]
        exact h1 i hi hl hi0 hp
    · rename_i h0
      have hq : (pos - 1) / 2 < pos := by lia
      split
      · rename_i hn
        have hn1 := hlt _ _ hn
        refine ih _ hq _ (by rw [List.length_set]; lia) ?_ ?_
        · intro i hi hl hne hpe
          rw [List.length_set] at hl
          rw [getD_set, getD_set]
          by_cases e1 : i = pos
          · subst e1; lia
          · rw [if_neg (c := _ ∧ i < _) (by lia)]
            by_cases e2 : (i - 1) / 2 = pos
            · rw [if_pos ⟨e2.symm, by lia⟩]
              exact (h2 i hi hl e2).2 (by lia)
            · rw [if_neg (by lia)]
              exact h1 i hi hl e1 e2
        · intro i hi hl hpe
          rw [List.length_set] at hl
          rw [getD_set]
          have hpp : 0 < (pos - 1) / 2 → ((es.set pos (es.getD ((pos - 1) / 2) e0)).getD (((pos - 1) / 2 - 1) / 2) e0).1 ≤ (es.getD ((pos - 1) / 2) e0).1 := by
            intro h3
            rw [getD_set, if_neg (by lia)]
            exact h1 _ h3 (by lia) (by lia) (by lia)
          by_cases e1 : pos = i
          · rw [if_pos ⟨e1, hl⟩]
            exact ⟨hn1, hpp⟩
          · rw [if_neg (by lia)]
            have h4 := h1 i hi hl (by lia) (by lia)
            rw [hpe] at h4
            exact ⟨Int.le_trans hn1 h4, fun h3 => Int.le_trans (hpp h3) h4⟩
      · rename_i hn
        have hn1 := hge new (es.getD ((pos - 1) / 2) e0) (by simpa using hn)
        intro i hi hl
        rw [List.length_set] at hl
        rw [getD_set, getD_set]
        by_cases e1 : pos = i
        · subst e1
          rw [if_neg (by lia), if_pos ⟨rfl, h⟩]
          exact hn1
        · rw [if_neg (c := _ ∧ i < _) (by lia)]
          by_cases e2 : (i - 1) / 2 = pos
          · rw [if_pos ⟨e2.symm, by lia⟩]
            exact (h2 i hi hl e2).1
          · rw [if_neg (by lia)]
            exact h1 i hi hl (by lia) e2
theorem suGo_ok (hlt : ∀ a b, ltE a b = true → a.1 ≤ b.1) (hge : ∀ a b, ltE a b = false → b.1 ≤ a.1) (new : Int × Str) : ∀ (n pos : Nat) (es : List (Int × Str)), es.length - pos = n → pos < es.length →
    (∀ i, 0 < i → i < es.length → i ≠ pos → (i - 1) / 2 ≠ pos → (es.getD ((i - 1) / 2) e0).1 ≤ (es.getD i e0).1) →
    (∀ i, 0 < i → i < es.length → (i - 1) / 2 = pos → (0 < pos → (es.getD ((pos - 1) / 2) e0).1 ≤ (es.getD i e0).1)) → HOk (suGo new pos es) := by
  intro n
  induction n using Nat.strongRecOn with
  | _ n ih =>
    intro pos es hn h h1 h2
    rw [suGo]
    split
    · rename_i hc
      have hcl := suC_len hc
      have hcg := @suC_lt pos es
      have hcp : (suC pos es - 1) / 2 = pos := by unfold suC; split <;> lia
      have hmin : ∀ i, 0 < i → i < es.length → (i - 1) / 2 = pos → (es.getD (suC pos es) e0).1 ≤ (es.getD i e0).1 := by
        intro i hi hl hp
        have hi2 : i = 2 * pos + 1 ∨ i = 2 * pos + 2 := by lia
        unfold suC
        split
        · rename_i h3
          rcases hi2 with rfl | rfl
          · exact hge _ _ h3.2
          · exact Int.le_refl _
        · rename_i h3
          rcases hi2 with rfl | rfl
          · exact Int.le_refl _
          · refine hlt _ _ ?_
            cases h4 : ltE (es.getD (2 * pos + 1) e0) (es.getD (2 * pos + 2) e0) with
            | true => rfl
            | false => exact absurd ⟨hl, h4⟩ h3
      refine ih (es.length - suC pos es) (by lia) (suC pos es) _ (by rw [List.length_set]) (by rw [List.length_set]; exact hcl) ?_ ?_
      · intro i hi hl hne hpe
        rw [List.length_set] at hl
        rw [getD_set, getD_set]
        by_cases e1 : pos = i
        · subst e1
          rw [if_neg (by lia), if_pos ⟨rfl, h⟩]
          exact h2 _ (by lia) hcl hcp hi
        · rw [if_neg (c := _ ∧ i < _) (by lia)]
          by_cases e2 : (i - 1) / 2 = pos
          · rw [if_pos ⟨e2.symm, by lia⟩]
            exact hmin i hi hl e2
          · rw [if_neg (by lia)]
            exact h1 i hi hl (by lia) e2
      · intro i hi hl hpe h3
        rw [List.length_set] at hl
        rw [getD_set, getD_set, hcp, if_pos ⟨rfl, h⟩, if_neg (by lia)]
        have h4 := h1 i hi hl (by lia) (by lia)
        rw [hpe] at h4
        exact h4
    · rename_i hc
      refine sdGo_ok hlt hge new pos _ (by rw [List.length_set]; exact h) ?_ ?_
      · intro i hi hl hne hpe
        rw [List.length_set] at hl
        rw [getD_set, getD_set, if_neg (by lia), if_neg (by lia)]
        exact h1 i hi hl hne hpe
      · intro i hi hl hpe
        rw [List.length_set] at hl
        lia
theorem pushF_ok (hlt : ∀ a b, ltE a b = true → a.1 ≤ b.1) (hge : ∀ a b, ltE a b = false → b.1 ≤ a.1) {e : Int × Str} {es : List (Int × Str)} (h : HOk es) : HOk (pushF e es) := by
  refine sdGo_ok hlt hge e es.length (es ++ [e]) (by simp) ?_ ?_
  · intro i hi hl hne _
    rw [List.length_append, List.length_singleton] at hl
    have e1 : ∀ j, j < es.length → (es ++ [e]).getD j e0 = es.getD j e0 := fun j hj => by
      rw [List.getD_eq_getElem?_getD, List.getElem?_append_left hj, List.getD_eq_getElem?_getD]
    rw [e1 i (by lia), e1 _ (by lia)]
    exact h i hi (by lia)
  · intro i hi hl hp
    rw [List.length_append, List.length_singleton] at hl
    lia
theorem popF_ok (hlt : ∀ a b, ltE a b = true → a.1 ≤ b.1) (hge : ∀ a b, ltE a b = false → b.1 ≤ a.1) {l : Int × Str} {es : List (Int × Str)} (h : HOk (es ++ [l])) : HOk (popF l es) := by
  unfold popF
  split
  · intro i hi hl; simp at hl
  · rename_i he
    have hp : 0 < es.length := List.length_pos_iff.mpr he
    refine suGo_ok hlt hge l _ 0 _ rfl (by rw [List.length_set]; exact hp) ?_ (fun i _ _ _ h3 => absurd h3 (Nat.lt_irrefl 0))
    intro i hi hl hne hpe
    rw [List.length_set] at hl
    have e1 : ∀ j, j < es.length → (es ++ [l]).getD j e0 = es.getD j e0 := fun j hj => by
      rw [List.getD_eq_getElem?_getD, List.getElem?_append_left hj, List.getD_eq_getElem?_getD]
    rw [getD_set, getD_set, if_neg (by lia), if_neg (by lia), ← e1 i hl, ← e1 _ (by lia)]
    exact h i hi (by rw [List.length_append]; lia)
theorem HOk.root {es : List (Int × Str)} (h : HOk es) : ∀ i, i < es.length → (es.getD 0 e0).1 ≤ (es.getD i e0).1 := by
  intro i
  induction i using Nat.strongRecOn with
  | _ i ih =>
    intro hl
    by_cases h0 : i = 0
    · subst h0; exact Int.le_refl _
    · exact Int.le_trans (ih ((i - 1) / 2) (by lia) (by lia)) (h i (by lia) hl)
theorem popTop_head {l : Int × Str} {es : List (Int × Str)} : popTop l es = (es ++ [l]).getD 0 e0 := by
  unfold popTop
  cases es with
  | nil => rfl
  | cons a r => rfl
theorem popTop_le {l : Int × Str} {es : List (Int × Str)} (h : HOk (es ++ [l])) : ∀ e ∈ es ++ [l], (popTop l es).1 ≤ e.1 := by
  intro e he
  obtain ⟨i, hi, e1⟩ := List.getElem_of_mem he
  have h1 := h.root i hi
  rw [popTop_head]
  rw [List.getD_eq_getElem?_getD (i := i), List.getElem?_eq_getElem hi, e1] at h1
  exact h1
theorem flatMap_cong {α β : Type} {f g : α → List β} : ∀ {l : List α}, (∀ a ∈ l, f a = g a) → l.flatMap f = l.flatMap g
  | [], _ => rfl
  | a :: l, h => by rw [List.flatMap_cons, List.flatMap_cons, h a (.head _), flatMap_cong fun x hx => h x (.tail _ hx)]
theorem getD_map {α β : Type} (f : α → β) {l : List α} {k : Nat} (h : k < l.length) (d : β) (e : α) : (l.map f).getD k d = f (l.getD k e) := by
  rw [List.getD_eq_getElem?_getD, List.getElem?_map, List.getElem?_eq_getElem h, List.getD_eq_getElem?_getD, List.getElem?_eq_getElem h]; rfl
noncomputable def parO (os : List Int) (k : Nat) : Nat := (os.getD k 0).toNat
noncomputable def chL (os : List Int) : Nat → List (List Nat)
  | 0 => [[]]
  | i + 1 => chL os i ++ [(chL os i).getD (parO os (i + 1)) [] ++ [i + 1]]
noncomputable def chF (os : List Int) (k : Nat) : List Nat := (chL os (os.length - 1)).getD k []
noncomputable def pathO (os : List Int) (k : Nat) : Str := pathC (chF os k)
theorem chL_len (os : List Int) : ∀ i, (chL os i).length = i + 1
  | 0 => rfl
  | i + 1 => by rw [chL, List.length_append, chL_len os i]; rfl
theorem chL_get (os : List Int) {k : Nat} : ∀ {i j : Nat}, k ≤ i → i ≤ j → (chL os j).getD k [] = (chL os i).getD k [] := by
  intro i j hk hij
  induction j with
  | zero => rw [show i = 0 by lia]
  | succ j ih =>
    by_cases e : i = j + 1
    · rw [e]
    · rw [← ih (by lia), chL, List.getD_eq_getElem?_getD, List.getElem?_append_left (by rw [chL_len]; lia), List.getD_eq_getElem?_getD]
theorem parO_lt {os : List Int} (hO : OverOk os) : ∀ k, 1 ≤ k → k < os.length → parO os k < k := by
  intro k h1 h2
  have h3 := hO.lo (k - 1) (by lia)
  have h4 := hO.hi (k - 1) (by lia)
  rw [show k - 1 + 1 = k by lia] at h3 h4
  unfold parO
  lia
theorem chain_ok {os : List Int} (hO : OverOk os) : Chain os.length (parO os) (chF os) := by
  refine ⟨parO_lt hO, ?_, ?_⟩
  · unfold chF
    rw [chL_get os (i := 0) (Nat.le_refl 0) (Nat.zero_le _)]; rfl
  · intro k h1 h2
    have h3 := parO_lt hO k h1 h2
    unfold chF
    rw [chL_get os (i := k) (Nat.le_refl k) (by lia)]
    obtain ⟨j, rfl⟩ : ∃ j, k = j + 1 := ⟨k - 1, by lia⟩
    rw [chL, List.getD_eq_getElem?_getD, List.getElem?_append_right (by rw [chL_len]; lia), chL_len, Nat.sub_self]
    simp only [List.getElem?_cons_zero, Option.getD_some]
    rw [chL_get os (i := j) (j := os.length - 1) (by lia) (by lia)]
theorem chF_sub {os : List Int} (hO : OverOk os) : ∀ k, k < os.length → (chF os k).Sublist (List.range' 1 k) := by
  intro k
  induction k using Nat.strongRecOn with
  | _ k ih =>
    intro hk
    have H := chain_ok hO
    by_cases e : k = 0
    · subst e; rw [H.c0]; exact List.nil_sublist _
    · have h1 := H.hp k (by lia) hk
      rw [H.cs k (by lia) hk]
      obtain ⟨j, rfl⟩ : ∃ j, k = j + 1 := ⟨k - 1, by lia⟩
      rw [List.range'_concat]
      refine List.Sublist.append ((ih (parO os (j + 1)) h1 (by lia)).trans ?_) (by simp [Nat.add_comm])
      exact List.range'_sublist_right.mpr (by lia)
theorem chF_ok {os : List Int} (hO : OverOk os) {k : Nat} (hk : k < os.length) : ChOk (chF os k) := by
  have h := chF_sub hO k hk
  have h0 := hO.len
  refine ⟨fun x hx => ?_, ?_⟩
  · have h1 := List.mem_range'_1.mp (h.subset hx)
    lia
  · have h1 := h.length_le
    rw [List.length_range'] at h1
    lia
theorem path_inj' {os : List Int} (hO : OverOk os) {j k : Nat} (hj : j < os.length) (hk : k < os.length) (h : pathO os j = pathO os k) : j = k := by
  have h1 := path_inj (chF_ok hO hj) (chF_ok hO hk) h
  have H := chain_ok hO
  by_cases ej : j = 0
  · by_cases ek : k = 0
    · lia
    · have h2 := H.self (by lia) hk
      rw [← h1, ej, H.c0] at h2; cases h2
  · by_cases ek : k = 0
    · have h2 := H.self (by lia) hj
      rw [h1, ek, H.c0] at h2; cases h2
    · have h2 := H.self (by lia) hj
      have h3 := H.self (by lia) hk
      rw [h1] at h2
      rw [← h1] at h3
      have h4 := H.mem hk h2
      have h5 := H.mem hj h3
      lia
theorem path_eq {os : List Int} (hO : OverOk os) {j k : Nat} (hj : j < os.length) (hk : k < os.length) : (pathO os j = pathO os k) = (j = k) := propext ⟨path_inj' hO hj hk, fun h => by rw [h]⟩
theorem places_path {os : List Int} (hO : OverOk os) : ∀ i, placesN os i = (chL os i).map pathC
  | 0 => rfl
  | i + 1 => by
    have ih := places_path hO i
    rw [placesN, chL, List.map_append, ih]
    congr 1
    have h1 : ((chL os i).map pathC).getD (os.getD (i + 1) 0).toNat (Str.ofString "") = pathC ((chL os i).getD (parO os (i + 1)) []) ∨ i + 1 ≥ os.length := by
      by_cases h : i + 1 < os.length
      · left
        have h2 := parO_lt hO (i + 1) (by lia) h
        have h3 : parO os (i + 1) < (chL os i).length := by rw [chL_len]; lia
        exact getD_map pathC h3 _ _
      · right; lia
    rcases h1 with h1 | h1
    · rw [h1, pathC_snoc]; rfl
    · have h2 : os.getD (i + 1) 0 = 0 := by rw [List.getD_eq_getElem?_getD, List.getElem?_eq_none h1]; rfl
      have h3 : 0 < (chL os i).length := by rw [chL_len]; lia
      unfold parO
      rw [h2, Int.toNat_zero, List.getD_eq_getElem?_getD, List.getElem?_map, List.getElem?_eq_getElem h3, List.getD_eq_getElem?_getD, List.getElem?_eq_getElem h3]
      show [joinF (pathC _) _] = [pathC _]
      rw [pathC_snoc]; rfl
theorem places_eq {os : List Int} (hO : OverOk os) : placesN os (os.length - 1) = (List.range os.length).map (pathO os) := by
  have h0 := hO.pos
  rw [places_path hO]
  refine List.ext_getElem? fun k => ?_
  rw [List.getElem?_map, List.getElem?_map]
  by_cases h : k < os.length
  · have h1 : k < (chL os (os.length - 1)).length := by rw [chL_len]; lia
    rw [List.getElem?_eq_getElem h1, List.getElem?_range h]
    show some (pathC _) = some (pathC (chF os k))
    unfold chF
    rw [List.getD_eq_getElem?_getD, List.getElem?_eq_getElem h1]; rfl
  · rw [List.getElem?_eq_none (by rw [chL_len]; lia), List.getElem?_eq_none (by rw [List.length_range]; lia)]; rfl
theorem places_get {os : List Int} (hO : OverOk os) {k : Nat} (hk : k < os.length) : (placesN os (os.length - 1)).getD k (Str.ofString "") = pathO os k := by
  rw [places_eq hO, List.getD_eq_getElem?_getD, List.getElem?_map, List.getElem?_range hk]; rfl
-- the rows
noncomputable def rowsA (os : List Int) (al : Nat → Bool) : List (Str × Str) :=
  (List.range (os.length - 1)).flatMap fun i => (if al (i + 1) = true then [(pathO os (i + 1), Str.ofString "..")] else []) ++ (if al (parO os (i + 1)) = true then [(Txt.upper (pathO os (parO os (i + 1))), letF (i + 1))] else [])
noncomputable def esA (os : List Int) (al : Nat → Bool) (w : Nat → Int) : List (Str × Int) := ((List.range os.length).filter al).map fun j => (pathO os j, w j)
theorem links_rows {os : List Int} (hO : OverOk os) {al : Nat → Bool} (hal : ∀ k, k < os.length → al k = true) : linksN os (placesN os (os.length - 1)) (os.length - 1) = rowsA os al := by
  have key : ∀ m, m ≤ os.length - 1 → linksN os (placesN os (os.length - 1)) m = (List.range m).flatMap fun i => (if al (i + 1) = true then [(pathO os (i + 1), Str.ofString "..")] else []) ++ (if al (parO os (i + 1)) = true then [(Txt.upper (pathO os (parO os (i + 1))), letF (i + 1))] else []) := by
    intro m
    induction m with
    | zero => intro _; rfl
    | succ m ih =>
      intro hm
      have h1 := parO_lt hO (m + 1) (by lia) (by lia)
      rw [linksN, ih (by lia), List.range_succ, List.flatMap_append, places_get hO (by lia), places_get hO (by unfold parO at h1; lia), List.flatMap_cons, List.flatMap_nil, if_pos (hal _ (by lia)), if_pos (hal _ (by lia))]
      rfl
  exact key _ (Nat.le_refl _)
theorem lower_path {os : List Int} (hO : OverOk os) {k : Nat} (hk : k < os.length) : Txt.lower (pathO os k) = pathO os k := path_lower (chF_ok hO hk)
theorem lowup_path {os : List Int} (hO : OverOk os) {k : Nat} (hk : k < os.length) : Txt.lower (Txt.upper (pathO os k)) = pathO os k := path_lowup (chF_ok hO hk)
theorem del_rows {os : List Int} (hO : OverOk os) {al : Nat → Bool} {l : Nat} (hl : l < os.length) : delR (rowsA os al) (Txt.lower (pathO os l)) = rowsA os (rid al l) := by
  unfold delR rowsA
  rw [List.filter_flatMap]
  refine flatMap_cong fun i hi => ?_
  have hi := List.mem_range.mp hi
  have h1 := parO_lt hO (i + 1) (by lia) (by lia)
  rw [List.filter_append]
  congr 1
  · by_cases h : al (i + 1) = true
    · rw [if_pos h, List.filter_cons]
      simp only [lower_path hO hl, lower_path hO (show i + 1 < os.length by lia), bne_iff_ne, ne_eq, path_eq hO (show i + 1 < os.length by lia) hl, List.filter_nil]
      by_cases e : i + 1 = l
      · rw [if_neg (fun h => h e), if_neg (fun h => (rid_iff.mp h).2 e)]
      · rw [if_pos e, if_pos (rid_iff.mpr ⟨h, e⟩)]
    · rw [if_neg h, if_neg (fun h2 => h (rid_iff.mp h2).1)]; rfl
  · by_cases h : al (parO os (i + 1)) = true
    · rw [if_pos h, List.filter_cons]
      simp only [lower_path hO hl, lowup_path hO (show parO os (i + 1) < os.length by lia), bne_iff_ne, ne_eq, path_eq hO (show parO os (i + 1) < os.length by lia) hl, List.filter_nil]
      by_cases e : parO os (i + 1) = l
      · rw [if_neg (fun h => h e), if_neg (fun h => (rid_iff.mp h).2 e)]
      · rw [if_pos e, if_pos (rid_iff.mpr ⟨h, e⟩)]
    · rw [if_neg h, if_neg (fun h2 => h (rid_iff.mp h2).1)]; rfl
theorem getAll_rows {os : List Int} (hO : OverOk os) {al : Nat → Bool} {j : Nat} (hj : j < os.length) (ha : al j = true) : getAllR (rowsA os al) (Txt.lower (pathO os j)) =
    (List.range (os.length - 1)).flatMap fun i => (if i + 1 = j then [Str.ofString ".."] else []) ++ (if parO os (i + 1) = j then [letF (i + 1)] else []) := by
  unfold getAllR rowsA
  rw [List.filter_flatMap, List.map_flatMap]
  refine flatMap_cong fun i hi => ?_
  have hi := List.mem_range.mp hi
  have h1 := parO_lt hO (i + 1) (by lia) (by lia)
  rw [List.filter_append, List.map_append]
  congr 1
  · by_cases e : i + 1 = j
    · subst e
      rw [if_pos ha, if_pos rfl, List.filter_cons, if_pos (by simp)]; rfl
    · rw [if_neg e]
      by_cases h : al (i + 1) = true
      · rw [if_pos h, List.filter_cons, if_neg]
        · rfl
        · simp only [lower_path hO hj, lower_path hO (show i + 1 < os.length by lia), beq_iff_eq, path_eq hO (show i + 1 < os.length by lia) hj]
          exact e
      · rw [if_neg h]; rfl
  · by_cases e : parO os (i + 1) = j
    · rw [if_pos e, e, if_pos ha, List.filter_cons, if_pos]
      · rfl
      · simp only [lower_path hO hj, lowup_path hO hj, beq_self_eq_true]
    · rw [if_neg e]
      by_cases h : al (parO os (i + 1)) = true
      · rw [if_pos h, List.filter_cons, if_neg]
        · rfl
        · simp only [lower_path hO hj, lowup_path hO (show parO os (i + 1) < os.length by lia), beq_iff_eq, path_eq hO (show parO os (i + 1) < os.length by lia) hj]
          exact e
      · rw [if_neg h]; rfl
theorem hasKey_rows {os : List Int} (hO : OverOk os) (hn : 2 ≤ os.length) {al : Nat → Bool} {g : Nat} (hg : g < os.length) : hasKey (rowsA os al) (Txt.lower (pathO os g)) = al g := by
  rw [Bool.eq_iff_iff]
  unfold hasKey rowsA
  rw [List.any_eq_true]
  constructor
  · rintro ⟨p, hp, h⟩
    obtain ⟨i, hi, hp⟩ := List.mem_flatMap.mp hp
    have hi := List.mem_range.mp hi
    have h1 := parO_lt hO (i + 1) (by lia) (by lia)
    rcases List.mem_append.mp hp with hp | hp
    · split at hp
      · rename_i h2
        rw [List.mem_singleton.mp hp] at h
        simp only [lower_path hO hg, lower_path hO (show i + 1 < os.length by lia), beq_iff_eq, path_eq hO (show i + 1 < os.length by lia) hg] at h
        rw [← h]; exact h2
      · cases hp
    · split at hp
      · rename_i h2
        rw [List.mem_singleton.mp hp] at h
        simp only [lower_path hO hg, lowup_path hO (show parO os (i + 1) < os.length by lia), beq_iff_eq, path_eq hO (show parO os (i + 1) < os.length by lia) hg] at h
        rw [← h]; exact h2
      · cases hp
  · intro h
    by_cases e : g = 0
    · have h1 := parO_lt hO 1 (by lia) (by lia)
      have h2 : parO os (0 + 1) = g := by rw [e]; simp only [Nat.zero_add]; lia
      refine ⟨(Txt.upper (pathO os (parO os (0 + 1))), letF (0 + 1)), List.mem_flatMap.mpr ⟨0, List.mem_range.mpr (by lia), List.mem_append_right _ ?_⟩, ?_⟩
      · rw [h2, if_pos h]; exact .head _
      · simp only [h2, lowup_path hO hg, lower_path hO hg, beq_self_eq_true]
    · refine ⟨(pathO os g, Str.ofString ".."), List.mem_flatMap.mpr ⟨g - 1, List.mem_range.mpr (by lia), List.mem_append_left _ ?_⟩, by simp⟩
      rw [show g - 1 + 1 = g by lia, if_pos h]; exact .head _
theorem neigh_rows {os : List Int} (hO : OverOk os) (hn : 2 ≤ os.length) {al : Nat → Bool} {j : Nat} (hj : j < os.length) (ha : al j = true) : neighR (rowsA os al) (pathO os j) = (nb os.length (parO os) al j).map (pathO os) := by
  have H := chain_ok hO
  have h1 : goalsR (rowsA os al) (pathO os j) = (nbL os.length (parO os) j).map (pathO os) := by
    unfold goalsR nbL
    rw [getAll_rows hO hj ha, List.map_flatMap, List.map_flatMap]
    refine flatMap_cong fun i hi => ?_
    have hi := List.mem_range.mp hi
    have h1 := parO_lt hO (i + 1) (by lia) (by lia)
    have hc := H.cs (i + 1) (by lia) (by lia)
    rw [List.map_append, List.map_append]
    congr 1
    · by_cases e : i + 1 = j
      · rw [if_pos e, if_pos e]
        show [normF _] = [pathC _]
        rw [← e]
        have h2 := norm_up (chF_ok hO (show i + 1 < os.length by lia)) (by rw [hc]; simp)
        rw [hc, List.dropLast_concat] at h2
        unfold pathO
        rw [hc, h2]
      · rw [if_neg e, if_neg e]; rfl
    · by_cases e : parO os (i + 1) = j
      · rw [if_pos e, if_pos e]
        show [normF _] = [pathC _]
        rw [← e]
        unfold pathO
        rw [pathC_snoc, ← hc, norm_path (chF_ok hO (show i + 1 < os.length by lia)) (by rw [hc]; simp)]
      · rw [if_neg e, if_neg e]; rfl
  unfold neighR nb
  rw [h1, List.filter_map]
  congr 1
  refine List.filter_congr fun g hg => ?_
  have hgn : g < os.length := by
    rcases mem_nbL.mp hg with ⟨a, b, c⟩ | ⟨a, b, c⟩
    · have := parO_lt hO j a b; lia
    · exact b
  exact hasKey_rows hO hn hgn
theorem place_ok {os : List Int} (hO : OverOk os) {al : Nat → Bool} {j : Nat} (hj : j < os.length) (ha : al j = true) : PlaceOk (rowsA os al) (pathO os j) := by
  have H := chain_ok hO
  have hc := chF_ok hO hj
  have h1 := pathC_len hc
  have h2 := lower_path hO hj
  refine ⟨h1.1, ?_, ?_, ?_, ?_⟩
  · show (pathC _).length ≤ _; lia
  · rw [h2]; exact path_ok hc
  · rw [h2]; show (pathC _).length ≤ _; lia
  · intro y hy
    rw [getAll_rows hO hj ha, List.mem_flatMap] at hy
    obtain ⟨i, hi, hy⟩ := hy
    have hi := List.mem_range.mp hi
    have hcs := H.cs (i + 1) (by lia) (by lia)
    rcases List.mem_append.mp hy with hy | hy
    · split at hy
      · rename_i e
        rw [List.mem_singleton.mp hy]
        refine way_up hc ?_
        rw [← e, hcs]; simp
      · cases hy
    · split at hy
      · rename_i e
        rw [List.mem_singleton.mp hy, ← e]
        refine way_let ?_
        rw [← hcs]
        exact chF_ok hO (by lia)
      · cases hy
theorem ltE_le (a b : Int × Str) (h : ltE a b = true) : a.1 ≤ b.1 := by
  unfold ltE at h
  split at h
  · lia
  · have := of_decide_eq_true h; lia
theorem ltE_ge (a b : Int × Str) (h : ltE a b = false) : b.1 ≤ a.1 := by
  unfold ltE at h
  split at h
  · lia
  · have := of_decide_eq_false h; lia
-- the loads below
noncomputable def ldF (ls : List Int) (k : Nat) : Int := ls.getD k 0
noncomputable def belB (os ls : List Int) (k : Nat) : Int := (belowF os ls).getD k 0
theorem bel_inv {os ls : List Int} (hO : OverOk os) (hl : ls.length = os.length) : ∀ i, i ≤ os.length - 1 → ∀ j, j < os.length →
    (belN os ls i).getD j 0 = ldF ls j + sm os.length fun c => if os.length - i ≤ c ∧ c ≠ 0 ∧ parO os c = j then (belN os ls i).getD c 0 else 0 := by
  intro i
  induction i with
  | zero =>
    intro _ j hj
    have : sm os.length (fun c => if os.length - 0 ≤ c ∧ c ≠ 0 ∧ parO os c = j then (belN os ls 0).getD c 0 else 0) = sm os.length (fun _ => 0) := sm_congr _ fun c hc => if_neg (by lia)
    rw [this, sm_zero]; unfold ldF belN; lia
  | succ i ih =>
    intro hi j hj
    have hk1 : 1 ≤ os.length - 1 - i := by lia
    have hk2 : os.length - 1 - i < os.length := by lia
    have hp := parO_lt hO _ hk1 hk2
    have hbl := belN_len os ls i
    have hs : ∀ c, (belN os ls (i + 1)).getD c 0 = (belN os ls i).getD c 0 + (if c = parO os (os.length - 1 - i) then (belN os ls i).getD (os.length - 1 - i) 0 else 0) := by
      intro c
      rw [belN]
      unfold belS
      unfold parO at hp ⊢
      rw [getD_set]
      by_cases e : (os.getD (os.length - 1 - i) 0).toNat = c
      · rw [if_pos ⟨e, by lia⟩, if_pos e.symm, e]
      · rw [if_neg (fun h => e h.1), if_neg (fun h => e h.symm)]; lia
    rw [hs j, ih (by lia) j hj]
    have h1 : sm os.length (fun c => if os.length - (i + 1) ≤ c ∧ c ≠ 0 ∧ parO os c = j then (belN os ls (i + 1)).getD c 0 else 0) =
        sm os.length (fun c => (if os.length - i ≤ c ∧ c ≠ 0 ∧ parO os c = j then (belN os ls i).getD c 0 else 0) + (if c = os.length - 1 - i then (if parO os c = j then (belN os ls i).getD c 0 else 0) else 0)) := sm_congr _ fun c hc => by
      by_cases e : c = os.length - 1 - i
      · subst e
        rw [if_pos rfl, if_neg (c := os.length - i ≤ _ ∧ _) (by lia), hs, if_neg (c := os.length - 1 - i = parO os (os.length - 1 - i)) (by lia)]
        by_cases e2 : parO os (os.length - 1 - i) = j
        · rw [if_pos ⟨by lia, by lia, e2⟩, if_pos e2]; lia
        · rw [if_neg (fun h => e2 h.2.2), if_neg e2]; rfl
      · rw [if_neg e]
        by_cases e2 : os.length - i ≤ c ∧ c ≠ 0 ∧ parO os c = j
        · rw [if_pos e2, if_pos ⟨by lia, e2.2⟩, hs, if_neg (by lia)]
        · rw [if_neg e2, if_neg (fun h => e2 ⟨by lia, h.2⟩)]; rfl
    rw [h1, sm_add, sm_one _ (fun c => if parO os c = j then (belN os ls i).getD c 0 else 0), if_pos hk2]
    by_cases e : j = parO os (os.length - 1 - i)
    · rw [if_pos e, if_pos e.symm]; lia
    · rw [if_neg e, if_neg (Ne.symm e)]; lia
theorem sm_list : ∀ (ls : List Int), sm ls.length (fun k => ls.getD k 0) = ls.sum := by
  have key : ∀ (ls : List Int) (m : Nat), m ≤ ls.length → sm m (fun k => ls.getD k 0) = (ls.take m).sum := by
    intro ls m
    induction m with
    | zero => intro _; simp [sm]
    | succ m ih =>
      intro h
      rw [sm, ih (by lia), List.take_add_one, List.getElem?_eq_getElem (by lia), List.sum_append, List.getD_eq_getElem?_getD, List.getElem?_eq_getElem (by lia)]
      simp
  intro ls
  rw [key ls ls.length (Nat.le_refl _), List.take_length]
theorem bel_eq {os ls : List Int} (hO : OverOk os) (hl : ls.length = os.length) {j : Nat} (hj : j < os.length) : belB os ls j = ldF ls j + sm os.length fun c => if c ≠ 0 ∧ parO os c = j then belB os ls c else 0 := by
  have h := bel_inv hO hl (os.length - 1) (Nat.le_refl _) j hj
  unfold belB belowF
  rw [h]
  congr 1
  refine sm_congr _ fun c hc => ?_
  by_cases e : c ≠ 0 ∧ parO os c = j
  · rw [if_pos e, if_pos ⟨by lia, e⟩]
  · rw [if_neg e, if_neg (fun h => e h.2)]
theorem bel_zero {os ls : List Int} (hO : OverOk os) (hl : ls.length = os.length) : belB os ls 0 = ls.sum := by
  have h0 := hO.pos
  have h1 : sm os.length (belB os ls) = sm os.length (fun j => ldF ls j + sm os.length fun c => if c ≠ 0 ∧ parO os c = j then belB os ls c else 0) := sm_congr _ fun j hj => bel_eq hO hl hj
  rw [sm_add, sm_swap] at h1
  have h2 : sm os.length (fun c => sm os.length fun j => if c ≠ 0 ∧ parO os c = j then belB os ls c else 0) = sm os.length (fun c => if c = 0 then 0 else belB os ls c) := sm_congr _ fun c hc => by
    by_cases e : c = 0
    · rw [if_pos e]
      have : sm os.length (fun j => if c ≠ 0 ∧ parO os c = j then belB os ls c else 0) = sm os.length (fun _ => 0) := sm_congr _ fun j _ => if_neg (fun h => h.1 e)
      rw [this, sm_zero]
    · rw [if_neg e]
      have h3 := parO_lt hO c (by lia) hc
      have : sm os.length (fun j => if c ≠ 0 ∧ parO os c = j then belB os ls c else 0) = sm os.length (fun j => if j = parO os c then belB os ls c else 0) := sm_congr _ fun j _ => by
        by_cases e2 : j = parO os c
        · rw [if_pos e2, if_pos ⟨e, e2.symm⟩]
        · rw [if_neg e2, if_neg (fun h => e2 h.2.symm)]
      rw [this, sm_one _ (fun _ => belB os ls c), if_pos (by lia)]
  rw [h2] at h1
  have h3 := sm_change (f := belB os ls) (g := fun c => if c = 0 then 0 else belB os ls c) (n := os.length) (a := 0) (by lia) (fun i _ hi => by simp only [if_neg hi])
  simp only [if_true] at h3
  have h4 : sm os.length (ldF ls) = ls.sum := by rw [← hl]; exact sm_list ls
  have h5 : sm os.length (fun j => ldF ls j) = ls.sum := h4
  lia
noncomputable def al0 (n : Nat) : Nat → Bool := fun k => decide (k < n)
theorem al0_iff {n k : Nat} : al0 n k = true ↔ k < n := by simp [al0]
theorem inv0 {os ls : List Int} (hO : OverOk os) (hl : ls.length = os.length) (hnn : ∀ x ∈ ls, 0 ≤ x) : Inv os.length (parO os) (chF os) (ldF ls) (belB os ls) ls.sum (al0 os.length) 0 (ldF ls) [] [] := by
  have h0 := hO.pos
  have hc : ∀ k, k < os.length → cs os.length (parO os) (al0 os.length) 0 (belB os ls) k = sm os.length fun c => if c ≠ 0 ∧ parO os c = k then belB os ls c else 0 := fun k _ => sm_congr _ fun c hc => by
    by_cases e : c ≠ 0 ∧ parO os c = k
    · rw [if_pos e, if_pos ⟨al0_iff.mpr hc, e⟩]
    · rw [if_neg e, if_neg (fun h => e h.2)]
  refine ⟨⟨al0_iff.mpr (by lia), fun k hk => al0_iff.mp hk, fun k _ => Nat.zero_le _, fun k hk hk0 => ?_⟩, ?_, ?_, ?_, List.nodup_nil, ?_, rfl, List.Pairwise.nil, ?_, ?_⟩
  · have h1 := al0_iff.mp hk
    have h2 := parO_lt hO k (by lia) h1
    exact al0_iff.mpr (by lia)
  · intro k hk
    have h1 := al0_iff.mp hk
    have h2 : k < ls.length := by lia
    unfold ldF
    rw [List.getD_eq_getElem?_getD, List.getElem?_eq_getElem h2]
    exact hnn _ (List.getElem_mem _)
  · intro k hk
    have h1 := al0_iff.mp hk
    rw [hc k h1, ← bel_eq hO hl h1]
    by_cases e : k = 0
    · rw [if_pos e, e, bel_zero hO hl]
    · rw [if_neg e]
  · have : sm os.length (fun k => if al0 os.length k = true then ldF ls k else 0) = sm os.length (ldF ls) := sm_congr _ fun k hk => if_pos (al0_iff.mpr hk)
    rw [this, ← hl]; exact sm_list ls
  · intro k
    constructor
    · intro h; cases h
    · rintro ⟨h1, h2, h3⟩
      rcases h3 with h3 | h3
      · rw [al0_iff.mpr h2] at h3; cases h3
      · lia
  · intro j _ _ c hc'; cases hc'
  · intro x _
    rw [List.sum_nil, Int.zero_add]
    exact sm_congr _ fun j hj => if_pos (al0_iff.mpr hj)
-- the run
structure Sim (os ls : List Int) (s : CSt) (al : Nat → Bool) (r : Nat) (w : Nat → Int) (ed : List Nat) : Prop where
  inv : Inv os.length (parO os) (chF os) (ldF ls) (belB os ls) ls.sum al r w ed s.car
  rs : s.rs = rowsA os al
  es : s.es = esA os al w
  hk : HOk s.hp
  heap : (∃ j x, al j = true ∧ al x = true ∧ x ≠ j) → ∃ L : List Nat, L.Nodup ∧ (∀ j, j ∈ L ↔ al j = true ∧ (nb os.length (parO os) al j).length = 1) ∧ s.hp.Perm (L.map fun j => (w j, pathO os j))
theorem mem_alive {n : Nat} {al : Nat → Bool} {j : Nat} (h : ∀ k, al k = true → k < n) : j ∈ (List.range n).filter al ↔ al j = true := by
  rw [List.mem_filter, List.mem_range]; exact ⟨fun h => h.2, fun h2 => ⟨h j h2, h2⟩⟩
theorem two_of_len {l : List Nat} (hn : l.Nodup) (h : 1 < l.length) : ∃ j x, j ∈ l ∧ x ∈ l ∧ x ≠ j := by
  match l, h with
  | a :: b :: r, _ =>
    rw [List.nodup_cons] at hn
    exact ⟨a, b, .head _, .tail _ (.head _), fun e => hn.1 (by rw [e]; exact .head _)⟩
theorem hp_split {α : Type} {hp : List α} {d : α} (h : hp ≠ []) : hp.dropLast ++ [hp.getLastD d] = hp := by
  rw [List.getLastD_eq_getLast?, List.getLast?_eq_some_getLast h]
  exact List.dropLast_concat_getLast h
theorem top_rest {hp : List (Int × Str)} (h : hp ≠ []) : (top1 hp :: rest1 hp).Perm hp := by
  have h1 := popF_perm (hp.getLastD e0) hp.dropLast
  rw [hp_split h] at h1
  exact h1
theorem top_le {hp : List (Int × Str)} (h : hp ≠ []) (hk : HOk hp) : ∀ e ∈ hp, (top1 hp).1 ≤ e.1 := by
  have h1 := popTop_le (l := hp.getLastD e0) (es := hp.dropLast) (by rw [hp_split h]; exact hk)
  rw [hp_split h] at h1
  exact h1
theorem rest_ok {hp : List (Int × Str)} (h : hp ≠ []) (hk : HOk hp) : HOk (rest1 hp) := popF_ok ltE_le ltE_ge (by rw [hp_split h]; exact hk)
theorem es_keys {os : List Int} {al : Nat → Bool} {w : Nat → Int} (hlt : ∀ k, al k = true → k < os.length) {j : Nat} (hj : al j = true) : pathO os j ∈ (esA os al w).map (·.1) := by
  unfold esA
  rw [List.map_map]
  exact List.mem_map.mpr ⟨j, (mem_alive hlt).mpr hj, rfl⟩
theorem es_del {os : List Int} (hO : OverOk os) {al : Nat → Bool} {w : Nat → Int} (hlt : ∀ k, al k = true → k < os.length) {l : Nat} (hl : l < os.length) : (esA os al w).filter (fun p => decide (p.1 ≠ pathO os l)) = esA os (rid al l) w := by
  unfold esA
  rw [List.filter_map, List.filter_filter]
  congr 1
  refine List.filter_congr fun j hj => ?_
  have hj := List.mem_range.mp hj
  show (decide (pathO os j ≠ pathO os l) && al j) = (al j && decide (j ≠ l))
  rw [Bool.and_comm]
  simp only [ne_eq, path_eq hO hj hl]
theorem es_load {os : List Int} (hO : OverOk os) {al : Nat → Bool} {w : Nat → Int} (hlt : ∀ k, al k = true → k < os.length) {g : Nat} (hg : al g = true) : loadOf (esA os al w) (pathO os g) = w g := by
  have key : ∀ l : List Nat, (∀ j ∈ l, j < os.length) → g ∈ l → ((l.map fun j => (pathO os j, w j)).find? fun p => p.1 = pathO os g) = some (pathO os g, w g) := by
    intro l
    induction l with
    | nil => intro _ h; cases h
    | cons j l ih =>
      intro h1 h2
      rw [List.map_cons, List.find?_cons]
      by_cases e : j = g
      · subst e; simp
      · have h3 : decide (pathO os j = pathO os g) = false := decide_eq_false (by rw [path_eq hO (h1 j (.head _)) (hlt g hg)]; exact e)
        simp only [h3]
        refine ih (fun x hx => h1 x (.tail _ hx)) ?_
        rcases List.mem_cons.mp h2 with h | h
        · exact absurd h.symm e
        · exact h
  unfold loadOf esA
  rw [key _ (fun j hj => List.mem_range.mp (List.mem_filter.mp hj).1) ((mem_alive hlt).mpr hg)]; rfl
theorem es_upd {os : List Int} (hO : OverOk os) {al : Nat → Bool} {w : Nat → Int} (hlt : ∀ k, al k = true → k < os.length) {g : Nat} (hg : g < os.length) (v : Int) :
    (esA os al w).map (fun p => if p.1 = pathO os g then (p.1, v) else p) = esA os al (upd w g v) := by
  unfold esA
  rw [List.map_map]
  refine List.map_congr_left fun j hj => ?_
  have hj := List.mem_range.mp (List.mem_filter.mp hj).1
  show (if pathO os j = pathO os g then (pathO os j, v) else (pathO os j, w j)) = (pathO os j, upd w g v j)
  unfold upd
  simp only [path_eq hO hj hg]
  split <;> rfl
theorem es_len {os : List Int} {al : Nat → Bool} {w : Nat → Int} : (esA os al w).length = ((List.range os.length).filter al).length := by unfold esA; rw [List.length_map]
theorem rid_len {n : Nat} {al : Nat → Bool} {l : Nat} (hlt : ∀ k, al k = true → k < n) (hl : al l = true) : ((List.range n).filter (rid al l)).length + 1 = ((List.range n).filter al).length := by
  have hn : ((List.range n).filter al).Nodup := List.nodup_range.filter _
  have h1 : (List.range n).filter (rid al l) = ((List.range n).filter al).erase l := by
    rw [hn.erase_eq_filter, List.filter_filter]
    refine List.filter_congr fun j _ => ?_
    unfold rid
    rw [Bool.and_comm]
    by_cases e : j = l
    · simp [e]
    · simp [e, bne_iff_ne]
  have h2 := List.length_erase_of_mem ((mem_alive hlt).mpr hl)
  have h3 := List.length_pos_of_mem ((mem_alive hlt).mpr hl)
  rw [h1]; lia
theorem Sim.step {os ls : List Int} (hO : OverOk os) (hn : 2 ≤ os.length) {s : CSt} {al : Nat → Bool} {r : Nat} {w : Nat → Int} {ed : List Nat} (S : Sim os ls s al r w ed) (h : 1 < s.es.length) :
    StepOk s ∧ (∃ al' r' w' ed', Sim os ls (stepC s) al' r' w' ed') ∧ (stepC s).es.length + 1 = s.es.length := by
  have H := chain_ok hO
  have C := S.inv.conn
  have hlt := C.lt
  have htwo : ∃ j x, al j = true ∧ al x = true ∧ x ≠ j := by
    rw [S.es, es_len] at h
    obtain ⟨j, x, hj, hx, hne⟩ := two_of_len (List.nodup_range.filter _) h
    exact ⟨j, x, (mem_alive hlt).mp hj, (mem_alive hlt).mp hx, hne⟩
  obtain ⟨L, hLn, hLm, hLp⟩ := S.heap htwo
  obtain ⟨j0, x0, hj0, hx0, hjx⟩ := htwo
  obtain ⟨a, _, haa, hal⟩ := C.other_leaf H.hp hj0 hx0 hjx os.length
  have haL : a ∈ L := (hLm a).mpr ⟨haa, hal⟩
  have hLl : L.length ≤ 10 := by
    have h1 : L.Perm ((List.range os.length).filter fun j => al j && decide ((nb os.length (parO os) al j).length = 1)) := (List.perm_ext_iff_of_nodup hLn (List.nodup_range.filter _)).mpr fun j => by
      rw [hLm, List.mem_filter, Bool.and_eq_true, decide_eq_true_eq, List.mem_range]
      exact ⟨fun h => ⟨hlt j h.1, h⟩, fun h => h.2⟩
    have h2 := List.length_filter_le (fun j => al j && decide ((nb os.length (parO os) al j).length = 1)) (List.range os.length)
    rw [← h1.length_eq, List.length_range] at h2
    have := hO.len
    lia
  have hpl : s.hp.length = L.length := by rw [hLp.length_eq, List.length_map]
  have hpn : s.hp ≠ [] := by
    intro e
    rw [e] at hpl
    have := List.length_pos_of_mem haL
    simp at hpl; lia
  have htr := top_rest hpn
  have htm : top1 s.hp ∈ L.map fun j => (w j, pathO os j) := (htr.trans hLp).subset (.head _)
  obtain ⟨l, hlL, hle⟩ := List.mem_map.mp htm
  have hl := ((hLm l).mp hlL).1
  have hll := ((hLm l).mp hlL).2
  have hln := hlt l hl
  have t1 : (top1 s.hp).1 = w l := by rw [← hle]
  have t2 : (top1 s.hp).2 = pathO os l := by rw [← hle]
  obtain ⟨g, hg⟩ := List.length_eq_one_iff.mp hll
  have hgm : g ∈ nb os.length (parO os) al l := by rw [hg]; exact .head _
  have hga := (mem_nb.mp hgm).1
  have hgl := nb_ne H.hp hgm
  have hgn := hlt g hga
  have hga' : rid al l g = true := rid_iff.mpr ⟨hga, hgl⟩
  have hlt' : ∀ k, rid al l k = true → k < os.length := fun k hk => hlt k (rid_iff.mp hk).1
  have hmin : ∀ j, al j = true → (nb os.length (parO os) al j).length = 1 → w l ≤ w j := by
    intro j hj hjl
    have h1 : (w j, pathO os j) ∈ s.hp := hLp.symm.subset (List.mem_map_of_mem (f := fun j => (w j, pathO os j)) ((hLm j).mpr ⟨hj, hjl⟩))
    have h2 := top_le hpn S.hk _ h1
    rw [t1] at h2
    exact h2
  have hnei : neighR s.rs (top1 s.hp).2 = [pathO os g] := by rw [S.rs, t2, neigh_rows hO hn hln hl, hg]; rfl
  have hgoal : goal1 s = pathO os g := by unfold goal1; rw [hnei]; rfl
  have hes1 : es1 s = esA os (rid al l) w := by unfold es1; rw [t2, S.es, es_del hO hlt hln]
  have hrs1 : rs1 s = rowsA os (rid al l) := by unfold rs1; rw [t2, S.rs, del_rows hO hln]
  have hnew : new1 s = w g + w l := by unfold new1; rw [hes1, hgoal, es_load hO hlt' hga', t1]
  have hdeg : (neighR (rs1 s) (goal1 s)).length = (nb os.length (parO os) (rid al l) g).length := by rw [hrs1, hgoal, neigh_rows hO hn hgn hga', List.length_map]
  have hes2 : (stepC s).es = esA os (rid al l) (upd w g (w g + w l)) := by
    show (es1 s).map (fun p => if p.1 = goal1 s then (p.1, new1 s) else p) = _
    rw [hes1, hgoal, hnew, es_upd hO hlt' hgn]
  refine ⟨⟨hpn, by lia, ?_, ?_, ?_, ?_, ?_⟩, ?_, ?_⟩
  · rw [t2, S.es]; exact es_keys hlt hl
  · rw [t2, S.rs]; exact place_ok hO hln hl
  · rw [hnei]; simp
  · rw [hgoal, hes1]; exact es_keys hlt' hga'
  · rw [hgoal, hrs1]; exact place_ok hO hgn hga'
  · obtain ⟨r', e, I'⟩ := S.inv.step H hl hg hmin
    refine ⟨rid al l, r', upd w g (w g + w l), ed ++ [e], ?_, hrs1, hes2, ?_, ?_⟩
    · show Inv _ _ _ _ _ _ _ _ _ _ (s.car ++ [(top1 s.hp).1])
      rw [t1]; exact I'
    · show HOk (if (neighR (rs1 s) (goal1 s)).length = 1 then pushF (new1 s, goal1 s) (rest1 s.hp) else rest1 s.hp)
      split
      · exact pushF_ok ltE_le ltE_ge (rest_ok hpn S.hk)
      · exact rest_ok hpn S.hk
    · rintro ⟨j1, x1, hj1, hx1, hne1⟩
      have hlg : l ∈ nb os.length (parO os) al g := nb_sym hl hgm
      have hgL : g ∉ L := by
        intro h1
        have h2 := ((hLm g).mp h1).2
        obtain ⟨z, hz⟩ := List.length_eq_one_iff.mp h2
        rw [hz] at hlg
        have h3 := List.mem_singleton.mp hlg
        subst h3
        have h4 : nb os.length (parO os) (rid al l) g = [] := by rw [nb_rid, hz]; simp
        have h5 : ∃ y, rid al l y = true ∧ y ≠ g := by
          by_cases e3 : j1 = g
          · exact ⟨x1, hx1, fun h => hne1 (h.trans e3.symm)⟩
          · exact ⟨j1, hj1, e3⟩
        obtain ⟨y, hy, hyg⟩ := h5
        exact I'.conn.nb_some H.hp hga' hy hyg h4
      have hrest : (rest1 s.hp).Perm ((L.erase l).map fun j => (w j, pathO os j)) := by
        have h1 := (htr.trans hLp).trans ((List.perm_cons_erase hlL).map fun j => (w j, pathO os j))
        rw [List.map_cons, hle] at h1
        exact h1.cons_inv
      have hw : (L.erase l).map (fun j => (w j, pathO os j)) = (L.erase l).map fun j => (upd w g (w g + w l) j, pathO os j) := List.map_congr_left fun j hj => by
        have : j ≠ g := fun e4 => hgL (e4 ▸ List.mem_of_mem_erase hj)
        unfold upd; rw [if_neg this]
      rw [hw] at hrest
      have hkeep : ∀ j, j ∈ L.erase l ↔ rid al l j = true ∧ j ≠ g ∧ (nb os.length (parO os) (rid al l) j).length = 1 := by
        intro j
        rw [hLn.mem_erase_iff, hLm]
        constructor
        · rintro ⟨h1, h2, h3⟩
          have h4 : j ≠ g := fun e4 => hgL (e4 ▸ (hLm j).mpr ⟨h2, h3⟩)
          have h5 : l ∉ nb os.length (parO os) al j := fun h6 => by
            have h7 := nb_sym h2 h6
            rw [hg] at h7
            exact h4 (List.mem_singleton.mp h7)
          exact ⟨rid_iff.mpr ⟨h2, h1⟩, h4, by rw [nb_keep h5]; exact h3⟩
        · rintro ⟨h1, h4, h3⟩
          have h2 := rid_iff.mp h1
          have h5 : l ∉ nb os.length (parO os) al j := fun h6 => by
            have h7 := nb_sym h2.1 h6
            rw [hg] at h7
            exact h4 (List.mem_singleton.mp h7)
          rw [nb_keep h5] at h3
          exact ⟨h2.2, h2.1, h3⟩
      show ∃ L' : List Nat, _ ∧ _ ∧ (if (neighR (rs1 s) (goal1 s)).length = 1 then pushF (new1 s, goal1 s) (rest1 s.hp) else rest1 s.hp).Perm _
      rw [hdeg]
      by_cases e5 : (nb os.length (parO os) (rid al l) g).length = 1
      · rw [if_pos e5]
        refine ⟨g :: L.erase l, List.nodup_cons.mpr ⟨fun h1 => hgL (List.mem_of_mem_erase h1), hLn.erase _⟩, fun j => ?_, ?_⟩
        · rw [List.mem_cons, hkeep]
          constructor
          · rintro (rfl | ⟨h1, _, h3⟩)
            · exact ⟨hga', e5⟩
            · exact ⟨h1, h3⟩
          · rintro ⟨h1, h3⟩
            by_cases e6 : j = g
            · exact .inl e6
            · exact .inr ⟨h1, e6, h3⟩
        · have h1 := (pushF_perm (new1 s, goal1 s) (rest1 s.hp)).trans (hrest.cons _)
          rw [hnew, hgoal] at h1
          have h2 : (upd w g (w g + w l) g, pathO os g) = (w g + w l, pathO os g) := by unfold upd; rw [if_pos rfl]
          rw [List.map_cons, h2, hnew, hgoal]
          exact h1
      · rw [if_neg e5]
        refine ⟨L.erase l, hLn.erase _, fun j => ?_, hrest⟩
        rw [hkeep]
        constructor
        · rintro ⟨h1, _, h3⟩; exact ⟨h1, h3⟩
        · rintro ⟨h1, h3⟩
          exact ⟨h1, fun e6 => e5 (e6 ▸ h3), h3⟩
  · rw [hes2, S.es, es_len, es_len]; exact rid_len hlt hl
theorem Sim.run {os ls : List Int} (hO : OverOk os) (hn : 2 ≤ os.length) : ∀ (m : Nat) (s : CSt) (al : Nat → Bool) (r : Nat) (w : Nat → Int) (ed : List Nat), Sim os ls s al r w ed → s.es.length ≤ m + 1 →
    GoodRun m s ∧ (runC m s).es.length ≤ 1 ∧ ∃ al' r' w' ed', Sim os ls (runC m s) al' r' w' ed' := by
  intro m
  induction m with
  | zero =>
    intro s al r w ed S h
    exact ⟨by simpa [GoodRun] using h, by simpa [runC] using h, al, r, w, ed, S⟩
  | succ m ih =>
    intro s al r w ed S h
    by_cases h1 : 1 < s.es.length
    · obtain ⟨h2, ⟨al', r', w', ed', S'⟩, h3⟩ := S.step hO hn h1
      obtain ⟨h4, h5, h6⟩ := ih (stepC s) al' r' w' ed' S' (by lia)
      have e : runC (m + 1) s = runC m (stepC s) := by rw [runC, if_pos h1]
      rw [e]
      exact ⟨fun _ => ⟨h2, h4⟩, h5, h6⟩
    · have e : runC (m + 1) s = s := by rw [runC, if_neg h1]
      rw [e]
      exact ⟨fun h2 => absurd h2 h1, by lia, al, r, w, ed, S⟩
noncomputable def numsF (ns : List Int) : List Int := [25, 138] ++ ns.take 7
noncomputable def loadsF (ns : List Int) : List Int := [4] ++ (numsF ns).map (fun x => x.fmod 10)
structure StepsOk (x y : Str) : Prop where
  x1 : 1 ≤ x.length
  x2 : x.length ≤ 1000
  y1 : 1 ≤ y.length
  y2 : y.length ≤ 1000
  xs : Txt.startswith x (Str.ofString "/") = true
  ys : Txt.startswith y (Str.ofString "/") = true
  jl : (Txt.join (Str.ofString "/") (lcpL (minL (compsF x) (compsF y)) (maxL (compsF x) (compsF y)))).length ≤ 900
  lo : -100 ≤ stepsF x y
  hi : stepsF x y ≤ 100
structure LawOk (os lo : List Int) (xs : List Str) (rs : List (Str × Str)) (z : Str) : Prop where
  over : OverOk os
  olen : 2 ≤ os.length
  llen : lo.length = os.length
  low : ∀ n ∈ lo, 0 ≤ n ∧ n ≤ 9
  names : ∀ x ∈ xs, NameOk x
  nodup : xs.Nodup
  xlen : xs.length = os.length
  place : ∀ p ∈ xs, PlaceOk rs p
  good : GoodRun os.length ⟨rs, xs.zip lo, heap0 rs (xs.zip lo), []⟩
  last : (carryF rs (xs.zip lo)).es.map (·.1) = [z]
  perm : (carryF rs (xs.zip lo)).car.Perm (lesserF os lo)
  srt : (carryF rs (xs.zip lo)).car.Pairwise (· ≤ ·)
  sum : (carryF rs (xs.zip lo)).car.sum = ((xs.zip lo).map fun p => p.2 * stepsF p.1 z).sum
  rows : (carryF rs (xs.zip lo)).rs = rs.filter fun p => Txt.lower p.1 == z
  steps : ∀ x ∈ xs, StepsOk x z
  rok : ∀ r ∈ rs, PyData.strOk r.1 = true ∧ PyData.strOk r.2 = true
  rlen : ∀ r ∈ rs, r.1.length ≤ 1000
  zlen : z.length ≤ 1000
theorem alive0 (n : Nat) : (List.range n).filter (al0 n) = List.range n := List.filter_eq_self.mpr fun j hj => al0_iff.mpr (List.mem_range.mp hj)
theorem zip_range (f : Nat → Str) : ∀ (ls : List Int) (n : Nat), ls.length = n → ((List.range n).map f).zip ls = (List.range n).map fun j => (f j, ldF ls j) := by
  intro ls n hl
  refine List.ext_getElem? fun k => ?_
  rw [List.getElem?_map]
  by_cases h : k < n
  · have h1 : k < ls.length := by lia
    have h2 : k < (((List.range n).map f).zip ls).length := by rw [List.length_zip, List.length_map, List.length_range]; lia
    rw [List.getElem?_eq_getElem h2, List.getElem_zip, List.getElem_map, List.getElem_range, List.getElem?_range h]
    have h3 : ldF ls k = ls[k] := by unfold ldF; rw [List.getD_eq_getElem?_getD, List.getElem?_eq_getElem h1]; rfl
    rw [Option.map_some, h3]
  · rw [List.getElem?_eq_none (by rw [List.length_zip, List.length_map, List.length_range]; lia), List.getElem?_eq_none (by rw [List.length_range]; lia)]; rfl
theorem es0_eq {os ls : List Int} (hO : OverOk os) (hl : ls.length = os.length) : (placesN os (os.length - 1)).zip ls = esA os (al0 os.length) (ldF ls) := by
  unfold esA
  rw [places_eq hO, zip_range _ ls _ hl, alive0]
theorem rs0_eq {os : List Int} (hO : OverOk os) : linksN os (placesN os (os.length - 1)) (os.length - 1) = rowsA os (al0 os.length) := links_rows hO fun _ hk => al0_iff.mpr hk
theorem heap0_ok {os ls : List Int} (hO : OverOk os) (hn : 2 ≤ os.length) : ∀ (l : List Nat) (hp : List (Int × Str)) (L : List Nat), (∀ j ∈ l, j < os.length) → HOk hp → hp.Perm (L.map fun j => (ldF ls j, pathO os j)) →
    HOk ((l.map fun j => (pathO os j, ldF ls j)).foldl (heapS (rowsA os (al0 os.length))) hp) ∧
    ((l.map fun j => (pathO os j, ldF ls j)).foldl (heapS (rowsA os (al0 os.length))) hp).Perm ((L ++ l.filter fun j => decide ((nb os.length (parO os) (al0 os.length) j).length = 1)).map fun j => (ldF ls j, pathO os j))
  | [], hp, L, _, h, hP => ⟨h, by simpa using hP⟩
  | j :: l, hp, L, hl, h, hP => by
    have hj := hl j (.head _)
    have hd : (neighR (rowsA os (al0 os.length)) (pathO os j)).length = (nb os.length (parO os) (al0 os.length) j).length := by rw [neigh_rows hO hn hj (al0_iff.mpr hj), List.length_map]
    rw [List.map_cons, List.foldl_cons]
    have e : heapS (rowsA os (al0 os.length)) hp (pathO os j, ldF ls j) = if (nb os.length (parO os) (al0 os.length) j).length = 1 then pushF (ldF ls j, pathO os j) hp else hp := by
      unfold heapS; rw [hd]
    rw [e]
    by_cases e2 : (nb os.length (parO os) (al0 os.length) j).length = 1
    · rw [if_pos e2, List.filter_cons, if_pos (decide_eq_true e2)]
      have h1 := heap0_ok (ls := ls) hO hn l _ (L ++ [j]) (fun x hx => hl x (.tail _ hx)) (pushF_ok ltE_le ltE_ge (e := (ldF ls j, pathO os j)) h) (by
        rw [List.map_append]
        exact (pushF_perm _ _).trans ((hP.cons _).trans (List.perm_append_singleton _ _).symm))
      rw [List.append_assoc] at h1
      exact h1
    · rw [if_neg e2, List.filter_cons, if_neg (by simpa using e2)]
      exact heap0_ok hO hn l hp L (fun x hx => hl x (.tail _ hx)) h hP
theorem HOk.nil : HOk [] := fun i _ h => by simp at h
theorem sim0 {os ls : List Int} (hO : OverOk os) (hn : 2 ≤ os.length) (hl : ls.length = os.length) (hnn : ∀ x ∈ ls, 0 ≤ x) :
    Sim os ls ⟨rowsA os (al0 os.length), esA os (al0 os.length) (ldF ls), heap0 (rowsA os (al0 os.length)) (esA os (al0 os.length) (ldF ls)), []⟩ (al0 os.length) 0 (ldF ls) [] := by
  have h1 := heap0_ok (ls := ls) hO hn (List.range os.length) [] [] (fun j hj => List.mem_range.mp hj) HOk.nil (.refl _)
  have e : heap0 (rowsA os (al0 os.length)) (esA os (al0 os.length) (ldF ls)) = ((List.range os.length).map fun j => (pathO os j, ldF ls j)).foldl (heapS (rowsA os (al0 os.length))) [] := by
    unfold heap0 esA; rw [alive0]
  refine ⟨inv0 hO hl hnn, rfl, rfl, by rw [e]; exact h1.1, fun _ => ⟨_, List.nodup_range.filter _, fun j => ?_, by rw [e]; exact h1.2⟩⟩
  rw [List.mem_filter, List.mem_range, decide_eq_true_eq]
  exact ⟨fun h => ⟨al0_iff.mpr h.1, h.2⟩, fun h => ⟨al0_iff.mp h.1, h.2⟩⟩
theorem sum_sm (f : Nat → Int) : ∀ n, ((List.range n).map f).sum = sm n f
  | 0 => rfl
  | n + 1 => by rw [List.range_succ, List.map_append, List.sum_append, sum_sm f n, sm]; simp
theorem rows_last {os : List Int} (hO : OverOk os) {x : Nat} (hx : x < os.length) : (rowsA os (al0 os.length)).filter (fun p => Txt.lower p.1 == pathO os x) = rowsA os (fun k => decide (k = x)) := by
  unfold rowsA
  rw [List.filter_flatMap]
  refine flatMap_cong fun i hi => ?_
  have hi := List.mem_range.mp hi
  have h1 := parO_lt hO (i + 1) (by lia) (by lia)
  have hi1 : i + 1 < os.length := by lia
  have hp1 : parO os (i + 1) < os.length := by lia
  rw [if_pos (al0_iff.mpr hi1), if_pos (al0_iff.mpr hp1), List.filter_append]
  congr 1
  · rw [List.filter_cons]
    simp only [lower_path hO hi1, beq_iff_eq, path_eq hO hi1 hx, List.filter_nil, decide_eq_true_eq]
  · rw [List.filter_cons]
    simp only [lowup_path hO hp1, beq_iff_eq, path_eq hO hp1 hx, List.filter_nil, decide_eq_true_eq]
theorem rows_cong {os : List Int} (hO : OverOk os) {al al' : Nat → Bool} (h : ∀ k, k < os.length → al k = al' k) : rowsA os al = rowsA os al' := by
  unfold rowsA
  refine flatMap_cong fun i hi => ?_
  have hi := List.mem_range.mp hi
  have h1 := parO_lt hO (i + 1) (by lia) (by lia)
  rw [h (i + 1) (by lia), h (parO os (i + 1)) (by lia)]
theorem lesser_eq (os ls : List Int) (hl : ls.length = os.length) : lesserF os ls = (List.range' 1 (os.length - 1)).map fun k => lesser ls.sum (belB os ls k) := by
  unfold lesserF
  refine List.ext_getElem? fun k => ?_
  have hb : (belowF os ls).length = os.length := by unfold belowF; rw [belN_len, hl]
  rw [List.getElem?_map, List.getElem?_map, List.getElem?_drop]
  by_cases h : k < os.length - 1
  · rw [List.getElem?_eq_getElem (show 1 + k < (belowF os ls).length by lia), List.getElem?_range' h]
    unfold belB lesser
    simp only [Option.map_some, Nat.one_mul, List.getD_eq_getElem?_getD, List.getElem?_eq_getElem (show 1 + k < (belowF os ls).length by lia), Option.getD_some]
  · rw [List.getElem?_eq_none (by lia), List.getElem?_eq_none (by rw [List.length_range']; lia)]; rfl
structure LawEnd (os ls : List Int) (s : CSt) (x : Str) : Prop where
  es : s.es.map (·.1) = [x]
  perm : s.car.Perm (lesserF os ls)
  srt : s.car.Pairwise (· ≤ ·)
  sum : s.car.sum = (((placesN os (os.length - 1)).zip ls).map fun p => p.2 * stepsF p.1 x).sum
  rows : s.rs = (linksN os (placesN os (os.length - 1)) (os.length - 1)).filter fun p => Txt.lower p.1 == x
theorem plain_law {os ls : List Int} (hO : OverOk os) (hn : 2 ≤ os.length) (hl : ls.length = os.length) (hnn : ∀ x ∈ ls, 0 ≤ x) :
    GoodRun os.length ⟨linksN os (placesN os (os.length - 1)) (os.length - 1), (placesN os (os.length - 1)).zip ls, heap0 (linksN os (placesN os (os.length - 1)) (os.length - 1)) ((placesN os (os.length - 1)).zip ls), []⟩ ∧
    (∃ x ∈ placesN os (os.length - 1), LawEnd os ls (carryF (linksN os (placesN os (os.length - 1)) (os.length - 1)) ((placesN os (os.length - 1)).zip ls)) x) := by
  have H := chain_ok hO
  have hlen : (esA os (al0 os.length) (ldF ls)).length = os.length := by rw [es_len, alive0, List.length_range]
  unfold carryF
  rw [rs0_eq hO, es0_eq hO hl, hlen]
  obtain ⟨h1, h2, al, r, w, ed, S⟩ := Sim.run hO hn os.length _ _ _ _ _ (sim0 hO hn hl hnn) (by show (esA _ _ _).length ≤ _; lia)
  refine ⟨h1, ?_⟩
  generalize runC os.length _ = s at h2 S
  have C := S.inv.conn
  have hlt := C.lt
  have hr := hlt r C.root
  have hone : ∀ k, al k = true → k = r := by
    intro k hk
    rw [S.es, es_len] at h2
    have hm1 := (mem_alive hlt).mpr hk
    have hm2 := (mem_alive hlt).mpr C.root
    match hq : (List.range os.length).filter al, h2, hm1, hm2 with
    | [], _, hm1, _ => cases hm1
    | [a], _, hm1, hm2 => rw [List.mem_singleton.mp hm1, List.mem_singleton.mp hm2]
    | _ :: _ :: _, h2, _, _ => simp at h2
  have hal : ∀ k, k < os.length → al k = decide (k = r) := by
    intro k hk
    by_cases e : k = r
    · rw [e, C.root]; simp
    · rw [decide_eq_false e]
      cases h3 : al k with
      | false => rfl
      | true => exact absurd (hone k h3) e
  have hfil : (List.range os.length).filter al = [r] := by
    refine one_of_nodup (List.nodup_range.filter _) (fun k hk => hone k ((mem_alive hlt).mp hk)) (List.ne_nil_of_mem ((mem_alive hlt).mpr C.root))
  refine ⟨pathO os r, by rw [places_eq hO]; exact List.mem_map_of_mem (List.mem_range.mpr hr), ?_, ?_, S.inv.srt, ?_, ?_⟩
  · rw [S.es]; unfold esA; rw [hfil]; rfl
  · rw [S.inv.hcar, lesser_eq os ls hl]
    refine List.Perm.map _ ((List.perm_ext_iff_of_nodup S.inv.ednd List.nodup_range').mpr fun k => ?_)
    rw [S.inv.edm, List.mem_range'_1]
    constructor
    · rintro ⟨h3, h4, _⟩; lia
    · intro h3
      refine ⟨h3.1, by lia, ?_⟩
      by_cases e : k = r
      · exact .inr e
      · left
        cases h4 : al k with
        | false => rfl
        | true => exact absurd (hone k h4) e
  · have h3 := S.inv.pot r C.root
    have h4 : sm os.length (fun j => if al j = true then w j * dist (chF os) j r else 0) = sm os.length (fun _ => 0) := sm_congr _ fun j hj => by
      by_cases e : al j = true
      · rw [if_pos e, hone j e, dist_self]; simp
      · rw [if_neg e]
    rw [h4, sm_zero, Int.add_zero] at h3
    rw [h3, es0_eq hO hl]
    unfold esA
    rw [alive0, List.map_map, ← sum_sm]
    congr 1
    refine List.map_congr_left fun j hj => ?_
    have hj := List.mem_range.mp hj
    show ldF ls j * dist (chF os) j r = ldF ls j * stepsF (pathO os j) (pathO os r)
    have h5 : stepsF (pathO os j) (pathO os r) = dist (chF os) j r := by
      have := steps_path (chF_ok hO hj) (chF_ok hO hr)
      unfold pathO dist
      rw [this]
    rw [h5]
  · rw [S.rs, rs0_eq hO, rows_last hO hr]
    exact rows_cong hO hal
-- the numbers
theorem over_ok (ns : List Int) (h9 : ns.length ≤ 9) : OverOk (overF ns) := by
  have key : ∀ (ns o : List Int), 1 ≤ o.length → (∀ i, i + 1 < o.length → 0 ≤ o.getD (i + 1) 0 ∧ o.getD (i + 1) 0 < ((i + 1 : Nat) : Int)) → ∀ i, i + 1 < (ns.foldl overS o).length → 0 ≤ (ns.foldl overS o).getD (i + 1) 0 ∧ (ns.foldl overS o).getD (i + 1) 0 < ((i + 1 : Nat) : Int) := by
    intro ns
    induction ns with
    | nil => intro o _ h; exact h
    | cons x ns ih =>
      intro o ho h
      rw [List.foldl_cons]
      have h1 : (overS o x).length = o.length + 1 := by unfold overS; simp
      refine ih _ (by lia) fun i hi => ?_
      unfold overS
      by_cases e : i + 1 < o.length
      · rw [List.getD_eq_getElem?_getD, List.getElem?_append_left e, ← List.getD_eq_getElem?_getD]
        exact h i e
      · have e2 : i + 1 = o.length := by lia
        rw [List.getD_eq_getElem?_getD, List.getElem?_append_right (by lia), e2, Nat.sub_self]
        have hp : (0 : Int) < (o.length : Int) := by lia
        exact ⟨Int.fmod_nonneg_of_pos _ hp, Int.fmod_lt_of_pos _ hp⟩
  have hl := overF_len ns
  refine ⟨by lia, by lia, fun i hi => ?_, fun i hi => ?_⟩
  · exact (key ns [0] (by simp) (fun i hi => by simp at hi) i hi).1
  · exact (key ns [0] (by simp) (fun i hi => by simp at hi) i hi).2
theorem place_names {os : List Int} (hO : OverOk os) : ∀ x ∈ placesN os (os.length - 1), NameOk x := by
  intro x hx
  rw [places_eq hO] at hx
  obtain ⟨k, hk, rfl⟩ := List.mem_map.mp hx
  exact path_name (chF_ok hO (List.mem_range.mp hk))
theorem map_nodup {f : Nat → Str} : ∀ {l : List Nat}, (∀ x ∈ l, ∀ y ∈ l, f x = f y → x = y) → l.Nodup → (l.map f).Nodup
  | [], _, _ => List.nodup_nil
  | a :: l, h, hn => by
    rw [List.nodup_cons] at hn
    rw [List.map_cons, List.nodup_cons]
    refine ⟨fun hm => ?_, map_nodup (fun x hx y hy => h x (.tail _ hx) y (.tail _ hy)) hn.2⟩
    obtain ⟨b, hb, e⟩ := List.mem_map.mp hm
    exact hn.1 (h b (.tail _ hb) a (.head _) e ▸ hb)
theorem place_nodup {os : List Int} (hO : OverOk os) : (placesN os (os.length - 1)).Nodup := by
  rw [places_eq hO]
  exact map_nodup (fun x hx y hy h => path_inj' hO (List.mem_range.mp hx) (List.mem_range.mp hy) h) List.nodup_range
theorem place_first {os : List Int} (hO : OverOk os) : ∀ p ∈ placesN os (os.length - 1), PlaceOk (linksN os (placesN os (os.length - 1)) (os.length - 1)) p := by
  intro p hp
  rw [places_eq hO] at hp
  obtain ⟨k, hk, rfl⟩ := List.mem_map.mp hp
  have hk := List.mem_range.mp hk
  rw [rs0_eq hO]
  exact place_ok hO hk (al0_iff.mpr hk)
theorem lcpN_le2 : ∀ (a b : List Nat), lcpN a b ≤ b.length
  | [], b => by cases b <;> exact Nat.zero_le _
  | x :: a, [] => Nat.zero_le _
  | x :: a, y :: b => by
    have := lcpN_le2 a b
    rw [lcpN]; split
    · simp; lia
    · lia
theorem place_steps {os : List Int} (hO : OverOk os) : ∀ x ∈ placesN os (os.length - 1), ∀ y ∈ placesN os (os.length - 1), StepsOk x y := by
  intro x hx y hy
  rw [places_eq hO] at hx hy
  obtain ⟨j, hj, rfl⟩ := List.mem_map.mp hx
  obtain ⟨k, hk, rfl⟩ := List.mem_map.mp hy
  have cj := chF_ok hO (List.mem_range.mp hj)
  have ck := chF_ok hO (List.mem_range.mp hk)
  have h1 := pathC_len cj
  have h2 := pathC_len ck
  have h3 := lcpN_le (chF os j) (chF os k)
  have h4 := lcpN_le2 (chF os j) (chF os k)
  have h5 := cj.len
  have h6 := ck.len
  have h7 : stepsF (pathO os j) (pathO os k) = _ := steps_path cj ck
  exact ⟨h1.1, by show (pathC _).length ≤ _; lia, h2.1, by show (pathC _).length ≤ _; lia, path_starts cj, path_starts ck, common_short cj ck, by rw [h7]; lia, by rw [h7]; lia⟩
theorem strOk_of {x : Str} (h : okS x = true) : PyData.strOk x = true := by
  unfold PyData.strOk
  rw [Array.all_eq_true_iff_forall_mem]
  intro c hc
  have h1 := List.all_eq_true.mp h c (by simpa using hc)
  have h2 : c ∈ chars := by simpa using h1
  have h3 : ∀ c ∈ chars, c < 0x110000 := by decide
  exact decide_eq_true (h3 c h2)
theorem letF_ok9 : ∀ k, k < 9 → okS (letF (k + 1)) = true := by decide +kernel
theorem rows_ok {os : List Int} (hO : OverOk os) : ∀ r ∈ linksN os (placesN os (os.length - 1)) (os.length - 1), (PyData.strOk r.1 = true ∧ PyData.strOk r.2 = true) ∧ r.1.length ≤ 1000 := by
  intro r hr
  have h0 := hO.len
  rw [rs0_eq hO] at hr
  obtain ⟨i, hi, hr⟩ := List.mem_flatMap.mp hr
  have hi := List.mem_range.mp hi
  have h1 := parO_lt hO (i + 1) (by lia) (by lia)
  have n1 := path_name (chF_ok hO (show i + 1 < os.length by lia))
  have n2 := path_name (chF_ok hO (show parO os (i + 1) < os.length by lia))
  rcases List.mem_append.mp hr with hr | hr
  · split at hr
    · rw [List.mem_singleton.mp hr]
      exact ⟨⟨strOk_of n1.ok, (show PyData.strOk (Str.ofString "..") = true by decide +kernel)⟩, n1.len⟩
    · cases hr
  · split at hr
    · rw [List.mem_singleton.mp hr]
      exact ⟨⟨strOk_of n2.okU, strOk_of (letF_ok9 i (by lia))⟩, n2.lenU⟩
    · cases hr
theorem nums_len (ns : List Int) : 2 ≤ (numsF ns).length ∧ (numsF ns).length ≤ 9 := by simp only [numsF, List.length_append, List.length_take, List.length_cons, List.length_nil]; lia
theorem law_ok (ns : List Int) : ∃ z, LawOk (overF (numsF ns)) (loadsF ns) (placesN (overF (numsF ns)) ((overF (numsF ns)).length - 1)) (linksN (overF (numsF ns)) (placesN (overF (numsF ns)) ((overF (numsF ns)).length - 1)) ((overF (numsF ns)).length - 1)) z := by
  have h1 := nums_len ns
  have hO := over_ok (numsF ns) h1.2
  have hol := overF_len (numsF ns)
  have hll : (loadsF ns).length = (overF (numsF ns)).length := by rw [hol]; simp [loadsF]
  have hlow : ∀ n ∈ loadsF ns, 0 ≤ n ∧ n ≤ 9 := by
    intro n hn
    rcases List.mem_append.mp hn with h | h
    · rw [List.mem_singleton.mp h]; decide
    · obtain ⟨x, _, rfl⟩ := List.mem_map.mp h
      have a := Int.fmod_nonneg_of_pos x (show (0 : Int) < 10 by decide)
      have b := Int.fmod_lt_of_pos x (show (0 : Int) < 10 by decide)
      lia
  obtain ⟨g, z, hz, e⟩ := plain_law hO (by lia) hll fun x hx => (hlow x hx).1
  refine ⟨z, hO, by lia, hll, hlow, place_names hO, place_nodup hO, by rw [placesN_len]; lia, place_first hO, g, e.es, e.perm, e.srt, e.sum, e.rows, fun x hx => place_steps hO x hx z hz, fun r hr => (rows_ok hO r hr).1, fun r hr => (rows_ok hO r hr).2, (place_names hO z hz).len⟩
example : True := by
  k_with "c_hold3" => (((with_reducible show wpAny _ _ (eval (Expr.ListComp _ _ _ _) _) _ _ _); refine held_out ?_))
  trivial

example : True := by
  k_with "c_stepj" => (repeat' (first | k_extra "c_hold3" | (k_unfold; (try dsimp only)) | (k_end; wrow_close) | (k_extra "c_noiter"; k_extra "c_nowhl"; walk1) | (k_extra "c_noiter"; k_extra "c_nowhl"; dsimp only; walk1) | (leave1; try dsimp only) | fail "no step"))
  trivial

example : True := by
  k_with "c_hold2" => (((first | (with_reducible show wpAny _ _ (call (Value.ref 334) _ _) _ _ _) | (with_reducible show wpAny _ _ (call (Value.ref 341) _ _) _ _ _) | (with_reducible show wpAny _ _ (call (Value.ref 348) _ _) _ _ _) | (with_reducible show wpAny _ _ (call (Value.ref 146) _ _) _ _ _) | (with_reducible show wpAny _ _ (call (Value.ref 360) _ _) _ _ _) | (with_reducible show wpAny _ _ (call (Value.ref 365) _ _) _ _ _) | (with_reducible show wpAny _ _ (call (Value.ref 379) _ _) _ _ _) | (with_reducible show wpAny _ _ (call (Value.ref 353) _ _) _ _ _) | (with_reducible show wpAny _ _ (call (Value.ref 193) _ _) _ _ _) | (with_reducible show wpAny _ _ (call (Value.ref 200) _ _) _ _ _) | (with_reducible show wpAny _ _ (call (Value.ref 102) _ _) _ _ _)); refine held_out ?_))
  trivial

example : True := by
  k_with "c_stepk" => (repeat' (first | k_extra "c_hold2" | (k_unfold; (try dsimp only)) | (k_end; wrow_close) | (k_extra "c_noiter"; k_extra "c_nowhl"; walk1) | (k_extra "c_noiter"; k_extra "c_nowhl"; dsimp only; walk1) | (leave1; try dsimp only) | fail "no step"))
  trivial

example : True := by
  k_with "eval Name" => ((k_here; (with_reducible show wpAny _ _ (eval (Expr.Name (Str.ofString "_law_steps") _) (compEnvC _ _ _ _)) _ _ _); k_dflt (refine' LCgL.ld_global ?F ?X ?T ?e ?_ ?g ?k ?x ?d; (case x => rfl); (case k => rfl); (case g => rfl); (case d => decide); (case F => k_asm); (case X => k_asm); (case T => k_asm); (case e => k_is); k_whole)))
  trivial

example : True := by
  k_with "eval Name" => ((k_here; (with_reducible show wpAny _ _ (eval (Expr.Name (Str.ofString "last") _) (compEnvC _ _ _ _)) _ _ _); k_dflt (refine' lcf_cell ?N ?c ?m ?d ?_ ?a ?b; (case b => rfl); (case a => rfl); (case N => k_asm); (case c => rfl); (case m => k_mem); (case d => with_reducible assumption); k_whole)))
  trivial

example : True := by
  k_with "eval Name" => ((k_here; (with_reducible show wpAny _ _ (eval (Expr.Name (Str.ofString "place") _) (compEnvC _ _ _ _)) _ _ _); k_dflt (refine' LCgL.ld_own ?N ?m ?C ?x ?_; (case N => k_asm); (case C => with_reducible assumption); (case x => with_reducible assumption); (case m => k_mem); k_whole)))
  trivial

example : True := by
  k_with "eval Name" => ((k_here; (with_reducible show wpAny _ _ (eval (Expr.Name (Str.ofString "load") _) (compEnvC _ _ _ _)) _ _ _); k_dflt (refine' LCgL.ld_own ?N ?m ?C ?x ?_; (case N => k_asm); (case C => with_reducible assumption); (case x => with_reducible assumption); (case m => k_mem); k_whole)))
  trivial

example : True := by
  k_with "eval Name" => ((k_here; (with_reducible show wpAny _ _ (eval (Expr.Name (Str.ofString "pair") _) (compEnvC _ _ _ _)) _ _ _); k_dflt (refine' LCgL.ld_own ?N ?m ?C ?x ?_; (case N => k_asm); (case C => with_reducible assumption); (case x => with_reducible assumption); (case m => k_mem); k_whole)))
  trivial

theorem pick14 {h₀ h : Heap} {L : Addr} {a b c d : Addr × Obj} {rest : List (Addr × Obj)} (N : News h₀ L h (a :: b :: c :: d :: rest)) : News h₀ L h [a, d] :=
  led_drop N (by intro p hp; simp only [List.mem_cons, List.not_mem_nil, or_false] at hp ⊢; rcases hp with rfl | rfl <;> simp)
theorem pick146 {h₀ h : Heap} {L : Addr} {a b c d e f : Addr × Obj} {rest : List (Addr × Obj)} (N : News h₀ L h (a :: b :: c :: d :: e :: f :: rest)) : News h₀ L h [a, d, f] :=
  led_drop N (by intro p hp; simp only [List.mem_cons, List.not_mem_nil, or_false] at hp ⊢; rcases hp with rfl | rfl | rfl <;> simp)
theorem kvs_zip {xs : List Str} : ∀ {vs : List Value} {ns : List Int}, IntsAre vs ns → KvsAre (xs.zip vs) (xs.zip ns) := by
  induction xs with
  | nil => intro vs ns _; exact .nil
  | cons x xs ih =>
    intro vs ns h
    cases h with
    | nil => exact .nil
    | cons n t h => exact .cons (ih h)
theorem zip_fst {vs1 : List Value} {xs : List Str} (h : StrsL vs1 xs) : ∀ (vs2 : List Value) (i : Nat) (hi : i < (xs.zip vs2).length), ∃ t, vs1[i]? = some (.str ((xs.zip vs2)[i]).1 t) := by
  induction h with
  | nil => intro vs2 i hi; simp at hi
  | cons _ ih =>
    intro vs2 i hi
    cases vs2 with
    | nil => simp at hi
    | cons v vs2 =>
      cases i with
      | zero => exact ⟨_, rfl⟩
      | succ i => exact ih vs2 i (by simpa using hi)
theorem zip_snd (xs : List Str) : ∀ (vs2 : List Value) (i : Nat) (hi : i < (xs.zip vs2).length), vs2[i]? = some ((xs.zip vs2)[i]).2 := by
  intro vs2 i hi
  have h2 : i < vs2.length := by rw [List.length_zip] at hi; k_extra "omx"
  rw [List.getElem?_eq_getElem h2, List.getElem_zip]
theorem zip_facts {vs1 vs2 : List Value} {xs : List Str} {ns : List Int} (hps : StrsL vs1 xs) (hlo : IntsAre vs2 ns) (hl : ns.length = xs.length) (h0 : 0 < xs.length) (h9 : xs.length ≤ 900) :
    ∃ p0 ps, p0 :: ps = xs.zip vs2 ∧ KvsAre (p0 :: ps) (xs.zip ns) ∧ (∀ i (hi : i < (p0 :: ps).length), ∃ t, vs1.toArray[i]? = some (.str ((p0 :: ps)[i]).1 t)) ∧ (∀ i (hi : i < (p0 :: ps).length), vs2.toArray[i]? = some ((p0 :: ps)[i]).2) ∧ vs1.toArray[(p0 :: ps).length]? = none ∧ (p0 :: ps).length ≤ 900 ∧ (p0 :: ps).map (·.1) = xs := by
  have e1 := hps.length
  have e2 := hlo.length
  cases hz : xs.zip vs2 with
  | nil =>
    have : (xs.zip vs2).length = 0 := by rw [hz]; rfl
    rw [List.length_zip] at this
    k_extra "omx"
  | cons p0 ps =>
    have hlz : (p0 :: ps).length = xs.length := by rw [← hz, List.length_zip]; k_extra "omx"
    refine ⟨p0, ps, rfl, hz ▸ kvs_zip hlo, ?_, ?_, ?_, by k_extra "omx", ?_⟩
    · rw [← hz]; intro i hi; simpa using zip_fst hps vs2 i hi
    · rw [← hz]; intro i hi; simpa using zip_snd xs vs2 i hi
    · rw [hlz]; simp [e1]
    · rw [← hz]; exact List.map_fst_zip (by k_extra "omx")
theorem storeAll_nodup (ps : List (Str × Value)) : ∀ kvs : List (Str × Value), ((kvs ++ ps).map (·.1)).Nodup → storeAll kvs ps = kvs ++ ps := by
  induction ps with
  | nil => intro kvs _; simp [storeAll]
  | cons p ps ih =>
    intro kvs h
    have hs : stored kvs p.1 p.2 = kvs ++ [p] := by
      unfold stored
      rw [if_neg]
      intro h1
      refine hide fun GZ kGZ => ?_
      obtain ⟨q, hq, he⟩ := List.any_eq_true.mp h1
      refine kGZ ?_
      clear kGZ GZ
      have he : q.1 = p.1 := of_decide_eq_true he
      rw [List.map_append, List.nodup_append] at h
      exact h.2.2 _ (List.mem_map_of_mem hq) _ (List.mem_map_of_mem List.mem_cons_self) he
    rw [storeAll, hs, ih (kvs ++ [p]) (by simpa using h)]
    simp
theorem rows_min {led : List (Addr × Obj)} {vs : List Value} {rs : List (Str × Str)} (h : RowsAre led vs rs) : ∃ T, RowsAre T vs rs ∧ (∀ p ∈ T, p ∈ led) ∧ ∀ p ∈ T, ∀ v, p.2.data ≠ Data.cell v := by
  induction h with
  | nil => exact ⟨[], .nil, fun _ h => (List.not_mem_nil h).elim, fun _ h => (List.not_mem_nil h).elim⟩
  | @cons a x y t u n vs rs hm _ ih =>
    refine hide fun GZ kGZ => ?_
    obtain ⟨T, h1, h2, h3⟩ := ih
    refine kGZ ?_
    clear kGZ GZ
    refine ⟨(a, tupOf [.str x t, .str y u] n) :: T, .cons (.head _) (h1.mono fun p hp => .tail _ hp), ?_, ?_⟩
    · intro p hp; rcases List.mem_cons.mp hp with rfl | hp
      · exact hm
      · exact h2 p hp
    · intro p hp v; rcases List.mem_cons.mp hp with rfl | hp
      · intro h; cases h
      · exact h3 p hp v
theorem law_swap {h₀ h : Heap} {L x dx hl : Addr} {hsh : Int} {th nd k : Nat} {vs : List Value} {a b p q r c : Addr × Obj} {tup T : List (Addr × Obj)} (hT : ∀ p ∈ T, p ∈ tup) (N : News h₀ L h (a :: b :: tabLed x dx hl hsh th nd k vs (tup ++ [p, q, r, c]))) :
    News h₀ L h (a :: tabLed x dx hl hsh th nd k vs (c :: b :: p :: q :: r :: T)) := led_drop N (by
  intro y hy
  simp only [tabLed, List.mem_cons, List.mem_append, List.not_mem_nil, or_false] at hy ⊢
  rcases hy with h | h | h | h | h | h | h | h | h | h
  all_goals first | (simp only [h, true_or, or_true]; done) | (have h2 := hT _ h; simp only [h2, true_or, or_true]))
theorem ne_cell {h₀ h : Heap} {L : Addr} {led : List (Addr × Obj)} (N : News h₀ L h led) {c : Addr} {o : Obj} {v : Option Value} (hc : (c, o) ∈ led) (hd : o.data = Data.cell v) {p : Addr × Obj} (hp : p ∈ led) (hn : ∀ v, p.2.data ≠ Data.cell v) : p.1 ≠ c := by
  intro e
  have h1 := (N p hp).1
  have h2 := (N _ hc).1
  rw [e] at h1
  have h3 := h2.symm.trans h1
  exact hn v ((Option.some.inj h3) ▸ hd)
theorem numsF_len (ns : List Int) : (numsF ns).length ≤ 9 := by simp only [numsF, List.length_append, List.length_take, List.length_cons, List.length_nil]; k_extra "omx"
theorem numsF_pos (ns : List Int) : 2 ≤ (numsF ns).length := by simp only [numsF, List.length_append, List.length_take, List.length_cons, List.length_nil]; k_extra "omx"
example : True := by
  k_with "c_stepq" => (repeat' (first | k_extra "c_hold2" | (k_unfold; (try dsimp only)) | (k_extra "c_noiter"; k_extra "c_nowhl"; walk1) | (k_extra "c_noiter"; k_extra "c_nowhl"; dsimp only; walk1) | (leave1; try dsimp only)))
  trivial

theorem good_true {cl : Str → Option Addr} {mean : ExcName → Option Value} {s₁ s' : Shared} {L : Addr} {m : Str → Option Value} (ns : List Int) (F : Fr s₁.heap L s'.heap m) (hg : s'.gens = #[]) (hos : s'.os = s₁.os) : GoodW PySem.Challenge.rw_il0095_01.row.claim cl mean
    [ofPy (PyData.list (List.map PyData.int ns))] s₁ (.ok (.ret (.bool true))) s' := by
  refine goodW_bool F hg (raisesW_false ?_) ?_ hos
  · wrow_none_raised
  · wrow_post
example : True := by
  k_with "c_hold4" => (((with_reducible show wpAny _ _ (compareOp CmpOp.Eq (Value.ref _) (Value.ref _)) _ _ _); refine held_out ?_))
  trivial

example : True := by
  k_with "c_step4" => (repeat' (first | k_extra "c_hold4" | (k_unfold; (try dsimp only)) | (k_end; wrow_close) | (k_extra "c_noiter"; k_extra "c_nowhl"; walk1) | (k_extra "c_noiter"; k_extra "c_nowhl"; dsimp only; walk1) | (leave1; try dsimp only) | fail "no step"))
  trivial

noncomputable def lastR (z : Str) (rs : List (Str × Str)) : List (Str × Str) := rs.filter fun p => Txt.lower p.1 == z
theorem lastR_step {rs : List (Str × Str)} {i : Nat} {x y : Str} (h : rs[i]? = some (x, y)) (z : Str) : lastR z (rs.take (i + 1)) = lastR z (rs.take i) ++ (if Txt.lower x == z then [(x, y)] else []) := by
  unfold lastR
  rw [List.take_add_one, h]
  simp only [Option.toList_some, List.filter_append, List.filter_cons, List.filter_nil]
theorem RowsAre.drop1 {c : Addr} {o : Obj} {v : Option Value} {R : List (Addr × Obj)} {vs : List Value} {rs : List (Str × Str)} (h : RowsAre ((c, o) :: R) vs rs) (hd : o.data = Data.cell v) : RowsAre R vs rs := by
  induction h with
  | nil => exact .nil
  | cons hm _ ih =>
    rcases List.mem_cons.mp hm with e | h
    · cases e; cases hd
    · exact .cons h ih
theorem led_lawtab {h₀ h : Heap} {L x dx hl : Addr} {hsh : Int} {th nd k k4 : Nat} {vs vs4 : List Value} {a D t0 ca c p q r : Addr × Obj} {li : Addr} {T : List (Addr × Obj)} (N : News h₀ L h (a :: D :: t0 :: ca :: tabLed x dx hl hsh th nd k vs (c :: (li, lstOf vs4 k4) :: p :: q :: r :: T))) :
    News h₀ L h (tabLed x dx hl hsh th nd k vs (c :: (li, lstOf vs4 k4) :: p :: q :: r :: T)) := led_drop N fun _ h => .tail _ (.tail _ (.tail _ (.tail _ h)))
set_option maxHeartbeats 4000000 in
theorem goal : PySem.Challenge.rw_il0095_01.Holds := by
  refine head_ok ?_
  w_top off
  k_go0
  all_goals try k_fold
  rename List Int => ns
  rename World => w
  obtain ⟨lastS, hL⟩ := law_ok ns
  k_extra "c_stepk"
  rename IntsAre _ _ => hI9
  have hI9 : IntsAre _ (numsF ns) := hI9
  have hn9 := numsF_len ns
  have hlF : loadsF ns = [4] ++ (numsF ns).map (fun x => x.fmod 10) := rfl
  generalize numsF ns = nu at hI9 hn9 hL hlF
  rename News _ _ _ _ => N1
  replace N1 := pick14 N1
  refine held_in ?_
  (k_here; k_dflt (refine' con_use (over_c w _ _ _ 0 nu (.head _) hI9 (by k_extra "omx")) ?k1 ?k2 ?k3 ?k4 ?k5 ?kd ?ku ?_; (case k1 => k_asm); (case k2 => k_asm); (case k3 => k_asm); (case k4 => k_asm); (case k5 => k_asm); (case kd => k_extra "c_room"); (case ku => k_extra "c_units"); k_whole))
  intro r h2 tk2 news2 F2 N2 hq6
  refine hide fun GZ kGZ => ?_
  obtain ⟨ov, ovs, ok, rfl, rfl, hov, hovo⟩ := hq6
  refine kGZ ?_
  clear kGZ GZ
  k_extra "c_stepk"
  rename IntsAre _ (_ ++ _) => hlo
  replace hlo : IntsAre _ (loadsF ns) := hlF ▸ hlo
  clear hlF
  generalize loadsF ns = lo at hlo hL
  have hol : (overF nu).length = nu.length + 1 := overF_len nu
  generalize overF nu = os at hov hL hol
  have hO := hL.over
  rename News _ _ _ _ => N1
  replace N1 := pick146 N1
  refine held_in ?_
  (k_here; k_dflt (refine' con_use (places_c w _ _ ovs ok os (.tail _ (.head _)) hov hO) ?k1 ?k2 ?k3 ?k4 ?k5 ?kd ?ku ?_; (case k1 => k_asm); (case k2 => k_asm); (case k3 => k_asm); (case k4 => k_asm); (case k5 => k_asm); (case kd => k_extra "c_room"); (case ku => k_extra "c_units"); k_whole))
  intro r h3 tk3 news3 F3 N3 hq6
  refine hide fun GZ kGZ => ?_
  obtain ⟨pl, pls, pk, rfl, rfl, hps, hplo⟩ := hq6
  refine kGZ ?_
  clear kGZ GZ
  k_extra "c_stepk"
  refine held_in ?_
  generalize hxs : placesN os (os.length - 1) = xs at hps hL
  have hxl := hL.xlen
  have hll := hL.llen
  (k_here; k_dflt (refine' con_use (links_c w _ _ _ ovs pls ok pk os xs (.tail _ (.tail _ (.head _))) hov hO (.head _) hps hxl hL.names) ?k1 ?k2 ?k3 ?k4 ?k5 ?kd ?ku ?_; (case k1 => k_asm); (case k2 => k_asm); (case k3 => k_asm); (case k4 => k_asm); (case k5 => k_asm); (case kd => k_extra "c_room"); (case ku => k_extra "c_units"); k_whole))
  intro r h4 tk4 news4 F4 N4 hq6
  refine hide fun GZ kGZ => ?_
  refine exE9 (hq6) ?_
  clear hq6
  intro x dx hl hsh th nd k4 vs4 tup hzZ
  refine andE7 hzZ ?_
  clear hzZ
  rintro rfl rfl hR htup hlt hld hdx
  refine kGZ ?_
  clear kGZ GZ
  generalize hrs : linksN os xs (os.length - 1) = rs at hR hL
  have hrl : rs.length ≤ 1000 := by rw [← hrs, linksN_len]; k_extra "omx"
  have hvr := hR.length
  k_extra "c_stepk"
  refine held_in ?_
  (k_here; k_dflt (refine' con_use (items_c w x dx hl hsh th nd k4 vs4 _ (by k_extra "omx")) ?k1 ?k2 ?k3 ?k4 ?k5 ?kd ?ku ?_; (case k1 => k_asm); (case k2 => k_asm); (case k3 => k_asm); (case k4 => k_asm); (case k5 => k_asm); (case kd => k_extra "c_room"); (case ku => k_extra "c_units"); k_whole))
  intro r h5 tk5 news5 F5 N5 hq6
  refine hide fun GZ kGZ => ?_
  obtain ⟨li, rfl, rfl, hli⟩ := hq6
  refine kGZ ?_
  clear kGZ GZ
  k_extra "c_stepk"
  have hlv := hlo.length
  have hpv := hps.length
  refine zip_L (by k_asm) (by k_asm) (k1 := pk) (k2 := 0) (by k_extra "c_mem") (by k_extra "c_mem") (fun h6 z TI TO i1 i2 F6 N6 Z6 => ?_)
  k_extra "c_stepk"
  refine hide fun GZ kGZ => ?_
  refine exE2 (zip_facts hps hlo (by k_extra "omx") (by k_extra "omx") (by k_extra "omx")) ?_
  intro p0 ps hzZ
  refine andE7 hzZ ?_
  clear hzZ
  rintro hzp hkv hz1 hz2 hz3 hz4 hz5
  refine kGZ ?_
  clear kGZ GZ
  refine call_dict_zip (by rfl) Z6 (modules_low (Top.nolimit (by k_asm))) p0 ps hz1 hz2 hz3 hz4 (fun h7 d od tk7 F7 N7 hdlt hdm hdo => ?_)
  have hdo2 : od.IsDictOf (strKind pr w) (p0 :: ps) := by
    have e9 := storeAll_nodup (p0 :: ps) [] (by rw [List.nil_append, hz5]; exact hL.nodup)
    rw [e9] at hdo
    exact hdo
  clear hdo Z6 hz1 hz2 hz3
  refine hide fun GZ kGZ => ?_
  obtain ⟨T, hRT, hTt, hTc⟩ := rows_min hR
  refine kGZ ?_
  clear kGZ GZ
  have N8 := law_swap hTt N7
  clear N7
  have hzl : (xs.zip lo).length = os.length := by rw [List.length_zip]; k_extra "omx"
  have hole := hO.len
  have hTab : ∀ p ∈ T, p.1 ≠ hl ∧ (@LT.lt Nat _ p.1 d) := fun p hp => ⟨htup p (hTt p hp), hdlt p (.tail _ (.tail _ (.tail _ (.tail _ (List.mem_append_left _ (hTt p hp))))))⟩
  have hlil : (@Ne Nat li hl) := Ne.symm (hli (hl, lstOf vs4 k4) (.tail _ (.tail _ (.head _))))
  have hcl := hlt _ (.tail _ (.tail _ (.tail _ (.head _))))
  have hpl2 := hlt _ (.head _)
  have hlo2 := hlt _ (.tail _ (.head _))
  have hov2 := hlt _ (.tail _ (.tail _ (.head _)))
  have hlid := hdlt (li, lstOf vs4) (.head _)
  have hxd := hdlt (x, instObj 182 dx) (.tail _ (.head _))
  have hdd := hdlt _ (.tail _ (.tail _ (.head _)))
  have hhd := hdlt (hl, lstOf vs4 k4) (.tail _ (.tail _ (.tail _ (.head _))))
  k_extra "c_stepk"
  refine held_in ?_
  (k_here; k_dflt (refine' con_use ((carry_c w d od (p0 :: ps) x dx hl hsh th nd k4 vs4 rs (xs.zip lo) (_ :: (li, lstOf vs4) :: (pl, lstOf pls pk) :: _ :: (ov, lstOf ovs ok) :: T) lastS hdo2 hdm hkv (hRT.mono fun p hp => .tail _ (.tail _ (.tail _ (.tail _ (.tail _ hp))))) ?c1 (Nat.ne_of_gt (Nat.lt_trans hld hdx)) (Nat.ne_of_gt hld) ?c2 (by k_extra "omx") ?c3 hrl (fun r hr => hL.rlen r hr) ?c4 ?c5 hL.last)) ?k1 ?k2 ?k3 ?k4 ?k5 ?kd ?ku ?_; (case k1 => k_asm); (case k2 => k_asm); (case k3 => k_asm); (case k4 => k_asm); (case k5 => k_asm); (case kd => k_extra "c_room"); (case ku => k_extra "c_units"); k_whole))
  case c1 =>
    intro p hp
    simp only [List.mem_cons] at hp
    rcases hp with h | h | h | h | h | h
    · rw [h]; exact Nat.ne_of_lt hcl
    · rw [h]; exact hlil
    · rw [h]; exact Nat.ne_of_lt hpl2
    · rw [h]; exact Nat.ne_of_lt hlo2
    · rw [h]; exact Nat.ne_of_lt hov2
    · exact (hTab p h).1
  case c2 =>
    intro p hp
    simp only [List.mem_cons] at hp
    rcases hp with h | h | h | h | h | h | h | h | h
    · rw [h]; exact hxd
    · rw [h]; exact hdd
    · rw [h]; exact hhd
    · rw [h]; exact Nat.lt_trans hcl hhd
    · rw [h]; exact hlid
    · rw [h]; exact Nat.lt_trans hpl2 hhd
    · rw [h]; exact Nat.lt_trans hlo2 hhd
    · rw [h]; exact Nat.lt_trans hov2 hhd
    · exact (hTab p h).2
  case c3 =>
    rw [List.map_fst_zip (by k_extra "omx")]; exact hL.nodup
  case c4 =>
    intro p hp
    exact hL.place p.1 (List.of_mem_zip hp).1
  case c5 =>
    rw [hzl]; exact hL.good
  intro r h9 tk9 news9 F9 N9 hq6
  refine hide fun GZ kGZ => ?_
  refine exE8 (hq6) ?_
  clear hq6
  intro t0 nt ca cvs ck lt k9 vs9 hzZ
  refine andE4 hzZ ?_
  clear hzZ
  rintro rfl rfl hcs hrs9
  refine kGZ ?_
  clear kGZ GZ
  replace hrs9 := hrs9.drop1 (by with_reducible assumption)
  clear hdo2 hkv N8 hdlt hxd hdd hhd hlid hcl hpl2 hlo2 hov2 hlil
  have hnt : ∀ p ∈ T, p.1 ≠ _ := fun p hp => ne_cell N9 (.tail _ (.tail _ (.tail _ (.tail _ (.tail _ (.head _)))))) (by with_reducible assumption) (.tail _ (.tail _ (.tail _ (.tail _ (.tail _ (.tail _ (.tail _ (.tail _ (.tail _ (.tail _ hp)))))))))) (hTc p hp)
  k_extra "c_stepk"
  rename News _ _ _ _ => N1
  rename Fr _ _ _ _ => F1
  refine storeX_C F1 N1 (by rfl) (.tail ?n1 (.tail ?n2 (.tail ?n3 (.tail ?n4 (.tail ?n5 (.head ?n6)))))) (by with_reducible assumption) (fun h8 o8 F8 N8 d8 => ?_)
  case n1 => exact ne_cell N1 (.tail _ (.tail _ (.tail _ (.tail _ (.tail _ (.head _)))))) (by with_reducible assumption) (.head _) (by intro v h; cases h)
  case n2 => exact ne_cell N1 (.tail _ (.tail _ (.tail _ (.tail _ (.tail _ (.head _)))))) (by with_reducible assumption) (.tail _ (.head _)) (by intro v h; cases h)
  case n3 => exact ne_cell N1 (.tail _ (.tail _ (.tail _ (.tail _ (.tail _ (.head _)))))) (by with_reducible assumption) (.tail _ (.tail _ (.head _))) (by intro v h; cases h)
  case n4 => exact ne_cell N1 (.tail _ (.tail _ (.tail _ (.tail _ (.tail _ (.head _)))))) (by with_reducible assumption) (.tail _ (.tail _ (.tail _ (.head _)))) (by intro v h; cases h)
  case n5 => exact ne_cell N1 (.tail _ (.tail _ (.tail _ (.tail _ (.tail _ (.head _)))))) (by with_reducible assumption) (.tail _ (.tail _ (.tail _ (.tail _ (.head _))))) (by intro v h; cases h)
  case n6 =>
    intro p hp
    refine ne_cell N1 (.tail _ (.tail _ (.tail _ (.tail _ (.tail _ (.head _)))))) (by with_reducible assumption) (.tail _ (.tail _ (.tail _ (.tail _ (.tail _ (.tail _ hp)))))) ?_
    simp only [List.mem_cons] at hp
    rcases hp with rfl | rfl | rfl | rfl | hp
    · intro v h; cases h
    · intro v h; cases h
    · intro v h; cases h
    · intro v h; cases h
    · exact hTc p hp
  try dsimp only at N8
  clear N1 hnt
  clear hTc
  k_extra "c_stepj"
  refine held_in ?_
  refine ListComp_Z (F₀ := by k_asm) (by with_unfolding_all rfl) (by decide) (by rfl) (by decide) (by rfl) (by rfl) (by decide) ?_
  k_extra "c_stepj"
  refine zip_L (by k_asm) N8 (k1 := pk) (k2 := 0) (by k_extra "c_mem") (by k_extra "c_mem") (fun h10 z2 TI2 TO2 i12 i22 F10 N10 Z10 => ?_)
  clear N8 F8
  refine SrcZ.intro (fun i ys => IntsAre ys (((xs.zip lo).take i).map fun p => p.2 * stepsF p.1 lastS)) (by rfl) Z10 (by k_extra "c_mem") (by k_extra "c_mem") (by k_extra "omx") (by k_extra "omx") F10 .nil ?_ ?_
  · intro i ys v₁ v₂ own C oC D m₂ h11 tk11 E11 hi hv1 hv2 hJ hC hx1 hx2 F11 N11
    refine hide fun GZ kGZ => ?_
    obtain ⟨px, tp, rfl, hpx⟩ := hps.get hv1
    refine kGZ ?_
    clear kGZ GZ
    refine hide fun GZ kGZ => ?_
    obtain ⟨n, tn, rfl, hn⟩ := ints_get hlo hv2
    refine kGZ ?_
    clear kGZ GZ
    have hS := hL.steps px (List.mem_of_getElem? hpx)
    have hnl := hL.low n (List.mem_of_getElem? hn)
    have hzi : (xs.zip lo)[i]? = some (px, n) := by rw [List.getElem?_zip_eq_some]; exact ⟨hpx, hn⟩
    have est : ((xs.zip lo).take (i + 1)).map (fun p => p.2 * stepsF p.1 lastS) = ((xs.zip lo).take i).map (fun p => p.2 * stepsF p.1 lastS) ++ [n * stepsF px lastS] := by
      rw [List.take_add_one, hzi]; simp
    rw [est]
    clear est N10 F10 Z10
    k_extra "c_stepk"
    refine held_in ?_
    rename News _ _ _ _ => N12
    (k_here; k_dflt (refine' con_use ((steps_c w _ px lastS tp _ hS.x1 hS.x2 hS.y1 hS.y2 hS.xs hS.ys hS.jl)) ?k1 ?k2 ?k3 ?k4 ?k5 ?kd ?ku ?_; (case k1 => k_asm); (case k2 => k_asm); (case k3 => k_asm); (case k4 => k_asm); (case k5 => k_asm); (case kd => k_extra "c_room"); (case ku => k_extra "c_units"); k_whole))
    intro r h12 tk12 n12 F12 N13 hq6
    refine hide fun GZ kGZ => ?_
    obtain ⟨⟨u12, rfl⟩, rfl⟩ := hq6
    refine kGZ ?_
    clear kGZ GZ
    have hs1 := hS.lo
    have hs2 := hS.hi
    obtain ⟨hn1, hn2⟩ := hnl
    clear N12 hS hzi
    k_extra "c_stepk"
    rename News _ _ _ _ => N12
    exact ZEnd.intro (by k_asm) N12 (hJ.append ints_one)
  · intro D h11 tk11 ys hJ F11 N11 offD
    rw [List.take_of_length_le (by k_extra "omx")] at hJ
    have hsm := hL.sum.symm
    generalize ((xs.zip lo).map fun p => p.2 * stepsF p.1 lastS) = ms at hJ hsm
    have hrl9 : (carryF rs (xs.zip lo)).rs.length ≤ 1000 := by rw [hL.rows]; exact Nat.le_trans (List.length_filter_le _ _) hrl
    have hv9 := hrs9.length
    k_extra "c_stepk"
    refine held_in ?_
    rename News _ _ _ _ => N12
    (k_here; k_dflt (refine' con_use ((lesser_c w _ ov _ ovs _ ok 0 os lo (.tail _ (.tail _ (.tail _ (.tail _ (.tail _ (.tail _ (.tail _ (.tail _ (.tail _ (.tail _ (.head _))))))))))) hov (.tail _ (.tail _ (.tail _ (.tail _ (.tail _ (.tail _ (.tail _ (.tail _ (.tail _ (.head _)))))))))) hlo hO hll)) ?k1 ?k2 ?k3 ?k4 ?k5 ?kd ?ku ?_; (case k1 => k_asm); (case k2 => k_asm); (case k3 => k_asm); (case k4 => k_asm); (case k5 => k_asm); (case kd => k_extra "c_room"); (case ku => k_extra "c_units"); k_whole))
    intro r h12 tk12 n12 F12 N13 hq6
    refine hide fun GZ kGZ => ?_
    refine exE4 (hq6) ?_
    clear hq6
    intro a9 ws9 k10 ns9 hzZ
    refine andE6 hzZ ?_
    clear hzZ
    rintro rfl rfl hi9 hp9 hs9 hl9
    refine kGZ ?_
    clear kGZ GZ
    have e9 : ns9 = (carryF rs (xs.zip lo)).car := List.Perm.eq_of_pairwise (fun a b _ _ h1 h2 => Int.le_antisymm h1 h2) hs9 hL.srt (hp9.trans hL.perm.symm)
    subst e9
    clear N12 hp9 hs9
    k_extra "c_stepq"
    · refine held_in ?_
      rename News _ _ _ _ => N12
      have N14 := led_lawtab N12
      (k_here; k_dflt (refine' con_use ((items_c w x dx hl hsh th nd k9 vs9 _ (by k_extra "omx"))) ?k1 ?k2 ?k3 ?k4 ?k5 ?kd ?ku ?_; (case k1 => k_asm); (case k2 => k_asm); (case k3 => k_asm); (case k4 => k_asm); (case k5 => k_asm); (case kd => k_extra "c_room"); (case ku => k_extra "c_units"); k_whole))
      intro r h13 tk13 n13 F13 N15 hq6
      refine hide fun GZ kGZ => ?_
      obtain ⟨li2, rfl, rfl, hli2⟩ := hq6
      refine kGZ ?_
      clear kGZ GZ
      clear N14 N12
      k_extra "c_stepj"
      refine held_in ?_
      refine LCt.ListComp_T (F₀ := by k_asm) (by with_unfolding_all rfl) (by decide) (by rfl) (by decide) (by rfl) ?_
      k_extra "c_step4"
      rename News _ _ _ _ => N16
      have hzl9 := hL.zlen
      have hrw := hL.rows
      have hrk := hL.rok
      have hlw := hL.rlen
      refine LCt.CompSrcT.ledger (by rfl) (by k_asm) N16 (by k_extra "c_mem") (by simp [sizeLine_eq]; k_extra "omx") ?_
      intro g
      refine compRestT_inv vs4.length (fun i ys n => n = _ ∧ RowsAre T ys (lastR lastS (rs.take i))) ?_ ?_ _ 0 [] _ (by simp) ⟨rfl, .nil⟩
      · intro i ys2 n v I oI C oC D2 m2 h14 tk14 E14 hi hq14 hv hC hx F14 N17 off2 ne2
        refine hide fun GZ kGZ => ?_
        obtain ⟨rfl, hJ2⟩ := hq14
        refine kGZ ?_
        clear kGZ GZ
        refine hide fun GZ kGZ => ?_
        refine exE6 (hRT.get (by simpa using hv)) ?_
        intro a nx ny tx ty nn hzZ
        refine andE3 hzZ ?_
        clear hzZ
        rintro rfl hri hmr
        refine kGZ ?_
        clear kGZ GZ
        have hnx : nx.length ≤ 1000 := hlw _ (List.mem_of_getElem? hri)
        have hst := lastR_step hri lastS
        rw [hst]
        clear N16 hst
        k_extra "c_step4"
        · refine CompEnd.intro (by k_asm) (by k_asm) _ (by k_extra "c_sub") off2 (.inr ⟨_, by k_mem, rfl, _, rfl⟩) ⟨rfl, ?_⟩
          rw [if_pos (by assumption)]
          exact hJ2.snoc hmr
        · refine CompEnd.intro (by k_asm) (by k_asm) _ (by k_extra "c_sub") off2 (.inr ⟨_, by k_mem, rfl, _, rfl⟩) ⟨rfl, ?_⟩
          rw [if_neg (Bool.eq_false_iff.mp (by assumption)), List.append_nil]
          exact hJ2
      · intro ys2 n hq2
        refine hide fun GZ kGZ => ?_
        obtain ⟨rfl, hJ2⟩ := hq2
        refine kGZ ?_
        clear kGZ GZ
        rw [hvr, List.take_length] at hJ2
        refine fun D2 h14 tk14 F14 N17 o1 => ?_
        k_extra "c_step4"
        refine held_in ?_
        rename News _ _ _ _ => N18
        rw [hrw] at hrs9
        refine rows_eq N18 (.tail _ (.head _)) (.head _) (hrs9.mono fun p hp => .tail _ (.tail _ (.tail _ (.tail _ (.tail _ (.tail _ hp)))))) (hJ2.mono fun p hp => .tail _ (.tail _ (.tail _ (.tail _ (.tail _ (.tail _ (.tail _ (.tail _ (.tail _ (.tail _ hp)))))))))) (fun r hr => hrk r (List.mem_filter.mp hr).1) (by k_extra "c_units") ?_
        k_extra "c_stepq"
        k_end
        exact good_true ns (by assumption) (by assumption) rfl
    · rename (_ ≠ _) => hne
      exact absurd hsm.symm hne
end Mine


theorem PySem.Challenge.cw_il0095_01_holds : PySem.Challenge.rw_il0095_01.Holds :=
  Mine.goal
