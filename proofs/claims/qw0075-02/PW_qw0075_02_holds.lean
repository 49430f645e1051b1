import PyProof.Rows.All
import Wide.All
import OpenK.AllK
import Wide.FinOn
import PySem.Challenge.RW_qw0075_02
set_option maxRecDepth 100000
set_option maxHeartbeats 8000000
set_option Elab.async false
set_option genInjectivity false
set_option linter.unusedVariables false
set_option linter.unusedSimpArgs false
section SE01
open PySem PySem.W PyProof.Rows
namespace Mine
theorem wit_ex {α : Type} (h : Nonempty α) (P : α → Prop) : Nonempty { q : α // P q → ∀ a, P a } := by
  by_cases q : ∃ a, ¬ P a
  · obtain ⟨a, ha⟩ := q
    exact ⟨⟨a, fun x => absurd x ha⟩⟩
  · obtain ⟨a⟩ := h
    exact ⟨⟨a, fun _ b => Classical.byContradiction fun x => q ⟨b, x⟩⟩⟩
noncomputable def wit {α : Type} (h : Nonempty α) (P : α → Prop) : { q : α // P q → ∀ a, P a } := Classical.choice (wit_ex h P)
theorem ne_prod {α β : Type} (a : Nonempty α) (b : Nonempty β) : Nonempty (α × β) := a.elim fun a => b.elim fun b => ⟨(a, b)⟩
theorem ne_world : Nonempty World := ⟨⟨fun _ _ => 0, { strHash := fun _ => 0, shareClass := fun _ => 0, mergeTok := id, idOf := fun _ => 0, idOfShared := fun _ _ => 0, followText := fun _ => false, idOfImm := fun _ => 0 }⟩⟩
theorem ne_shared : Nonempty Shared := ⟨{}⟩
theorem ne_around : Nonempty Around := ⟨{}⟩
noncomputable def Pk1 {α1 : Type} (P : α1 → Prop) : Type := { q : α1 // P q → ∀ a : α1, P a }
noncomputable def pk1 {α1 : Type} (h : Nonempty (α1)) (P : α1 → Prop) : Pk1 P := wit h fun q => P q
theorem Pk1.use {α1 : Type} {P : α1 → Prop} (c : Pk1 P) (h : P c.1) : ∀ a0, P a0 := fun a0 => c.2 h a0
noncomputable def Pk2 {α1 α2 : Type} (P : α1 → α2 → Prop) : Type := { q : α1 × α2 // P q.1 q.2 → ∀ a : α1 × α2, P a.1 a.2 }
noncomputable def pk2 {α1 α2 : Type} (h : Nonempty (α1 × α2)) (P : α1 → α2 → Prop) : Pk2 P := wit h fun q => P q.1 q.2
theorem Pk2.use {α1 α2 : Type} {P : α1 → α2 → Prop} (c : Pk2 P) (h : P c.1.1 c.1.2) : ∀ a0 a1, P a0 a1 := fun a0 a1 => c.2 h (a0, a1)
noncomputable def Pk3 {α1 α2 α3 : Type} (P : α1 → α2 → α3 → Prop) : Type := { q : α1 × α2 × α3 // P q.1 q.2.1 q.2.2 → ∀ a : α1 × α2 × α3, P a.1 a.2.1 a.2.2 }
noncomputable def pk3 {α1 α2 α3 : Type} (h : Nonempty (α1 × α2 × α3)) (P : α1 → α2 → α3 → Prop) : Pk3 P := wit h fun q => P q.1 q.2.1 q.2.2
theorem Pk3.use {α1 α2 α3 : Type} {P : α1 → α2 → α3 → Prop} (c : Pk3 P) (h : P c.1.1 c.1.2.1 c.1.2.2) : ∀ a0 a1 a2, P a0 a1 a2 := fun a0 a1 a2 => c.2 h (a0, a1, a2)
noncomputable def Pk4 {α1 α2 α3 α4 : Type} (P : α1 → α2 → α3 → α4 → Prop) : Type := { q : α1 × α2 × α3 × α4 // P q.1 q.2.1 q.2.2.1 q.2.2.2 → ∀ a : α1 × α2 × α3 × α4, P a.1 a.2.1 a.2.2.1 a.2.2.2 }
noncomputable def pk4 {α1 α2 α3 α4 : Type} (h : Nonempty (α1 × α2 × α3 × α4)) (P : α1 → α2 → α3 → α4 → Prop) : Pk4 P := wit h fun q => P q.1 q.2.1 q.2.2.1 q.2.2.2
theorem Pk4.use {α1 α2 α3 α4 : Type} {P : α1 → α2 → α3 → α4 → Prop} (c : Pk4 P) (h : P c.1.1 c.1.2.1 c.1.2.2.1 c.1.2.2.2) : ∀ a0 a1 a2 a3, P a0 a1 a2 a3 := fun a0 a1 a2 a3 => c.2 h (a0, a1, a2, a3)
noncomputable def Pk5 {α1 α2 α3 α4 α5 : Type} (P : α1 → α2 → α3 → α4 → α5 → Prop) : Type := { q : α1 × α2 × α3 × α4 × α5 // P q.1 q.2.1 q.2.2.1 q.2.2.2.1 q.2.2.2.2 → ∀ a : α1 × α2 × α3 × α4 × α5, P a.1 a.2.1 a.2.2.1 a.2.2.2.1 a.2.2.2.2 }
noncomputable def pk5 {α1 α2 α3 α4 α5 : Type} (h : Nonempty (α1 × α2 × α3 × α4 × α5)) (P : α1 → α2 → α3 → α4 → α5 → Prop) : Pk5 P := wit h fun q => P q.1 q.2.1 q.2.2.1 q.2.2.2.1 q.2.2.2.2
theorem Pk5.use {α1 α2 α3 α4 α5 : Type} {P : α1 → α2 → α3 → α4 → α5 → Prop} (c : Pk5 P) (h : P c.1.1 c.1.2.1 c.1.2.2.1 c.1.2.2.2.1 c.1.2.2.2.2) : ∀ a0 a1 a2 a3 a4, P a0 a1 a2 a3 a4 := fun a0 a1 a2 a3 a4 => c.2 h (a0, a1, a2, a3, a4)
noncomputable def Pk6 {α1 α2 α3 α4 α5 α6 : Type} (P : α1 → α2 → α3 → α4 → α5 → α6 → Prop) : Type := { q : α1 × α2 × α3 × α4 × α5 × α6 // P q.1 q.2.1 q.2.2.1 q.2.2.2.1 q.2.2.2.2.1 q.2.2.2.2.2 → ∀ a : α1 × α2 × α3 × α4 × α5 × α6, P a.1 a.2.1 a.2.2.1 a.2.2.2.1 a.2.2.2.2.1 a.2.2.2.2.2 }
noncomputable def pk6 {α1 α2 α3 α4 α5 α6 : Type} (h : Nonempty (α1 × α2 × α3 × α4 × α5 × α6)) (P : α1 → α2 → α3 → α4 → α5 → α6 → Prop) : Pk6 P := wit h fun q => P q.1 q.2.1 q.2.2.1 q.2.2.2.1 q.2.2.2.2.1 q.2.2.2.2.2
theorem Pk6.use {α1 α2 α3 α4 α5 α6 : Type} {P : α1 → α2 → α3 → α4 → α5 → α6 → Prop} (c : Pk6 P) (h : P c.1.1 c.1.2.1 c.1.2.2.1 c.1.2.2.2.1 c.1.2.2.2.2.1 c.1.2.2.2.2.2) : ∀ a0 a1 a2 a3 a4 a5, P a0 a1 a2 a3 a4 a5 := fun a0 a1 a2 a3 a4 a5 => c.2 h (a0, a1, a2, a3, a4, a5)
noncomputable def Pk7 {α1 α2 α3 α4 α5 α6 α7 : Type} (P : α1 → α2 → α3 → α4 → α5 → α6 → α7 → Prop) : Type := { q : α1 × α2 × α3 × α4 × α5 × α6 × α7 // P q.1 q.2.1 q.2.2.1 q.2.2.2.1 q.2.2.2.2.1 q.2.2.2.2.2.1 q.2.2.2.2.2.2 → ∀ a : α1 × α2 × α3 × α4 × α5 × α6 × α7, P a.1 a.2.1 a.2.2.1 a.2.2.2.1 a.2.2.2.2.1 a.2.2.2.2.2.1 a.2.2.2.2.2.2 }
noncomputable def pk7 {α1 α2 α3 α4 α5 α6 α7 : Type} (h : Nonempty (α1 × α2 × α3 × α4 × α5 × α6 × α7)) (P : α1 → α2 → α3 → α4 → α5 → α6 → α7 → Prop) : Pk7 P := wit h fun q => P q.1 q.2.1 q.2.2.1 q.2.2.2.1 q.2.2.2.2.1 q.2.2.2.2.2.1 q.2.2.2.2.2.2
theorem Pk7.use {α1 α2 α3 α4 α5 α6 α7 : Type} {P : α1 → α2 → α3 → α4 → α5 → α6 → α7 → Prop} (c : Pk7 P) (h : P c.1.1 c.1.2.1 c.1.2.2.1 c.1.2.2.2.1 c.1.2.2.2.2.1 c.1.2.2.2.2.2.1 c.1.2.2.2.2.2.2) : ∀ a0 a1 a2 a3 a4 a5 a6, P a0 a1 a2 a3 a4 a5 a6 := fun a0 a1 a2 a3 a4 a5 a6 => c.2 h (a0, a1, a2, a3, a4, a5, a6)
noncomputable def Pk8 {α1 α2 α3 α4 α5 α6 α7 α8 : Type} (P : α1 → α2 → α3 → α4 → α5 → α6 → α7 → α8 → Prop) : Type := { q : α1 × α2 × α3 × α4 × α5 × α6 × α7 × α8 // P q.1 q.2.1 q.2.2.1 q.2.2.2.1 q.2.2.2.2.1 q.2.2.2.2.2.1 q.2.2.2.2.2.2.1 q.2.2.2.2.2.2.2 → ∀ a : α1 × α2 × α3 × α4 × α5 × α6 × α7 × α8, P a.1 a.2.1 a.2.2.1 a.2.2.2.1 a.2.2.2.2.1 a.2.2.2.2.2.1 a.2.2.2.2.2.2.1 a.2.2.2.2.2.2.2 }
noncomputable def pk8 {α1 α2 α3 α4 α5 α6 α7 α8 : Type} (h : Nonempty (α1 × α2 × α3 × α4 × α5 × α6 × α7 × α8)) (P : α1 → α2 → α3 → α4 → α5 → α6 → α7 → α8 → Prop) : Pk8 P := wit h fun q => P q.1 q.2.1 q.2.2.1 q.2.2.2.1 q.2.2.2.2.1 q.2.2.2.2.2.1 q.2.2.2.2.2.2.1 q.2.2.2.2.2.2.2
theorem Pk8.use {α1 α2 α3 α4 α5 α6 α7 α8 : Type} {P : α1 → α2 → α3 → α4 → α5 → α6 → α7 → α8 → Prop} (c : Pk8 P) (h : P c.1.1 c.1.2.1 c.1.2.2.1 c.1.2.2.2.1 c.1.2.2.2.2.1 c.1.2.2.2.2.2.1 c.1.2.2.2.2.2.2.1 c.1.2.2.2.2.2.2.2) : ∀ a0 a1 a2 a3 a4 a5 a6 a7, P a0 a1 a2 a3 a4 a5 a6 a7 := fun a0 a1 a2 a3 a4 a5 a6 a7 => c.2 h (a0, a1, a2, a3, a4, a5, a6, a7)
noncomputable def Pk9 {α1 α2 α3 α4 α5 α6 α7 α8 α9 : Type} (P : α1 → α2 → α3 → α4 → α5 → α6 → α7 → α8 → α9 → Prop) : Type := { q : α1 × α2 × α3 × α4 × α5 × α6 × α7 × α8 × α9 // P q.1 q.2.1 q.2.2.1 q.2.2.2.1 q.2.2.2.2.1 q.2.2.2.2.2.1 q.2.2.2.2.2.2.1 q.2.2.2.2.2.2.2.1 q.2.2.2.2.2.2.2.2 → ∀ a : α1 × α2 × α3 × α4 × α5 × α6 × α7 × α8 × α9, P a.1 a.2.1 a.2.2.1 a.2.2.2.1 a.2.2.2.2.1 a.2.2.2.2.2.1 a.2.2.2.2.2.2.1 a.2.2.2.2.2.2.2.1 a.2.2.2.2.2.2.2.2 }
noncomputable def pk9 {α1 α2 α3 α4 α5 α6 α7 α8 α9 : Type} (h : Nonempty (α1 × α2 × α3 × α4 × α5 × α6 × α7 × α8 × α9)) (P : α1 → α2 → α3 → α4 → α5 → α6 → α7 → α8 → α9 → Prop) : Pk9 P := wit h fun q => P q.1 q.2.1 q.2.2.1 q.2.2.2.1 q.2.2.2.2.1 q.2.2.2.2.2.1 q.2.2.2.2.2.2.1 q.2.2.2.2.2.2.2.1 q.2.2.2.2.2.2.2.2
theorem Pk9.use {α1 α2 α3 α4 α5 α6 α7 α8 α9 : Type} {P : α1 → α2 → α3 → α4 → α5 → α6 → α7 → α8 → α9 → Prop} (c : Pk9 P) (h : P c.1.1 c.1.2.1 c.1.2.2.1 c.1.2.2.2.1 c.1.2.2.2.2.1 c.1.2.2.2.2.2.1 c.1.2.2.2.2.2.2.1 c.1.2.2.2.2.2.2.2.1 c.1.2.2.2.2.2.2.2.2) : ∀ a0 a1 a2 a3 a4 a5 a6 a7 a8, P a0 a1 a2 a3 a4 a5 a6 a7 a8 := fun a0 a1 a2 a3 a4 a5 a6 a7 a8 => c.2 h (a0, a1, a2, a3, a4, a5, a6, a7, a8)
noncomputable def Pk10 {α1 α2 α3 α4 α5 α6 α7 α8 α9 α10 : Type} (P : α1 → α2 → α3 → α4 → α5 → α6 → α7 → α8 → α9 → α10 → Prop) : Type := { q : α1 × α2 × α3 × α4 × α5 × α6 × α7 × α8 × α9 × α10 // P q.1 q.2.1 q.2.2.1 q.2.2.2.1 q.2.2.2.2.1 q.2.2.2.2.2.1 q.2.2.2.2.2.2.1 q.2.2.2.2.2.2.2.1 q.2.2.2.2.2.2.2.2.1 q.2.2.2.2.2.2.2.2.2 → ∀ a : α1 × α2 × α3 × α4 × α5 × α6 × α7 × α8 × α9 × α10, P a.1 a.2.1 a.2.2.1 a.2.2.2.1 a.2.2.2.2.1 a.2.2.2.2.2.1 a.2.2.2.2.2.2.1 a.2.2.2.2.2.2.2.1 a.2.2.2.2.2.2.2.2.1 a.2.2.2.2.2.2.2.2.2 }
noncomputable def pk10 {α1 α2 α3 α4 α5 α6 α7 α8 α9 α10 : Type} (h : Nonempty (α1 × α2 × α3 × α4 × α5 × α6 × α7 × α8 × α9 × α10)) (P : α1 → α2 → α3 → α4 → α5 → α6 → α7 → α8 → α9 → α10 → Prop) : Pk10 P := wit h fun q => P q.1 q.2.1 q.2.2.1 q.2.2.2.1 q.2.2.2.2.1 q.2.2.2.2.2.1 q.2.2.2.2.2.2.1 q.2.2.2.2.2.2.2.1 q.2.2.2.2.2.2.2.2.1 q.2.2.2.2.2.2.2.2.2
theorem Pk10.use {α1 α2 α3 α4 α5 α6 α7 α8 α9 α10 : Type} {P : α1 → α2 → α3 → α4 → α5 → α6 → α7 → α8 → α9 → α10 → Prop} (c : Pk10 P) (h : P c.1.1 c.1.2.1 c.1.2.2.1 c.1.2.2.2.1 c.1.2.2.2.2.1 c.1.2.2.2.2.2.1 c.1.2.2.2.2.2.2.1 c.1.2.2.2.2.2.2.2.1 c.1.2.2.2.2.2.2.2.2.1 c.1.2.2.2.2.2.2.2.2.2) : ∀ a0 a1 a2 a3 a4 a5 a6 a7 a8 a9, P a0 a1 a2 a3 a4 a5 a6 a7 a8 a9 := fun a0 a1 a2 a3 a4 a5 a6 a7 a8 a9 => c.2 h (a0, a1, a2, a3, a4, a5, a6, a7, a8, a9)
noncomputable def Pk11 {α1 α2 α3 α4 α5 α6 α7 α8 α9 α10 α11 : Type} (P : α1 → α2 → α3 → α4 → α5 → α6 → α7 → α8 → α9 → α10 → α11 → Prop) : Type := { q : α1 × α2 × α3 × α4 × α5 × α6 × α7 × α8 × α9 × α10 × α11 // P q.1 q.2.1 q.2.2.1 q.2.2.2.1 q.2.2.2.2.1 q.2.2.2.2.2.1 q.2.2.2.2.2.2.1 q.2.2.2.2.2.2.2.1 q.2.2.2.2.2.2.2.2.1 q.2.2.2.2.2.2.2.2.2.1 q.2.2.2.2.2.2.2.2.2.2 → ∀ a : α1 × α2 × α3 × α4 × α5 × α6 × α7 × α8 × α9 × α10 × α11, P a.1 a.2.1 a.2.2.1 a.2.2.2.1 a.2.2.2.2.1 a.2.2.2.2.2.1 a.2.2.2.2.2.2.1 a.2.2.2.2.2.2.2.1 a.2.2.2.2.2.2.2.2.1 a.2.2.2.2.2.2.2.2.2.1 a.2.2.2.2.2.2.2.2.2.2 }
noncomputable def pk11 {α1 α2 α3 α4 α5 α6 α7 α8 α9 α10 α11 : Type} (h : Nonempty (α1 × α2 × α3 × α4 × α5 × α6 × α7 × α8 × α9 × α10 × α11)) (P : α1 → α2 → α3 → α4 → α5 → α6 → α7 → α8 → α9 → α10 → α11 → Prop) : Pk11 P := wit h fun q => P q.1 q.2.1 q.2.2.1 q.2.2.2.1 q.2.2.2.2.1 q.2.2.2.2.2.1 q.2.2.2.2.2.2.1 q.2.2.2.2.2.2.2.1 q.2.2.2.2.2.2.2.2.1 q.2.2.2.2.2.2.2.2.2.1 q.2.2.2.2.2.2.2.2.2.2
theorem Pk11.use {α1 α2 α3 α4 α5 α6 α7 α8 α9 α10 α11 : Type} {P : α1 → α2 → α3 → α4 → α5 → α6 → α7 → α8 → α9 → α10 → α11 → Prop} (c : Pk11 P) (h : P c.1.1 c.1.2.1 c.1.2.2.1 c.1.2.2.2.1 c.1.2.2.2.2.1 c.1.2.2.2.2.2.1 c.1.2.2.2.2.2.2.1 c.1.2.2.2.2.2.2.2.1 c.1.2.2.2.2.2.2.2.2.1 c.1.2.2.2.2.2.2.2.2.2.1 c.1.2.2.2.2.2.2.2.2.2.2) : ∀ a0 a1 a2 a3 a4 a5 a6 a7 a8 a9 a10, P a0 a1 a2 a3 a4 a5 a6 a7 a8 a9 a10 := fun a0 a1 a2 a3 a4 a5 a6 a7 a8 a9 a10 => c.2 h (a0, a1, a2, a3, a4, a5, a6, a7, a8, a9, a10)
noncomputable def Pk12 {α1 α2 α3 α4 α5 α6 α7 α8 α9 α10 α11 α12 : Type} (P : α1 → α2 → α3 → α4 → α5 → α6 → α7 → α8 → α9 → α10 → α11 → α12 → Prop) : Type := { q : α1 × α2 × α3 × α4 × α5 × α6 × α7 × α8 × α9 × α10 × α11 × α12 // P q.1 q.2.1 q.2.2.1 q.2.2.2.1 q.2.2.2.2.1 q.2.2.2.2.2.1 q.2.2.2.2.2.2.1 q.2.2.2.2.2.2.2.1 q.2.2.2.2.2.2.2.2.1 q.2.2.2.2.2.2.2.2.2.1 q.2.2.2.2.2.2.2.2.2.2.1 q.2.2.2.2.2.2.2.2.2.2.2 → ∀ a : α1 × α2 × α3 × α4 × α5 × α6 × α7 × α8 × α9 × α10 × α11 × α12, P a.1 a.2.1 a.2.2.1 a.2.2.2.1 a.2.2.2.2.1 a.2.2.2.2.2.1 a.2.2.2.2.2.2.1 a.2.2.2.2.2.2.2.1 a.2.2.2.2.2.2.2.2.1 a.2.2.2.2.2.2.2.2.2.1 a.2.2.2.2.2.2.2.2.2.2.1 a.2.2.2.2.2.2.2.2.2.2.2 }
noncomputable def pk12 {α1 α2 α3 α4 α5 α6 α7 α8 α9 α10 α11 α12 : Type} (h : Nonempty (α1 × α2 × α3 × α4 × α5 × α6 × α7 × α8 × α9 × α10 × α11 × α12)) (P : α1 → α2 → α3 → α4 → α5 → α6 → α7 → α8 → α9 → α10 → α11 → α12 → Prop) : Pk12 P := wit h fun q => P q.1 q.2.1 q.2.2.1 q.2.2.2.1 q.2.2.2.2.1 q.2.2.2.2.2.1 q.2.2.2.2.2.2.1 q.2.2.2.2.2.2.2.1 q.2.2.2.2.2.2.2.2.1 q.2.2.2.2.2.2.2.2.2.1 q.2.2.2.2.2.2.2.2.2.2.1 q.2.2.2.2.2.2.2.2.2.2.2
theorem Pk12.use {α1 α2 α3 α4 α5 α6 α7 α8 α9 α10 α11 α12 : Type} {P : α1 → α2 → α3 → α4 → α5 → α6 → α7 → α8 → α9 → α10 → α11 → α12 → Prop} (c : Pk12 P) (h : P c.1.1 c.1.2.1 c.1.2.2.1 c.1.2.2.2.1 c.1.2.2.2.2.1 c.1.2.2.2.2.2.1 c.1.2.2.2.2.2.2.1 c.1.2.2.2.2.2.2.2.1 c.1.2.2.2.2.2.2.2.2.1 c.1.2.2.2.2.2.2.2.2.2.1 c.1.2.2.2.2.2.2.2.2.2.2.1 c.1.2.2.2.2.2.2.2.2.2.2.2) : ∀ a0 a1 a2 a3 a4 a5 a6 a7 a8 a9 a10 a11, P a0 a1 a2 a3 a4 a5 a6 a7 a8 a9 a10 a11 := fun a0 a1 a2 a3 a4 a5 a6 a7 a8 a9 a10 a11 => c.2 h (a0, a1, a2, a3, a4, a5, a6, a7, a8, a9, a10, a11)
end Mine
end SE01
section SC01
open PySem PySem.W PyProof.Rows
namespace Mine
noncomputable def badIds : List String := Builtin.Bytes.decodersThatHold ++ ["bytearray.__contains__", "bytearray.__mod__", "bytearray.__rmod__", "_struct.pack_into.held", "bytearray.find.held"]
noncomputable def okCode : Code → Bool
  | .builtin id _ => !badIds.contains id
  | _ => true
noncomputable def Clean (Γ : Ctx) : Prop := okCode Γ.code = true ∧ ∀ c ∈ Γ.below, okCode c.1 = true
theorem Clean.enter {Γ : Ctx} (h : Clean Γ) {c : Code} (hc : okCode c = true) (hd : Option Value) (p : Pos) : Clean (Γ.enter c hd p) :=
  ⟨hc, fun x hx => (List.mem_cons.mp hx).elim (fun e => e ▸ h.1) (h.2 x)⟩
theorem Clean.goto {Γ : Ctx} (h : Clean Γ) {c : Code} (hc : okCode c = true) : Clean (Γ.goto c) := ⟨hc, h.2⟩

noncomputable def wpC {α : Type} (M : Model) (A : Around) (t : Sem α) (Q : α → Shared → Prop) (E : Value → Shared → Prop) (s : Shared) : Prop :=
  ∀ Γ p, Γ.In A → Clean Γ → Sem.wp M Γ t (fun a _ s' => Q a s') (fun e _ s' => E e s') p s
noncomputable def codeC (M : Model) (A : Around) (c : Code) (R : Result → Shared → Prop) (s : Shared) : Prop :=
  ∀ Γ p, Γ.code = c → Γ.Below A → Clean Γ → wpCode M Γ R p s

section
variable {α β : Type} {M : Model} {A : Around} {E : Value → Shared → Prop} {s : Shared}
theorem wpC_of {t : Sem α} {Q : α → Shared → Prop} (h : wpAny M A t Q E s) : wpC M A t Q E s := fun Γ p hΓ _ => h Γ p hΓ
theorem codeC_of {c : Code} {R : Result → Shared → Prop} (h : codeAny M A c R s) : codeC M A c R s := fun Γ p hc hΓ _ => h Γ p hc hΓ
theorem wpC_pure {a : α} {Q : α → Shared → Prop} (h : Q a s) : wpC M A (pure a) Q E s := wpC_of (wpAny_pure h)
theorem wpC_mono {t : Sem α} {Q Q' : α → Shared → Prop} {E' : Value → Shared → Prop} (h : wpC M A t Q E s) (hQ : ∀ a s, Q a s → Q' a s) (hE : ∀ e s, E e s → E' e s) : wpC M A t Q' E' s :=
  fun Γ p hΓ hc => Sem.wp_mono M Γ t (fun a _ s => hQ a s) (fun e _ s => hE e s) p s (h Γ p hΓ hc)
theorem wpC_bind {m : Sem α} {f : α → Sem β} {Q : β → Shared → Prop} (h : wpC M A m (fun a s' => wpC M A (f a) Q E s') E s) : wpC M A (m >>= f) Q E s := fun Γ p hΓ hc => by
  rw [Sem.wp_bind']
  exact Sem.wp_mono M Γ m (fun a p' s' h' => h' Γ p' hΓ hc) (fun _ _ _ h' => h') p s (h Γ p hΓ hc)
theorem wpC_onRaise {m : Sem α} {k : Value → Sem Unit} {Q : α → Shared → Prop} (h : wpC M A m Q (fun _ _ => False) s) : wpC M A (m.onRaise k) Q E s := fun Γ p hΓ hc => by
  rw [Sem.wp_onRaise]
  exact Sem.wp_mono M Γ m (fun _ _ _ h' => h') (fun e p' s' h' => h'.elim) p s (h Γ p hΓ hc)
theorem wpC_holding {vs : List Value} {m : Sem α} {Q : α → Shared → Prop} (h : wpC M A m Q E s) : wpC M A (holding vs m) Q E s :=
  fun Γ p hΓ hc => by rw [Sem.wp_holding]; exact h Γ p hΓ hc
theorem wpC_standAt {pos : Pos} {Q : Unit → Shared → Prop} (h : Q () s) : wpC M A (standAt pos) Q E s := wpC_of (wpAny_standAt h)
theorem wpC_stack {Q : List (Code × Pos) → Shared → Prop} (h : ∀ st : List (Code × Pos), (∀ c ∈ st, okCode c.1 = true) → Q st s) : wpC M A stack Q E s := fun Γ p _ hc =>
  h ((Γ.code, p) :: Γ.below) fun x hx => (List.mem_cons.mp hx).elim (fun e => e ▸ hc.1) (hc.2 x)
theorem wpC_run {c : Code} {h : Option Value} {Q : Flow → Shared → Prop} (ok : okCode c = true)
    (hc : codeC M (A.mark h) c (fun r s' => match r with | .ok f => Q f s' | .error e => E e s') s) (hnb : h ≠ some byPass := by nofun) : wpC M A (run c h) Q E s :=
  fun Γ p hΓ cl => by rw [Sem.wp_run]; exact hc _ p rfl (hΓ.enter c h p hnb) (cl.enter ok h p)
theorem wpC_runValue {c : Code} {Q : Value → Shared → Prop} (ok : okCode c = true)
    (hc : codeC M A c (fun r s' => match r with | .ok (.ret v) => Q v s' | .ok _ => False | .error e => E e s') s) : wpC M A (runValue c) Q E s :=
  fun Γ p hΓ cl => by rw [Sem.wp_runValue]; exact hc _ p rfl (hΓ.enter c none p (by intro x; cases x)) (cl.enter ok none p)
theorem wpC_call {f : Value} {pos : List Value} {kw : List (Str × Value)} {Q : Value → Shared → Prop}
    (hc : codeC M A (.call f ⟨pos, kw⟩) (fun r s' => match r with | .ok (.ret v) => Q v s' | .ok _ => False | .error e => E e s') s) : wpC M A (call f pos kw) Q E s := wpC_runValue rfl hc
theorem codeC_mono {c : Code} {R R' : Result → Shared → Prop} (h : codeC M A c R s) (hR : ∀ r s, R r s → R' r s) : codeC M A c R' s :=
  fun Γ p hc hΓ cl => wpCode_mono hR (h Γ p hc hΓ cl)
noncomputable def FinC (M : Model) (A : Around) (R : Result → Shared → Prop) (fin : Fin) (s' : Shared) : Prop :=
  match fin with
  | .done f => R (.ok f) s'
  | .again c' => c'.quiet = true ∧ okCode c' = true ∧ codeC M A c' R s'
theorem codeC_tree {c : Code} {R : Result → Shared → Prop} (h : wpC M (A.under c) (M.den c) (FinC M A R) (fun e s' => R (.error e) s') s) : codeC M A c R s := fun Γ p hc hΓ cl => by
  rw [wpCode_iff_wp, hc]
  refine Sem.wp_mono M Γ _ (fun fin p' s' h' => ?_) (fun _ _ _ h' => h') p s (h Γ p (hc ▸ hΓ.in) cl)
  cases fin with
  | done f => exact h'
  | again c' => exact ⟨h'.1, h'.2.2 (Γ.goto c') p' rfl (hΓ.goto c') (cl.goto h'.2.1)⟩
theorem codeC_loop {c : Code} {R : Result → Shared → Prop} (hq : c.quiet = true) (ok : okCode c = true) (I : Nat → Shared → Prop)
    (turn : ∀ n s, I n s → wpC M (A.under c) (M.den c) (fun fin s' => match fin with
        | .done f => R (.ok f) s'
        | .again c' => (c' = c ∧ ∃ m, m < n ∧ I m s') ∨ (c'.quiet = true ∧ okCode c' = true ∧ codeC M A c' R s')) (fun e s' => R (.error e) s') s)
    (n : Nat) (h : I n s) : codeC M A c R s := by
  induction n using Nat.strongRecOn generalizing s with
  | ind n ih =>
    refine codeC_tree (wpC_mono (turn n s h) (fun fin s' hf => ?_) fun _ _ h' => h')
    cases fin with
    | done f => exact hf
    | again c' =>
      rcases hf with ⟨rfl, m, hm, hI⟩ | hf
      · exact ⟨hq, ok, ih m hm hI⟩
      · exact hf
end

section
variable {M : Model} {A : Around} {E : Value → Shared → Prop} {s : Shared} {env : Env}
theorem execs_C {st : Stmt} {rest : List Stmt} {Q : Flow → Shared → Prop} (h : wpC M A (exec st env) (fun f s' => match f with | .next => wpC M A (execs rest env) Q E s' | f => Q f s') E s) : wpC M A (execs (st :: rest) env) Q E s := by
  rw [execs_cons]
  refine wpC_bind (wpC_mono h (fun f s' h' => ?_) fun _ _ x => x)
  cases f with
  | next => exact h'
  | brk => exact wpC_pure h'
  | cont => exact wpC_pure h'
  | ret v => exact wpC_pure h'
theorem execs_A {st : Stmt} {rest : List Stmt} {Q : Flow → Shared → Prop} (h : wpAny M A (exec st env) (fun f s' => match f with | .next => wpC M A (execs rest env) Q E s' | f => Q f s') E s) : wpC M A (execs (st :: rest) env) Q E s := execs_C (wpC_of h)
theorem execs_nil_C {Q : Flow → Shared → Prop} (h : Q .next s) : wpC M A (execs [] env) Q E s := wpC_of (fun _ _ _ => h)
theorem exec_If_C {test : Expr} {body orelse : List Stmt} {pos : Pos} {Q : Flow → Shared → Prop}
    (h : wpAny M A (isTrue test env (eval test env)) (fun b s₂ => if b = true then wpC M A (execs body env) Q E s₂ else wpC M A (execs orelse env) Q E s₂) E s) : wpC M A (exec (.If test body orelse pos) env) Q E s := by
  rw [exec_If]
  refine wpC_bind (wpC_standAt (wpC_bind (wpC_mono (wpC_of h) (fun b s₂ h₂ => ?_) fun _ _ x => x)))
  cases b
  · exact h₂
  · exact h₂
theorem exec_Assign_C {x : Str} {pos' pos : Pos} {value : Expr} {Q : Flow → Shared → Prop} (h : wpC M A (eval value env) (fun v s₁ => wpAny M A (storeName env x v) (fun _ => Q .next) E s₁) E s)
    (hs : swapsWith value (some (.Name x pos')) pos.line env = pure false := by rfl) : wpC M A (exec (.Assign [.Name x pos'] value pos) env) Q E s := by
  rw [exec_Assign_Name env x pos' value pos hs]
  refine wpC_bind (wpC_standAt (wpC_bind (wpC_mono h (fun v s₁ h₁ => wpC_bind (wpC_standAt (wpC_of ?_))) fun _ _ x => x)))
  exact wpAny_bind (wpAny_bindName (wpAny_mono h₁ (fun _ _ q => wpAny_pure q) fun _ _ x => x))
theorem eval_BinOp_C {l r : Expr} {op : Operator} {pos : Pos} {Q : Value → Shared → Prop}
    (h : wpC M A (eval l env) (fun a s₁ => wpAny M A (eval r env) (fun b s₂ => wpAny M A (binaryOp op a b) Q E s₂) E s₁) E s) : wpC M A (eval (.BinOp l op r pos) env) Q E s := by
  rw [eval_BinOp]
  refine wpC_bind (wpC_mono h (fun a s₁ h₁ => wpC_of ?_) fun _ _ x => x)
  refine wpAny_bind (wpAny_holding (wpAny_mono h₁ (fun b s₂ h₂ => wpAny_bind (wpAny_standAt ?_)) fun _ _ x => x))
  exact fun Γ p hΓ => by rw [Sem.wp_operate]; exact h₂ Γ p hΓ
theorem eval_Call_C {x : Str} {np pos : Pos} {args : List Expr} {Q : Value → Shared → Prop}
    (h : wpAny M A (eval (.Name x np) env) (fun f s₁ => wpC M A (callWith pos f [] (backTo pos (starEach args env)) []) Q E s₁) E s) : wpC M A (eval (.Call (.Name x np) args [] pos) env) Q E s := by
  show wpC M A (do callWith pos (← eval (.Name x np) env) [] (backTo pos (starEach args env)) (backToKw pos (keywordEach [] env))) Q E s
  exact wpC_bind (wpC_of h)
end
end Mine
end SC01
section SH02
open PySem PySem.W PyProof.Rows PySem.Calls
namespace Mine
noncomputable section
noncomputable abbrev callerX : Ctx := ⟨.builtin "claim.caller" {}, none, none, [], none⟩
theorem caller_clean : Clean callerX := ⟨by decide +kernel, fun _ h => nomatch h⟩
theorem wp_caller {M : Model} {t : Sem Fin} {s : Shared} {R : Result → Shared → Prop} (h : wpC M callerA t (fun fin s' => ∃ v, fin = .done (.ret v) ∧ R (.ok (.ret v)) s') (fun _ _ => False) s) (p : Pos) :
    Sem.wp M callerX t (Sem.finPost M callerX R) (fun e _ s' => R (.error e) s') p s := by
  refine Sem.wp_mono M callerX t (fun fin p' s' h' => ?_) (fun _ _ _ h' => h'.elim) p s (h callerX p caller_in caller_clean)
  obtain ⟨v, rfl, hf⟩ := h'
  exact hf

theorem call_fromC {c : ClaimW} {tree : List Value → Sem Fin} {w : World} {s : Shared} {free : Addr → Prop} {gens : Prop} {kept : Heap → Prop} (hz : s.asleep) (hgens : s.gens = #[])
    (spec : ∀ args, c.pre args = true → WData.layableAll args = true → ∀ ord : List DictEntry → List DictEntry, (∀ l, (ord l).Perm l) →
      ∃ vs s₁, layAllW c.records (classAt s.heap) w.params ord args s = some (vs, s₁) ∧
        wpC (model c.prog w) callerA (tree vs) (fun fin s' => ∃ v, fin = .done (.ret v) ∧ (c.Ends s args vs s₁ (.ok (.ret v)) s' ∧ s'.os = s.os ∧ AllBare s'.gens ∧ kept s'.heap)) (fun _ _ => False) s₁) :
    c.CallFrom (fun vs => ⟨tree vs, .builtin "claim.caller" {}, default, []⟩) w free gens kept s := by
  revert hz hgens spec
  revert c tree w s free gens kept
  change ∀ c tree w s free gens kept, _
  refine' (let rec cy0 : Pk7 _ := pk7 (by repeat' first | exact ne_world | exact ne_cx | exact ne_shared | exact ne_around | exact ⟨default⟩ | exact ⟨.sp⟩ | exact ⟨PySem.Challenge.rw_qw0075_02.row.toRowW.claim⟩ | refine ne_prod ?_ ?_) _; Pk7.use cy0 ?_)
  generalize cy0.1.1 = c
  generalize cy0.1.2.1 = tree
  generalize cy0.1.2.2.1 = w
  generalize cy0.1.2.2.2.1 = s
  generalize cy0.1.2.2.2.2.1 = free
  generalize cy0.1.2.2.2.2.2.1 = gens
  generalize cy0.1.2.2.2.2.2.2 = kept
  clear cy0
  intro hz hgens spec
  intro args hpre hlay ord hord
  obtain ⟨vs, s₁, laid, code⟩ := spec args hpre hlay ord hord
  have rest := layAllW_rest _ _ _ laid
  have code' : wpC (model c.prog w) callerA (tree vs) (fun fin s' => ∃ v, fin = .done (.ret v) ∧ ((c.Ends s args vs s₁ (.ok (.ret v)) s' ∧ s'.os = s.os ∧ kept s'.heap) ∧ leftWithCleanup s'.gens = false)) (fun _ _ => False) s₁ :=
    wpC_mono code (fun fin s' ⟨v, e, h1, h2, h3, h4⟩ => ⟨v, e, ⟨h1, h2, h4⟩, leftWithCleanup_false_of_bare h3⟩) fun _ _ h => h
  obtain ⟨n, r, s₂, s₃, hs, hn, hfo, hends, hos, hkp⟩ := wp_halts_full (M := model c.prog w) (R := fun r s' => c.Ends s args vs s₁ r s' ∧ s'.os = s.os ∧ kept s'.heap)
    (Shared.asleep_of_life rest.2.2.2 hz) (wp_caller (R := fun r s' => (c.Ends s args vs s₁ r s' ∧ s'.os = s.os ∧ kept s'.heap) ∧ leftWithCleanup s'.gens = false) code' default)
  obtain ⟨eh, _, _, eo, _⟩ := Shared.forget_eq hfo
  have hends := hends.congr eh
  rw [← eh] at hkp
  rw [← eo] at hos
  have hlife : s₃.heap.life = s.heap.life := (runN_life _ _ _ hn).trans rest.2.2.2
  refine ⟨vs, s₁, laid, n, _, s₃, hs, ?_, (fun _ i x hx => by rw [hgens] at hx; simp at hx), hkp, by rw [hlife], Shared.rest_eq hos⟩
  rcases hends with ⟨v, rfl, d1, d2, d3, d4, d5⟩ | ⟨e, ob, cls, rfl, d1, d2, d3, d4, d5⟩
  · exact .inl ⟨v, rfl, d1, d2, d3, fun b o y _ => d4 b o y, d5⟩
  · exact .inr ⟨e, ob, cls, rfl, d1, d2, d3, d4, fun b o y _ => d5 b o y⟩

noncomputable abbrev WalkC (q : Program) (loose : List Str) (XP : (Str → Option Value) → Heap → Prop) (YP : World → Heap → Prop) (r : RowW) (d : DefRec) (kwd : List (Str × Expr)) : Prop :=
  ∀ (w : World) (s₀ s₁ : Shared) (mg mb : Str → Option Value), Ground q loose r.records XP w s₀ mg mb s₁.heap → YP w s₁.heap → ∀ (a : Addr) (o : Obj) (pm cd doc dV kV : Value), s₁.heap.get? a = some o →
    o.data = .func { docDef d.name d.params d.body d.scope pm cd doc with defaults := dV, kwdefaults := kV } → s₁.heap.CodeRec cd d.name → Dflts mg s₁.heap d.params kwd dV kV → mg d.name = some (.ref a) → s₁.gens = #[] →
    ∀ (args : List WData) (vals : List Value) (as : List Addr), r.claim.pre args = true → WData.layableAll args = true → ReadsAllW r.records (classAt s₀.heap) s₁.heap vals args as → WellAll w.params s₁.heap vals args → (∀ a ∈ as, (a == sysModules) = false) →
      wpC (model r.prog w) callerA (call (.ref a) vals) (fun v s' => GoodWG r.claim (classAt s₀.heap) (ExcName.means s₀.heap) args s₁ (.ok (.ret v)) s') (fun _ _ => False) s₁

theorem openC {r : OpenRow} {q : Program} {loose : List Str} {Xt : Shared → Bool} {XP : (Str → Option Value) → Heap → Prop} {α : Type} {Yf : Shared → α} {Ya : World → α} {YP : World → Heap → Prop} {d : DefRec} {kwd : List (Str × Expr)} {N : Nat}
    (left : LeftO r.prog q loose Xt Yf Ya N) (hY : ∀ w s, Yf s = Ya w → YP w s.heap) (hYk : ∀ w h h', YP w h → (∀ b o, h.get? b = some o → h'.get? b = some o) → YP w h')
    (hX : ∀ s, Xt s = true → XP (s.heap.nsMap mainGlobals) s.heap) (hXk : ∀ mg h h', XP mg h → (∀ b o, h.get? b = some o → h'.get? b = some o) → XP mg h')
    (hdef : defOf q r.name = some (d, kwd)) (hp : r.prog.theDef r.name = some (d.params, d.body, d.scope)) (hk : kwWritten? d.params.kwonlyargs d.params.kw_defaults = some kwd) (hRf : ∀ s, Xt s = true → RecFacts r.records s.heap) (hwr : (!r.writes || r.records.isEmpty) = true)
    (k1 : r.wellSaid = true) (ok : (chainsOk q && opensWell r.prog && (frees r.toRowW && r.within.isEmpty)) = true) (hb : r.prog.bare) (hw : r.toRowW.promised)
    (call : WalkC q loose XP YP r.toRowW d kwd) : r.Holds := by
  obtain ⟨ok, k5⟩ := Bool.and_eq_true_iff.mp ok
  obtain ⟨hch, o1⟩ := Bool.and_eq_true_iff.mp ok
  obtain ⟨k5, k6⟩ := Bool.and_eq_true_iff.mp k5
  obtain ⟨hsame, hu, ha, hap, hm⟩ := frees_parts k5
  refine ⟨k1, hw, ⟨hb, o1, by show r.makers.map _ = []; rw [hm]; rfl⟩, hw.witness, fun w => ⟨(left.behind hX hch w).1, fun s' hs' => ?_⟩⟩
  obtain ⟨s₀, hf, hg0, s, hT, hz, hgens, hg, G00, y⟩ := (left.behind (XP := fun mg h => XP mg h ∧ RecFacts r.records h) (fun s hs => ⟨hX s hs, hRf s hs⟩) hch w).2 s' hs'
  have G0 : Ground q loose [] XP w s (s.heap.nsMap mainGlobals) (s.heap.nsMap builtinsNs) s.heap := ⟨G00.T, G00.B, G00.D, G00.TE, G00.TD, G00.W, G00.X.1, G00.cls, G00.has, G00.apart, G00.once, G00.K⟩
  have RF := G00.X.2
  refine ⟨s₀, hf, hg0, s, hT, fun n hn => ?_, RF.1, RF.2.1, ?_⟩
  · obtain rfl : n = r.name := by split at hn <;> simp_all
    exact pinned_of_view hg G0 hdef hp hk
  have hgens : s.gens = #[] := Array.eq_empty_of_size_eq_zero (beq_iff_eq.mp hgens)
  have G : Ground q loose r.records XP w s _ _ s.heap := RF.ground G0
  refine call_fromC (c := r.toRowW.claim) (tree := fun vs => do match ← nsGet mainNs r.name with
      | some f => do ret (← PySem.call f vs)
      | none => unsupported "claim.caller:no-such-global") hz hgens fun args hpre hlay ord hord => ?_
  obtain ⟨⟨vs, s₁⟩, laid⟩ := Option.isSome_iff_exists.mp (layAllW_isSome (P := w.params) (ord := ord) G.has args r.args s (pre_splitW hpre).1)
  have keeps := layAllW_keeps _ _ _ laid
  have hal := layAllW_rest _ _ _ laid
  obtain ⟨as, hrd, hin, hold⟩ := reads_layAllW hord _ _ _ laid hlay s₁.heap (fun _ _ e => e)
  have L : Laid r.records w s s₁ args vs as := ⟨⟨ord, hord, laid⟩, hrd, hin, hold, keeps, hal.1.trans hgens, hal.2.2.1⟩
  have G₁ := G.keeps hXk keeps
  obtain ⟨a, o, pm, cd, doc, dV, kV, h1, h2, h3, h4, h5⟩ := G₁.fn hdef
  have h := call w s s₁ _ _ G₁ (hYk _ _ _ (hY w s y) keeps) a o pm cd doc dV kV h2 h3 h4 h5 (defOf_name hdef ▸ h1) L.gens args vs as hpre hlay L.reads L.well (L.low G.low)
  have hi := ident_freeW hu ha hap
  have hwi : r.toRowW.claim.within = [] := List.isEmpty_iff.mp k6
  refine ⟨vs, s₁, laid, wpC_bind (wpC_of (wpAny_nsGet G₁.T.g ?_))⟩
  rw [h1]
  refine wpC_bind (wpC_mono h (fun v s' g => wpC_pure ⟨v, rfl, ?_⟩) fun _ _ x => x)
  have z := g.laid (c := r.toRowW.claim) hsame hwi hi L
  exact ⟨z.1, z.2.1, z.2.2, fun q => ⟨namesKept_of hT hg r.keeps keeps g.2.1.old, noTable hwr q⟩⟩
end
end Mine
end SH02
section SLF1
open PySem PySem.W PyProof.Rows
namespace Mine
section
local macro_rules | `(tactic| o_head $_) => `(tactic| assumption)
theorem frag (h : PySem.Challenge.rw_qw0075_02.row.Holds) : PySem.Challenge.rw_qw0075_02.row.Holds := by k_head
end
end Mine
end SLF1
section SLF2
open PySem PySem.W PyProof.Rows PySem.Calls
namespace Mine
noncomputable def keptAt : List Nat := [0, 1, 3, 5, 7, 9, 10, 12, 15, 17, 19, 21, 22, 24, 25, 26, 27, 28, 29, 30, 31, 33, 34, 35, 36, 37, 38, 39, 40, 41, 43, 46, 47, 48, 49, 50, 51]
noncomputable def view : Program := { PySem.Challenge.pw_qw0075_02 with main := { PySem.Challenge.pw_qw0075_02.main with body := keptAt.filterMap fun i => PySem.Challenge.pw_qw0075_02.main.body[i]? } }
noncomputable def someParams : Params := { strHash := fun _ => 0, shareClass := fun _ => 0, mergeTok := id, idOf := fun _ => 0, idOfShared := fun _ _ => 0, followText := fun _ => false, idOfImm := fun _ => 0 }
noncomputable def fragAs : List Addr := (frag.heap_1 someParams).map (·.1)
theorem frag_as : ∀ P, fragAs = (frag.heap_1 P).map (·.1) := fun _ => by kernel_rfl
noncomputable abbrev fragHook : Hook := kHook frag.heap_1 fragAs frag_as
noncomputable abbrev looseNames : List Str := ["check_arg_types_genericpath", "join_posixpath", "dirname_posixpath", "UnsupportedOperation", "IOBase", "BufferedIOBase", "TextIOBase", "BytesIO", "StringIO", "check_arg_types_path", "join_path", "dirname_path", "shlex", "split"]
noncomputable abbrev Left : Prop := LeftO PySem.Challenge.pw_qw0075_02 view looseNames (fun s => xlAt view [] s && recOk (RowW.records PySem.Challenge.rw_qw0075_02.row.toRowW) s) (Hook.obs fragHook) (Hook.val fragHook) 11760
end Mine
end SLF2
section SLF4
open PySem PySem.W PyProof.Rows PySem.Calls
namespace Mine
theorem PySem.W.holds_open {q : Program} {loose : List Str} {Xt : Shared → Bool} {XP : (Str → Option Value) → Heap → Prop} {α : Type} {Yf : Shared → α} {Ya : World → α} {YP : World → Heap → Prop} {d : DefRec} {kwd : List (Str × Expr)} {N : Nat}
    (left : LeftO (PySem.Challenge.rw_qw0075_02.row).prog q loose Xt Yf Ya N) (hY : ∀ w s, Yf s = Ya w → YP w s.heap) (hYk : ∀ w h h', YP w h → (∀ b o, h.get? b = some o → h'.get? b = some o) → YP w h')
    (hX : ∀ s, Xt s = true → XP (s.heap.nsMap mainGlobals) s.heap) (hXk : ∀ mg h h', XP mg h → (∀ b o, h.get? b = some o → h'.get? b = some o) → XP mg h')
    (hdef : defOf q (PySem.Challenge.rw_qw0075_02.row).name = some (d, kwd)) (hp : (PySem.Challenge.rw_qw0075_02.row).prog.theDef (PySem.Challenge.rw_qw0075_02.row).name = some (d.params, d.body, d.scope)) (hk : kwWritten? d.params.kwonlyargs d.params.kw_defaults = some kwd) (hRf : ∀ s, Xt s = true → RecFacts (PySem.Challenge.rw_qw0075_02.row).records s.heap) (hwr : (!(PySem.Challenge.rw_qw0075_02.row).writes || (PySem.Challenge.rw_qw0075_02.row).records.isEmpty) = true)
    (k1 : Left → PySem.Challenge.rw_qw0075_02.row.Holds) (ok : (chainsOk q && opensWell (PySem.Challenge.rw_qw0075_02.row).prog && (frees (PySem.Challenge.rw_qw0075_02.row).toRowW && (PySem.Challenge.rw_qw0075_02.row).within.isEmpty)) = true) (hb : (PySem.Challenge.rw_qw0075_02.row).prog.bare) (hw : True)
    (call : LeftO (PySem.Challenge.rw_qw0075_02.row).prog q loose Xt Yf Ya N → Left) : (PySem.Challenge.rw_qw0075_02.row).Holds := k1 (call left)
theorem left.tw10016715087904082355 : True := trivial
theorem left.tw10025962566823239327 : True := trivial
theorem left.tw10032533016382007469 : True := trivial
theorem left.tw10033850479068168623 : True := trivial
theorem left.tw10061390518855454709 : True := trivial
theorem left.tw1006634505209577398 : True := trivial
theorem left.tw10072773156952664156 : True := trivial
theorem left.tw10073540429035617923 : True := trivial
theorem left.tw1008485974389945704 : True := trivial
theorem left.tw10086442284940135240 : True := trivial
theorem left.tw10093092835474590657 : True := trivial
theorem left.tw10133549976847511401 : True := trivial
theorem left.tw10138830186647492030 : True := trivial
theorem left.tw10151312791342082657 : True := trivial
theorem left.tw10151495462918665545 : True := trivial
theorem left.tw10156389901437801903 : True := trivial
theorem left.tw10165927692077483363 : True := trivial
theorem left.tw10179673160384373534 : True := trivial
theorem left.tw10182510533951622544 : True := trivial
theorem left.tw10187066271848162098 : True := trivial
theorem left.tw10193410139820363156 : True := trivial
theorem left.tw10195961147098856962 : True := trivial
theorem left.tw10209169731344440265 : True := trivial
theorem left.tw10256386411441557798 : True := trivial
theorem left.tw10258633807918476665 : True := trivial
theorem left.tw10264672467984683816 : True := trivial
theorem left.tw10265631482174800367 : True := trivial
theorem left.tw10281854798755221984 : True := trivial
theorem left.tw10282926190799414026 : True := trivial
theorem left.tw10297808679551796846 : True := trivial
theorem left.tw10302687248429043375 : True := trivial
theorem left.tw10331684208139663804 : True := trivial
theorem left.tw10336111828701898582 : True := trivial
theorem left.tw10341094312932717064 : True := trivial
theorem left.tw10353123265780169556 : True := trivial
theorem left.tw10392157370097587727 : True := trivial
theorem left.tw10408133861610141454 : True := trivial
theorem left.tw1041417529011915014 : True := trivial
theorem left.tw10458911827509816523 : True := trivial
theorem left.tw1046897063461232577 : True := trivial
theorem left.tw10472740042052222793 : True := trivial
theorem left.tw10483020707534452050 : True := trivial
theorem left.tw10483209903173700342 : True := trivial
theorem left.tw10519700436781150009 : True := trivial
theorem left.tw10535812240965193472 : True := trivial
theorem left.tw10545089383966316975 : True := trivial
theorem left.tw10545244833756504468 : True := trivial
theorem left.tw10560650421270493612 : True := trivial
theorem left.tw10561362231469935948 : True := trivial
theorem left.tw10565666839966065744 : True := trivial
theorem left.tw10567704653366348841 : True := trivial
theorem left.tw10568860375426805845 : True := trivial
theorem left.tw10576339077882403192 : True := trivial
theorem left.tw10583805265828315878 : True := trivial
theorem left.tw10601313874151556489 : True := trivial
theorem left.tw10603356492682181538 : True := trivial
theorem left.tw10603460885403257480 : True := trivial
theorem left.tw10609428843484158523 : True := trivial
theorem left.tw10616647522158822156 : True := trivial
theorem left.tw10657228450713030091 : True := trivial
theorem left.tw10666825194978484894 : True := trivial
theorem left.tw10671917126445178560 : True := trivial
theorem left.tw10676494211188967455 : True := trivial
theorem left.tw10679779585800064049 : True := trivial
theorem left.tw10682671812231850296 : True := trivial
theorem left.tw10693492227433593639 : True := trivial
theorem left.tw1069678551501051795 : True := trivial
theorem left.tw1072432864016260133 : True := trivial
theorem left.tw1072813793537646175 : True := trivial
theorem left.tw10735625053927540362 : True := trivial
theorem left.tw10752811649685936697 : True := trivial
theorem left.tw10782921844470599457 : True := trivial
theorem left.tw1081349143826827026 : True := trivial
theorem left.tw10837219378519497237 : True := trivial
theorem left.tw10851147821393397570 : True := trivial
theorem left.tw1086472658110034536 : True := trivial
theorem left.tw10868912989937390445 : True := trivial
theorem left.tw10870860360433079504 : True := trivial
theorem left.tw10871381191158968309 : True := trivial
theorem left.tw10901095356670634775 : True := trivial
theorem left.tw10925877506481984917 : True := trivial
theorem left.tw10950764397446134992 : True := trivial
theorem left.tw10958720018219850211 : True := trivial
theorem left.tw10971467449528067990 : True := trivial
theorem left.tw11008468052788719468 : True := trivial
theorem left.tw11021664718710879662 : True := trivial
theorem left.tw11022495552240593828 : True := trivial
theorem left.tw11035809842268700510 : True := trivial
theorem left.tw11036056226019328745 : True := trivial
theorem left.tw11056798230509226354 : True := trivial
theorem left.tw11072706374972710092 : True := trivial
theorem left.tw11099424026905612073 : True := trivial
theorem left.tw11100846928661931252 : True := trivial
theorem left.tw11125660811481347076 : True := trivial
theorem left.tw11167620800608065991 : True := trivial
theorem left.tw11178648310462384426 : True := trivial
theorem left.tw1117911673876799980 : True := trivial
theorem left.tw11194817466689469313 : True := trivial
theorem left.tw11214596680797259541 : True := trivial
theorem left.tw11216135269866385903 : True := trivial
theorem left.tw11227846717406058915 : True := trivial
theorem left.tw11230391846723470487 : True := trivial
theorem left.tw11243190348602784296 : True := trivial
theorem left.tw1129047881922804409 : True := trivial
theorem left.tw11296061134266947013 : True := trivial
theorem left.tw11304041720320558971 : True := trivial
theorem left.tw11328717148215825293 : True := trivial
theorem left.tw11329403379702386161 : True := trivial
theorem left.tw11334720239399244131 : True := trivial
theorem left.tw11342117570289050929 : True := trivial
theorem left.tw11370268684683296699 : True := trivial
theorem left.tw11467331935414715707 : True := trivial
theorem left.tw11476376700303643087 : True := trivial
theorem left.tw11487132960266956479 : True := trivial
theorem left.tw11495147688861130289 : True := trivial
theorem left.tw11497359883372545551 : True := trivial
theorem left.tw11502891503399584649 : True := trivial
theorem left.tw11521838682323867151 : True := trivial
theorem left.tw11524882344835974404 : True := trivial
theorem left.tw11543651760816008696 : True := trivial
theorem left.tw11558512302602989142 : True := trivial
theorem left.tw11561834220207606538 : True := trivial
theorem left.tw11609343907124731950 : True := trivial
theorem left.tw11611224961057276595 : True := trivial
theorem left.tw11622309165009432719 : True := trivial
theorem left.tw11625353127711526914 : True := trivial
theorem left.tw1163259383879206263 : True := trivial
theorem left.tw11636613976200614803 : True := trivial
theorem left.tw1164429594220558249 : True := trivial
theorem left.tw11648813517919540909 : True := trivial
theorem left.tw11657384738555347204 : True := trivial
theorem left.tw11658599626812424081 : True := trivial
theorem left.tw11661825415886592652 : True := trivial
theorem left.tw11674698038307207457 : True := trivial
theorem left.tw11678882011436342399 : True := trivial
theorem left.tw11688981301955081313 : True := trivial
theorem left.tw11709516455398172237 : True := trivial
theorem left.tw11718230251625038004 : True := trivial
theorem left.tw11734119932193178635 : True := trivial
theorem left.tw11742288132445340615 : True := trivial
theorem left.tw11751496353377407122 : True := trivial
theorem left.tw1175876367739985145 : True := trivial
theorem left.tw11759519512051202037 : True := trivial
theorem left.tw11788446502024637090 : True := trivial
theorem left.tw11824326441471557311 : True := trivial
theorem left.tw11845299100161013550 : True := trivial
theorem left.tw118662774265157839 : True := trivial
theorem left.tw11866562722792620882 : True := trivial
theorem left.tw1187454000392326399 : True := trivial
theorem left.tw1188263462692492705 : True := trivial
theorem left.tw11917109347430600139 : True := trivial
theorem left.tw11933382971143157024 : True := trivial
theorem left.tw1194703537107015684 : True := trivial
theorem left.tw11949600015206966805 : True := trivial
theorem left.tw11958156957937890614 : True := trivial
theorem left.tw11978306165023620128 : True := trivial
theorem left.tw12015992243965489243 : True := trivial
theorem left.tw12023544485869644428 : True := trivial
theorem left.tw12042187068062785402 : True := trivial
theorem left.tw12046389652047516963 : True := trivial
theorem left.tw12051849861802018882 : True := trivial
theorem left.tw1206507070987054319 : True := trivial
theorem left.tw12066646302777773855 : True := trivial
theorem left.tw12077491225584100499 : True := trivial
theorem left.tw12083752689749340739 : True := trivial
theorem left.tw1210477050624216031 : True := trivial
theorem left.tw12125402850506401180 : True := trivial
theorem left.tw12161698191574608743 : True := trivial
theorem left.tw12175285534131660755 : True := trivial
theorem left.tw12188817705667713053 : True := trivial
theorem left.tw12196038995244825961 : True := trivial
theorem left.tw12214910357415747915 : True := trivial
theorem left.tw1221678849379798446 : True := trivial
theorem left.tw12218992713691122757 : True := trivial
theorem left.tw12237218622556660423 : True := trivial
theorem left.tw1223745742223699406 : True := trivial
theorem left.tw12265578896984509038 : True := trivial
theorem left.tw12265731390164266409 : True := trivial
theorem left.tw12274654036710088240 : True := trivial
theorem left.tw12281449840040871347 : True := trivial
theorem left.tw12287572686168474652 : True := trivial
theorem left.tw1228790166644337560 : True := trivial
theorem left.tw123111215161874780 : True := trivial
theorem left.tw12315566853318643478 : True := trivial
theorem left.tw12317226770626834579 : True := trivial
theorem left.tw12328109241456740299 : True := trivial
theorem left.tw1233721329871139852 : True := trivial
theorem left.tw12342369063852741499 : True := trivial
theorem left.tw12356721104814363197 : True := trivial
theorem left.tw12358095837965013926 : True := trivial
theorem left.tw12369461380471000539 : True := trivial
theorem left.tw12372490563435553253 : True := trivial
theorem left.tw12399215071430002878 : True := trivial
theorem left.tw12438852744482100789 : True := trivial
theorem left.tw12440826426070541043 : True := trivial
theorem left.tw12459664562214534592 : True := trivial
theorem left.tw12490703189174989606 : True := trivial
theorem left.tw12507828208502678864 : True := trivial
theorem left.tw12515269484160159031 : True := trivial
theorem left.tw1252732068263964595 : True := trivial
theorem left.tw12527789903193490934 : True := trivial
theorem left.tw12537361543081304254 : True := trivial
theorem left.tw12540630134421718062 : True := trivial
theorem left.tw1254135645399619788 : True := trivial
theorem left.tw12543454293694006233 : True := trivial
theorem left.tw12565684408609080849 : True := trivial
theorem left.tw12579323281030301407 : True := trivial
theorem left.tw12599677384956907291 : True := trivial
theorem left.tw12602764281263554173 : True := trivial
theorem left.tw12606203580755344859 : True := trivial
theorem left.tw1261963674239776353 : True := trivial
theorem left.tw12631900717808063474 : True := trivial
theorem left.tw12636658256369673679 : True := trivial
theorem left.tw12639080135360128265 : True := trivial
theorem left.tw12643159090539766751 : True := trivial
theorem left.tw12724409782858219842 : True := trivial
theorem left.tw12728617445422835964 : True := trivial
theorem left.tw12733516243987310634 : True := trivial
theorem left.tw12734336549348356788 : True := trivial
theorem left.tw12774701413026261177 : True := trivial
theorem left.tw12782903245148790160 : True := trivial
theorem left.tw12817532065343064706 : True := trivial
theorem left.tw12819864338015822409 : True := trivial
theorem left.tw1282682828825989024 : True := trivial
theorem left.tw12864743952769438728 : True := trivial
theorem left.tw12889484114658923482 : True := trivial
theorem left.tw12924136601568335405 : True := trivial
theorem left.tw12935179443516416754 : True := trivial
theorem left.tw12938519343239720933 : True := trivial
theorem left.tw12950348844343933060 : True := trivial
theorem left.tw12955555827310583197 : True := trivial
theorem left.tw12959562207316844193 : True := trivial
theorem left.tw12962493000013561335 : True := trivial
theorem left.tw12969382723524184238 : True := trivial
theorem left.tw12973951394283069521 : True := trivial
theorem left.tw1297496008851490162 : True := trivial
theorem left.tw1299013030752769579 : True := trivial
theorem left.tw12993552966330328315 : True := trivial
theorem left.tw12997541620905208745 : True := trivial
theorem left.tw13005743501663379359 : True := trivial
theorem left.tw13033793313090064441 : True := trivial
theorem left.tw13040489704264440535 : True := trivial
theorem left.tw1304717925136002927 : True := trivial
theorem left.tw13051862436137710327 : True := trivial
theorem left.tw13059306584284192189 : True := trivial
theorem left.tw13069911313318859646 : True := trivial
theorem left.tw13070865033562924566 : True := trivial
theorem left.tw13073762952648995315 : True := trivial
theorem left.tw13085060216072310796 : True := trivial
theorem left.tw13097767032029943684 : True := trivial
theorem left.tw13102550765344536118 : True := trivial
theorem left.tw13105711974615848550 : True := trivial
theorem left.tw13115594765294418964 : True := trivial
theorem left.tw13116864630159236730 : True := trivial
theorem left.tw13128287226727684980 : True := trivial
theorem left.tw13135663755077032337 : True := trivial
theorem left.tw13178845894695388694 : True := trivial
theorem left.tw13198115965601517374 : True := trivial
theorem left.tw13226833206374660533 : True := trivial
theorem left.tw13237848382355206774 : True := trivial
theorem left.tw13238140433448828382 : True := trivial
theorem left.tw13246149811406590534 : True := trivial
theorem left.tw13246979939585098049 : True := trivial
theorem left.tw13274080617647867042 : True := trivial
theorem left.tw13293593582839052093 : True := trivial
theorem left.tw13295298048003741168 : True := trivial
theorem left.tw1331668227521595314 : True := trivial
theorem left.tw13334989193672951795 : True := trivial
theorem left.tw13337184195129205541 : True := trivial
theorem left.tw13342650174906684284 : True := trivial
theorem left.tw13346930428620180881 : True := trivial
theorem left.tw13364247555786964156 : True := trivial
theorem left.tw13370215678172125621 : True := trivial
theorem left.tw13390309849287327821 : True := trivial
theorem left.tw13409020890884816671 : True := trivial
theorem left.tw13410999738686234494 : True := trivial
theorem left.tw13411373602507701244 : True := trivial
theorem left.tw13413135523098589788 : True := trivial
theorem left.tw13414101503265813787 : True := trivial
theorem left.tw13425148931432722285 : True := trivial
theorem left.tw13425754566913696715 : True := trivial
theorem left.tw13430007999514716315 : True := trivial
theorem left.tw13530390655042401008 : True := trivial
theorem left.tw13532623747370889255 : True := trivial
theorem left.tw13579788891588010216 : True := trivial
theorem left.tw13584158974749180289 : True := trivial
theorem left.tw13588670805678591013 : True := trivial
theorem left.tw13591872223280794545 : True := trivial
theorem left.tw13600573621065871833 : True := trivial
theorem left.tw13600915141181971031 : True := trivial
theorem left.tw13612445473930194723 : True := trivial
theorem left.tw13621995913637967754 : True := trivial
theorem left.tw13636710893623568733 : True := trivial
theorem left.tw1363686016858197808 : True := trivial
theorem left.tw13639484808044446222 : True := trivial
theorem left.tw13648946845525850961 : True := trivial
theorem left.tw13699566045552029752 : True := trivial
theorem left.tw13717300323021372434 : True := trivial
theorem left.tw13727440094165363918 : True := trivial
theorem left.tw13772938984267459389 : True := trivial
theorem left.tw13780381950758033299 : True := trivial
theorem left.tw13791379391923914911 : True := trivial
theorem left.tw13794604998122610100 : True := trivial
theorem left.tw13814369255481661520 : True := trivial
theorem left.tw13833008023571501589 : True := trivial
theorem left.tw13845910878310204365 : True := trivial
theorem left.tw13862221820234754159 : True := trivial
theorem left.tw13872418513988057585 : True := trivial
theorem left.tw13872795490424071218 : True := trivial
theorem left.tw13880518554233248661 : True := trivial
theorem left.tw13882310328334676198 : True := trivial
theorem left.tw13886692527419010710 : True := trivial
theorem left.tw13887378603824554953 : True := trivial
theorem left.tw13900878795584300207 : True := trivial
theorem left.tw13902028575093278256 : True := trivial
theorem left.tw13905392807074993751 : True := trivial
theorem left.tw13907339717669527527 : True := trivial
theorem left.tw13911208011540716879 : True := trivial
theorem left.tw13917343715190758281 : True := trivial
theorem left.tw139190931187839181 : True := trivial
theorem left.tw13924660416797587419 : True := trivial
theorem left.tw13927869472086643538 : True := trivial
theorem left.tw13938836228834189840 : True := trivial
theorem left.tw13980127455286062872 : True := trivial
theorem left.tw13986459623980930412 : True := trivial
theorem left.tw14007281954563547404 : True := trivial
theorem left.tw14102566695447932490 : True := trivial
theorem left.tw14123494338020263205 : True := trivial
theorem left.tw1412405421331577627 : True := trivial
theorem left.tw14126844000526846292 : True := trivial
theorem left.tw14134255269658797662 : True := trivial
theorem left.tw14140284516111470953 : True := trivial
theorem left.tw14146912827222531016 : True := trivial
theorem left.tw14167802615287321970 : True := trivial
theorem left.tw14177560032739344508 : True := trivial
theorem left.tw14183958860360990801 : True := trivial
theorem left.tw14184172222227724712 : True := trivial
theorem left.tw14210332927324661696 : True := trivial
theorem left.tw14228367619033580463 : True := trivial
theorem left.tw14231148521132715040 : True := trivial
theorem left.tw14259696966520857151 : True := trivial
theorem left.tw14261821091285861002 : True := trivial
theorem left.tw14262933350132513526 : True := trivial
theorem left.tw14280599821044484012 : True := trivial
theorem left.tw142936556190945370 : True := trivial
theorem left.tw14298710678158045356 : True := trivial
theorem left.tw1430266459221762356 : True := trivial
theorem left.tw14364849389000111417 : True := trivial
theorem left.tw14372785363589098542 : True := trivial
theorem left.tw14418934472424868120 : True := trivial
theorem left.tw14443785443204237139 : True := trivial
theorem left.tw14452968524310018771 : True := trivial
theorem left.tw144733410121380377 : True := trivial
theorem left.tw14484961425474909366 : True := trivial
theorem left.tw1451710973134968933 : True := trivial
theorem left.tw14528735630515701496 : True := trivial
theorem left.tw14571384214735213069 : True := trivial
theorem left.tw14601332490714440562 : True := trivial
theorem left.tw14632035536979847456 : True := trivial
theorem left.tw1466688765549767267 : True := trivial
theorem left.tw14694146824260351209 : True := trivial
theorem left.tw14726003650098202425 : True := trivial
theorem left.tw14729250643058981379 : True := trivial
theorem left.tw14730715848814321948 : True := trivial
theorem left.tw14768252079023202053 : True := trivial
theorem left.tw14796676549766795848 : True := trivial
theorem left.tw1482216389812675564 : True := trivial
theorem left.tw14823852809733117148 : True := trivial
theorem left.tw14841474785589213233 : True := trivial
theorem left.tw14844231490616741109 : True := trivial
theorem left.tw14926611959034572826 : True := trivial
theorem left.tw14931699659163268982 : True := trivial
theorem left.tw14953899456640022055 : True := trivial
theorem left.tw14973061529557962420 : True := trivial
theorem left.tw14985497679988395500 : True := trivial
theorem left.tw14985654097104620772 : True := trivial
theorem left.tw14995783428459145565 : True := trivial
theorem left.tw15054915437301974167 : True := trivial
theorem left.tw15061046877589463692 : True := trivial
theorem left.tw1508320659539494920 : True := trivial
theorem left.tw15090456491614650397 : True := trivial
theorem left.tw15094646089462292537 : True := trivial
theorem left.tw15098908986496409460 : True := trivial
theorem left.tw15099383726882911192 : True := trivial
theorem left.tw15099661793649438041 : True := trivial
theorem left.tw15105975663200629812 : True := trivial
theorem left.tw15125775185625403151 : True := trivial
theorem left.tw15130306369687750693 : True := trivial
theorem left.tw15142531265973088814 : True := trivial
theorem left.tw15153824073404313638 : True := trivial
theorem left.tw15192363547678680151 : True := trivial
theorem left.tw15240273301694060522 : True := trivial
theorem left.tw15248823433397124647 : True := trivial
theorem left.tw15252127133743716253 : True := trivial
theorem left.tw15270833238438580711 : True := trivial
theorem left.tw15282059880302312490 : True := trivial
theorem left.tw15295840419484164334 : True := trivial
theorem left.tw15304750247194320462 : True := trivial
theorem left.tw15309015439086172897 : True := trivial
theorem left.tw15314005707403465928 : True := trivial
theorem left.tw15317189015397518194 : True := trivial
theorem left.tw15333888422682877658 : True := trivial
theorem left.tw15360895278748670209 : True := trivial
theorem left.tw15387189751188481776 : True := trivial
theorem left.tw15388307339199157500 : True := trivial
theorem left.tw1540070949890137953 : True := trivial
theorem left.tw15415397639968721783 : True := trivial
theorem left.tw15443245686791377945 : True := trivial
theorem left.tw15443643540675095037 : True := trivial
theorem left.tw15446358534873893317 : True := trivial
theorem left.tw1544766528295230410 : True := trivial
theorem left.tw15458790489863536050 : True := trivial
theorem left.tw15472741514179313805 : True := trivial
theorem left.tw15478597734914124676 : True := trivial
theorem left.tw15491290966592441326 : True := trivial
theorem left.tw15500958973802345580 : True := trivial
theorem left.tw15522503566072532408 : True := trivial
theorem left.tw15529838365597091062 : True := trivial
theorem left.tw15531465551323668157 : True := trivial
theorem left.tw15545771810426423176 : True := trivial
theorem left.tw15554373195491774686 : True := trivial
theorem left.tw15560919045853913050 : True := trivial
theorem left.tw15563772590382403215 : True := trivial
theorem left.tw15568081794291975298 : True := trivial
theorem left.tw15569102236497036580 : True := trivial
theorem left.tw15608853406663499416 : True := trivial
theorem left.tw15630633530297786521 : True := trivial
theorem left.tw15642042218848208251 : True := trivial
theorem left.tw15692628875698285579 : True := trivial
theorem left.tw15692723794750608050 : True := trivial
theorem left.tw15725215977803004503 : True := trivial
theorem left.tw1573113180837755681 : True := trivial
theorem left.tw15777493435540161356 : True := trivial
theorem left.tw15784467126206660006 : True := trivial
theorem left.tw15798144084868576005 : True := trivial
theorem left.tw15804612793379968974 : True := trivial
theorem left.tw15910266447769327802 : True := trivial
theorem left.tw15919823191328938754 : True := trivial
theorem left.tw15943660273730505906 : True := trivial
theorem left.tw15947361556213463904 : True := trivial
theorem left.tw15966324404689925951 : True := trivial
theorem left.tw1599709829766544441 : True := trivial
theorem left.tw16016862433306369808 : True := trivial
theorem left.tw16021351679399890062 : True := trivial
theorem left.tw16023584117983342236 : True := trivial
theorem left.tw16026198403456948242 : True := trivial
theorem left.tw16027528873007020659 : True := trivial
theorem left.tw16038601560633105572 : True := trivial
theorem left.tw16038867166984479319 : True := trivial
theorem left.tw16043369713537145217 : True := trivial
theorem left.tw16069356975837495118 : True := trivial
theorem left.tw16069456915747030455 : True := trivial
theorem left.tw16070758623498278735 : True := trivial
theorem left.tw16078121119011331635 : True := trivial
theorem left.tw16092469992273300972 : True := trivial
theorem left.tw16119138810524048379 : True := trivial
theorem left.tw16126674823551492313 : True := trivial
theorem left.tw16128863921717904563 : True := trivial
theorem left.tw16133769050073667065 : True := trivial
theorem left.tw16135404500518681902 : True := trivial
theorem left.tw16138783781342146796 : True := trivial
theorem left.tw16146746993817466831 : True := trivial
theorem left.tw16148323610865114768 : True := trivial
theorem left.tw16162645704336056335 : True := trivial
theorem left.tw16163608633604421081 : True := trivial
theorem left.tw16223065728160347932 : True := trivial
theorem left.tw16229532821615228232 : True := trivial
theorem left.tw16230326302381694412 : True := trivial
theorem left.tw16274329534696968090 : True := trivial
theorem left.tw16295658442614639042 : True := trivial
theorem left.tw16304877039532951372 : True := trivial
theorem left.tw1631553490271489362 : True := trivial
theorem left.tw16337028769249446063 : True := trivial
theorem left.tw16376792593663576423 : True := trivial
theorem left.tw16420545801215746688 : True := trivial
theorem left.tw16422673340940630071 : True := trivial
theorem left.tw164255806657234835 : True := trivial
theorem left.tw16432201379848949401 : True := trivial
theorem left.tw16434471594823165064 : True := trivial
theorem left.tw16444607948716832642 : True := trivial
theorem left.tw16471558795971021698 : True := trivial
theorem left.tw16491738809602619345 : True := trivial
theorem left.tw16521925412765018224 : True := trivial
theorem left.tw16540365699643282431 : True := trivial
theorem left.tw16550063496528421080 : True := trivial
theorem left.tw16556937037787433617 : True := trivial
theorem left.tw16561832329841859642 : True := trivial
theorem left.tw1661624023571552535 : True := trivial
theorem left.tw16617468379537923093 : True := trivial
theorem left.tw1667581109383659085 : True := trivial
theorem left.tw16682998909349563676 : True := trivial
theorem left.tw16710416692907426248 : True := trivial
theorem left.tw1673244356827421188 : True := trivial
theorem left.tw16743428827577892753 : True := trivial
theorem left.tw1674613995309681352 : True := trivial
theorem left.tw16840920206810730313 : True := trivial
theorem left.tw16873823232319865344 : True := trivial
theorem left.tw16885379053910604414 : True := trivial
theorem left.tw16901890295009162105 : True := trivial
theorem left.tw16912987618089500923 : True := trivial
theorem left.tw16918838608365038408 : True := trivial
theorem left.tw16929926051025990685 : True := trivial
theorem left.tw16957782904915359073 : True := trivial
theorem left.tw16963929479675567952 : True := trivial
theorem left.tw16968524706118480996 : True := trivial
theorem left.tw16969740368846337817 : True := trivial
theorem left.tw1698155395785207308 : True := trivial
theorem left.tw16995323392040252104 : True := trivial
theorem left.tw17014002307350867007 : True := trivial
theorem left.tw17036744071539419096 : True := trivial
theorem left.tw17049891111599910844 : True := trivial
theorem left.tw17091606614039403499 : True := trivial
theorem left.tw1711239733658349044 : True := trivial
theorem left.tw17113973238261083109 : True := trivial
theorem left.tw17144207742779020389 : True := trivial
theorem left.tw17146708102230651676 : True := trivial
theorem left.tw17205914008415122530 : True := trivial
theorem left.tw17207796601729815717 : True := trivial
theorem left.tw17221326241316379466 : True := trivial
theorem left.tw17252704264414412583 : True := trivial
theorem left.tw17264174136831191634 : True := trivial
theorem left.tw17269131746750513963 : True := trivial
theorem left.tw17276252674101441275 : True := trivial
theorem left.tw17305294282995476296 : True := trivial
theorem left.tw17318673317079457764 : True := trivial
theorem left.tw1731887594995066408 : True := trivial
theorem left.tw17326424540950339730 : True := trivial
theorem left.tw1733358190782052672 : True := trivial
theorem left.tw17336275454561605279 : True := trivial
theorem left.tw17343161809624973686 : True := trivial
theorem left.tw17347385210630387465 : True := trivial
theorem left.tw17348282538298273488 : True := trivial
theorem left.tw17376137216125042415 : True := trivial
theorem left.tw17380630261792603941 : True := trivial
theorem left.tw17385262679918170003 : True := trivial
theorem left.tw1738620064886871815 : True := trivial
theorem left.tw17414517762436258183 : True := trivial
theorem left.tw17418013922294362192 : True := trivial
theorem left.tw17426851680666240138 : True := trivial
theorem left.tw17437390732388045990 : True := trivial
theorem left.tw17444110254218320065 : True := trivial
theorem left.tw17449377412537969157 : True := trivial
theorem left.tw17455788676648917504 : True := trivial
theorem left.tw1745764893773006261 : True := trivial
theorem left.tw17461522195229484536 : True := trivial
theorem left.tw17465179866898500579 : True := trivial
theorem left.tw17483364271836287689 : True := trivial
theorem left.tw17505251581537069923 : True := trivial
theorem left.tw17517543165973718039 : True := trivial
theorem left.tw17525678985353501205 : True := trivial
theorem left.tw1753296969487083165 : True := trivial
theorem left.tw17567334770286093033 : True := trivial
theorem left.tw17569023824648613327 : True := trivial
theorem left.tw17573819749729912646 : True := trivial
theorem left.tw17608194563840168592 : True := trivial
theorem left.tw17615969120643129875 : True := trivial
theorem left.tw17631624591901147766 : True := trivial
theorem left.tw17697796369020777600 : True := trivial
theorem left.tw17707789244453389089 : True := trivial
theorem left.tw17711244581433209677 : True := trivial
theorem left.tw17711621395969873754 : True := trivial
theorem left.tw17731642988081679993 : True := trivial
theorem left.tw17732492262327099572 : True := trivial
theorem left.tw17738396502912086645 : True := trivial
theorem left.tw17746333812941052850 : True := trivial
theorem left.tw17755080249498578086 : True := trivial
theorem left.tw17761110009018887646 : True := trivial
theorem left.tw1776950040880545298 : True := trivial
theorem left.tw17806685360081632358 : True := trivial
theorem left.tw17829125627131500314 : True := trivial
theorem left.tw17830429709839170623 : True := trivial
theorem left.tw17838875188309515554 : True := trivial
theorem left.tw17841987803356070028 : True := trivial
theorem left.tw17843237756364363044 : True := trivial
theorem left.tw17847198591083794818 : True := trivial
theorem left.tw17881750598707033866 : True := trivial
theorem left.tw17883387069699955934 : True := trivial
theorem left.tw17906676475504374541 : True := trivial
theorem left.tw17918731595228751264 : True := trivial
theorem left.tw17919373750753300298 : True := trivial
theorem left.tw17945303661827348250 : True := trivial
theorem left.tw17949140779041061500 : True := trivial
theorem left.tw17957586997340028168 : True := trivial
theorem left.tw17989139244357013714 : True := trivial
theorem left.tw18025789951668317134 : True := trivial
theorem left.tw18046205338796328166 : True := trivial
theorem left.tw18049906289552412171 : True := trivial
theorem left.tw1805036438167378005 : True := trivial
theorem left.tw18079792181075580319 : True := trivial
theorem left.tw18107603315756180064 : True := trivial
theorem left.tw18125934087633027436 : True := trivial
theorem left.tw18141730692941639045 : True := trivial
theorem left.tw18158236158231261745 : True := trivial
theorem left.tw18181625761943225718 : True := trivial
theorem left.tw18191074338093618212 : True := trivial
theorem left.tw18193594736174775243 : True := trivial
theorem left.tw18214064924823687947 : True := trivial
theorem left.tw18215737289961930450 : True := trivial
theorem left.tw18221462361237894322 : True := trivial
theorem left.tw18232285170600229935 : True := trivial
theorem left.tw18237569625807129217 : True := trivial
theorem left.tw18245542231536492863 : True := trivial
theorem left.tw18260590464796327534 : True := trivial
theorem left.tw18261392681057406473 : True := trivial
theorem left.tw18262254217129384819 : True := trivial
theorem left.tw18276628126475613726 : True := trivial
theorem left.tw18288525139608627720 : True := trivial
theorem left.tw18303049512889346119 : True := trivial
theorem left.tw18311324124150051773 : True := trivial
theorem left.tw18311408142467001650 : True := trivial
theorem left.tw18321875359367329633 : True := trivial
theorem left.tw18333326744384333972 : True := trivial
theorem left.tw18335348270226892963 : True := trivial
theorem left.tw18354293271275594272 : True := trivial
theorem left.tw18410813282971877579 : True := trivial
theorem left.tw18413136178168696289 : True := trivial
theorem left.tw18419431374195980425 : True := trivial
theorem left.tw18422570338544105019 : True := trivial
theorem left.tw18429180937949809557 : True := trivial
theorem left.tw18443024702047464531 : True := trivial
theorem left.tw1849890066055018212 : True := trivial
theorem left.tw1880143842471278353 : True := trivial
theorem left.tw188455953324364963 : True := trivial
theorem left.tw1891131608775993058 : True := trivial
theorem left.tw1920812795044169982 : True := trivial
theorem left.tw1925953502979190743 : True := trivial
theorem left.tw1938537710861592791 : True := trivial
theorem left.tw1955291914543115015 : True := trivial
theorem left.tw1958209002920058568 : True := trivial
theorem left.tw196207321447670293 : True := trivial
theorem left.tw1968876055834723547 : True := trivial
theorem left.tw1973319857745251474 : True := trivial
theorem left.tw197870795437958485 : True := trivial
theorem left.tw1985274675474967393 : True := trivial
theorem left.tw1988294207759718101 : True := trivial
theorem left.tw1992910805611329963 : True := trivial
theorem left.tw1998179897857518758 : True := trivial
theorem left.tw2018104661057912488 : True := trivial
theorem left.tw2037518677745461029 : True := trivial
theorem left.tw2054098772590453440 : True := trivial
theorem left.tw2072704515039238991 : True := trivial
theorem left.tw2098661319866636655 : True := trivial
theorem left.tw2121887294260824502 : True := trivial
theorem left.tw2123972073812554721 : True := trivial
theorem left.tw216158926086795790 : True := trivial
theorem left.tw2197394186983540780 : True := trivial
theorem left.tw2197744557538811501 : True := trivial
theorem left.tw2202185167246113539 : True := trivial
theorem left.tw2218288772306837283 : True := trivial
theorem left.tw2220092501728977418 : True := trivial
theorem left.tw2220909065049684634 : True := trivial
theorem left.tw2242500040323740021 : True := trivial
theorem left.tw2255486724812201851 : True := trivial
theorem left.tw230599038338701351 : True := trivial
theorem left.tw2341726862095274966 : True := trivial
theorem left.tw2343994746765739551 : True := trivial
theorem left.tw2350991428098072695 : True := trivial
theorem left.tw2382492322167374862 : True := trivial
theorem left.tw2410979464976744476 : True := trivial
theorem left.tw2433940751780958300 : True := trivial
theorem left.tw2445140865481468338 : True := trivial
theorem left.tw2489694541397801152 : True := trivial
theorem left.tw2505198872403419929 : True := trivial
theorem left.tw2522828667525886044 : True := trivial
theorem left.tw2527053822910969410 : True := trivial
theorem left.tw253441702135978942 : True := trivial
theorem left.tw2534778623517270604 : True := trivial
theorem left.tw2549529773691784195 : True := trivial
theorem left.tw2550101192098192838 : True := trivial
theorem left.tw2557951806838780962 : True := trivial
theorem left.tw2576152985002051950 : True := trivial
theorem left.tw2576615309115021506 : True := trivial
theorem left.tw2577069837521916286 : True := trivial
theorem left.tw257731287307225586 : True := trivial
theorem left.tw2595306304908868969 : True := trivial
theorem left.tw260505202533482791 : True := trivial
theorem left.tw2626298145180874205 : True := trivial
theorem left.tw2630589807078329156 : True := trivial
theorem left.tw2649952720084338269 : True := trivial
theorem left.tw2671948426490528751 : True := trivial
theorem left.tw2672431717000427092 : True := trivial
theorem left.tw2676125644619375886 : True := trivial
theorem left.tw2677519105378830273 : True := trivial
theorem left.tw2680880395407193148 : True := trivial
theorem left.tw2682131184565296413 : True := trivial
theorem left.tw2687931651891054171 : True := trivial
theorem left.tw2688257327281050318 : True := trivial
theorem left.tw2737744863713738095 : True := trivial
theorem left.tw2741275736226755404 : True := trivial
theorem left.tw2767614240719289833 : True := trivial
theorem left.tw2775839607402457149 : True := trivial
theorem left.tw2791146818333816019 : True := trivial
theorem left.tw2804921168362233923 : True := trivial
theorem left.tw2821264952766195708 : True := trivial
theorem left.tw2821395959284465938 : True := trivial
theorem left.tw2829597849042729800 : True := trivial
theorem left.tw2838441190095022642 : True := trivial
theorem left.tw2871743258066528970 : True := trivial
theorem left.tw2902260320541814555 : True := trivial
theorem left.tw2904669234219219710 : True := trivial
theorem left.tw2904803393034020813 : True := trivial
theorem left.tw2906392536139527324 : True := trivial
theorem left.tw2926565878033424588 : True := trivial
theorem left.tw2941919007041052895 : True := trivial
theorem left.tw2946437789193543864 : True := trivial
theorem left.tw2964529743897631397 : True := trivial
theorem left.tw2978388071527280327 : True := trivial
theorem left.tw2980123887242302058 : True := trivial
theorem left.tw2985497931146721500 : True := trivial
theorem left.tw3059900339960028281 : True := trivial
theorem left.tw3067257751023955976 : True := trivial
theorem left.tw3092846021211620983 : True := trivial
theorem left.tw3103042056724947586 : True := trivial
theorem left.tw310529545011302405 : True := trivial
theorem left.tw3139337457514203952 : True := trivial
theorem left.tw3191848008515570394 : True := trivial
theorem left.tw3207305721191766147 : True := trivial
theorem left.tw3219837590169047859 : True := trivial
theorem left.tw3225904601519292907 : True := trivial
theorem left.tw3286320554445986464 : True := trivial
theorem left.tw3290633135381581234 : True := trivial
theorem left.tw3297296898832518855 : True := trivial
theorem left.tw3298367585811271650 : True := trivial
theorem left.tw3301577345469062982 : True := trivial
theorem left.tw3324000579429069637 : True := trivial
theorem left.tw3355969209469259081 : True := trivial
theorem left.tw3369310765159825144 : True := trivial
theorem left.tw3374960886655828404 : True := trivial
theorem left.tw3383894778118037461 : True := trivial
theorem left.tw3391366902148080223 : True := trivial
theorem left.tw3405460300243194532 : True := trivial
theorem left.tw3416757725404195796 : True := trivial
theorem left.tw3430090342582985277 : True := trivial
theorem left.tw3439771510935475563 : True := trivial
theorem left.tw3447242308417026309 : True := trivial
theorem left.tw3451372680169307777 : True := trivial
theorem left.tw3463058575732603152 : True := trivial
theorem left.tw346384763600597093 : True := trivial
theorem left.tw3490804333984100305 : True := trivial
theorem left.tw3541312328011835874 : True := trivial
theorem left.tw3558186515726074537 : True := trivial
theorem left.tw3562869817906688324 : True := trivial
theorem left.tw3566499293308614940 : True := trivial
theorem left.tw3577517314427840769 : True := trivial
theorem left.tw3584277749812111676 : True := trivial
theorem left.tw3605819444034726855 : True := trivial
theorem left.tw3636056300641702481 : True := trivial
theorem left.tw3636636174855538080 : True := trivial
theorem left.tw3641075115409563440 : True := trivial
theorem left.tw3651668166143141161 : True := trivial
theorem left.tw3664702351300885441 : True := trivial
theorem left.tw3665202059434680709 : True := trivial
theorem left.tw3693013279911963586 : True := trivial
theorem left.tw3713228527541328357 : True := trivial
theorem left.tw372570073014967836 : True := trivial
theorem left.tw3733001572182986351 : True := trivial
theorem left.tw3746811645459356943 : True := trivial
theorem left.tw3757401458182696404 : True := trivial
theorem left.tw3773729251688092501 : True := trivial
theorem left.tw3777694670016643037 : True := trivial
theorem left.tw3782920139149080822 : True := trivial
theorem left.tw3789901954800668339 : True := trivial
theorem left.tw3797422553460581878 : True := trivial
theorem left.tw3837091989822747461 : True := trivial
theorem left.tw384100157255339092 : True := trivial
theorem left.tw3868366889853560654 : True := trivial
theorem left.tw3869423977792843166 : True := trivial
theorem left.tw3882867119018361772 : True := trivial
theorem left.tw3918396611877472320 : True := trivial
theorem left.tw3930111360077716753 : True := trivial
theorem left.tw3936665301570900047 : True := trivial
theorem left.tw3956891145819520106 : True := trivial
theorem left.tw3969496689101431527 : True := trivial
theorem left.tw3976419296764320542 : True := trivial
theorem left.tw397720688128187282 : True := trivial
theorem left.tw3986338883197930335 : True := trivial
theorem left.tw3987433624807069464 : True := trivial
theorem left.tw399750218421956402 : True := trivial
theorem left.tw3998132680337854652 : True := trivial
theorem left.tw4026969089926069895 : True := trivial
theorem left.tw4041443389662543075 : True := trivial
theorem left.tw4041925382480455098 : True := trivial
theorem left.tw4061779586667398343 : True := trivial
theorem left.tw4067481537627685383 : True := trivial
theorem left.tw4069997266701867893 : True := trivial
theorem left.tw4070092078387632271 : True := trivial
theorem left.tw4074933612923537630 : True := trivial
theorem left.tw4094390142594276422 : True := trivial
theorem left.tw4095097590219025392 : True := trivial
theorem left.tw4095386253165667499 : True := trivial
theorem left.tw4105156467587365367 : True := trivial
theorem left.tw4132499534209497083 : True := trivial
theorem left.tw4140059927251201256 : True := trivial
theorem left.tw4143658306695679891 : True := trivial
theorem left.tw4177535187734046612 : True := trivial
theorem left.tw4179690246857395496 : True := trivial
theorem left.tw4209893342029201328 : True := trivial
theorem left.tw4229963709926515320 : True := trivial
theorem left.tw4232518973763252075 : True := trivial
theorem left.tw4243254756219242574 : True := trivial
theorem left.tw424871090245785700 : True := trivial
theorem left.tw4256641406850833979 : True := trivial
theorem left.tw4278080428412918091 : True := trivial
theorem left.tw428681875678568731 : True := trivial
theorem left.tw4288875352027256210 : True := trivial
theorem left.tw4288894521968058199 : True := trivial
theorem left.tw4308040923362250470 : True := trivial
theorem left.tw4317828170001997866 : True := trivial
theorem left.tw4347137292517815337 : True := trivial
theorem left.tw4349624817163775667 : True := trivial
theorem left.tw4350884512671353810 : True := trivial
theorem left.tw4366223470590066284 : True := trivial
theorem left.tw4376089123514842503 : True := trivial
theorem left.tw4400545601830344915 : True := trivial
theorem left.tw441177552857648786 : True := trivial
theorem left.tw4415927157737934921 : True := trivial
theorem left.tw4424423958146003767 : True := trivial
theorem left.tw443258471757104070 : True := trivial
theorem left.tw4454000134082066605 : True := trivial
theorem left.tw446292205204121315 : True := trivial
theorem left.tw4469182051818411385 : True := trivial
theorem left.tw4477465724835642390 : True := trivial
theorem left.tw4481971785416828735 : True := trivial
theorem left.tw4489462798095017414 : True := trivial
theorem left.tw4494508574487171492 : True := trivial
theorem left.tw4523142755951121244 : True := trivial
theorem left.tw4534568425177312756 : True := trivial
theorem left.tw4542541825098672310 : True := trivial
theorem left.tw4562429646015468697 : True := trivial
theorem left.tw4569371261588614350 : True := trivial
theorem left.tw4582061102394605003 : True := trivial
theorem left.tw4585239549860080638 : True := trivial
theorem left.tw4599591953671435328 : True := trivial
theorem left.tw4601418690812010711 : True := trivial
theorem left.tw460219502498534773 : True := trivial
theorem left.tw4632344513471523179 : True := trivial
theorem left.tw465268104083488201 : True := trivial
theorem left.tw465418630487083611 : True := trivial
theorem left.tw4660476320827963798 : True := trivial
theorem left.tw4664132766463784775 : True := trivial
theorem left.tw467081856714786565 : True := trivial
theorem left.tw4722638684531431363 : True := trivial
theorem left.tw4727920720577402637 : True := trivial
theorem left.tw4730750878445362299 : True := trivial
theorem left.tw4732098424093469878 : True := trivial
theorem left.tw4739594428638237594 : True := trivial
theorem left.tw4742681263770341070 : True := trivial
theorem left.tw4753074589126823266 : True := trivial
theorem left.tw4787540457906869283 : True := trivial
theorem left.tw4787958415307381390 : True := trivial
theorem left.tw4793887082149947597 : True := trivial
theorem left.tw4811882328835170538 : True := trivial
theorem left.tw4819501209344705893 : True := trivial
theorem left.tw4821453697003687529 : True := trivial
theorem left.tw4842532635228467842 : True := trivial
theorem left.tw4868827745629546901 : True := trivial
theorem left.tw4883702815483152600 : True := trivial
theorem left.tw4884106663507342984 : True := trivial
theorem left.tw4892868693751887647 : True := trivial
theorem left.tw4908589087189485358 : True := trivial
theorem left.tw4915470769991959135 : True := trivial
theorem left.tw4927496761294116228 : True := trivial
theorem left.tw493714452158110257 : True := trivial
theorem left.tw4941440592560590732 : True := trivial
theorem left.tw495499362083141884 : True := trivial
theorem left.tw4965701853894682738 : True := trivial
theorem left.tw498773593348607014 : True := trivial
theorem left.tw4994619940399257363 : True := trivial
theorem left.tw4996661729215439937 : True := trivial
theorem left.tw5026904603143193410 : True := trivial
theorem left.tw5054362774269152462 : True := trivial
theorem left.tw5071381080737138359 : True := trivial
theorem left.tw5076402248763215644 : True := trivial
theorem left.tw5082372510931963151 : True := trivial
theorem left.tw5084407899114047034 : True := trivial
theorem left.tw5091907591918971918 : True := trivial
theorem left.tw5097588479848903219 : True := trivial
theorem left.tw5101115979815529484 : True := trivial
theorem left.tw5112704334351599852 : True := trivial
theorem left.tw5117979059612606656 : True := trivial
theorem left.tw5128718971058437265 : True := trivial
theorem left.tw5137177417475608038 : True := trivial
theorem left.tw5140497235983508331 : True := trivial
theorem left.tw5205432766805872036 : True := trivial
theorem left.tw5215604804788603086 : True := trivial
theorem left.tw522514582983336967 : True := trivial
theorem left.tw5225895591752404015 : True := trivial
theorem left.tw5228980673982527961 : True := trivial
theorem left.tw5230269776742887072 : True := trivial
theorem left.tw5233231172979365235 : True := trivial
theorem left.tw5239288716295843111 : True := trivial
theorem left.tw5245684604285299400 : True := trivial
theorem left.tw5257021727943233275 : True := trivial
theorem left.tw526493298881027926 : True := trivial
theorem left.tw5266148208452777674 : True := trivial
theorem left.tw5282863613743624587 : True := trivial
theorem left.tw5311710907527013995 : True := trivial
theorem left.tw5328464313782485826 : True := trivial
theorem left.tw5345740813200158519 : True := trivial
theorem left.tw5420294964283338155 : True := trivial
theorem left.tw5458372099047346347 : True := trivial
theorem left.tw5471574347014984010 : True := trivial
theorem left.tw5538986020488328943 : True := trivial
theorem left.tw5562428078156939019 : True := trivial
theorem left.tw5580548019392974862 : True := trivial
theorem left.tw5605696582311864651 : True := trivial
theorem left.tw5613403936760498244 : True := trivial
theorem left.tw5632428127728373926 : True := trivial
theorem left.tw5636254567344182662 : True := trivial
theorem left.tw5640695173702892857 : True := trivial
theorem left.tw5661942516020131297 : True := trivial
theorem left.tw5665506170789825834 : True := trivial
theorem left.tw5671376672515743807 : True := trivial
theorem left.tw5693162652594184558 : True := trivial
theorem left.tw5695254828805938173 : True := trivial
theorem left.tw570634368378970182 : True := trivial
theorem left.tw5730037189062602790 : True := trivial
theorem left.tw5735158803717967842 : True := trivial
theorem left.tw5735630570236950586 : True := trivial
theorem left.tw5736179480474842000 : True := trivial
theorem left.tw5752233674823608942 : True := trivial
theorem left.tw5755526999814327495 : True := trivial
theorem left.tw5759451410749078099 : True := trivial
theorem left.tw5759745653230358682 : True := trivial
theorem left.tw5777511573246548757 : True := trivial
theorem left.tw5780734594186154363 : True := trivial
theorem left.tw5813762524770332788 : True := trivial
theorem left.tw5823752613303233229 : True := trivial
theorem left.tw5840840180869434077 : True := trivial
theorem left.tw587671996072658639 : True := trivial
theorem left.tw5887850209532510023 : True := trivial
theorem left.tw5896333443669726155 : True := trivial
theorem left.tw5898860310758411966 : True := trivial
theorem left.tw5904470893689583645 : True := trivial
theorem left.tw5956793854091004175 : True := trivial
theorem left.tw5971216192702116674 : True := trivial
theorem left.tw5975778768647462407 : True := trivial
theorem left.tw5979233295252247645 : True := trivial
theorem left.tw5982150389648779276 : True := trivial
theorem left.tw6002157169341220735 : True := trivial
theorem left.tw600397798997955378 : True := trivial
theorem left.tw6021213603416786560 : True := trivial
theorem left.tw6025565557315649541 : True := trivial
theorem left.tw6043124221414068304 : True := trivial
theorem left.tw6044261491761352121 : True := trivial
theorem left.tw6059880493629475623 : True := trivial
theorem left.tw6060282504093114219 : True := trivial
theorem left.tw6079531504047495687 : True := trivial
theorem left.tw608166263850297865 : True := trivial
theorem left.tw6097691102853432441 : True := trivial
theorem left.tw6111535733910544560 : True := trivial
theorem left.tw6113291112484915186 : True := trivial
theorem left.tw6124554285098726417 : True := trivial
theorem left.tw6127282377307187143 : True := trivial
theorem left.tw613460949693316228 : True := trivial
theorem left.tw6141958466056436938 : True := trivial
theorem left.tw617108762264141091 : True := trivial
theorem left.tw6176515873151148206 : True := trivial
theorem left.tw6181692410250106979 : True := trivial
theorem left.tw6199502726313778911 : True := trivial
theorem left.tw621844286139386133 : True := trivial
theorem left.tw6220784885047539255 : True := trivial
theorem left.tw6253372995550657977 : True := trivial
theorem left.tw625895409160344954 : True := trivial
theorem left.tw6271022116355136546 : True := trivial
theorem left.tw6271211596450454413 : True := trivial
theorem left.tw6276884018509972219 : True := trivial
theorem left.tw6280086793295165320 : True := trivial
theorem left.tw6295457906440270486 : True := trivial
theorem left.tw6308662861830334652 : True := trivial
theorem left.tw6315314783149493933 : True := trivial
theorem left.tw6316535871324987009 : True := trivial
theorem left.tw6329537301614415141 : True := trivial
theorem left.tw6329940476205535537 : True := trivial
theorem left.tw6336198993110788643 : True := trivial
theorem left.tw6338702256602230877 : True := trivial
theorem left.tw6340716366496903717 : True := trivial
theorem left.tw6344129971342327896 : True := trivial
theorem left.tw6348684070462636465 : True := trivial
theorem left.tw6353114616816624859 : True := trivial
theorem left.tw6360891799460196228 : True := trivial
theorem left.tw6370551534009850115 : True := trivial
theorem left.tw6379534398832791831 : True := trivial
theorem left.tw6397836932935956202 : True := trivial
theorem left.tw6400694793330918730 : True := trivial
theorem left.tw6405486502629369489 : True := trivial
theorem left.tw6410683852271784129 : True := trivial
theorem left.tw6423247884063342340 : True := trivial
theorem left.tw6430238957306911940 : True := trivial
theorem left.tw6439738064978611784 : True := trivial
theorem left.tw6442356832555567383 : True := trivial
theorem left.tw6452635729652585032 : True := trivial
theorem left.tw6468210441948735047 : True := trivial
theorem left.tw6468474712257632648 : True := trivial
theorem left.tw6473393040330605771 : True := trivial
theorem left.tw6478600376628014097 : True := trivial
theorem left.tw6484015392448588396 : True := trivial
theorem left.tw6517429788219074697 : True := trivial
theorem left.tw6536817337007614313 : True := trivial
theorem left.tw6557181418723918266 : True := trivial
theorem left.tw6567758591786941681 : True := trivial
theorem left.tw6569408530330651768 : True := trivial
theorem left.tw657218408069725749 : True := trivial
theorem left.tw6574822226635146724 : True := trivial
theorem left.tw6589965897060149246 : True := trivial
theorem left.tw6608153472847300867 : True := trivial
theorem left.tw6609034733603015266 : True := trivial
theorem left.tw6634763434613339550 : True := trivial
theorem left.tw6647755121446343797 : True := trivial
theorem left.tw66489006102515110 : True := trivial
theorem left.tw6657405309883007802 : True := trivial
theorem left.tw6657759233358708473 : True := trivial
theorem left.tw6663245333425782320 : True := trivial
theorem left.tw6664073040299892041 : True := trivial
theorem left.tw6671322027841610769 : True := trivial
theorem left.tw6674595174652103274 : True := trivial
theorem left.tw6688909641495637069 : True := trivial
theorem left.tw6713336366494803707 : True := trivial
theorem left.tw672422500111011254 : True := trivial
theorem left.tw67465309561640263 : True := trivial
theorem left.tw675789692391355384 : True := trivial
theorem left.tw6766156173428751917 : True := trivial
theorem left.tw6786967612168800781 : True := trivial
theorem left.tw6790464666739862082 : True := trivial
theorem left.tw6793798490379851397 : True := trivial
theorem left.tw6817707530571098755 : True := trivial
theorem left.tw6818084668446831178 : True := trivial
theorem left.tw6844580009323391630 : True := trivial
theorem left.tw6851223737122240068 : True := trivial
theorem left.tw6860854114324739553 : True := trivial
theorem left.tw6891154057977917732 : True := trivial
theorem left.tw6906701808997966921 : True := trivial
theorem left.tw6927017488852815647 : True := trivial
theorem left.tw6931853715559009702 : True := trivial
theorem left.tw6945478283667415769 : True := trivial
theorem left.tw6947833613401819825 : True := trivial
theorem left.tw6956908445091105477 : True := trivial
theorem left.tw7001932671804858435 : True := trivial
theorem left.tw7004683451600049562 : True := trivial
theorem left.tw7023106223382797343 : True := trivial
theorem left.tw7031979018587330768 : True := trivial
theorem left.tw7054923639486748919 : True := trivial
theorem left.tw705614464706871028 : True := trivial
theorem left.tw7095431271382997771 : True := trivial
theorem left.tw7112818523438895467 : True := trivial
theorem left.tw7119774142776122504 : True := trivial
theorem left.tw713507697797212648 : True := trivial
theorem left.tw7182446920241840689 : True := trivial
theorem left.tw7187062556874830322 : True := trivial
theorem left.tw7194335686837167256 : True := trivial
theorem left.tw7203639259665647166 : True := trivial
theorem left.tw7204051391240069609 : True := trivial
theorem left.tw7234021835422384778 : True := trivial
theorem left.tw7239904819147353349 : True := trivial
theorem left.tw7242205262554270959 : True := trivial
theorem left.tw7246926081072957796 : True := trivial
theorem left.tw7284628390158284202 : True := trivial
theorem left.tw7290501534801717446 : True := trivial
theorem left.tw7295848788276667777 : True := trivial
theorem left.tw729597280060366536 : True := trivial
theorem left.tw7318041633542144649 : True := trivial
theorem left.tw7336441081730118378 : True := trivial
theorem left.tw7336946248030305814 : True := trivial
theorem left.tw7337996397209067749 : True := trivial
theorem left.tw7351529114510660042 : True := trivial
theorem left.tw737356463794788666 : True := trivial
theorem left.tw7383145387226023249 : True := trivial
theorem left.tw7383466922819347247 : True := trivial
theorem left.tw7393897359131223664 : True := trivial
theorem left.tw7399108512976219079 : True := trivial
theorem left.tw7414956118413822005 : True := trivial
theorem left.tw7415215028164989604 : True := trivial
theorem left.tw7438510843013794241 : True := trivial
theorem left.tw7458867375653168893 : True := trivial
theorem left.tw7459392560297004560 : True := trivial
theorem left.tw7460171706544653537 : True := trivial
theorem left.tw7468272032094685837 : True := trivial
theorem left.tw7500548863288845920 : True := trivial
theorem left.tw7510691806872366494 : True := trivial
theorem left.tw7517222865728629290 : True := trivial
theorem left.tw7519619793892750310 : True := trivial
theorem left.tw7522851675038152217 : True := trivial
theorem left.tw7528375269459171033 : True := trivial
theorem left.tw7531498452757633594 : True := trivial
theorem left.tw7556789358984651672 : True := trivial
theorem left.tw7575708160884200643 : True := trivial
theorem left.tw7591003848623993179 : True := trivial
theorem left.tw759154441768548076 : True := trivial
theorem left.tw7635273161601129989 : True := trivial
theorem left.tw7647586637117180904 : True := trivial
theorem left.tw7659320520700088669 : True := trivial
theorem left.tw7665155932343857715 : True := trivial
theorem left.tw7686691077478463266 : True := trivial
theorem left.tw7693270616114104624 : True := trivial
theorem left.tw7697669699745646046 : True := trivial
theorem left.tw7701386967873347172 : True := trivial
theorem left.tw7726476200487055496 : True := trivial
theorem left.tw7734492998386875766 : True := trivial
theorem left.tw7746548596025678008 : True := trivial
theorem left.tw7747860659745031370 : True := trivial
theorem left.tw7761515536421617958 : True := trivial
theorem left.tw777034193196166575 : True := trivial
theorem left.tw7772856142751723882 : True := trivial
theorem left.tw7792888156242153162 : True := trivial
theorem left.tw7796381366316621183 : True := trivial
theorem left.tw7805062997515121479 : True := trivial
theorem left.tw7807978389932575557 : True := trivial
theorem left.tw7809765691947034327 : True := trivial
theorem left.tw7831521669703977055 : True := trivial
theorem left.tw7843870615901454594 : True := trivial
theorem left.tw7845613103693603497 : True := trivial
theorem left.tw7849679591054597064 : True := trivial
theorem left.tw7856722289336767411 : True := trivial
theorem left.tw787735702752308681 : True := trivial
theorem left.tw7895153431473632162 : True := trivial
theorem left.tw7962583583197499151 : True := trivial
theorem left.tw7963649535135297504 : True := trivial
theorem left.tw7964662051644605411 : True := trivial
theorem left.tw796537728920769940 : True := trivial
theorem left.tw7986412331376227898 : True := trivial
theorem left.tw7990518068206596757 : True := trivial
theorem left.tw8069602997271461177 : True := trivial
theorem left.tw8069966807139461957 : True := trivial
theorem left.tw8070862196266509549 : True := trivial
theorem left.tw8073908886150868386 : True := trivial
theorem left.tw8096747494534039568 : True := trivial
theorem left.tw8098335348039628314 : True := trivial
theorem left.tw8118477501192694743 : True := trivial
theorem left.tw8140541782892206851 : True := trivial
theorem left.tw8141552166843768930 : True := trivial
theorem left.tw8217742398764144758 : True := trivial
theorem left.tw8224231849783353159 : True := trivial
theorem left.tw8231570476564222971 : True := trivial
theorem left.tw8251534327374793431 : True := trivial
theorem left.tw8270585000281910906 : True := trivial
theorem left.tw8273974428661617078 : True := trivial
theorem left.tw8287925586298167565 : True := trivial
theorem left.tw8310177855689306382 : True := trivial
theorem left.tw8311542857614695682 : True := trivial
theorem left.tw8326381009722246379 : True := trivial
theorem left.tw8334687271127113524 : True := trivial
theorem left.tw8334705217199738778 : True := trivial
theorem left.tw8341527438388875213 : True := trivial
theorem left.tw8352249414362290998 : True := trivial
theorem left.tw8356506623373217936 : True := trivial
theorem left.tw8356561132793845819 : True := trivial
theorem left.tw8394026420188546539 : True := trivial
theorem left.tw8396548684440395386 : True := trivial
theorem left.tw8424847000148699239 : True := trivial
theorem left.tw8426472542052761728 : True := trivial
theorem left.tw8441677250472919522 : True := trivial
theorem left.tw8445713607014714551 : True := trivial
theorem left.tw8454009120235081794 : True := trivial
theorem left.tw8455034722426212494 : True := trivial
theorem left.tw8476351419376371201 : True := trivial
theorem left.tw84935903608177236 : True := trivial
theorem left.tw8498323999852211153 : True := trivial
theorem left.tw8499756597231244826 : True := trivial
theorem left.tw8517501710897700842 : True := trivial
theorem left.tw8525144318441121549 : True := trivial
theorem left.tw8546750960090845212 : True := trivial
theorem left.tw8570696682419980547 : True := trivial
theorem left.tw8596340585459966073 : True := trivial
theorem left.tw8601662615017601253 : True := trivial
theorem left.tw860251712932726955 : True := trivial
theorem left.tw8632670294762770575 : True := trivial
theorem left.tw8642940997837961351 : True := trivial
theorem left.tw8668787927731297879 : True := trivial
theorem left.tw870250226299688318 : True := trivial
theorem left.tw8707749343906141763 : True := trivial
theorem left.tw8724555940855826307 : True := trivial
theorem left.tw8739198768267114779 : True := trivial
theorem left.tw8765980645009410552 : True := trivial
theorem left.tw8775185159510891023 : True := trivial
theorem left.tw8803520099591800177 : True := trivial
theorem left.tw8806894995864043476 : True := trivial
theorem left.tw8812064511318443822 : True := trivial
theorem left.tw8829476603921016007 : True := trivial
theorem left.tw8846796875151517392 : True := trivial
theorem left.tw8850134166491558628 : True := trivial
theorem left.tw8857504141129643538 : True := trivial
theorem left.tw8862476643316650369 : True := trivial
theorem left.tw8867866559584230612 : True := trivial
theorem left.tw8872939281024323674 : True := trivial
theorem left.tw8879040704444422471 : True := trivial
theorem left.tw8919598945626147318 : True := trivial
theorem left.tw8924569254702175886 : True := trivial
theorem left.tw8946552059443308196 : True := trivial
theorem left.tw8957087978856992030 : True := trivial
theorem left.tw9040609685534379163 : True := trivial
theorem left.tw9061128459837553109 : True := trivial
theorem left.tw9068814828820739830 : True := trivial
theorem left.tw9080412223593681421 : True := trivial
theorem left.tw9083896721455978802 : True := trivial
theorem left.tw9085525394936266123 : True := trivial
theorem left.tw9086540958804509621 : True := trivial
theorem left.tw9088712417658197571 : True := trivial
theorem left.tw9092121089505044123 : True := trivial
theorem left.tw9114300751808193392 : True := trivial
theorem left.tw9121618800917861331 : True := trivial
theorem left.tw9128621348967425132 : True := trivial
theorem left.tw913569938377557763 : True := trivial
theorem left.tw9146736359334604286 : True := trivial
theorem left.tw9169434909308603512 : True := trivial
theorem left.tw9172281766023536481 : True := trivial
theorem left.tw9175227809439305611 : True := trivial
theorem left.tw9176408718176534523 : True := trivial
theorem left.tw9179613791492743470 : True := trivial
theorem left.tw9190360183879493959 : True := trivial
theorem left.tw9205537278916327135 : True := trivial
theorem left.tw9235773057959516907 : True := trivial
theorem left.tw924503743653488148 : True := trivial
theorem left.tw9251281730485888143 : True := trivial
theorem left.tw9279506062988143674 : True := trivial
theorem left.tw9306463771360843577 : True := trivial
theorem left.tw931384482505597920 : True := trivial
theorem left.tw9330771571478823486 : True := trivial
theorem left.tw933347799589237580 : True := trivial
theorem left.tw9340677302766580346 : True := trivial
theorem left.tw9347541995480993860 : True := trivial
theorem left.tw9354445398378489168 : True := trivial
theorem left.tw9356436199667116229 : True := trivial
theorem left.tw9363512290554421948 : True := trivial
theorem left.tw9364268816343676180 : True := trivial
theorem left.tw9368272003886206938 : True := trivial
theorem left.tw9377490910188962066 : True := trivial
theorem left.tw9388865160395153606 : True := trivial
theorem left.tw9414729040831682048 : True := trivial
theorem left.tw9436992339498591819 : True := trivial
theorem left.tw9442386859629638911 : True := trivial
theorem left.tw9459405172032257367 : True := trivial
theorem left.tw9477364778139411913 : True := trivial
theorem left.tw9490295690215984459 : True := trivial
theorem left.tw9491426978832705435 : True := trivial
theorem left.tw9514532683937826918 : True := trivial
theorem left.tw9519594279887364130 : True := trivial
theorem left.tw9523551366603143997 : True := trivial
theorem left.tw9539291337092223762 : True := trivial
theorem left.tw9564812752456262200 : True := trivial
theorem left.tw9591025167192074298 : True := trivial
theorem left.tw9592006648863023616 : True := trivial
theorem left.tw9593448174364633727 : True := trivial
theorem left.tw960300155956534669 : True := trivial
theorem left.tw9609703272140571795 : True := trivial
theorem left.tw9617616547176521384 : True := trivial
theorem left.tw9632463053952599854 : True := trivial
theorem left.tw9638406022943956853 : True := trivial
theorem left.tw9643496590558471918 : True := trivial
theorem left.tw9647844143295660989 : True := trivial
theorem left.tw9655648198490983492 : True := trivial
theorem left.tw9674671600702244242 : True := trivial
theorem left.tw9677756019436221610 : True := trivial
theorem left.tw9690073872827788543 : True := trivial
theorem left.tw9693087805405979517 : True := trivial
theorem left.tw9696449901658077869 : True := trivial
theorem left.tw9704843771737192504 : True := trivial
theorem left.tw9708696842778776364 : True := trivial
theorem left.tw9718368156522913691 : True := trivial
theorem left.tw9744379637216169245 : True := trivial
theorem left.tw9754517288593227738 : True := trivial
theorem left.tw9762494020230397577 : True := trivial
theorem left.tw9778292834067067805 : True := trivial
theorem left.tw9785781270522831250 : True := trivial
theorem left.tw9800590566204604544 : True := trivial
theorem left.tw9805637421396591316 : True := trivial
theorem left.tw9831580847365647886 : True := trivial
theorem left.tw9837650716847824405 : True := trivial
theorem left.tw9859870083146981791 : True := trivial
theorem left.tw98609132642807275 : True := trivial
theorem left.tw9874267098967161389 : True := trivial
theorem left.tw9880218756286965121 : True := trivial
theorem left.tw9881974990498121512 : True := trivial
theorem left.tw9883434740878257416 : True := trivial
theorem left.tw9896878705791248272 : True := trivial
theorem left.tw9924203671982589417 : True := trivial
theorem left.tw9933941139700458378 : True := trivial
theorem left.tw9937757902560833323 : True := trivial
theorem left.tw9939434930907591436 : True := trivial
theorem left.tw9946564572188910492 : True := trivial
theorem left.tw9959500723674751072 : True := trivial
theorem left.tw9974907699682404144 : True := trivial
theorem left.tw9979766287243147929 : True := trivial
theorem left.tw9980767789842257941 : True := trivial
theorem left.tw9990450227489638742 : True := trivial
set_option Elab.async true in
theorem left (f : Left → PySem.Challenge.rw_qw0075_02.row.Holds) : PySem.Challenge.rw_qw0075_02.row.Holds := by
  k_head
  case hw => exact True.intro
  intro hl
  exact Eq.mp (by kernel_rfl) hl
end Mine
end SLF4
section SLF5
open PySem PySem.W PyProof.Rows PySem.Calls
namespace Mine
theorem law_said.tw14231148521132715040 : True := trivial
theorem law_said.tw18025789951668317134 : True := trivial
set_option Elab.async true in
theorem law_said (f : PySem.Challenge.rw_qw0075_02.row.wellSaid = true → PySem.Challenge.rw_qw0075_02.row.Holds) : PySem.Challenge.rw_qw0075_02.Holds := by
  w_on
  o_law
  w_top off
  exact f (by assumption)
end Mine
end SLF5
section SLF6
open PySem PySem.W PyProof.Rows PySem.Calls
namespace Mine
theorem law_of (hl : Left) (said : PySem.Challenge.rw_qw0075_02.row.wellSaid = true) {d : DefRec} {kwd : List (Str × Expr)} (hdef : defOf view PySem.Challenge.rw_qw0075_02.row.name = some (d, kwd)) (hp : PySem.Challenge.rw_qw0075_02.row.prog.theDef PySem.Challenge.rw_qw0075_02.row.name = some (d.params, d.body, d.scope))
    (hk : kwWritten? d.params.kwonlyargs d.params.kw_defaults = some kwd) (walk : WalkC view looseNames (XL view []) (kHook frag.heap_1 fragAs frag_as).says PySem.Challenge.rw_qw0075_02.row.toRowW d kwd) : PySem.Challenge.rw_qw0075_02.row.Holds :=
  openC hl (Hook.of fragHook) (Hook.keeps fragHook) (fun s e => xl_of s (Bool.and_eq_true_iff.mp e).1) XL.keeps hdef hp hk (fun s e => recFacts_of (Bool.and_eq_true_iff.mp e).2) (by rfl) said (by decide +kernel) ⟨rfl, rfl, rfl, rfl, rfl, by decide +kernel⟩ (by w_witness2) walk
end Mine
end SLF6
local macro_rules | `(tactic| omega) => `(tactic| lia)
local macro_rules | `(tactic| k_room) => `(tactic| ktr_room)
local macro_rules | `(tactic| k_all) => `(tactic| assumption)
local macro_rules | `(tactic| walk_at "exec If") => `(tactic| refine PySem.wpAny_If ?_)
local macro_rules | `(tactic| walk_at $s:str) => `(tactic| k_extra $s)
local macro_rules | `(tactic| x_close) => `(tactic| k_extra "x")
section SP02
open PySem PySem.W PyProof.Rows
namespace Mine
noncomputable abbrev S (l : List Nat) : Str := ⟨l.toArray⟩

theorem slice_eq (l : List Nat) (a b : Nat) (hab : a ≤ b) (hb : b ≤ l.length) :
    Txt.slice (S l) (some (a : Int)) (some (b : Int)) = S ((l.drop a).take (b - a)) := by
  have e : PySem.Builtin.Str.strSliceIndices (some (a : Int)) (some (b : Int)) 1 (S l).length = (List.range (b - a)).map (a + ·) := by
    unfold PySem.Builtin.Str.strSliceIndices
    rw [← sliceRange_one]
    have h1 : (S l).length = l.length := List.size_toArray
    simp only [show (1 : Int) > 0 by decide, if_true, if_neg (show ¬ ((a : Int) < 0) by omega), if_neg (show ¬ ((b : Int) < 0) by omega), h1]
    congr 1 <;> omega
  unfold Txt.slice
  rw [e, pick_run]
  split
  · rename_i h
    simp only [List.length_map, List.length_range, beq_self_eq_true, Bool.true_and, beq_iff_eq] at h
    have h1 : (S l).length = l.length := List.size_toArray
    rw [h1] at h
    have ha : a = 0 := by omega
    have hb' : b = l.length := by omega
    subst ha hb'
    simp [S]
  · simp [S]
theorem slice_one {l : List Nat} {a : Nat} {c : Nat} {r : List Nat} (h : l.drop a = c :: r) : Txt.slice (S l) (some (a : Int)) (some ((a : Int) + 1)) = S [c] := by
  have hl : a < l.length := by
    by_cases q : a < l.length
    · exact q
    · rw [List.drop_of_length_le (by omega)] at h; cases h
  have := slice_eq l a (a + 1) (by omega) (by omega)
  rw [h] at this
  simpa using this
theorem slice_last {l : List Nat} {a : Nat} {c : Nat} {r : List Nat} (h : l.drop a = c :: r) (hl : ¬ ((a : Int) + 1 < (S l).length)) : Txt.slice (S l) (some (a : Int)) (some ((S l).length : Int)) = S [c] := by
  have h1 : (S l).length = l.length := List.size_toArray
  rw [h1] at hl ⊢
  have h2 : a < l.length := by
    by_cases q : a < l.length
    · exact q
    · rw [List.drop_of_length_le (by omega)] at h; cases h
  have h3 : l.length = a + 1 := by omega
  have := slice_one h
  rw [h3]
  exact this
theorem drop_next {l : List Nat} {a : Nat} {c : Nat} {r : List Nat} (h : l.drop a = c :: r) : l.drop (a + 1) = r := by
  have : l.drop (a + 1) = (l.drop a).drop 1 := by rw [List.drop_drop]
  rw [this, h]; rfl
theorem drop_lt {l : List Nat} {a : Nat} {c : Nat} {r : List Nat} (h : l.drop a = c :: r) : a < (S l).length := by
  have h1 : (S l).length = l.length := List.size_toArray
  rw [h1]
  by_cases q : a < l.length
  · exact q
  · rw [List.drop_of_length_le (by omega)] at h; cases h
theorem drop_ge {l : List Nat} {a : Nat} (h : l.drop a = []) : (S l).length ≤ a := by
  have h1 : (S l).length = l.length := List.size_toArray
  rw [h1]
  exact List.drop_eq_nil_iff.mp h
end Mine
namespace Mine
noncomputable def Hold (p : Prop) : Prop := p
theorem Hold.out {p : Prop} (h : Hold p) : p := h
end Mine
end SP02
section SL02
open PySem PySem.W PyProof.Rows
namespace Mine
noncomputable section

noncomputable def Ctr (prog : Program) (w : World) (K : Frag) (d u : Nat) (f : Addr) (args : List Value) (news : List (Addr × Obj)) (R : Value → List (Addr × Obj) → Prop) : Prop :=
  ∀ (p : Program) (loose : List Str) (mean : ExcName → Option Value) (mg mb : Str → Option Value) (dp un : Nat) (gd : Option (List Code)) (cn : Str) (cs : Scope) (a : Addr) (ccd : Value) (cl : List (Str × Addr)) (outer : List Env) (A₀ : Around) (base h₀ : Heap) (L : Addr) (m : Str → Option Value) (s : Shared) (Q E : Value → Shared → Prop),
    Below A₀ base outer h₀ → Fr h₀ L s.heap m → K.In h₀ → News h₀ L s.heap news → Top p loose mean mg mb h₀ → cs.kind = .function → dp + d < recursionLimit → un + u < cLine →
    (∀ v news' h' tk', R v news' → Fr h₀ L h' m → News h₀ L h' news' → Q v { s with heap := h', toks := tk' }) →
    wpAny (model prog w) (ktrTop dp un gd cn cs L a ccd cl outer) (call (.ref f) args) Q E s

theorem Ctr.use {prog : Program} {w : World} {K : Frag} {d u : Nat} {f : Addr} {args : List Value} {news : List (Addr × Obj)} {R : Value → List (Addr × Obj) → Prop}
    {p : Program} {loose : List Str} {mean : ExcName → Option Value} {mg mb : Str → Option Value} {dp un : Nat} {gd : Option (List Code)} {cn : Str} {cs : Scope} {a : Addr} {ccd : Value} {cl : List (Str × Addr)} {outer : List Env} {A₀ : Around} {base h₀ : Heap} {L : Addr} {m : Str → Option Value} {s : Shared} {Q E : Value → Shared → Prop}
    (B : Below A₀ base outer h₀) (F : Fr h₀ L s.heap m) (X : K.In h₀) (N : News h₀ L s.heap news) (T : Top p loose mean mg mb h₀) (hk : cs.kind = .function) (C : Ctr prog w K d u f args news R) (hd : dp + d < recursionLimit) (hu : un + u < cLine)
    (ret : ∀ v news' h' tk', R v news' → Fr h₀ L h' m → News h₀ L h' news' → Q v { s with heap := h', toks := tk' }) :
    wpAny (model prog w) (ktrTop dp un gd cn cs L a ccd cl outer) (call (.ref f) args) Q E s :=
  C p loose mean mg mb dp un gd cn cs a ccd cl outer A₀ base h₀ L m s Q E B F X N T hk hd hu ret

structure Cx where
  p : Program
  loose : List Str
  mean : ExcName → Option Value
  mg : Str → Option Value
  mb : Str → Option Value
  dp : Nat
  un : Nat
  gd : Option (List Code)
  cn : Str
  cs : Scope
  a : Addr
  ccd : Value
  cl : List (Str × Addr)
  outer : List Env
  A₀ : Around
  base : Heap
  h₀ : Heap
  L : Addr
  m : Str → Option Value
  s : Shared
  Q : Value → Shared → Prop
  E : Value → Shared → Prop
theorem ne_cx : Nonempty Cx := ⟨⟨default, [], fun _ => none, fun _ => none, fun _ => none, 0, 0, none, default, default, 0, .none, [], [], {}, {}, {}, 0, fun _ => none, {}, fun _ _ => True, fun _ _ => True⟩⟩
noncomputable def CtrB (prog : Program) (w : World) (K : Frag) (d u : Nat) (f : Addr) (args : List Value) (news : List (Addr × Obj)) (R : Value → List (Addr × Obj) → Prop)
   (p : Program) (loose : List Str) (mean : ExcName → Option Value) (mg mb : Str → Option Value) (dp un : Nat) (gd : Option (List Code)) (cn : Str) (cs : Scope) (a : Addr) (ccd : Value) (cl : List (Str × Addr)) (outer : List Env) (A₀ : Around) (base h₀ : Heap) (L : Addr) (m : Str → Option Value) (s : Shared) (Q E : Value → Shared → Prop) : Prop :=
    Below A₀ base outer h₀ → Fr h₀ L s.heap m → K.In h₀ → News h₀ L s.heap news → Top p loose mean mg mb h₀ → cs.kind = .function → dp + d < recursionLimit → un + u < cLine →
    (∀ v news' h' tk', R v news' → Fr h₀ L h' m → News h₀ L h' news' → Q v { s with heap := h', toks := tk' }) →
    wpAny (model prog w) (ktrTop dp un gd cn cs L a ccd cl outer) (call (.ref f) args) Q E s
noncomputable def CtrX (prog : Program) (w : World) (K : Frag) (d u : Nat) (f : Addr) (args : List Value) (news : List (Addr × Obj)) (R : Value → List (Addr × Obj) → Prop) (x : Cx) : Prop :=
  CtrB prog w K d u f args news R x.p x.loose x.mean x.mg x.mb x.dp x.un x.gd x.cn x.cs x.a x.ccd x.cl x.outer x.A₀ x.base x.h₀ x.L x.m x.s x.Q x.E
theorem ctr_of {prog : Program} {w : World} {K : Frag} {d u : Nat} {f : Addr} {args : List Value} {news : List (Addr × Obj)} {R : Value → List (Addr × Obj) → Prop} (h : ∀ x, CtrX prog w K d u f args news R x) : Ctr prog w K d u f args news R :=
  fun p loose mean mg mb dp un gd cn cs a ccd cl outer A₀ base h₀ L m s Q E => h ⟨p, loose, mean, mg, mb, dp, un, gd, cn, cs, a, ccd, cl, outer, A₀, base, h₀, L, m, s, Q, E⟩

theorem News.sub {h₀ h : Heap} {L : Addr} {l l' : List (Addr × Obj)} (N : News h₀ L h l) (hs : ∀ p ∈ l', p ∈ l) : News h₀ L h l' := fun p hp => N p (hs p hp)

noncomputable abbrev PR : Program := PySem.Challenge.rw_qw0075_02.row.prog

noncomputable abbrev ioD (w : World) (t : Nat → Tok) (nl : Value) (buf : Str) (u : Tok) (pos : Int) (v : Tok) : Obj :=
  dictOf [⟨PyData.keyHash w.params "_StringIO__newline", .str "_StringIO__newline" (t 0), nl⟩, ⟨PyData.keyHash w.params "_StringIO__buf", .str "_StringIO__buf" (t 1), .str buf u⟩, ⟨PyData.keyHash w.params "_StringIO__pos", .str "_StringIO__pos" (t 2), .int pos v⟩] 3

noncomputable abbrev Same (news : List (Addr × Obj)) (P : Value → Prop) : Value → List (Addr × Obj) → Prop := fun v l => P v ∧ l = news


theorem c_index (w : World) (news) (x : Str) (t u : Tok) :
   Ctr PySem.Challenge.rw_qw0075_02.row.prog w (Mine.frag.heap_1 w.params) 1 10 166 [Value.int 1 u, Value.str x t] news (Same news fun v => ∃ t, v = Value.int 1 t) := by
  k_fill
  refine ctr_of fun cx => ?_
  revert w news x t u cx
  refine id ?_
  refine' (let rec cx : Pk6 _ := pk6 (by repeat' first | exact ne_world | exact ne_cx | exact ⟨default⟩ | refine ne_prod ?_ ?_) _; Pk6.use cx ?_)
  unfold CtrX CtrB
  generalize cx.1.2.2.2.2.2.p = p
  generalize cx.1.2.2.2.2.2.loose = loose
  generalize cx.1.2.2.2.2.2.mean = mean
  generalize cx.1.2.2.2.2.2.mg = mg
  generalize cx.1.2.2.2.2.2.mb = mb
  generalize cx.1.2.2.2.2.2.dp = dp
  generalize cx.1.2.2.2.2.2.un = un
  generalize cx.1.2.2.2.2.2.gd = gd
  generalize cx.1.2.2.2.2.2.cn = cn
  generalize cx.1.2.2.2.2.2.cs = cs
  generalize cx.1.2.2.2.2.2.a = a
  generalize cx.1.2.2.2.2.2.ccd = ccd
  generalize cx.1.2.2.2.2.2.cl = cl
  generalize cx.1.2.2.2.2.2.outer = outer
  generalize cx.1.2.2.2.2.2.A₀ = A₀
  generalize cx.1.2.2.2.2.2.base = base
  generalize cx.1.2.2.2.2.2.h₀ = h₀
  generalize cx.1.2.2.2.2.2.L = L
  generalize cx.1.2.2.2.2.2.m = m
  generalize cx.1.2.2.2.2.2.s = s
  generalize cx.1.2.2.2.2.2.Q = Q
  generalize cx.1.2.2.2.2.2.E = E
  generalize cx.1.1 = w
  generalize cx.1.2.1 = news
  generalize cx.1.2.2.1 = x
  generalize cx.1.2.2.2.1 = t
  generalize cx.1.2.2.2.2.1 = u
  clear cx
  intro B F X N T hk hd hu hret
  refine wpAny_call ?_
  k_dflt cell_enter
  k_steps
  all_goals (refine hret _ _ _ _ ⟨⟨_, rfl⟩, rfl⟩ ?_ ?_ <;> assumption)

theorem c_check (w : World) (news) (io dio : Nat) (t : Nat → Tok) (nl : Value) (buf : Str) (u : Tok) (pos : Int) (v : Tok) :
   Ctr PySem.Challenge.rw_qw0075_02.row.prog w (Mine.frag.heap_1 w.params) 1 10 484 [Value.ref io] ((io, instObj 700 dio) :: (dio, ioD w t nl buf u pos v) :: news) (Same ((io, instObj 700 dio) :: (dio, ioD w t nl buf u pos v) :: news) fun v => v = Value.none) := by
  k_fill
  refine ctr_of fun cx => ?_
  revert w news io dio t nl buf u pos v cx
  refine id ?_
  refine' (let rec cx : Pk11 _ := pk11 (by repeat' first | exact ne_world | exact ne_cx | exact ⟨default⟩ | refine ne_prod ?_ ?_) _; Pk11.use cx ?_)
  unfold CtrX CtrB
  generalize cx.1.2.2.2.2.2.2.2.2.2.2.p = p
  generalize cx.1.2.2.2.2.2.2.2.2.2.2.loose = loose
  generalize cx.1.2.2.2.2.2.2.2.2.2.2.mean = mean
  generalize cx.1.2.2.2.2.2.2.2.2.2.2.mg = mg
  generalize cx.1.2.2.2.2.2.2.2.2.2.2.mb = mb
  generalize cx.1.2.2.2.2.2.2.2.2.2.2.dp = dp
  generalize cx.1.2.2.2.2.2.2.2.2.2.2.un = un
  generalize cx.1.2.2.2.2.2.2.2.2.2.2.gd = gd
  generalize cx.1.2.2.2.2.2.2.2.2.2.2.cn = cn
  generalize cx.1.2.2.2.2.2.2.2.2.2.2.cs = cs
  generalize cx.1.2.2.2.2.2.2.2.2.2.2.a = a
  generalize cx.1.2.2.2.2.2.2.2.2.2.2.ccd = ccd
  generalize cx.1.2.2.2.2.2.2.2.2.2.2.cl = cl
  generalize cx.1.2.2.2.2.2.2.2.2.2.2.outer = outer
  generalize cx.1.2.2.2.2.2.2.2.2.2.2.A₀ = A₀
  generalize cx.1.2.2.2.2.2.2.2.2.2.2.base = base
  generalize cx.1.2.2.2.2.2.2.2.2.2.2.h₀ = h₀
  generalize cx.1.2.2.2.2.2.2.2.2.2.2.L = L
  generalize cx.1.2.2.2.2.2.2.2.2.2.2.m = m
  generalize cx.1.2.2.2.2.2.2.2.2.2.2.s = s
  generalize cx.1.2.2.2.2.2.2.2.2.2.2.Q = Q
  generalize cx.1.2.2.2.2.2.2.2.2.2.2.E = E
  generalize cx.1.1 = w
  generalize cx.1.2.1 = news
  generalize cx.1.2.2.1 = io
  generalize cx.1.2.2.2.1 = dio
  generalize cx.1.2.2.2.2.1 = t
  generalize cx.1.2.2.2.2.2.1 = nl
  generalize cx.1.2.2.2.2.2.2.1 = buf
  generalize cx.1.2.2.2.2.2.2.2.1 = u
  generalize cx.1.2.2.2.2.2.2.2.2.1 = pos
  generalize cx.1.2.2.2.2.2.2.2.2.2.1 = v
  clear cx
  intro B F X N T hk hd hu hret
  refine wpAny_call ?_
  k_dflt cell_enter
  k_steps
  all_goals (refine hret _ _ _ _ ⟨rfl, rfl⟩ ?_ ?_ <;> assumption)
end
end Mine
end SL02
section SL03
open PySem PySem.W PyProof.Rows
namespace Mine
noncomputable section

noncomputable def ReadR (w : World) (io dio : Nat) (t : Nat → Tok) (nl : Value) (b : List Nat) (u : Tok) (pos : Nat) (v : Tok) (news : List (Addr × Obj)) : List Nat → Value → List (Addr × Obj) → Prop
  | [], r, l => ∃ t', r = .str "" t' ∧ l = (io, instObj 700 dio) :: (dio, ioD w t nl (S b) u pos v) :: news
  | c :: _, r, l => ∃ t' v', r = .str (S [c]) t' ∧ l = (io, instObj 700 dio) :: (dio, ioD w t nl (S b) u (pos + 1 : Nat) v') :: news

theorem c_read (w : World) (news) (io dio : Nat) (t : Nat → Tok) (nl : Value) (b : List Nat) (u : Tok) (pos : Nat) (v : Tok) (k : Tok) (rest : List Nat) (hrest : b.drop pos = rest) (hne : ∀ p ∈ news, p.1 ≠ dio) (hne' : io ≠ dio) (hlen : (S b).length < 1000) :
   Ctr PySem.Challenge.rw_qw0075_02.row.prog w (Mine.frag.heap_1 w.params) 3 30 646 [Value.ref io, Value.int 1 k] ((io, instObj 700 dio) :: (dio, ioD w t nl (S b) u pos v) :: news) 
     (ReadR w io dio t nl b u pos v news rest) := by
  k_with_none
  k_with "call ref" => (k_here; (with_reducible show wpAny _ _ (call (Value.ref 166) _) _ _ _); k_dflt (refine' Ctr.use ?k1 ?k2 ?k3 ?k4 ?k5 ?kk (c_index _ _ _ _ _) ?kd ?ku ?_; (case k1 => k_asm); (case k2 => k_asm); (case k3 => k_asm); (case k4 => k_asm); (case k5 => k_asm); (case kk => first | exact rfl | assumption); (case kd => ktr_room); (case ku => ktr_units); k_whole); rintro v9z n9z h9z tk9z ⟨⟨t9, e8⟩, e9⟩ F9 N9; subst e8 e9; (try dsimp only); (try k_fold))
  k_with "call ref" => (k_here; (with_reducible show wpAny _ _ (call (Value.ref 484) _) _ _ _); k_dflt (refine' Ctr.use ?k1 ?k2 ?k3 ?k4 ?k5 ?kk (c_check _ _ _ _ _ _ _ _ _ _) ?kd ?ku ?_; (case k1 => k_asm); (case k2 => k_asm); (case k3 => k_asm); (case k4 => k_asm); (case k5 => k_asm); (case kk => first | exact rfl | assumption); (case kd => ktr_room); (case ku => ktr_units); k_whole); rintro v9z n9z h9z tk9z ⟨e8, e9⟩ F9 N9; subst e8 e9; (try dsimp only); (try k_fold))
  k_fill
  refine ctr_of fun cx => ?_
  revert hrest hne hne' hlen
  revert w news io dio t nl b u pos v k rest cx
  refine id ?_
  refine' (let rec cx0 : Pk12 _ := pk12 (by repeat' first | exact ne_world | exact ne_cx | exact ⟨default⟩ | refine ne_prod ?_ ?_) _; Pk12.use cx0 ?_)
  generalize cx0.1.1 = w
  generalize cx0.1.2.1 = news
  generalize cx0.1.2.2.1 = io
  generalize cx0.1.2.2.2.1 = dio
  generalize cx0.1.2.2.2.2.1 = t
  generalize cx0.1.2.2.2.2.2.1 = nl
  generalize cx0.1.2.2.2.2.2.2.1 = b
  generalize cx0.1.2.2.2.2.2.2.2.1 = u
  generalize cx0.1.2.2.2.2.2.2.2.2.1 = pos
  generalize cx0.1.2.2.2.2.2.2.2.2.2.1 = v
  generalize cx0.1.2.2.2.2.2.2.2.2.2.2.1 = k
  generalize cx0.1.2.2.2.2.2.2.2.2.2.2.2 = rest
  clear cx0
  refine' (let rec cx : Pk1 _ := pk1 (by repeat' first | exact ne_world | exact ne_cx | exact ⟨default⟩ | refine ne_prod ?_ ?_) _; Pk1.use cx ?_)
  unfold CtrX CtrB
  generalize cx.1.p = p
  generalize cx.1.loose = loose
  generalize cx.1.mean = mean
  generalize cx.1.mg = mg
  generalize cx.1.mb = mb
  generalize cx.1.dp = dp
  generalize cx.1.un = un
  generalize cx.1.gd = gd
  generalize cx.1.cn = cn
  generalize cx.1.cs = cs
  generalize cx.1.a = a
  generalize cx.1.ccd = ccd
  generalize cx.1.cl = cl
  generalize cx.1.outer = outer
  generalize cx.1.A₀ = A₀
  generalize cx.1.base = base
  generalize cx.1.h₀ = h₀
  generalize cx.1.L = L
  generalize cx.1.m = m
  generalize cx.1.s = s
  generalize cx.1.Q = Q
  generalize cx.1.E = E
  clear cx
  intro hrest hne hne' hlen B F X N T hk hd hu hret
  cases rest with
  | nil =>
    have hge := drop_ge hrest
    refine wpAny_call ?_
    k_dflt (refine' code_def ?k1 ?k2 ?k3 ?k4 ?k5 ?kA ?kF ?kK ?k6 ?k7 ?k8 ?k9 ?kB ?_ ?c2 ?c3 ?c4 ?c5; (case kA => exact rfl); (case kF => exact rfl); (case kK => first | exact rfl | assumption); (case k1 => k_asm); (case k2 => k_asm); (case k3 => k_asm); (case k4 => k_asm); (case k5 => k_asm); (case k6 => k_is); (case k7 => k_is); (case k8 => k_room); (case k9 => first | exact BindsTo.of_eq rfl | exact binds_K (by k_in) rfl (by k_is) rfl rfl rfl | fail "k_enter: no rule for these arguments"); (case c5 => decide); (case kB => exact locs rfl); (case c2 => exact rfl); (case c3 => exact rfl); (case c4 => exact rfl); k_whole; intro g' L' h' FG' F' N' B' X' T'; (try dsimp only); (try k_lift B'); (try k_fold))
    k_steps
    all_goals (refine hret _ _ _ _ ⟨_, rfl, rfl⟩ ?_ ?_ <;> assumption)
  | cons c r =>
    have hlt := drop_lt hrest
    refine wpAny_call ?_
    k_dflt (refine' code_def ?k1 ?k2 ?k3 ?k4 ?k5 ?kA ?kF ?kK ?k6 ?k7 ?k8 ?k9 ?kB ?_ ?c2 ?c3 ?c4 ?c5; (case kA => exact rfl); (case kF => exact rfl); (case kK => first | exact rfl | assumption); (case k1 => k_asm); (case k2 => k_asm); (case k3 => k_asm); (case k4 => k_asm); (case k5 => k_asm); (case k6 => k_is); (case k7 => k_is); (case k8 => k_room); (case k9 => first | exact BindsTo.of_eq rfl | exact binds_K (by k_in) rfl (by k_is) rfl rfl rfl | fail "k_enter: no rule for these arguments"); (case c5 => decide); (case kB => exact locs rfl); (case c2 => exact rfl); (case c3 => exact rfl); (case c4 => exact rfl); k_whole; intro g' L' h' FG' F' N' B' X' T'; (try dsimp only); (try k_lift B'); (try k_fold))
    k_steps
    · rw [slice_one hrest]
      (rename News _ _ _ _ => nN)
      (rename Fr _ _ _ _ => nF)
      exact hret _ _ _ _ ⟨_, _, rfl, rfl⟩ nF nN
    · rw [slice_last hrest (by assumption)]
      (rename News _ _ _ _ => nN)
      (rename Fr _ _ _ _ => nF)
      have e : ((S b).length : Int) = ((pos + 1 : Nat) : Int) := by omega
      rw [e] at nN
      exact hret _ _ _ _ ⟨_, _, rfl, rfl⟩ nF nN
end
end Mine
end SL03
section SL04
open PySem PySem.W PyProof.Rows
namespace Mine
noncomputable abbrev lexD (w : World) (t u : Nat → Tok) (io pb fs : Addr) (st : Value) (ln : Int) (lt : Tok) (tk : Str) (tt : Tok) : Obj :=
  dictOf [⟨PyData.keyHash w.params "instream", .str "instream" (t 0), .ref io⟩,
    ⟨PyData.keyHash w.params "infile", .str "infile" (t 1), .none⟩,
    ⟨PyData.keyHash w.params "posix", .str "posix" (t 2), .bool true⟩,
    ⟨PyData.keyHash w.params "eof", .str "eof" (t 3), .none⟩,
    ⟨PyData.keyHash w.params "commenters", .str "commenters" (t 4), .str "" (u 4)⟩,
    ⟨PyData.keyHash w.params "wordchars", .str "wordchars" (t 5), .str "abcdfeghijklmnopqrstuvwxyzABCDEFGHIJKLMNOPQRSTUVWXYZ0123456789_ßàáâãäåæçèéêëìíîïðñòóôõöøùúûüýþÿÀÁÂÃÄÅÆÇÈÉÊËÌÍÎÏÐÑÒÓÔÕÖØÙÚÛÜÝÞ" (u 5)⟩,
    ⟨PyData.keyHash w.params "whitespace", .str "whitespace" (t 6), .str " \t\r\n" (u 6)⟩,
    ⟨PyData.keyHash w.params "whitespace_split", .str "whitespace_split" (t 7), .bool true⟩,
    ⟨PyData.keyHash w.params "quotes", .str "quotes" (t 8), .str "'\"" (u 8)⟩,
    ⟨PyData.keyHash w.params "escape", .str "escape" (t 9), .str "\\" (u 9)⟩,
    ⟨PyData.keyHash w.params "escapedquotes", .str "escapedquotes" (t 10), .str "\"" (u 10)⟩,
    ⟨PyData.keyHash w.params "state", .str "state" (t 11), st⟩,
    ⟨PyData.keyHash w.params "pushback", .str "pushback" (t 12), .ref pb⟩,
    ⟨PyData.keyHash w.params "lineno", .str "lineno" (t 13), .int ln lt⟩,
    ⟨PyData.keyHash w.params "debug", .str "debug" (t 14), .int 0 (u 14)⟩,
    ⟨PyData.keyHash w.params "token", .str "token" (t 15), .str tk tt⟩,
    ⟨PyData.keyHash w.params "filestack", .str "filestack" (t 16), .ref fs⟩,
    ⟨PyData.keyHash w.params "source", .str "source" (t 17), .none⟩,
    ⟨PyData.keyHash w.params "_punctuation_chars", .str "_punctuation_chars" (t 18), .str "" (u 18)⟩] 19
end Mine
end SL04
section SL05
open PySem PySem.W PyProof.Rows
namespace Mine
inductive Md | sp | q1 | q2 | wd | en
noncomputable def Md.val : Md → Tok → Value
  | .sp, t => .str " " t
  | .q1, t => .str "'" t
  | .q2, t => .str "\"" t
  | .wd, t => .str "a" t
  | .en, _ => .none

noncomputable def lexRun : Md → List Nat → List Nat → Option (Option (List Nat) × Bool × List Nat)
  | .en, _, [] => some (none, true, [])
  | .en, _, _ :: _ => none
  | .sp, _, [] => some (none, true, [])
  | .sp, tok, c :: r => if c = 39 then lexRun .q1 tok r else if c = 34 then lexRun .q2 tok r else none
  | .q1, _, [] => none
  | .q1, tok, c :: r => if c = 39 then lexRun .wd tok r else lexRun .q1 (tok ++ [c]) r
  | .q2, _, [] => none
  | .q2, tok, c :: r => if c = 34 then lexRun .wd tok r else if c = 92 then none else lexRun .q2 (tok ++ [c]) r
  | .wd, tok, [] => if tok = [] then none else some (some tok, true, [])
  | .wd, tok, c :: r => if tok = [] then none else if c = 32 then some (some tok, false, r) else none

structure RT where
  md : Md
  tok : List Nat
  quo : Bool
  rest : List Nat
  pos : Nat
  ln : Int
  ts : Tok
  tl : Tok
  tt : Tok
  tp : Tok

noncomputable def RtR (w : World) (x dx io dio pb fs : Addr) (t u t' : Nat → Tok) (nl : Value) (b : List Nat) (ub : Tok) (news : List (Addr × Obj)) (res : Option (List Nat) × Bool × List Nat) (r : Value) (l : List (Addr × Obj)) : Prop :=
  ∃ pos ts tl tt tp tv ln, b.drop pos = res.2.2 ∧ r = (match res.1 with | none => .none | some k => .str (S k) tv) ∧
    l = (x, instObj 835 dx) :: (dx, lexD w t u io pb fs (Md.val (if res.2.1 then .en else .sp) ts) ln tl "" tt) :: (io, instObj 700 dio) :: (dio, ioD w t' nl (S b) ub pos tp) :: news

structure RtP (b : List Nat) (res : Option (List Nat) × Bool × List Nat) (c : RT) : Prop where
  run : lexRun c.md c.tok c.rest = some res
  at_ : b.drop c.pos = c.rest
  sp : c.md = .sp → c.quo = false ∧ c.tok = []
  wd : c.md = .wd → c.quo = true
  en : c.md = .en → c.quo = false ∧ c.tok = []
  fit : c.tok.length ≤ c.pos
theorem mem_rot1 {e a b c d : Addr × Obj} {l : List (Addr × Obj)} : ∀ p ∈ a :: b :: c :: d :: l, p ∈ e :: c :: d :: a :: b :: l := by
  intro p hp
  simp only [List.mem_cons] at hp ⊢
  rcases hp with h | h | h | h | h <;> simp [h]
theorem S_len (a : List Nat) : (S a).length = a.length := List.size_toArray
section
variable {prog : Program} {w : World} {A : Around} {E : Value → Shared → Prop} {s : Shared} {x y : Str} {t u : Tok} {b : Bool}
theorem in_str_b {Q : Value → Shared → Prop} (e : (!(Builtin.Str.occurrences x y 0 x.length 1).isEmpty) = b) (h : Q (.bool b) s) : wpAny (model prog w) A (compareOp .In (.str y u) (.str x t)) Q E s := PyProof.Rows.in_str (by rw [e]; exact h)
theorem eq_str_b {Q : Value → Shared → Prop} (e : (x == y) = b) (h : Q (.bool b) s) : wpAny (model prog w) A (compareOp .Eq (.str x t) (.str y u)) Q E s := PyProof.Rows.eq_str (by rw [e]; exact h)
end
theorem S_ne {c d : Nat} (h : c ≠ d) : (S [c] == S [d]) = false := by
  rw [beq_eq_false_iff_ne]
  intro e
  exact h (by simpa [S] using e)
theorem S_pos {l : List Nat} (h : l ≠ []) : (((S l).length : Int) != 0) = true := by
  rw [S_len]
  cases l with
  | nil => exact absurd rfl h
  | cons a r => simp only [List.length_cons, bne_iff_ne, ne_eq]; omega
theorem S_nl {c : Nat} (h : c ≠ 10) : (S [c] == Str.ofString "\n") = false := by rw [← show S [10] = Str.ofString "\n" by decide +kernel]; exact S_ne h
theorem S_q1 {c : Nat} (h : c ≠ 39) : (S [c] == Str.ofString "'") = false := by rw [← show S [39] = Str.ofString "'" by decide +kernel]; exact S_ne h
theorem S_q2 {c : Nat} (h : c ≠ 34) : (S [c] == Str.ofString "\"") = false := by rw [← show S [34] = Str.ofString "\"" by decide +kernel]; exact S_ne h
theorem S_esc {c : Nat} (h : c ≠ 92) : (!(Builtin.Str.occurrences (Str.ofString "\\") (S [c]) 0 (Str.ofString "\\").length 1).isEmpty) = false := by
  have e := PySem.StrLaws.found_one (Str.ofString "\\") c
  rw [show (S [c] : Str) = ⟨#[c]⟩ from rfl, e]
  rw [← show S [92] = Str.ofString "\\" by decide +kernel]
  simpa [S] using h
theorem rt_same {k nx : Str} {v v' : Value} {u m₀ : Str → Option Value} {a : Option Value} : ∀ z, (∀ p ∈ [(k, v')], z ≠ p.1) → [nx].contains z = false →
    (if z = nx then a else kstB (fun z => if [nx].contains z then u z else m₀ z) [(k, v)] z) = m₀ z := by
  intro z h2 h3
  have h4 : z ≠ k := h2 _ (.head _)
  have h5 : z ≠ nx := by
    intro e
    subst e
    simp at h3
  rw [if_neg h5]
  show (if z = k then some v else (if [nx].contains z then u z else m₀ z)) = m₀ z
  rw [if_neg h4, h3]
  rfl
theorem rt_same2 {k nx : Str} {v v' : Value} {u m₀ : Str → Option Value} {a a' : Option Value} : ∀ z, (∀ p ∈ [(k, v')], z ≠ p.1) → [nx].contains z = false →
    (if z = k then a' else if z = nx then a else kstB (fun z => if [nx].contains z then u z else m₀ z) [(k, v)] z) = m₀ z := by
  intro z h2 h3
  rw [if_neg (h2 _ (.head _))]
  exact rt_same z h2 h3
theorem S10 : S [10] = Str.ofString "\n" := by decide +kernel
theorem S92 : S [92] = Str.ofString "\\" := by decide +kernel
theorem S39 : S [39] = Str.ofString "'" := by decide +kernel
theorem S34 : S [34] = Str.ofString "\"" := by decide +kernel
theorem S32 : S [32] = Str.ofString " " := by decide +kernel
theorem S_app (a b : List Nat) : S a ++ S b = S (a ++ b) := by
  show (⟨a.toArray ++ b.toArray⟩ : Str) = ⟨(a ++ b).toArray⟩
  simp
theorem mem_rot {a b c d : Addr × Obj} {l : List (Addr × Obj)} : ∀ p ∈ a :: b :: c :: d :: l, p ∈ c :: d :: a :: b :: l := by
  intro p hp
  simp only [List.mem_cons] at hp ⊢
  rcases hp with h | h | h | h | h <;> simp [h]
theorem i_ws_1 : (!(Builtin.Str.occurrences (Str.ofString " \t\r\n") (Str.ofString "'") 0 (Str.ofString " \t\r\n").length 1).isEmpty) = false := by decide +kernel
theorem i_ws_2 : (!(Builtin.Str.occurrences (Str.ofString " \t\r\n") (Str.ofString "\"") 0 (Str.ofString " \t\r\n").length 1).isEmpty) = false := by decide +kernel
theorem i_ws_b : (!(Builtin.Str.occurrences (Str.ofString " \t\r\n") (Str.ofString " ") 0 (Str.ofString " \t\r\n").length 1).isEmpty) = true := by decide +kernel
theorem i_no_1 : (!(Builtin.Str.occurrences (Str.ofString "") (Str.ofString "'") 0 (Str.ofString "").length 1).isEmpty) = false := by decide +kernel
theorem i_no_2 : (!(Builtin.Str.occurrences (Str.ofString "") (Str.ofString "\"") 0 (Str.ofString "").length 1).isEmpty) = false := by decide +kernel
theorem i_es_1 : (!(Builtin.Str.occurrences (Str.ofString "\\") (Str.ofString "'") 0 (Str.ofString "\\").length 1).isEmpty) = false := by decide +kernel
theorem i_es_2 : (!(Builtin.Str.occurrences (Str.ofString "\\") (Str.ofString "\"") 0 (Str.ofString "\\").length 1).isEmpty) = false := by decide +kernel
theorem i_es_n : (!(Builtin.Str.occurrences (Str.ofString "\\") (Str.ofString "\n") 0 (Str.ofString "\\").length 1).isEmpty) = false := by decide +kernel
theorem i_es_e : (!(Builtin.Str.occurrences (Str.ofString "\\") (Str.ofString "\\") 0 (Str.ofString "\\").length 1).isEmpty) = true := by decide +kernel
theorem i_es_a : (!(Builtin.Str.occurrences (Str.ofString "\\") (Str.ofString "a") 0 (Str.ofString "\\").length 1).isEmpty) = false := by decide +kernel
theorem i_wc_1 : (!(Builtin.Str.occurrences (Str.ofString "abcdfeghijklmnopqrstuvwxyzABCDEFGHIJKLMNOPQRSTUVWXYZ0123456789_ßàáâãäåæçèéêëìíîïðñòóôõöøùúûüýþÿÀÁÂÃÄÅÆÇÈÉÊËÌÍÎÏÐÑÒÓÔÕÖØÙÚÛÜÝÞ") (Str.ofString "'") 0 (Str.ofString "abcdfeghijklmnopqrstuvwxyzABCDEFGHIJKLMNOPQRSTUVWXYZ0123456789_ßàáâãäåæçèéêëìíîïðñòóôõöøùúûüýþÿÀÁÂÃÄÅÆÇÈÉÊËÌÍÎÏÐÑÒÓÔÕÖØÙÚÛÜÝÞ").length 1).isEmpty) = false := by decide +kernel
theorem i_wc_2 : (!(Builtin.Str.occurrences (Str.ofString "abcdfeghijklmnopqrstuvwxyzABCDEFGHIJKLMNOPQRSTUVWXYZ0123456789_ßàáâãäåæçèéêëìíîïðñòóôõöøùúûüýþÿÀÁÂÃÄÅÆÇÈÉÊËÌÍÎÏÐÑÒÓÔÕÖØÙÚÛÜÝÞ") (Str.ofString "\"") 0 (Str.ofString "abcdfeghijklmnopqrstuvwxyzABCDEFGHIJKLMNOPQRSTUVWXYZ0123456789_ßàáâãäåæçèéêëìíîïðñòóôõöøùúûüýþÿÀÁÂÃÄÅÆÇÈÉÊËÌÍÎÏÐÑÒÓÔÕÖØÙÚÛÜÝÞ").length 1).isEmpty) = false := by decide +kernel
theorem i_qu_1 : (!(Builtin.Str.occurrences (Str.ofString "'\"") (Str.ofString "'") 0 (Str.ofString "'\"").length 1).isEmpty) = true := by decide +kernel
theorem i_qu_2 : (!(Builtin.Str.occurrences (Str.ofString "'\"") (Str.ofString "\"") 0 (Str.ofString "'\"").length 1).isEmpty) = true := by decide +kernel
theorem i_qu_a : (!(Builtin.Str.occurrences (Str.ofString "'\"") (Str.ofString "a") 0 (Str.ofString "'\"").length 1).isEmpty) = false := by decide +kernel
theorem i_eq_1 : (!(Builtin.Str.occurrences (Str.ofString "\"") (Str.ofString "'") 0 (Str.ofString "\"").length 1).isEmpty) = false := by decide +kernel
end Mine
end SL05
section SZ01
open PySem PySem.W PyProof.Rows PySem.Calls
namespace Mine
structure Ends (R : Flow → Shared → Prop) (E' : Value → Shared → Prop) (Q : Flow → Shared → Prop) (E : Value → Shared → Prop) : Prop where
  flow : ∀ f s, Q f s → R f s
  exc : ∀ e s, E e s → E' e s
section
variable {M : Model} {A : Around} {body : List Stmt} {env : Env} {Q R : Flow → Shared → Prop} {E E' : Value → Shared → Prop} {s : Shared} {v : Value} {f : Flow}
theorem body_cut (h : ∀ (R : Flow → Shared → Prop) (E' : Value → Shared → Prop), Ends R E' Q E → wpAny M A (execs body env) R E' s) : wpAny M A (execs body env) Q E s :=
  h _ _ ⟨fun _ _ q => q, fun _ _ q => q⟩
theorem Ends.go (c : Ends R E' Q E) (h : Q f s) : R f s := c.flow f s h
theorem Ends.goE (c : Ends R E' Q E) (h : E v s) : E' v s := c.exc v s h
end
end Mine
namespace Mine
structure Cont (R : Flow → Shared → Prop) (E' : Value → Shared → Prop) (M : Model) (A : Around) (rest : List Stmt) (env : Env) (Q : Flow → Shared → Prop) (E : Value → Shared → Prop) : Prop where
  next : ∀ s, wpAny M A (execs rest env) Q E s → R .next s
  ret : ∀ v s, Q (.ret v) s → R (.ret v) s
  exc : ∀ e s, E e s → E' e s
section
variable {M : Model} {A : Around} {rest : List Stmt} {env : Env} {Q R : Flow → Shared → Prop} {E E' : Value → Shared → Prop} {st : Stmt} {s : Shared} {v : Value}
theorem Cont.go (c : Cont R E' M A rest env Q E) (h : wpAny M A (execs rest env) Q E s) : R .next s := c.next s h
theorem Cont.goRet (c : Cont R E' M A rest env Q E) (h : Q (.ret v) s) : R (.ret v) s := c.ret v s h
end
end Mine
end SZ01
section SL06
open PySem PySem.W PyProof.Rows
namespace Mine
noncomputable section
theorem c_rt (w : World) (news) (x dx io dio pb fs : Nat) (t u t' : Nat → Tok) (nl : Value) (b : List Nat) (ub : Tok) (pos : Nat) (v : Tok) (md : Md) (ln : Int) (ts lt tt : Tok) (rest : List Nat) (hrest : b.drop pos = rest) (res) (hrun : lexRun md [] rest = some res) (hmd : md = .sp ∨ md = .en)
   (hdx : ∀ p ∈ news, p.1 ≠ dx) (hdio : ∀ p ∈ news, p.1 ≠ dio) (h1 : x ≠ dx) (h2 : x ≠ dio) (h3 : io ≠ dio) (h4 : io ≠ dx) (h5 : dx ≠ dio) (hlen : (S b).length < 1000) :
   Ctr PySem.Challenge.rw_qw0075_02.row.prog w (Mine.frag.heap_1 w.params) 8 80 803 [Value.ref x] ((x, instObj 835 dx) :: (dx, lexD w t u io pb fs (md.val ts) ln lt "" tt) :: (io, instObj 700 dio) :: (dio, ioD w t' nl (S b) ub pos v) :: news) 
     (RtR w x dx io dio pb fs t u t' nl b ub news res) := by
  k_fill
  refine ctr_of fun cx => ?_
  revert hrest hrun hmd hdx hdio h1 h2 h3 h4 h5 hlen
  revert w news x dx io dio pb fs t u t' nl b ub pos v md ln ts lt tt rest res cx
  refine id ?_
  refine' (let rec cx0 : Pk12 _ := pk12 (by repeat' first | exact ne_world | exact ne_cx | exact ne_shared | exact ne_around | exact ⟨default⟩ | exact ⟨.sp⟩ | refine ne_prod ?_ ?_) _; Pk12.use cx0 ?_)
  generalize cx0.1.1 = w
  generalize cx0.1.2.1 = news
  generalize cx0.1.2.2.1 = x
  generalize cx0.1.2.2.2.1 = dx
  generalize cx0.1.2.2.2.2.1 = io
  generalize cx0.1.2.2.2.2.2.1 = dio
  generalize cx0.1.2.2.2.2.2.2.1 = pb
  generalize cx0.1.2.2.2.2.2.2.2.1 = fs
  generalize cx0.1.2.2.2.2.2.2.2.2.1 = t
  generalize cx0.1.2.2.2.2.2.2.2.2.2.1 = u
  generalize cx0.1.2.2.2.2.2.2.2.2.2.2.1 = t'
  generalize cx0.1.2.2.2.2.2.2.2.2.2.2.2 = nl
  clear cx0
  refine' (let rec cx : Pk12 _ := pk12 (by repeat' first | exact ne_world | exact ne_cx | exact ne_shared | exact ne_around | exact ⟨default⟩ | exact ⟨.sp⟩ | refine ne_prod ?_ ?_) _; Pk12.use cx ?_)
  unfold CtrX CtrB
  generalize cx.1.2.2.2.2.2.2.2.2.2.2.2.p = p
  generalize cx.1.2.2.2.2.2.2.2.2.2.2.2.loose = loose
  generalize cx.1.2.2.2.2.2.2.2.2.2.2.2.mean = mean
  generalize cx.1.2.2.2.2.2.2.2.2.2.2.2.mg = mg
  generalize cx.1.2.2.2.2.2.2.2.2.2.2.2.mb = mb
  generalize cx.1.2.2.2.2.2.2.2.2.2.2.2.dp = dp
  generalize cx.1.2.2.2.2.2.2.2.2.2.2.2.un = un
  generalize cx.1.2.2.2.2.2.2.2.2.2.2.2.gd = gd
  generalize cx.1.2.2.2.2.2.2.2.2.2.2.2.cn = cn
  generalize cx.1.2.2.2.2.2.2.2.2.2.2.2.cs = cs
  generalize cx.1.2.2.2.2.2.2.2.2.2.2.2.a = a
  generalize cx.1.2.2.2.2.2.2.2.2.2.2.2.ccd = ccd
  generalize cx.1.2.2.2.2.2.2.2.2.2.2.2.cl = cl
  generalize cx.1.2.2.2.2.2.2.2.2.2.2.2.outer = outer
  generalize cx.1.2.2.2.2.2.2.2.2.2.2.2.A₀ = A₀
  generalize cx.1.2.2.2.2.2.2.2.2.2.2.2.base = base
  generalize cx.1.2.2.2.2.2.2.2.2.2.2.2.h₀ = h₀
  generalize cx.1.2.2.2.2.2.2.2.2.2.2.2.L = L
  generalize cx.1.2.2.2.2.2.2.2.2.2.2.2.m = m
  generalize cx.1.2.2.2.2.2.2.2.2.2.2.2.s = s
  generalize cx.1.2.2.2.2.2.2.2.2.2.2.2.Q = Q
  generalize cx.1.2.2.2.2.2.2.2.2.2.2.2.E = E
  generalize cx.1.1 = b
  generalize cx.1.2.1 = ub
  generalize cx.1.2.2.1 = pos
  generalize cx.1.2.2.2.1 = v
  generalize cx.1.2.2.2.2.1 = md
  generalize cx.1.2.2.2.2.2.1 = ln
  generalize cx.1.2.2.2.2.2.2.1 = ts
  generalize cx.1.2.2.2.2.2.2.2.1 = lt
  generalize cx.1.2.2.2.2.2.2.2.2.1 = tt
  generalize cx.1.2.2.2.2.2.2.2.2.2.1 = rest
  generalize cx.1.2.2.2.2.2.2.2.2.2.2.1 = res
  clear cx
  intro hrest hrun hmd hdx hdio h1 h2 h3 h4 h5 hlen B F X N T hk hd hu hret
  k_with_none
  k_with "exec While" => refine Hold.out ?_
  refine wpAny_call ?_
  k_dflt cell_enter
  k_steps
  unfold Hold
  rename Fr _ _ _ _ => lF
  rename News _ _ _ _ => lN
  refine' ksw_while (σ := RT) (fun c => (x, instObj 835 dx) :: (dx, lexD w t u io pb fs (Md.val c.md c.ts) c.ln c.tl (S c.tok) c.tt) :: (io, instObj 700 dio) :: (dio, ioD w t' nl (S b) ub c.pos c.tp) :: news)
      (fun c => [("quoted", .bool c.quo)]) (fun _ => True) ["nextchar"] (RtP b res) (fun c => c.rest.length) ⟨md, [], false, rest, pos, ln, ts, lt, tt, v⟩ lF lN trivial ?kk ?kp ?_
  case kk => (intro q hq; rcases List.mem_cons.mp hq with rfl | hq; rfl; cases hq)
  case kp => exact ⟨hrun, hrest, fun _ => ⟨rfl, rfl⟩, fun e => (by rcases hmd with h | h <;> (rw [h] at e; cases e)), fun _ => ⟨rfl, rfl⟩, Nat.zero_le _⟩
  clear lF lN N
  intro c9 u9 h9 tk9 hT9 hP9 F9 N9
  obtain ⟨md9, tok9, quo9, rest9, pos9, ln9, ts9, tl9, tt9, tp9⟩ := c9
  obtain ⟨hrun9, hat9, hsp9, hwd9, hen9, hfit9⟩ := hP9
  dsimp only at hrun9 hat9 hsp9 hwd9 hen9 hfit9 F9 N9
  iterate 4 (first | walk1 | (dsimp only; walk1))
  refine body_cut fun R9 E9 c9 => ?_
  k_with_none
  k_with "compareOp Eq str str" => refine Hold.out ?_
  k_with "call ref" => (
    with_reducible show wpAny _ _ (call (Value.ref 646) _) _ _ _
    rename News _ _ _ _ => nR
    k_dflt (
      (refine' Ctr.use ?k1 ?k2 ?k3 (News.sub nR mem_rot) ?k5 ?kk (c_read w ((x, instObj 835 dx) :: (dx, _) :: news) io dio t' nl b ub _ _ _ _ hat9 ?hn h3 hlen) ?kd ?ku ?_)
      case k1 => k_asm
      case k2 => k_asm
      case k3 => k_asm
      case k5 => k_asm
      case kk => exact rfl
      case hn => (refine' List.forall_mem_cons.mpr ⟨h2, List.forall_mem_cons.mpr ⟨h5, hdio⟩⟩)
      case kd => ktr_room
      case ku => ktr_units
      intro v9 n9 h9 tk9 hR F9 N9
      (first | (obtain ⟨t9, e8, e9⟩ := hR; subst e8 e9) | (obtain ⟨t9, v9', e8, e9⟩ := hR; (try simp only [S39, S34, S32, S10, S92] at e8); subst e8 e9))
      (try dsimp only)
      (try k_fold)))
  cases rest9
  · k_steps
    unfold Hold
    k_with_none
    k_with "truthy str" => (
      with_reducible show wpAny _ _ (PySem.truthy (Value.str (S _) _)) _ _ _
      k_dflt (first
        | (refine KXt.truthy (b := true) rfl (Nat.le_of_ble_eq_true rfl) ?_; intro _)
        | (refine KXt.truthy (b := true) (S_pos htok) (by omega) ?_; intro _)))
    k_with "compareOp In str str" => (
      k_dflt (first
        | with_reducible refine in_str_b i_ws_1 ?_
        | with_reducible refine in_str_b i_ws_2 ?_
        | with_reducible refine in_str_b i_ws_b ?_
        | with_reducible refine in_str_b i_no_1 ?_
        | with_reducible refine in_str_b i_no_2 ?_
        | with_reducible refine in_str_b i_es_1 ?_
        | with_reducible refine in_str_b i_es_2 ?_
        | with_reducible refine in_str_b i_es_n ?_
        | with_reducible refine in_str_b i_es_e ?_
        | with_reducible refine in_str_b i_es_a ?_
        | with_reducible refine in_str_b i_wc_1 ?_
        | with_reducible refine in_str_b i_wc_2 ?_
        | with_reducible refine in_str_b i_qu_1 ?_
        | with_reducible refine in_str_b i_qu_2 ?_
        | with_reducible refine in_str_b i_qu_a ?_
        | with_reducible refine in_str_b i_eq_1 ?_
        | with_reducible refine in_str_b i_eq_2 ?_
        | with_reducible refine in_str_b (b := false) hesc ?_))
    k_with "compareOp Eq str str" => (
      k_dflt (first
        | with_reducible refine eq_str_b (b := false) heq1 ?_
        | with_reducible refine eq_str_b (b := false) heq2 ?_))
    k_with "call ref" => (
      with_reducible show wpAny _ _ (call (Value.ref 646) _) _ _ _
      rename News _ _ _ _ => nR
      k_dflt (
        (refine' Ctr.use ?k1 ?k2 ?k3 (News.sub nR mem_rot) ?k5 ?kk (c_read w ((x, instObj 835 dx) :: (dx, _) :: news) io dio t' nl b ub _ _ _ _ hat9 ?hn h3 hlen) ?kd ?ku ?_)
        case k1 => k_asm
        case k2 => k_asm
        case k3 => k_asm
        case k5 => k_asm
        case kk => exact rfl
        case hn => (refine' List.forall_mem_cons.mpr ⟨h2, List.forall_mem_cons.mpr ⟨h5, hdio⟩⟩)
        case kd => ktr_room
        case ku => ktr_units
        intro v9 n9 h9 tk9 hR F9 N9
        (first | (obtain ⟨t9, e8, e9⟩ := hR; subst e8 e9) | (obtain ⟨t9, v9', e8, e9⟩ := hR; (try simp only [S39, S34, S32, S10, S92] at e8); subst e8 e9))
        (try dsimp only)
        (try k_fold)))
    cases md9
    · obtain ⟨e1, e2⟩ := hsp9 rfl
      subst e1 e2
      have e9 := Option.some.inj hrun9
      subst e9
      (rename News _ _ _ _ => N9; dsimp only [Md.val] at N9)
      k_steps
      refine c9.flow _ _ ?_
      k_steps
      rename News _ _ _ _ => nN
      rename Fr _ _ _ _ => nF
      exact hret _ _ _ _ ⟨_, 0, _, _, _, 0, _, hat9, rfl, rfl⟩ nF (News.sub nN mem_rot)
    · cases hrun9
    · cases hrun9
    · skip
      have e1 := hwd9 rfl
      subst e1
      have htok : tok9 ≠ [] := by
        intro h
        simp [lexRun, h] at hrun9
      (rename News _ _ _ _ => N9; dsimp only [Md.val] at N9)
      have e9 : (some tok9, true, []) = res := by simpa [lexRun, htok] using hrun9
      subst e9
      k_steps
      refine c9.flow _ _ ?_
      k_steps
      rename News _ _ _ _ => nN
      rename Fr _ _ _ _ => nF
      exact hret _ _ _ _ ⟨_, 0, _, _, _, _, _, hat9, rfl, rfl⟩ nF (News.sub nN (by first | exact mem_rot | exact mem_rot1))
    · obtain ⟨e1, e2⟩ := hen9 rfl
      subst e1 e2
      have e9 := Option.some.inj hrun9
      subst e9
      (rename News _ _ _ _ => N9; dsimp only [Md.val] at N9)
      k_steps
      refine c9.flow _ _ ?_
      k_steps
      rename News _ _ _ _ => nN
      rename Fr _ _ _ _ => nF
      exact hret _ _ _ _ ⟨_, 0, _, _, _, 0, _, hat9, rfl, rfl⟩ nF (News.sub nN mem_rot)
  · rename_i c r
    k_with_none
    k_with "compareOp Eq str str" => refine Hold.out ?_
    k_with "call ref" => (
      with_reducible show wpAny _ _ (call (Value.ref 646) _) _ _ _
      rename News _ _ _ _ => nR
      k_dflt (
        (refine' Ctr.use ?k1 ?k2 ?k3 (News.sub nR mem_rot) ?k5 ?kk (c_read w ((x, instObj 835 dx) :: (dx, _) :: news) io dio t' nl b ub _ _ _ _ hat9 ?hn h3 hlen) ?kd ?ku ?_)
        case k1 => k_asm
        case k2 => k_asm
        case k3 => k_asm
        case k5 => k_asm
        case kk => exact rfl
        case hn => (refine' List.forall_mem_cons.mpr ⟨h2, List.forall_mem_cons.mpr ⟨h5, hdio⟩⟩)
        case kd => ktr_room
        case ku => ktr_units
        intro v9 n9 h9 tk9 hR F9 N9
        (first | (obtain ⟨t9, e8, e9⟩ := hR; subst e8 e9) | (obtain ⟨t9, v9', e8, e9⟩ := hR; (try simp only [S39, S34, S32, S10, S92] at e8); subst e8 e9))
        (try dsimp only)
        (try k_fold)))
    k_steps
    unfold Hold
    k_with_none
    k_with "truthy str" => (
      with_reducible show wpAny _ _ (PySem.truthy (Value.str (S _) _)) _ _ _
      k_dflt (first
        | (refine KXt.truthy (b := true) rfl (Nat.le_of_ble_eq_true rfl) ?_; intro _)
        | (refine KXt.truthy (b := true) (S_pos htok) (by omega) ?_; intro _)))
    k_with "compareOp In str str" => (
      k_dflt (first
        | with_reducible refine in_str_b i_ws_1 ?_
        | with_reducible refine in_str_b i_ws_2 ?_
        | with_reducible refine in_str_b i_ws_b ?_
        | with_reducible refine in_str_b i_no_1 ?_
        | with_reducible refine in_str_b i_no_2 ?_
        | with_reducible refine in_str_b i_es_1 ?_
        | with_reducible refine in_str_b i_es_2 ?_
        | with_reducible refine in_str_b i_es_n ?_
        | with_reducible refine in_str_b i_es_e ?_
        | with_reducible refine in_str_b i_es_a ?_
        | with_reducible refine in_str_b i_wc_1 ?_
        | with_reducible refine in_str_b i_wc_2 ?_
        | with_reducible refine in_str_b i_qu_1 ?_
        | with_reducible refine in_str_b i_qu_2 ?_
        | with_reducible refine in_str_b i_qu_a ?_
        | with_reducible refine in_str_b i_eq_1 ?_
        | with_reducible refine in_str_b i_eq_2 ?_
        | with_reducible refine in_str_b (b := false) hesc ?_))
    k_with "compareOp Eq str str" => (
      k_dflt (first
        | with_reducible refine eq_str_b (b := false) heq1 ?_
        | with_reducible refine eq_str_b (b := false) heq2 ?_))
    k_with "call ref" => (
      with_reducible show wpAny _ _ (call (Value.ref 646) _) _ _ _
      rename News _ _ _ _ => nR
      k_dflt (
        (refine' Ctr.use ?k1 ?k2 ?k3 (News.sub nR mem_rot) ?k5 ?kk (c_read w ((x, instObj 835 dx) :: (dx, _) :: news) io dio t' nl b ub _ _ _ _ hat9 ?hn h3 hlen) ?kd ?ku ?_)
        case k1 => k_asm
        case k2 => k_asm
        case k3 => k_asm
        case k5 => k_asm
        case kk => exact rfl
        case hn => (refine' List.forall_mem_cons.mpr ⟨h2, List.forall_mem_cons.mpr ⟨h5, hdio⟩⟩)
        case kd => ktr_room
        case ku => ktr_units
        intro v9 n9 h9 tk9 hR F9 N9
        (first | (obtain ⟨t9, e8, e9⟩ := hR; subst e8 e9) | (obtain ⟨t9, v9', e8, e9⟩ := hR; (try simp only [S39, S34, S32, S10, S92] at e8); subst e8 e9))
        (try dsimp only)
        (try k_fold)))
    cases md9
    · skip
      obtain ⟨e1, e2⟩ := hsp9 rfl
      subst e1 e2
      have hat' := drop_next hat9
      (rename News _ _ _ _ => N9; dsimp only [Md.val] at N9)
      by_cases h39 : c = 39
      · subst h39
        (try simp only [S39, S34, S32, S10, S92] at *)
        have hr : lexRun .q1 [] r = some res := by simpa [lexRun] using hrun9
        k_steps
        refine c9.flow _ _ ?_
        k_steps
        rename News _ _ _ _ => nN
        rename Fr _ _ _ _ => nF
        exact ksw_end (⟨.q1, [], false, r, pos9 + 1, _, _, _, _, _⟩ : RT) nF nN (by first | exact mem_rot | exact mem_rot1) trivial (by (intro q hq; obtain e | e := List.mem_cons.mp hq; (subst e; rfl); (cases e))) (by first | exact rt_same | exact rt_same2) ⟨hr, hat', fun e => (nomatch e), fun e => (nomatch e), fun e => (nomatch e), Nat.zero_le _⟩ (Nat.lt_succ_self _)
      · by_cases h34 : c = 34
        · subst h34
          (try simp only [S39, S34, S32, S10, S92] at *)
          have hr : lexRun .q2 [] r = some res := by simpa [lexRun] using hrun9
          k_steps
          refine c9.flow _ _ ?_
          k_steps
          rename News _ _ _ _ => nN
          rename Fr _ _ _ _ => nF
          exact ksw_end (⟨.q2, [], false, r, pos9 + 1, _, _, _, _, _⟩ : RT) nF nN (by first | exact mem_rot | exact mem_rot1) trivial (by (intro q hq; obtain e | e := List.mem_cons.mp hq; (subst e; rfl); (cases e))) (by first | exact rt_same | exact rt_same2) ⟨hr, hat', fun e => (nomatch e), fun e => (nomatch e), fun e => (nomatch e), Nat.zero_le _⟩ (Nat.lt_succ_self _)
        · exfalso
          simp [lexRun, h39, h34] at hrun9
    · skip
      have hat' := drop_next hat9
      have hlt := drop_lt hat9
      have htl : (S tok9).length < 1000 := by rw [S_len]; omega
      (rename News _ _ _ _ => N9; dsimp only [Md.val] at N9)
      by_cases h39 : c = 39
      · subst h39
        (try simp only [S39, S34, S32, S10, S92] at *)
        have hr : lexRun .wd tok9 r = some res := by simpa [lexRun] using hrun9
        k_steps
        refine c9.flow _ _ ?_
        k_steps
        rename News _ _ _ _ => nN
        rename Fr _ _ _ _ => nF
        exact ksw_end (⟨.wd, tok9, true, r, pos9 + 1, _, _, _, _, _⟩ : RT) nF nN (by first | exact mem_rot | exact mem_rot1) trivial (by (intro q hq; obtain e | e := List.mem_cons.mp hq; (subst e; rfl); (cases e))) (by first | exact rt_same | exact rt_same2) ⟨hr, hat', fun e => (nomatch e), fun _ => rfl, fun e => (nomatch e), Nat.le_succ_of_le hfit9⟩ (Nat.lt_succ_self _)
      · have hr : lexRun .q1 (tok9 ++ [c]) r = some res := by simpa [lexRun, h39] using hrun9
        by_cases h10 : c = 10
        · subst h10
          (try simp only [S39, S34, S32, S10, S92] at *)
          k_steps
          refine c9.flow _ _ ?_
          k_steps
          rename News _ _ _ _ => nN
          rename Fr _ _ _ _ => nF
          rw [← S10, S_app] at nN
          exact ksw_end (⟨.q1, tok9 ++ [10], true, r, pos9 + 1, _, _, _, _, _⟩ : RT) nF nN (by first | exact mem_rot | exact mem_rot1) trivial (by (intro q hq; obtain e | e := List.mem_cons.mp hq; (subst e; rfl); (cases e))) (by first | exact rt_same | exact rt_same2) ⟨hr, hat', fun e => (nomatch e), fun e => (nomatch e), fun e => (nomatch e), (by rw [List.length_append]; show tok9.length + 1 ≤ pos9 + 1; omega)⟩ (Nat.lt_succ_self _)
        · by_cases h92 : c = 92
          · subst h92
            (try simp only [S39, S34, S32, S10, S92] at *)
            k_steps
            refine c9.flow _ _ ?_
            k_steps
            rename News _ _ _ _ => nN
            rename Fr _ _ _ _ => nF
            rw [← S92, S_app] at nN
            exact ksw_end (⟨.q1, tok9 ++ [92], true, r, pos9 + 1, _, _, _, _, _⟩ : RT) nF nN (by first | exact mem_rot | exact mem_rot1) trivial (by (intro q hq; obtain e | e := List.mem_cons.mp hq; (subst e; rfl); (cases e))) (by first | exact rt_same | exact rt_same2) ⟨hr, hat', fun e => (nomatch e), fun e => (nomatch e), fun e => (nomatch e), (by rw [List.length_append]; show tok9.length + 1 ≤ pos9 + 1; omega)⟩ (Nat.lt_succ_self _)
          · have hesc := S_esc h92
            have heq1 := S_nl h10
            have heq2 := S_q1 h39
            k_steps
            refine c9.flow _ _ ?_
            k_steps
            rename News _ _ _ _ => nN
            rename Fr _ _ _ _ => nF
            rw [S_app] at nN
            exact ksw_end (⟨.q1, tok9 ++ [c], true, r, pos9 + 1, _, _, _, _, _⟩ : RT) nF nN (by first | exact mem_rot | exact mem_rot1) trivial (by (intro q hq; obtain e | e := List.mem_cons.mp hq; (subst e; rfl); (cases e))) (by first | exact rt_same | exact rt_same2) ⟨hr, hat', fun e => (nomatch e), fun e => (nomatch e), fun e => (nomatch e), (by rw [List.length_append]; show tok9.length + 1 ≤ pos9 + 1; omega)⟩ (Nat.lt_succ_self _)
    · skip
      have hat' := drop_next hat9
      have hlt := drop_lt hat9
      have htl : (S tok9).length < 1000 := by rw [S_len]; omega
      (rename News _ _ _ _ => N9; dsimp only [Md.val] at N9)
      by_cases h39 : c = 34
      · subst h39
        (try simp only [S39, S34, S32, S10, S92] at *)
        have hr : lexRun .wd tok9 r = some res := by simpa [lexRun] using hrun9
        k_steps
        refine c9.flow _ _ ?_
        k_steps
        rename News _ _ _ _ => nN
        rename Fr _ _ _ _ => nF
        exact ksw_end (⟨.wd, tok9, true, r, pos9 + 1, _, _, _, _, _⟩ : RT) nF nN (by first | exact mem_rot | exact mem_rot1) trivial (by (intro q hq; obtain e | e := List.mem_cons.mp hq; (subst e; rfl); (cases e))) (by first | exact rt_same | exact rt_same2) ⟨hr, hat', fun e => (nomatch e), fun _ => rfl, fun e => (nomatch e), Nat.le_succ_of_le hfit9⟩ (Nat.lt_succ_self _)
      · have h92 : c ≠ 92 := by
          intro h
          simp [lexRun, h39, h] at hrun9
        have hr : lexRun .q2 (tok9 ++ [c]) r = some res := by simpa [lexRun, h39, h92] using hrun9
        by_cases h10 : c = 10
        · subst h10
          (try simp only [S39, S34, S32, S10, S92] at *)
          k_steps
          refine c9.flow _ _ ?_
          k_steps
          rename News _ _ _ _ => nN
          rename Fr _ _ _ _ => nF
          rw [← S10, S_app] at nN
          exact ksw_end (⟨.q2, tok9 ++ [10], true, r, pos9 + 1, _, _, _, _, _⟩ : RT) nF nN (by first | exact mem_rot | exact mem_rot1) trivial (by (intro q hq; obtain e | e := List.mem_cons.mp hq; (subst e; rfl); (cases e))) (by first | exact rt_same | exact rt_same2) ⟨hr, hat', fun e => (nomatch e), fun e => (nomatch e), fun e => (nomatch e), (by rw [List.length_append]; show tok9.length + 1 ≤ pos9 + 1; omega)⟩ (Nat.lt_succ_self _)
        · have hesc := S_esc h92
          have heq1 := S_nl h10
          have heq2 := S_q2 h39
          k_steps
          refine c9.flow _ _ ?_
          k_steps
          rename News _ _ _ _ => nN
          rename Fr _ _ _ _ => nF
          rw [S_app] at nN
          exact ksw_end (⟨.q2, tok9 ++ [c], true, r, pos9 + 1, _, _, _, _, _⟩ : RT) nF nN (by first | exact mem_rot | exact mem_rot1) trivial (by (intro q hq; obtain e | e := List.mem_cons.mp hq; (subst e; rfl); (cases e))) (by first | exact rt_same | exact rt_same2) ⟨hr, hat', fun e => (nomatch e), fun e => (nomatch e), fun e => (nomatch e), (by rw [List.length_append]; show tok9.length + 1 ≤ pos9 + 1; omega)⟩ (Nat.lt_succ_self _)
    · skip
      have e1 := hwd9 rfl
      subst e1
      have htok : tok9 ≠ [] := by
        intro h
        simp [lexRun, h] at hrun9
      (rename News _ _ _ _ => N9; dsimp only [Md.val] at N9)
      have hat' := drop_next hat9
      have hlt := drop_lt hat9
      have htl : (S tok9).length < 1000 := by rw [S_len]; omega
      by_cases h32 : c = 32
      · subst h32
        (try simp only [S39, S34, S32, S10, S92] at *)
        have e9 : (some tok9, false, r) = res := by simpa [lexRun, htok] using hrun9
        subst e9
        k_steps
        refine c9.flow _ _ ?_
        k_steps
        rename News _ _ _ _ => nN
        rename Fr _ _ _ _ => nF
        exact hret _ _ _ _ ⟨_, _, _, _, _, _, _, hat', rfl, rfl⟩ nF (News.sub nN (by first | exact mem_rot | exact mem_rot1))
      · exfalso
        simp [lexRun, htok, h32] at hrun9
    · cases hrun9
end
end Mine
end SL06
section SD02
open PySem PySem.W PyProof.Rows
namespace Mine
noncomputable section
theorem dq_slot_len : Slot "collections.deque" "__len__" "collections.deque.__len__" :=
  .of (owner := "collections.deque") (n := "__len__") (by rw [typeLookup_type, builtinLookup_eq_fast]; kernel_rfl) (by decide +kernel) (by decide +kernel) (by decide +kernel)
    (by first | exact .inl (by decide +kernel) | exact .inr (by decide +kernel)) (by rw [isSubtype_type]; kernel_rfl)
theorem dq_entry_len : entryFor table "collections.deque.__len__" = some Builtin.«collections.deque.__len__» := entryFor_of_fast (by kernel_rfl)
theorem dq_args_len (a : Value) : argsOk "collections.deque.__len__" ⟨[a], []⟩ := by unfold argsOk; kernel_rfl
theorem dq_noBool : typeLookup (.type "collections.deque") "__bool__" = pure none := by rw [typeLookup_type, builtinLookup_eq_fast]; kernel_rfl
section
variable {prog : Program} {w : World} {A : Around} {E : Value → Shared → Prop} {s : Shared}
noncomputable abbrev dqO : Obj := { cls := .type "collections.deque", data := .fields #[.none, .int 0 0] }
theorem dq_truthy {q : Addr} {Q : Bool → Shared → Prop} (hq : s.heap.get? q = some dqO) (h : Q false { s with toks := s.toks + 1 + 1 }) : wpAny (model prog w) A (truthy (.ref q)) Q E s := by
  revert hq h
  revert prog w A E s q Q
  change ∀ prog w A E s q Q, _
  refine' (let rec cy0 : Pk7 _ := pk7 (by repeat' first | exact ne_world | exact ne_cx | exact ne_shared | exact ne_around | exact ⟨default⟩ | exact ⟨.sp⟩ | exact ⟨PySem.Challenge.rw_qw0075_02.row.toRowW.claim⟩ | refine ne_prod ?_ ?_) _; Pk7.use cy0 ?_)
  generalize cy0.1.1 = prog
  generalize cy0.1.2.1 = w
  generalize cy0.1.2.2.1 = A
  generalize cy0.1.2.2.2.1 = E
  generalize cy0.1.2.2.2.2.1 = s
  generalize cy0.1.2.2.2.2.2.1 = q
  generalize cy0.1.2.2.2.2.2.2 = Q
  clear cy0
  intro hq h
  have hT : s.TypeIs (.ref q) "collections.deque" := ⟨_, hq, rfl⟩
  have key : wpAny (model prog w) A (runValue (.builtin "len" ⟨[.ref q], []⟩)) (fun r s' => ∃ t, r = .int 0 t ∧ Q false s') E s := by
    refine wpAny_runValue (codeAny_builtin entry_len ?_)
    rw [Around.under_plainId plain_len _]
    refine wpAny_mono (Q := fun fin s' => ∃ r, fin = .done (.ret r) ∧ ∃ t, r = .int 0 t ∧ Q false s') ?_ (fun fin s' h' => by obtain ⟨r, rfl, hq⟩ := h'; exact hq) fun _ _ e => e
    unfold Builtin.«len»
    refine wpAny_bind (m := oneArg "len" _) (wpAny_pure ?_)
    refine wpAny_bind (m := callSpecial? (.ref q) (Str.ofString "__len__")) (wpAny_callSpecial?_slot (name := Str.ofString "__len__") hT dq_slot_len
      (wpAny_call_entry dq_slot_len hT dq_entry_len ?_ (dq_args_len _)))
    show wpAny _ _ (do retInt (← Builtin.Deque.size (.ref q))) _ _ s
    unfold Builtin.Deque.size fieldsOf
    refine wpAny_bind (wpAny_bind (wpAny_bind (wpAny_load hq (wpAny_pure (wpAny_pure ?_)))))
    refine wpAny_bind (wpAny_mkInt (wpAny_pure ⟨_, rfl, ?_⟩))
    refine wpAny_bind (wpAny_holding (wpAny_pure ?_))
    refine wpAny_bind (wpAny_letGo ?_)
    exact wpAny_bind (wpAny_mkInt (wpAny_pure ⟨_, rfl, _, rfl, h⟩))
  unfold truthy
  refine wpAny_bind (wpAny_callSpecial?_none (name := Str.ofString "__bool__") hT dq_noBool ?_)
  refine wpAny_bind (wpAny_specialOf (name := Str.ofString "__len__") hT dq_slot_len.lookup ?_)
  exact wpAny_bind (wpAny_mono key (fun r s' h' => by obtain ⟨t, rfl, hq⟩ := h'; exact wpAny_pure hq) fun _ _ e => e)
end
end
end Mine
end SD02
section SL07
open PySem PySem.W PyProof.Rows
namespace Mine
noncomputable section

noncomputable abbrev lexL (w : World) (x dx io dio pb fs : Nat) (t u t' : Nat → Tok) (nl : Value) (b : List Nat) (ub : Tok) (md : Md) (pos : Nat) (ts tl tt tp : Tok) (ln : Int) (news : List (Addr × Obj)) : List (Addr × Obj) :=
  (x, instObj 835 dx) :: (dx, lexD w t u io pb fs (md.val ts) ln tl "" tt) :: (io, instObj 700 dio) :: (dio, ioD w t' nl (S b) ub pos tp) :: (pb, dqO) :: (fs, dqO) :: news

noncomputable def GtR (w : World) (x dx io dio pb fs : Nat) (t u t' : Nat → Tok) (nl : Value) (b : List Nat) (ub : Tok) (news : List (Addr × Obj)) (res : Option (List Nat) × Bool × List Nat) (r : Value) (l : List (Addr × Obj)) : Prop :=
  ∃ pos ts tl tt tp tv ln, b.drop pos = res.2.2 ∧ r = (match res.1 with | none => .none | some k => .str (S k) tv) ∧
    l = lexL w x dx io dio pb fs t u t' nl b ub (if res.2.1 then .en else .sp) pos ts tl tt tp ln news

structure LexOk (x dx io dio pb fs : Nat) (b : List Nat) (news : List (Addr × Obj)) : Prop where
  hdx : ∀ p ∈ news, p.1 ≠ dx
  hdio : ∀ p ∈ news, p.1 ≠ dio
  h1 : x ≠ dx
  h2 : x ≠ dio
  h3 : io ≠ dio
  h4 : io ≠ dx
  h5 : dx ≠ dio
  h6 : pb ≠ dx
  h7 : pb ≠ dio
  h8 : fs ≠ dx
  h9 : fs ≠ dio
  hlen : (S b).length < 1000

theorem LexOk.dx {x dx io dio pb fs : Nat} {b : List Nat} {news : List (Addr × Obj)} (o : LexOk x dx io dio pb fs b news) : ∀ p ∈ (pb, dqO) :: (fs, dqO) :: news, p.1 ≠ dx :=
  List.forall_mem_cons.mpr ⟨o.h6, List.forall_mem_cons.mpr ⟨o.h8, o.hdx⟩⟩
theorem LexOk.dio {x dx io dio pb fs : Nat} {b : List Nat} {news : List (Addr × Obj)} (o : LexOk x dx io dio pb fs b news) : ∀ p ∈ (pb, dqO) :: (fs, dqO) :: news, p.1 ≠ dio :=
  List.forall_mem_cons.mpr ⟨o.h7, List.forall_mem_cons.mpr ⟨o.h9, o.hdio⟩⟩

theorem c_gt (w : World) (news) (x dx io dio pb fs : Nat) (t u t' : Nat → Tok) (nl : Value) (b : List Nat) (ub : Tok) (pos : Nat) (md : Md) (ln : Int) (ts tl tt tp : Tok) (res) (hrun : lexRun md [] (b.drop pos) = some res) (hmd : md = .sp ∨ md = .en) (ok : LexOk x dx io dio pb fs b news) :
   Ctr PySem.Challenge.rw_qw0075_02.row.prog w (Mine.frag.heap_1 w.params) 10 100 796 [Value.ref x] (lexL w x dx io dio pb fs t u t' nl b ub md pos ts tl tt tp ln news) 
     (GtR w x dx io dio pb fs t u t' nl b ub news res) := by
  k_fill
  refine ctr_of fun cx => ?_
  revert hrun hmd ok
  revert w news x dx io dio pb fs t u t' nl b ub pos md ln ts tl tt tp res cx
  refine id ?_
  refine' (let rec cx0 : Pk12 _ := pk12 (by repeat' first | exact ne_world | exact ne_cx | exact ne_shared | exact ne_around | exact ⟨default⟩ | exact ⟨.sp⟩ | refine ne_prod ?_ ?_) _; Pk12.use cx0 ?_)
  generalize cx0.1.1 = w
  generalize cx0.1.2.1 = news
  generalize cx0.1.2.2.1 = x
  generalize cx0.1.2.2.2.1 = dx
  generalize cx0.1.2.2.2.2.1 = io
  generalize cx0.1.2.2.2.2.2.1 = dio
  generalize cx0.1.2.2.2.2.2.2.1 = pb
  generalize cx0.1.2.2.2.2.2.2.2.1 = fs
  generalize cx0.1.2.2.2.2.2.2.2.2.1 = t
  generalize cx0.1.2.2.2.2.2.2.2.2.2.1 = u
  generalize cx0.1.2.2.2.2.2.2.2.2.2.2.1 = t'
  generalize cx0.1.2.2.2.2.2.2.2.2.2.2.2 = nl
  clear cx0
  refine' (let rec cx : Pk11 _ := pk11 (by repeat' first | exact ne_world | exact ne_cx | exact ne_shared | exact ne_around | exact ⟨default⟩ | exact ⟨.sp⟩ | refine ne_prod ?_ ?_) _; Pk11.use cx ?_)
  unfold CtrX CtrB
  generalize cx.1.2.2.2.2.2.2.2.2.2.2.p = p
  generalize cx.1.2.2.2.2.2.2.2.2.2.2.loose = loose
  generalize cx.1.2.2.2.2.2.2.2.2.2.2.mean = mean
  generalize cx.1.2.2.2.2.2.2.2.2.2.2.mg = mg
  generalize cx.1.2.2.2.2.2.2.2.2.2.2.mb = mb
  generalize cx.1.2.2.2.2.2.2.2.2.2.2.dp = dp
  generalize cx.1.2.2.2.2.2.2.2.2.2.2.un = un
  generalize cx.1.2.2.2.2.2.2.2.2.2.2.gd = gd
  generalize cx.1.2.2.2.2.2.2.2.2.2.2.cn = cn
  generalize cx.1.2.2.2.2.2.2.2.2.2.2.cs = cs
  generalize cx.1.2.2.2.2.2.2.2.2.2.2.a = a
  generalize cx.1.2.2.2.2.2.2.2.2.2.2.ccd = ccd
  generalize cx.1.2.2.2.2.2.2.2.2.2.2.cl = cl
  generalize cx.1.2.2.2.2.2.2.2.2.2.2.outer = outer
  generalize cx.1.2.2.2.2.2.2.2.2.2.2.A₀ = A₀
  generalize cx.1.2.2.2.2.2.2.2.2.2.2.base = base
  generalize cx.1.2.2.2.2.2.2.2.2.2.2.h₀ = h₀
  generalize cx.1.2.2.2.2.2.2.2.2.2.2.L = L
  generalize cx.1.2.2.2.2.2.2.2.2.2.2.m = m
  generalize cx.1.2.2.2.2.2.2.2.2.2.2.s = s
  generalize cx.1.2.2.2.2.2.2.2.2.2.2.Q = Q
  generalize cx.1.2.2.2.2.2.2.2.2.2.2.E = E
  generalize cx.1.1 = b
  generalize cx.1.2.1 = ub
  generalize cx.1.2.2.1 = pos
  generalize cx.1.2.2.2.1 = md
  generalize cx.1.2.2.2.2.1 = ln
  generalize cx.1.2.2.2.2.2.1 = ts
  generalize cx.1.2.2.2.2.2.2.1 = tl
  generalize cx.1.2.2.2.2.2.2.2.1 = tt
  generalize cx.1.2.2.2.2.2.2.2.2.1 = tp
  generalize cx.1.2.2.2.2.2.2.2.2.2.1 = res
  clear cx
  intro hrun hmd ok B F X N T hk hd hu hret
  k_with_none
  k_with "truthy ref" => (
    k_dflt (refine dq_truthy (News.get (by k_asm) (by k_mem)) ?_))
  k_with "call ref" => (
    with_reducible show wpAny _ _ (call (Value.ref 803) _) _ _ _
    k_dflt (
      (refine' Ctr.use ?k1 ?k2 ?k3 ?k4 ?k5 ?kk (c_rt w _ x dx io dio pb fs t u t' nl b ub pos tp md ln ts tl tt _ rfl _ hrun hmd ok.dx ok.dio ok.h1 ok.h2 ok.h3 ok.h4 ok.h5 ok.hlen) ?kd ?ku ?_)
      case k1 => k_asm
      case k2 => k_asm
      case k3 => k_asm
      case k4 => k_asm
      case k5 => k_asm
      case kk => exact rfl
      case kd => ktr_room
      case ku => ktr_units
      intro v9 n9 h9 tk9 hR F9 N9
      obtain ⟨pos9, ts9, tl9, tt9, tp9, tv9, ln9, hd9, e8, e9⟩ := hR
      subst e8 e9
      (try dsimp only)
      (try k_fold)))
  obtain ⟨word, fin, rest⟩ := res
  cases fin <;> cases word
  all_goals (
    refine wpAny_call ?_
    k_dflt cell_enter
    k_steps)
  all_goals (
    rename News _ _ _ _ => nN
    rename Fr _ _ _ _ => nF
    refine hret _ _ _ _ ⟨_, _, _, _, _, tv9, _, hd9, rfl, rfl⟩ nF nN)
end
end Mine
end SL07
section SL08
open PySem PySem.W PyProof.Rows
namespace Mine
noncomputable section

theorem stop_lands {M : Model} {A A₀ : Around} {E : Value → Shared → Prop} {s : Shared} {base g G : Heap} {outer : List Env} {L a e t : Addr} {m : Str → Option Value} {name : Str} {scope : Scope} {cd : Value} {vs : List Value} {news : List (Addr × Obj)} {Q : Option Value → Shared → Prop}
    (R : RaisedS base G (envOf name scope L a cd :: outer) e (.type "StopIteration") t vs news s.heap) (F : Fr g L G m) (K : Below A₀ base outer g) (hsm : G.UpToSlots s.heap)
    (k : ∀ g', KtsTurn (outer.filterMap (·.frame)) g g' → Fr g' L s.heap m → News g' L s.heap news → Below A₀ base outer g' → Q none s) : OwitStop M A Q E (.ref e) s := by
  obtain ⟨⟨B, hB, hBG, hl, hfl, hnew⟩, htup⟩ := R
  have hL : B.get? L = none := by
    obtain ⟨_, ⟨L', _, hf, hn', _⟩, _⟩ := hfl.2.2.1
    obtain rfl : L = L' := Option.some.inj hf
    exact hn'
  obtain ⟨g₅, T₅, F₅, K₅⟩ := kts_ground K F hBG hfl.1 hsm
  obtain ⟨ob, hob, hobc⟩ := hfl.there
  have hT : s.TypeIs (.ref e) "StopIteration" := (show ∃ o, s.heap.get? e = some o ∧ o.cls = .type "StopIteration" from ⟨ob, hob, hobc⟩)
  unfold OwitStop
  refine wpAny_isInstance (b := true) hT (by rw [isSubtype_type]; kernel_rfl) ?_
  show (if true = true then Q none s else E (.ref e) s)
  rw [if_pos rfl]
  exact k g₅ T₅ F₅ (fun q hq => ⟨hfl.1 _ _ (hl q hq).1, (fun z => by have := (hl q hq).1; rw [z, hL] at this; cases this), T₅.none_ _ (kts_none F.keep (hl q hq).2.1)⟩) K₅

section
variable {p : Program} {loose : List Str} {mean : ExcName → Option Value} {mg mb : Str → Option Value} {dp un : Nat} {gd : Option (List Code)} {cn : Str} {cs : Scope} {a : Addr} {ccd : Value} {outer : List Env} {A₀ : Around} {base h₀ : Heap} {L : Addr} {m : Str → Option Value} {s : Shared}
theorem c_next (w : World) (news) (x dx io dio pb fs : Nat) (t u t' : Nat → Tok) (nl : Value) (b : List Nat) (ub : Tok) (pos : Nat) (md : Md) (ln : Int) (ts tl tt tp : Tok) (res) (hrun : lexRun md [] (b.drop pos) = some res) (hmd : md = .sp ∨ md = .en) (ok : LexOk x dx io dio pb fs b news)
    {Q : Option Value → Shared → Prop} {E : Value → Shared → Prop}
    (B : Below A₀ base outer h₀) (F : Fr h₀ L s.heap m) (X : (Mine.frag.heap_1 w.params).In h₀) (N : News h₀ L s.heap (lexL w x dx io dio pb fs t u t' nl b ub md pos ts tl tt tp ln news)) (T : Top p loose mean mg mb h₀) (D : KtsDicts (outer.filterMap (·.frame)) h₀) (hk : cs.kind = .function) (hd : dp + 20 < recursionLimit) (hu : un + 200 < cLine)
    (ret : ∀ k, res.1 = some k → ∀ pos ts tl tt tp tv ln h' tk', b.drop pos = res.2.2 → Fr h₀ L h' m → News h₀ L h' (lexL w x dx io dio pb fs t u t' nl b ub (if res.2.1 then .en else .sp) pos ts tl tt tp ln news) → Q (some (.str (S k) tv)) { s with heap := h', toks := tk' })
    (stop : res.1 = none → ∀ g' h' tk' l, KtsTurn (outer.filterMap (·.frame)) h₀ g' → Fr g' L h' m → News g' L h' l → (∀ p ∈ news, p ∈ l) → Below A₀ base outer g' → Q none { s with heap := h', toks := tk' }) :
    wpAny (model PySem.Challenge.rw_qw0075_02.row.prog w) (ktrTop dp un gd cn cs L a ccd [] outer) (call (.ref 832) [.ref x]) (fun v s' => Q (some v) s') (OwitStop (model PySem.Challenge.rw_qw0075_02.row.prog w) (ktrTop dp un gd cn cs L a ccd [] outer) Q E) s := by
  revert hrun hmd ok B F X N T D hk hd hu ret stop
  revert p loose mean mg mb dp un gd cn cs a ccd outer A₀ base h₀ L m s w news x dx io dio pb fs t u t' nl b ub pos md ln ts tl tt tp res Q E
  change ∀ p loose mean mg mb dp un gd cn cs a ccd outer A₀ base h₀ L m s w news x dx io dio pb fs t u t' nl b ub pos md ln ts tl tt tp res Q E, _
  refine' (let rec cy0 : Pk12 _ := pk12 (by repeat' first | exact ne_world | exact ne_cx | exact ne_shared | exact ne_around | exact ⟨default⟩ | exact ⟨.sp⟩ | exact ⟨PySem.Challenge.rw_qw0075_02.row.toRowW.claim⟩ | refine ne_prod ?_ ?_) _; Pk12.use cy0 ?_)
  generalize cy0.1.1 = p
  generalize cy0.1.2.1 = loose
  generalize cy0.1.2.2.1 = mean
  generalize cy0.1.2.2.2.1 = mg
  generalize cy0.1.2.2.2.2.1 = mb
  generalize cy0.1.2.2.2.2.2.1 = dp
  generalize cy0.1.2.2.2.2.2.2.1 = un
  generalize cy0.1.2.2.2.2.2.2.2.1 = gd
  generalize cy0.1.2.2.2.2.2.2.2.2.1 = cn
  generalize cy0.1.2.2.2.2.2.2.2.2.2.1 = cs
  generalize cy0.1.2.2.2.2.2.2.2.2.2.2.1 = a
  generalize cy0.1.2.2.2.2.2.2.2.2.2.2.2 = ccd
  clear cy0
  refine' (let rec cy0_1 : Pk12 _ := pk12 (by repeat' first | exact ne_world | exact ne_cx | exact ne_shared | exact ne_around | exact ⟨default⟩ | exact ⟨.sp⟩ | exact ⟨PySem.Challenge.rw_qw0075_02.row.toRowW.claim⟩ | refine ne_prod ?_ ?_) _; Pk12.use cy0_1 ?_)
  generalize cy0_1.1.1 = outer
  generalize cy0_1.1.2.1 = A₀
  generalize cy0_1.1.2.2.1 = base
  generalize cy0_1.1.2.2.2.1 = h₀
  generalize cy0_1.1.2.2.2.2.1 = L
  generalize cy0_1.1.2.2.2.2.2.1 = m
  generalize cy0_1.1.2.2.2.2.2.2.1 = s
  generalize cy0_1.1.2.2.2.2.2.2.2.1 = w
  generalize cy0_1.1.2.2.2.2.2.2.2.2.1 = news
  generalize cy0_1.1.2.2.2.2.2.2.2.2.2.1 = x
  generalize cy0_1.1.2.2.2.2.2.2.2.2.2.2.1 = dx
  generalize cy0_1.1.2.2.2.2.2.2.2.2.2.2.2 = io
  clear cy0_1
  refine' (let rec cy0_2 : Pk12 _ := pk12 (by repeat' first | exact ne_world | exact ne_cx | exact ne_shared | exact ne_around | exact ⟨default⟩ | exact ⟨.sp⟩ | exact ⟨PySem.Challenge.rw_qw0075_02.row.toRowW.claim⟩ | refine ne_prod ?_ ?_) _; Pk12.use cy0_2 ?_)
  generalize cy0_2.1.1 = dio
  generalize cy0_2.1.2.1 = pb
  generalize cy0_2.1.2.2.1 = fs
  generalize cy0_2.1.2.2.2.1 = t
  generalize cy0_2.1.2.2.2.2.1 = u
  generalize cy0_2.1.2.2.2.2.2.1 = t'
  generalize cy0_2.1.2.2.2.2.2.2.1 = nl
  generalize cy0_2.1.2.2.2.2.2.2.2.1 = b
  generalize cy0_2.1.2.2.2.2.2.2.2.2.1 = ub
  generalize cy0_2.1.2.2.2.2.2.2.2.2.2.1 = pos
  generalize cy0_2.1.2.2.2.2.2.2.2.2.2.2.1 = md
  generalize cy0_2.1.2.2.2.2.2.2.2.2.2.2.2 = ln
  clear cy0_2
  intro ts tl tt tp res Q E
  intro hrun hmd ok B F X N T D hk hd hu ret stop
  revert X
  k_fill
  intro X
  k_with_none
  k_with "call ref" => (
    with_reducible show wpAny _ _ (call (Value.ref 796) _) _ _ _
    (first
    | k_dflt (
      (refine' Ctr.use ?k1 ?k2 ?k3 ?k4 ?k5 ?kk (c_gt w news x dx io dio pb fs t u t' nl b ub pos md ln ts tl tt tp _ hrun hmd ok) ?kd ?ku ?_)
      case k1 => k_asm
      case k2 => k_asm
      case k3 => k_asm
      case k4 => k_asm
      case k5 => k_asm
      case kk => exact rfl
      case kd => ktr_room
      case ku => ktr_units
      intro v9 n9 h9 tk9 hR F9 N9
      obtain ⟨pos9, ts9, tl9, tt9, tp9, tv9, ln9, hd9, e8, e9⟩ := hR
      subst e8 e9
      (try dsimp only)
      (try k_fold))
    | refine Hold.out ?_))
  obtain ⟨word, fin, rest⟩ := res
  cases word
  · refine wpAny_call ?_
    k_dflt cell_enter
    k_with "OwitStop" => refine Hold.out ?_
    k_steps
    try unfold Hold
    rename RaisedS _ _ _ _ _ _ _ _ _ => rS
    exact stop_lands rS (by assumption) (by assumption) (by assumption) fun g' T' F' N' B' => stop rfl g' _ _ _ T' F' N' (fun p hp => .tail _ (.tail _ (.tail _ (.tail _ (.tail _ (.tail _ hp)))))) B'
  · refine wpAny_call ?_
    k_dflt cell_enter
    k_steps
    rename News _ _ _ _ => nN
    rename Fr _ _ _ _ => nF
    exact ret _ rfl _ _ _ _ _ _ _ _ _ hd9 nF nN
end
end
end Mine
end SL08
section SL09
open PySem PySem.W PyProof.Rows
namespace Mine
noncomputable section

theorem c_iter (w : World) (news) (x : Nat) :
   Ctr PySem.Challenge.rw_qw0075_02.row.prog w (Mine.frag.heap_1 w.params) 2 20 825 [Value.ref x] news (Same news fun v => v = Value.ref x) := by
  k_fill
  refine ctr_of fun cx => ?_
  revert w news x cx
  refine id ?_
  refine' (let rec cx : Pk4 _ := pk4 (by repeat' first | exact ne_world | exact ne_cx | exact ⟨default⟩ | refine ne_prod ?_ ?_) _; Pk4.use cx ?_)
  unfold CtrX CtrB
  generalize cx.1.2.2.2.p = p
  generalize cx.1.2.2.2.loose = loose
  generalize cx.1.2.2.2.mean = mean
  generalize cx.1.2.2.2.mg = mg
  generalize cx.1.2.2.2.mb = mb
  generalize cx.1.2.2.2.dp = dp
  generalize cx.1.2.2.2.un = un
  generalize cx.1.2.2.2.gd = gd
  generalize cx.1.2.2.2.cn = cn
  generalize cx.1.2.2.2.cs = cs
  generalize cx.1.2.2.2.a = a
  generalize cx.1.2.2.2.ccd = ccd
  generalize cx.1.2.2.2.cl = cl
  generalize cx.1.2.2.2.outer = outer
  generalize cx.1.2.2.2.A₀ = A₀
  generalize cx.1.2.2.2.base = base
  generalize cx.1.2.2.2.h₀ = h₀
  generalize cx.1.2.2.2.L = L
  generalize cx.1.2.2.2.m = m
  generalize cx.1.2.2.2.s = s
  generalize cx.1.2.2.2.Q = Q
  generalize cx.1.2.2.2.E = E
  generalize cx.1.1 = w
  generalize cx.1.2.1 = news
  generalize cx.1.2.2.1 = x
  clear cx
  intro B F X N T hk hd hu hret
  k_with_none
  refine wpAny_call ?_
  k_dflt cell_enter
  k_steps
  rename News _ _ _ _ => nN
  rename Fr _ _ _ _ => nF
  exact hret _ _ _ _ ⟨rfl, rfl⟩ nF nN

inductive LexAll : Md → List Nat → List (List Nat) → Prop
  | nil {md r fin r'} : lexRun md [] r = some (none, fin, r') → LexAll md r []
  | cons {md r k fin r' ws} : lexRun md [] r = some (some k, fin, r') → LexAll (if fin then .en else .sp) r' ws → LexAll md r (k :: ws)

theorem seq_upd {h₀ h : Heap} {L S : Addr} {m : Str → Option Value} {o o' : Obj} {news : List (Addr × Obj)} (F : Fr h₀ L h m) (N : News h₀ L h ((S, o) :: news)) (hne : ∀ p ∈ news, p.1 ≠ S) (f : Obj → Obj) (e : f o = o') (hf : o'.isFreed = false) :
    Fr h₀ L (h.update S f) m ∧ News h₀ L (h.update S f) ((S, o') :: news) := by
  have z := N _ (.head _)
  have hs : Heap.SameBut S h (h.update S f) := Heap.SameBut.update ..
  have ho : (h.update S f).get? S = some o' := by
    rw [← e]
    exact Heap.get?_update_self f z.1 (by rw [e]; exact hf)
  exact ⟨F.change hs z.2.1 z.2.2, news_set (pre := []) N (fun _ hp => nomatch hp) hne hs ho⟩

theorem ne6 {a b c d e f : Addr × Obj} {l : List (Addr × Obj)} {x : Nat} (h1 : a.1 ≠ x) (h2 : b.1 ≠ x) (h3 : c.1 ≠ x) (h4 : d.1 ≠ x) (h5 : e.1 ≠ x) (h6 : f.1 ≠ x) (hl : ∀ p ∈ l, p.1 ≠ x) : ∀ p ∈ a :: b :: c :: d :: e :: f :: l, p.1 ≠ x := by
  intro p hp
  simp only [List.mem_cons] at hp
  rcases hp with rfl | rfl | rfl | rfl | rfl | rfl | h
  all_goals first | assumption | exact hl _ h
theorem mem_in {a b c d e f g : Addr × Obj} {l : List (Addr × Obj)} : ∀ p ∈ a :: b :: c :: d :: e :: f :: g :: l, p ∈ g :: a :: b :: c :: d :: e :: f :: l := by
  intro p hp
  simp only [List.mem_cons] at hp ⊢
  rcases hp with h | h | h | h | h | h | h | h <;> simp [h]
theorem mem_out {a b c d e f g : Addr × Obj} {l : List (Addr × Obj)} : ∀ p ∈ g :: a :: b :: c :: d :: e :: f :: l, p ∈ a :: b :: c :: d :: e :: f :: g :: l := by
  intro p hp
  simp only [List.mem_cons] at hp ⊢
  rcases hp with h | h | h | h | h | h | h | h <;> simp [h]

section
variable {p : Program} {loose : List Str} {mean : ExcName → Option Value} {mg mb : Str → Option Value} {dp un : Nat} {gd : Option (List Code)} {cn : Str} {cs : Scope} {a : Addr} {ccd : Value} {outer : List Env} {A₀ : Around} {base h₀ : Heap} {L : Addr} {m : Str → Option Value}

inductive wordsAre : List Value → List (List Nat) → Prop
  | nil : wordsAre [] []
  | cons {v k vs ws} : (∃ t, v = Value.str (S k) t) → wordsAre vs ws → wordsAre (v :: vs) (k :: ws)

theorem LexOk.more {x dx io dio pb fs : Nat} {b : List Nat} {news : List (Addr × Obj)} (ok : LexOk x dx io dio pb fs b news) {l : Nat} (o : Obj) (h1 : l ≠ dx) (h2 : l ≠ dio) : LexOk x dx io dio pb fs b ((l, o) :: news) :=
  ⟨List.forall_mem_cons.mpr ⟨h1, ok.hdx⟩, List.forall_mem_cons.mpr ⟨h2, ok.hdio⟩, ok.h1, ok.h2, ok.h3, ok.h4, ok.h5, ok.h6, ok.h7, ok.h8, ok.h9, ok.hlen⟩

theorem K_next (P : Params) : findIn (Mine.frag.heap_1 P) (.ref 835) "__next__" = some (some (.ref 832)) := by kernel_rfl
theorem K_next_fn (P : Params) : isFn (Mine.frag.heap_1 P) (.ref 832) = true := by kernel_rfl
theorem K_iter (P : Params) : findIn (Mine.frag.heap_1 P) (.ref 835) "__iter__" = some (some (.ref 825)) := by kernel_rfl
theorem K_iter_fn (P : Params) : isFn (Mine.frag.heap_1 P) (.ref 825) = true := by kernel_rfl
theorem K_len (P : Params) : findIn (Mine.frag.heap_1 P) (.ref 835) "__len__" = some none := by kernel_rfl
theorem K_hint (P : Params) : findIn (Mine.frag.heap_1 P) (.ref 835) "__length_hint__" = some none := by kernel_rfl

theorem lex_pyNext (w : World) (news) (x dx io dio pb fs : Nat) (t u t' : Nat → Tok) (nl : Value) (b : List Nat) (ub : Tok) (pos : Nat) (md : Md) (ln : Int) (ts tl tt tp : Tok) (res) (hrun : lexRun md [] (b.drop pos) = some res) (hmd : md = .sp ∨ md = .en) (ok : LexOk x dx io dio pb fs b news)
    {s : Shared} {Q : Option Value → Shared → Prop} {E : Value → Shared → Prop}
    (B : Below A₀ base outer h₀) (F : Fr h₀ L s.heap m) (X : (Mine.frag.heap_1 w.params).In h₀) (N : News h₀ L s.heap (lexL w x dx io dio pb fs t u t' nl b ub md pos ts tl tt tp ln news)) (T : Top p loose mean mg mb h₀) (D : KtsDicts (outer.filterMap (·.frame)) h₀) (hk : cs.kind = .function) (hd : dp + 20 < recursionLimit) (hu : un + 200 < cLine)
    (ret : ∀ k, res.1 = some k → ∀ pos ts tl tt tp tv ln h' tk', b.drop pos = res.2.2 → Fr h₀ L h' m → News h₀ L h' (lexL w x dx io dio pb fs t u t' nl b ub (if res.2.1 then .en else .sp) pos ts tl tt tp ln news) → Q (some (.str (S k) tv)) { s with heap := h', toks := tk' })
    (stop : res.1 = none → ∀ g' h' tk' l, KtsTurn (outer.filterMap (·.frame)) h₀ g' → Fr g' L h' m → News g' L h' l → (∀ p ∈ news, p ∈ l) → Below A₀ base outer g' → Q none { s with heap := h', toks := tk' }) :
    wpAny (model PySem.Challenge.rw_qw0075_02.row.prog w) (ktrTop dp un gd cn cs L a ccd [] outer) (pyNext (.ref x)) Q E s :=
  owit_next F X (InstAt.of_news N (.head _) (.tail _ (.head _))) (K_next _) (K_next_fn _)
    (c_next w news x dx io dio pb fs t u t' nl b ub pos md ln ts tl tt tp res hrun hmd ok B F X N T D hk hd hu ret stop)

theorem lex_loop (w : World) (news) (x dx io dio pb fs : Nat) (t u t' : Nat → Tok) (nl : Value) (b : List Nat) (ub : Tok) (l : Nat) (ok : LexOk x dx io dio pb fs b news) (hl : l ≠ x ∧ l ≠ dx ∧ l ≠ io ∧ l ≠ dio ∧ l ≠ pb ∧ l ≠ fs) (hln : ∀ p ∈ news, p.1 ≠ l)
    (D : KtsDicts (outer.filterMap (·.frame)) h₀) (hk : cs.kind = .function) (hd : dp + 20 < recursionLimit) (hu : un + 201 < cLine)
    (B : Below A₀ base outer h₀) (X : (Mine.frag.heap_1 w.params).In h₀) (T : Top p loose mean mg mb h₀) {R : Result → Shared → Prop} (s₀ : Shared) :
    ∀ (ws : List (List Nat)) (md : Md) (pos : Nat) (ts tl tt tp : Tok) (ln : Int) (h : Heap) (tk : Nat) (vs : List Value) (n : Nat), LexAll md (b.drop pos) ws → (md = .sp ∨ md = .en) → vs.length + ws.length ≤ 1000 → Fr h₀ L h m → News h₀ L h ((l, listOf vs.toArray n) :: lexL w x dx io dio pb fs t u t' nl b ub md pos ts tl tt tp ln news) →
      (∀ vs', wordsAre vs' ws → ∀ g' h' tk' n, KtsTurn (outer.filterMap (·.frame)) h₀ g' → Fr g' L h' m → News g' L h' ((l, listOf (vs ++ vs').toArray n) :: news) → Below A₀ base outer g' → R (.ok (.ret .none)) { s₀ with heap := h', toks := tk' }) →
      codeAny (model PySem.Challenge.rw_qw0075_02.row.prog w) (ktrTop dp un gd cn cs L a ccd [] outer) (.builtin "list.extend.loop" ⟨[.ref l, .ref x, .none], []⟩) R { s₀ with heap := h, toks := tk } := by
  revert ok hl hln D hk hd hu B X T
  revert p loose mean mg mb dp un gd cn cs a ccd outer A₀ base h₀ L m w news x dx io dio pb fs t u t' nl b ub l R s₀
  change ∀ p loose mean mg mb dp un gd cn cs a ccd outer A₀ base h₀ L m w news x dx io dio pb fs t u t' nl b ub l R s₀, _
  refine' (let rec cy0 : Pk12 _ := pk12 (by repeat' first | exact ne_world | exact ne_cx | exact ne_shared | exact ne_around | exact ⟨default⟩ | refine ne_prod ?_ ?_) _; Pk12.use cy0 ?_)
  generalize cy0.1.1 = p
  generalize cy0.1.2.1 = loose
  generalize cy0.1.2.2.1 = mean
  generalize cy0.1.2.2.2.1 = mg
  generalize cy0.1.2.2.2.2.1 = mb
  generalize cy0.1.2.2.2.2.2.1 = dp
  generalize cy0.1.2.2.2.2.2.2.1 = un
  generalize cy0.1.2.2.2.2.2.2.2.1 = gd
  generalize cy0.1.2.2.2.2.2.2.2.2.1 = cn
  generalize cy0.1.2.2.2.2.2.2.2.2.2.1 = cs
  generalize cy0.1.2.2.2.2.2.2.2.2.2.2.1 = a
  generalize cy0.1.2.2.2.2.2.2.2.2.2.2.2 = ccd
  clear cy0
  refine' (let rec cy0_1 : Pk12 _ := pk12 (by repeat' first | exact ne_world | exact ne_cx | exact ne_shared | exact ne_around | exact ⟨default⟩ | refine ne_prod ?_ ?_) _; Pk12.use cy0_1 ?_)
  generalize cy0_1.1.1 = outer
  generalize cy0_1.1.2.1 = A₀
  generalize cy0_1.1.2.2.1 = base
  generalize cy0_1.1.2.2.2.1 = h₀
  generalize cy0_1.1.2.2.2.2.1 = L
  generalize cy0_1.1.2.2.2.2.2.1 = m
  generalize cy0_1.1.2.2.2.2.2.2.1 = w
  generalize cy0_1.1.2.2.2.2.2.2.2.1 = news
  generalize cy0_1.1.2.2.2.2.2.2.2.2.1 = x
  generalize cy0_1.1.2.2.2.2.2.2.2.2.2.1 = dx
  generalize cy0_1.1.2.2.2.2.2.2.2.2.2.2.1 = io
  generalize cy0_1.1.2.2.2.2.2.2.2.2.2.2.2 = dio
  clear cy0_1
  refine' (let rec cy0_2 : Pk11 _ := pk11 (by repeat' first | exact ne_world | exact ne_cx | exact ne_shared | exact ne_around | exact ⟨default⟩ | refine ne_prod ?_ ?_) _; Pk11.use cy0_2 ?_)
  generalize cy0_2.1.1 = pb
  generalize cy0_2.1.2.1 = fs
  generalize cy0_2.1.2.2.1 = t
  generalize cy0_2.1.2.2.2.1 = u
  generalize cy0_2.1.2.2.2.2.1 = t'
  generalize cy0_2.1.2.2.2.2.2.1 = nl
  generalize cy0_2.1.2.2.2.2.2.2.1 = b
  generalize cy0_2.1.2.2.2.2.2.2.2.1 = ub
  generalize cy0_2.1.2.2.2.2.2.2.2.2.1 = l
  generalize cy0_2.1.2.2.2.2.2.2.2.2.2.1 = R
  generalize cy0_2.1.2.2.2.2.2.2.2.2.2.2 = s₀
  clear cy0_2
  intro ok hl hln D hk hd hu B X T
  intro ws
  obtain ⟨l1, l2, l3, l4, l5, l6⟩ := hl
  induction ws with
  | nil =>
    intro md pos ts tl tt tp ln h tk vs n hall hmd hlen hF hN hfin
    cases hall with
    | nil hrun =>
      refine codeAny_builtin PySem.F.entry_extend_loop ?_
      rw [Around.under_plainId PySem.F.plain_extend_loop _]
      show wpAny _ _ (pyNext (.ref x) >>= _) _ _ _
      refine wpAny_bind (lex_pyNext (s := { s₀ with heap := h, toks := tk }) (un := un + 1) w ((l, listOf vs.toArray n) :: news) x dx io dio pb fs t u t' nl b ub pos md ln ts tl tt tp _ hrun hmd (ok.more _ l2 l4) B hF X (News.sub hN mem_in) T D hk hd (by omega) (fun k e => nomatch e) fun _ g' h' tk' ll hT hF' hN' hsub hB' => ?_)
      refine wpAny_pure (hfin [] .nil g' h' tk' n hT hF' (News.sub hN' ?_) hB')
      rw [List.append_nil]
      exact hsub
  | cons k ws ih =>
    intro md pos ts tl tt tp ln h tk vs n hall hmd hlen hF hN hfin
    cases hall with
    | cons hrun hrest =>
      refine codeAny_builtin PySem.F.entry_extend_loop ?_
      rw [Around.under_plainId PySem.F.plain_extend_loop _]
      show wpAny _ _ (pyNext (.ref x) >>= _) _ _ _
      refine wpAny_bind (lex_pyNext (s := { s₀ with heap := h, toks := tk }) (un := un + 1) w ((l, listOf vs.toArray n) :: news) x dx io dio pb fs t u t' nl b ub pos md ln ts tl tt tp _ hrun hmd (ok.more _ l2 l4) B hF X (News.sub hN mem_in) T D hk hd (by omega) (fun k' e pos' ts' tl' tt' tp' tv' ln' h' tk' hd' hF' hN' => ?_) fun e => nomatch e)
      obtain rfl := Option.some.inj e
      have hN'' := News.sub hN' mem_out
      have hS := (hN'' _ (.head _)).1
      show wpAny _ _ (updateSeq l (·.push _) >>= _) _ _ _
      have hne : ∀ md', ∀ q ∈ lexL w x dx io dio pb fs t u t' nl b ub md' pos' ts' tl' tt' tp' ln' news, q.1 ≠ l :=
        fun md' => ne6 l1.symm l2.symm l3.symm l4.symm l5.symm l6.symm hln
      obtain ⟨hF2, hN2⟩ := seq_upd (o' := listOf (vs ++ [Value.str (S k) tv']).toArray (n + 1)) hF' hN'' (hne _) (Obj.mapSeq (·.push (Value.str (S k) tv'))) (by
        show (⟨_, _, .seq _ (if _ then _ else _), _⟩ : Obj) = _
        simp) rfl
      refine wpAny_bind (wpAny_updateSeq hS rfl (wpAny_pure ⟨plainId_quiet PySem.F.plain_extend_loop _, ?_⟩) ?_ ?_)
      · refine ih _ pos' ts' tl' tt' tp' ln' _ tk' (vs ++ [Value.str (S k) tv']) (n + 1) (by rw [hd']; exact hrest) ?_ ?_ hF2 hN2 fun vs' hw g' h' tk' n' hT hF' hN' hB' => ?_
        · split <;> simp
        · rw [List.length_append]; simp only [List.length_cons, List.length_nil] at hlen ⊢; omega
        · refine hfin (Value.str (S k) tv' :: vs') (.cons ⟨_, rfl⟩ hw) g' h' tk' n' hT hF' ?_ hB'
          rw [List.append_assoc] at hN'
          exact hN'
      · show vs.toArray.size ≤ sizeLine
        rw [List.size_toArray]; simp only [List.length_cons, sizeLine] at hlen ⊢; omega
      · show (vs.toArray.push _).size ≤ sizeLine + 1
        rw [Array.size_push, List.size_toArray]; simp only [List.length_cons, sizeLine] at hlen ⊢; omega
end
end
end Mine
end SL09
section SL10
open PySem PySem.W PyProof.Rows
namespace Mine
noncomputable section
section
variable {p : Program} {loose : List Str} {mean : ExcName → Option Value} {mg mb : Str → Option Value} {dp un : Nat} {gd : Option (List Code)} {cn : Str} {cs : Scope} {a : Addr} {ccd : Value} {outer : List Env} {A₀ : Around} {base h₀ : Heap} {L : Addr} {m : Str → Option Value}

theorem list_lex (w : World) (news) (x dx io dio pb fs : Nat) (t u t' : Nat → Tok) (nl : Value) (b : List Nat) (ub : Tok) (pos : Nat) (md : Md) (ln : Int) (ts tl tt tp : Tok) (ws : List (List Nat)) (hall : LexAll md (b.drop pos) ws) (hmd : md = .sp ∨ md = .en) (hws : ws.length ≤ 1000) (ok : LexOk x dx io dio pb fs b news)
    {s : Shared} {Q : Value → Shared → Prop} {E : Value → Shared → Prop}
    (B : Below A₀ base outer h₀) (hF : Fr h₀ L s.heap m) (X : (Mine.frag.heap_1 w.params).In h₀) (N : News h₀ L s.heap (lexL w x dx io dio pb fs t u t' nl b ub md pos ts tl tt tp ln news)) (T : Top p loose mean mg mb h₀) (D : KtsDicts (outer.filterMap (·.frame)) h₀) (hk : cs.kind = .function) (hd : dp + 20 < recursionLimit) (hu : un + 300 < cLine)
    (fin : ∀ l g' h' tk' vs n, wordsAre vs ws → KtsTurn (outer.filterMap (·.frame)) h₀ g' → Fr g' L h' m → News g' L h' ((l, listOf vs.toArray n) :: news) → (∀ p ∈ news, p.1 < l) → Below A₀ base outer g' → Q (.ref l) { s with heap := h', toks := tk' }) :
    wpAny (model PySem.Challenge.rw_qw0075_02.row.prog w) (ktrTop dp un gd cn cs L a ccd [] outer) (call (.type "list") [.ref x]) Q E s := by
  revert hall hmd hws ok B hF X N T D hk hd hu fin
  revert p loose mean mg mb Q E
  revert dp un gd cn cs a ccd outer A₀ base h₀ L m w news x dx io dio pb fs t u t' nl b ub pos md ln ts tl tt tp ws s
  change ∀ dp un gd cn cs a ccd outer A₀ base h₀ L m w news x dx io dio pb fs t u t' nl b ub pos md ln ts tl tt tp ws s p loose mean mg mb Q E, _
  refine' (let rec cy0_0 : Pk12 _ := pk12 (by repeat' first | exact ne_world | exact ne_cx | exact ne_shared | exact ne_around | exact ⟨default⟩ | exact ⟨.sp⟩ | refine ne_prod ?_ ?_) _; Pk12.use cy0_0 ?_)
  generalize cy0_0.1.1 = dp
  generalize cy0_0.1.2.1 = un
  generalize cy0_0.1.2.2.1 = gd
  generalize cy0_0.1.2.2.2.1 = cn
  generalize cy0_0.1.2.2.2.2.1 = cs
  generalize cy0_0.1.2.2.2.2.2.1 = a
  generalize cy0_0.1.2.2.2.2.2.2.1 = ccd
  generalize cy0_0.1.2.2.2.2.2.2.2.1 = outer
  generalize cy0_0.1.2.2.2.2.2.2.2.2.1 = A₀
  generalize cy0_0.1.2.2.2.2.2.2.2.2.2.1 = base
  generalize cy0_0.1.2.2.2.2.2.2.2.2.2.2.1 = h₀
  generalize cy0_0.1.2.2.2.2.2.2.2.2.2.2.2 = L
  clear cy0_0
  refine' (let rec cy0_1 : Pk12 _ := pk12 (by repeat' first | exact ne_world | exact ne_cx | exact ne_shared | exact ne_around | exact ⟨default⟩ | exact ⟨.sp⟩ | refine ne_prod ?_ ?_) _; Pk12.use cy0_1 ?_)
  generalize cy0_1.1.1 = m
  generalize cy0_1.1.2.1 = w
  generalize cy0_1.1.2.2.1 = news
  generalize cy0_1.1.2.2.2.1 = x
  generalize cy0_1.1.2.2.2.2.1 = dx
  generalize cy0_1.1.2.2.2.2.2.1 = io
  generalize cy0_1.1.2.2.2.2.2.2.1 = dio
  generalize cy0_1.1.2.2.2.2.2.2.2.1 = pb
  generalize cy0_1.1.2.2.2.2.2.2.2.2.1 = fs
  generalize cy0_1.1.2.2.2.2.2.2.2.2.2.1 = t
  generalize cy0_1.1.2.2.2.2.2.2.2.2.2.2.1 = u
  generalize cy0_1.1.2.2.2.2.2.2.2.2.2.2.2 = t'
  clear cy0_1
  refine' (let rec cy0_2 : Pk12 _ := pk12 (by repeat' first | exact ne_world | exact ne_cx | exact ne_shared | exact ne_around | exact ⟨default⟩ | exact ⟨.sp⟩ | refine ne_prod ?_ ?_) _; Pk12.use cy0_2 ?_)
  generalize cy0_2.1.1 = nl
  generalize cy0_2.1.2.1 = b
  generalize cy0_2.1.2.2.1 = ub
  generalize cy0_2.1.2.2.2.1 = pos
  generalize cy0_2.1.2.2.2.2.1 = md
  generalize cy0_2.1.2.2.2.2.2.1 = ln
  generalize cy0_2.1.2.2.2.2.2.2.1 = ts
  generalize cy0_2.1.2.2.2.2.2.2.2.1 = tl
  generalize cy0_2.1.2.2.2.2.2.2.2.2.1 = tt
  generalize cy0_2.1.2.2.2.2.2.2.2.2.2.1 = tp
  generalize cy0_2.1.2.2.2.2.2.2.2.2.2.2.1 = ws
  generalize cy0_2.1.2.2.2.2.2.2.2.2.2.2.2 = s
  clear cy0_2
  intro p loose mean mg mb Q E
  intro hall hmd hws ok B hF X N T D hk hd hu fin
  have hlt : ∀ q ∈ lexL w x dx io dio pb fs t u t' nl b ub md pos ts tl tt tp ln news, q.1 < s.heap.objs.size := fun q hq => Heap.lt_size (N q hq).1
  have l1 : s.heap.objs.size ≠ x := (Nat.ne_of_lt (hlt _ (.head _))).symm
  have l2 : s.heap.objs.size ≠ dx := (Nat.ne_of_lt (hlt _ (.tail _ (.head _)))).symm
  have l3 : s.heap.objs.size ≠ io := (Nat.ne_of_lt (hlt _ (.tail _ (.tail _ (.head _))))).symm
  have l4 : s.heap.objs.size ≠ dio := (Nat.ne_of_lt (hlt _ (.tail _ (.tail _ (.tail _ (.head _)))))).symm
  have l5 : s.heap.objs.size ≠ pb := (Nat.ne_of_lt (hlt _ (.tail _ (.tail _ (.tail _ (.tail _ (.head _))))))).symm
  have l6 : s.heap.objs.size ≠ fs := (Nat.ne_of_lt (hlt _ (.tail _ (.tail _ (.tail _ (.tail _ (.tail _ (.head _)))))))).symm
  have hln : ∀ q ∈ news, q.1 < s.heap.objs.size := fun q hq => hlt q (.tail _ (.tail _ (.tail _ (.tail _ (.tail _ (.tail _ hq))))))
  have hne : ∀ q ∈ lexL w x dx io dio pb fs t u t' nl b ub md pos ts tl tt tp ln news, q.1 ≠ s.heap.objs.size := fun q hq => Nat.ne_of_lt (hlt q hq)
  refine callType_codes (Q₁ := fun obj s₁ => obj = .ref s.heap.objs.size ∧ s₁ = { s with heap := s.heap.push { cls := .type "list", data := .seq #[] } }) PySem.F.called_list (PySem.F.typeCall_list_1 _) PySem.F.entry_list_init
    (code_list_new _ ⟨rfl, rfl⟩) fun obj s₁ h₁ => ?_
  obtain ⟨rfl, rfl⟩ := h₁
  have hS : (s.heap.push { cls := .type "list", data := .seq #[] }).get? s.heap.objs.size = some { cls := .type "list", data := .seq #[] } := Heap.get?_push_size _ rfl
  refine ⟨⟨_, hS, rfl⟩, PySem.F.args_list_init_2 _ _, ?_⟩
  have F1 : Fr h₀ L (s.heap.push { cls := .type "list", data := .seq #[] }) m := hF.push _
  have N1 : News h₀ L (s.heap.push { cls := .type "list", data := .seq #[] }) ((s.heap.objs.size, listOf #[] 0) :: lexL w x dx io dio pb fs t u t' nl b ub md pos ts tl tt tp ln news) := N.push hF _
  show wpAny _ _ (do let old ← Builtin.List.listItems (.ref s.heap.objs.size); Builtin.List.listUpdate (.ref s.heap.objs.size) (fun _ => #[]); letGo old.toList.reverse; Builtin.List.listExtendWith (.ref s.heap.objs.size) (.ref x) .none) _ _ _
  refine wpAny_bind ?_
  unfold Builtin.List.listItems
  refine wpAny_bind (wpAny_seqItems hS rfl (wpAny_pure ?_))
  show wpAny _ _ (updateSeq s.heap.objs.size (fun _ => #[]) >>= fun _ => letGo (#[] : Array Value).toList.reverse >>= fun _ => Builtin.List.listExtendWith (.ref s.heap.objs.size) (.ref x) .none) _ _ _
  refine wpAny_bind (wpAny_updateSeq hS rfl ?_)
  obtain ⟨F2, N2⟩ := seq_upd (o' := listOf #[] 0) F1 N1 hne (Obj.mapSeq (fun _ => (#[] : Array Value))) rfl rfl
  have hS2 := (N2 _ (.head _)).1
  refine wpAny_bind (wpAny_letGo ?_)
  unfold Builtin.List.listExtendWith
  have I2 := InstAt.of_news N2 (.tail _ (.head _)) (.tail _ (.tail _ (.head _)))
  refine wpAny_bind (I2.type.here ?_)
  have h1 : Builtin.List.listSameRef (.ref s.heap.objs.size) (.ref x) = false := by simp [Builtin.List.listSameRef, l1]
  have h2 : (Value.ref 835 == Value.type "list") = false := by decide
  have h3 : (Value.ref 835 == Value.type "tuple") = false := by decide
  simp only [h1, h2, h3, Bool.or_false, Bool.false_eq_true, if_false]
  refine wpAny_bind (owit_iter F2 X I2 (K_iter _) (K_iter_fn _) ?_)
  refine Ctr.use (dp := dp) (un := un + 1 + 1) B F2 X N2 T hk (c_iter w _ x) (by omega) (by omega) ?_
  rintro v9 n9 h9 tk9 ⟨rfl, rfl⟩ F9 N9
  have I9 := InstAt.of_news N9 (.tail _ (.head _)) (.tail _ (.tail _ (.head _)))
  refine owit_it F9 X I9 (K_next _) ?_
  refine wpAny_bind (wpAny_holding ?_)
  unfold Builtin.List.listLengthHint
  have X9 := X.keeps F9.keep
  refine wpAny_bind (wpAny_bind (I9.type.here ((looks_findIn X9 (K_len _)).here ?_)))
  show wpAny _ _ (specialOf (Value.ref x) (Str.ofString "__length_hint__") >>= _) _ _ _
  refine wpAny_bind (wpAny_bind (I9.type.here ((looks_findIn X9 (K_hint _)).here ?_)))
  refine wpAny_pure ?_
  show wpAny _ _ (rule "list.extend.makes-room" >>= fun _ => Builtin.List.listTouch (.ref s.heap.objs.size) >>= fun _ =>
    again (.builtin "list.extend.loop" ⟨[.ref s.heap.objs.size, .ref x, .none], []⟩)) _ _ _
  refine wpAny_bind (wpAny_rule ?_)
  refine wpAny_bind ?_
  show wpAny _ _ (updateSeq s.heap.objs.size (·.push .none) >>= fun _ => updateSeq s.heap.objs.size (·.pop)) _ _ _
  have hS9 := (N9 _ (.head _)).1
  refine wpAny_bind (wpAny_updateSeq hS9 rfl ?_)
  obtain ⟨F10, N10⟩ := seq_upd (o' := listOf #[.none] 1) F9 N9 hne (Obj.mapSeq (·.push Value.none)) rfl rfl
  have hS10 := (N10 _ (.head _)).1
  refine wpAny_updateSeq (hz := by seq_fits) hS10 rfl ?_
  obtain ⟨F11, N11⟩ := seq_upd (o' := listOf #[] 2) F10 N10 hne (Obj.mapSeq (·.pop)) rfl rfl
  refine wpAny_pure ⟨plainId_quiet PySem.F.plain_extend_loop _, ?_⟩
  refine lex_loop (dp := dp) (un := un + 1) w news x dx io dio pb fs t u t' nl b ub s.heap.objs.size ok ⟨l1, l2, l3, l4, l5, l6⟩ (fun q hq => Nat.ne_of_lt (hln q hq)) D hk hd (by omega) B X T s ws md pos ts tl tt tp ln _ _ [] 2 hall hmd (by simpa using hws) F11 N11 fun vs' hw g' h' tk' n hT hF' hN' hB' => ?_
  exact ⟨rfl, fin _ g' h' tk' vs' n hw hT hF' hN' hln hB'⟩
end
end
end Mine
end SL10
section SL11
open PySem PySem.W PyProof.Rows
namespace Mine
section
variable {w : World} {h : Heap}
noncomputable abbrev MM (w : World) : Model := model PySem.Challenge.rw_qw0075_02.row.prog w
theorem sio_made (X : (Mine.frag.heap_1 w.params).In h) : Looks (MM w) h (Bind.madeBy (.ref 700)) none := Looks.of_peek X (by kernel_rfl)
theorem sio_here (X : (Mine.frag.heap_1 w.params).In h) : Looks (MM w) h (Bind.madeHere "object.__new__" (.ref 700)) () := Looks.of_peek X (by kernel_rfl)
theorem sio_mro (X : (Mine.frag.heap_1 w.params).In h) : Looks (MM w) h (mroOf (.ref 700)) [.ref 700, .ref 223, .ref 196, .type "object"] := Looks.of_peek X (by kernel_rfl)
theorem sio_call (X : (Mine.frag.heap_1 w.params).In h) : Looks (MM w) h (specialOf (.ref 700) "__call__") (some (.builtin "type.__call__")) := Looks.of_peek X (by kernel_rfl)
theorem sio_typ (X : (Mine.frag.heap_1 w.params).In h) : Looks (MM w) h (isInstance (.ref 700) (.type "type")) true := Looks.of_peek X (by kernel_rfl)
theorem sio_self (X : (Mine.frag.heap_1 w.params).In h) : Looks (MM w) h (isSubtype (.ref 700) (.ref 700)) true := Looks.of_peek X (by kernel_rfl)
theorem sio_top (X : (Mine.frag.heap_1 w.params).In h) : Looks (MM w) h (isSubtype (.ref 700) (.type "object")) true := Looks.of_peek X (by kernel_rfl)
theorem sio_base (X : (Mine.frag.heap_1 w.params).In h) : Looks (MM w) h (Bind.staticBase (.ref 700)) (.type "object") := Looks.of_peek X (by kernel_rfl)
theorem sio_made0 (X : (Mine.frag.heap_1 w.params).In h) : Looks (MM w) h (Bind.madeBy (.type "object")) (some "object.__new__") := Looks.of_peek X (by kernel_rfl)
noncomputable def sioB (K : Frag) : Bool := match K.lookup 700 with
  | some ⟨_, _, .cls cd, _⟩ => !cd.abstract && !cd.hasDel && !cd.mro.isEmpty
  | _ => false
theorem sioB_is (P : Params) : sioB (Mine.frag.heap_1 P) = true := by kernel_rfl
theorem sio_obj {K : Frag} (e : sioB K = true) : ∃ oc od cd sl, K.lookup 700 = some ⟨oc, od, .cls cd, sl⟩ ∧ cd.abstract = false ∧ cd.hasDel = false ∧ cd.mro.isEmpty = false := by
  unfold sioB at e
  split at e
  · rename_i oc od cd sl ho
    simp only [Bool.and_eq_true, Bool.not_eq_true'] at e
    exact ⟨oc, od, cd, sl, ho, e.1.1, e.1.2, e.2⟩
  · cases e
theorem sio_get (P : Params) : findCls (Mine.frag.heap_1 P) (.ref 700) (.type "type") "__new__" = some (.get (.builtin "staticmethod.__get__") (.ref 197) .none (.ref 700)) := by kernel_rfl
end
section
variable {w : World} {A : Around} {R : Result → Shared → Prop} {h : Heap} {g : Array GenState} {d : Drawn} {t : Nat} {os : OsState}
theorem sio_new (X : (Mine.frag.heap_1 w.params).In h)
    (hq : R (.ok (.ret (.ref (h.objs.size + 1)))) ⟨(h.push emptyDict).push (instObj 700 h.objs.size), g, d, t, os⟩) :
    codeAny (MM w) A (.call (.builtin "object.__new__") ⟨[.ref 700], []⟩) R ⟨h, g, d, t, os⟩ := by
  obtain ⟨oc, od, cd, sl, ho, e1, e2, e4⟩ := sio_obj (sioB_is w.params)
  have hC := X _ _ ho
  have F := PySem.F.objNew
  refine codeAny_call_builtin_code (Code.quiet_builtin _ F.quiet) ?_
  simp only [checkBuiltinCall, F.kind, F.split, F.row]
  have here := sio_here X
  have made := sio_made X
  have made0 := sio_made0 X
  have base := sio_base X
  have top := sio_top X
  have typ := sio_typ X
  have args : Bind.checkArgs "object.__new__" ⟨.hand, "object.__new__", "__new__", .cls, []⟩ ⟨[.ref 700], []⟩ = pure () := by kernel_rfl
  rw [args]
  repeat (first | simp only [bne_self_eq_false, Bool.false_eq_true, if_false] | lk)
  refine codeAny_builtin F.entry ?_
  unfold Builtin.«object.__new__»
  have fin : ∀ A', wpAny (MM w) A' (do
      let d ← if typeHasDict (.ref 700) then some <$> alloc { cls := .type "dict", data := .dict #[] } else pure none
      ret (← newObj (.ref 700) .plain d)) (fun fin s' => match fin with | .done f => R (.ok f) s' | .again c' => c'.quiet = true ∧ codeAny (MM w) A c' R s') (fun e s' => R (.error e) s') ⟨h, g, d, t, os⟩ := by
    intro A'
    show wpAny _ _ ((alloc emptyDict >>= fun x => pure (some x)) >>= _) _ _ _
    refine wpAny_bind (wpAny_bind (wpAny_alloc (wpAny_pure (wpAny_bind ?_))))
    show wpAny _ _ (newObjAsIs _ _ _) _ _ _
    unfold newObjAsIs classHasDel
    refine wpAny_bind (wpAny_alloc (wpAny_bind (wpAny_bind (wpAny_load (Heap.get?_push_of_some _ (Heap.get?_push_of_some _ hC)) (wpAny_pure ?_)))))
    rw [e2]
    refine wpAny_pure (wpAny_pure ?_)
    show R _ _
    rw [Heap.size_push]
    exact hq
  repeat (first | simp only [e1, Bool.false_eq_true, if_false] | exact fin _ | lk)
theorem sio_new_K {s : Shared} {E : Value → Shared → Prop} {Q : Value → Shared → Prop} {h₀ : Heap} {L : Addr} {m : Str → Option Value} {news : List (Addr × Obj)} (F : Fr h₀ L s.heap m) (X : (Mine.frag.heap_1 w.params).In h₀) (N : News h₀ L s.heap news)
    (k : ∀ x dx h', Fr h₀ L h' m → News h₀ L h' ((x, instObj 700 dx) :: (dx, dictOf [] 0) :: news) → (∀ p ∈ news, p.1 < dx) → dx < x → Q (.ref x) { s with heap := h' }) :
    wpAny (MM w) A (call (.builtin "object.__new__") [.ref 700]) Q E s := by
  obtain ⟨hh, g, d, t, os⟩ := s
  refine wpAny_call (sio_new (X.keeps F.keep) ?_)
  have := (N.push F emptyDict).push (F.push _) (instObj 700 hh.objs.size)
  rw [Heap.size_push] at this
  exact k _ hh.objs.size _ ((F.push _).push _) this (fun p hp => Heap.lt_size (N p hp).1) (Nat.lt_succ_self _)
end
end Mine
end SL11
section SL12
open PySem PySem.W PyProof.Rows
namespace Mine
noncomputable section
theorem c_new (w : World) (news) (b : Str) (t : Tok) :
   Ctr PySem.Challenge.rw_qw0075_02.row.prog w (Mine.frag.heap_1 w.params) 4 40 193 [Value.ref 700, .str b t] news (fun v l => ∃ x dx, v = .ref x ∧ l = (x, instObj 700 dx) :: (dx, dictOf [] 0) :: news ∧ (∀ p ∈ news, p.1 < dx) ∧ dx < x) := by
  k_fill
  refine ctr_of fun cx => ?_
  revert w news b t cx
  refine id ?_
  refine' (let rec cx : Pk5 _ := pk5 (by repeat' first | exact ne_world | exact ne_cx | exact ⟨default⟩ | refine ne_prod ?_ ?_) _; Pk5.use cx ?_)
  unfold CtrX CtrB
  generalize cx.1.2.2.2.2.p = p
  generalize cx.1.2.2.2.2.loose = loose
  generalize cx.1.2.2.2.2.mean = mean
  generalize cx.1.2.2.2.2.mg = mg
  generalize cx.1.2.2.2.2.mb = mb
  generalize cx.1.2.2.2.2.dp = dp
  generalize cx.1.2.2.2.2.un = un
  generalize cx.1.2.2.2.2.gd = gd
  generalize cx.1.2.2.2.2.cn = cn
  generalize cx.1.2.2.2.2.cs = cs
  generalize cx.1.2.2.2.2.a = a
  generalize cx.1.2.2.2.2.ccd = ccd
  generalize cx.1.2.2.2.2.cl = cl
  generalize cx.1.2.2.2.2.outer = outer
  generalize cx.1.2.2.2.2.A₀ = A₀
  generalize cx.1.2.2.2.2.base = base
  generalize cx.1.2.2.2.2.h₀ = h₀
  generalize cx.1.2.2.2.2.L = L
  generalize cx.1.2.2.2.2.m = m
  generalize cx.1.2.2.2.2.s = s
  generalize cx.1.2.2.2.2.Q = Q
  generalize cx.1.2.2.2.2.E = E
  generalize cx.1.1 = w
  generalize cx.1.2.1 = news
  generalize cx.1.2.2.1 = b
  generalize cx.1.2.2.2.1 = t
  clear cx
  intro B F X N T hk hd hu hret
  k_with_none
  k_with "call builtin:object.__new__" => (
    k_dflt (refine' sio_new_K ?k1 ?k2 ?k3 ?_; (case k1 => k_asm); (case k2 => k_asm); (case k3 => k_asm); intro x9 dx9 h9 F9 N9 l9 l8))
  refine wpAny_call ?_
  k_dflt (refine' kp_both ?k1 ?k2 ?k3 ?k4 ?k5 ?kA ?kF ?kK ?k6 ?k7 ?k8 ?kV ?kX ?kQ ?kM ?kN ?kD ?kR ?kP ?kS ?kT ?kB ?_ ?c2 ?c3 ?c4 ?c5; (case kA => exact rfl); (case kF => exact rfl); (case kK => first | exact rfl | assumption); (case k1 => k_asm); (case k2 => k_asm); (case k3 => k_asm); (case k4 => k_asm); (case k5 => k_asm); (case k6 => k_is); (case k7 => k_is); (case k8 => k_room); (case kV => kp_lit); (case kX => kp_lit); (case kQ => exact rfl); (case kM => exact rfl); (case kN => exact rfl); (case kD => kp_flats); (case kR => exact rfl); (case kP => exact rfl); (case kS => exact fun _ => rfl); (case kT => exact fun _ _ => rfl); (case kB => exact fun _ _ => locs rfl); (case c5 => decide); (case c2 => exact rfl); (case c3 => exact rfl); (case c4 => exact rfl); k_whole; intro C' D' o' g' L' h' tk' l1 l2 lo' hs' fs' FG' F' N' B' X' T'; (try k_lt l1); (try k_lt2 l2); (try dsimp only); (try k_lift B'); (try k_fold))
  k_steps
  rename News _ _ _ _ => nN
  rename Fr _ _ _ _ => nF
  refine hret _ _ _ _ ⟨x9, dx9, rfl, rfl, fun p hp => l9 p (.tail _ (.tail _ hp)), l8⟩ nF (News.sub nN ?_)
  intro q hq
  simp only [List.mem_cons] at hq ⊢
  rcases hq with h | h | h <;> simp [h]

section
variable {w : World} {A : Around} {R : Result → Shared → Prop}
theorem sio_fn (P : Params) : recIn (Mine.frag.heap_1 P) 197 "staticmethod" = some [.ref 193] := by kernel_rfl
theorem sio_init (P : Params) : findIn (Mine.frag.heap_1 P) (.ref 700) "__init__" = some (some (.ref 470)) := by kernel_rfl
theorem sio_init_fn (P : Params) : typeIn (Mine.frag.heap_1 P) (.ref 470) = some (.type "function") := by kernel_rfl
theorem sio_meta (P : Params) : typeIn (Mine.frag.heap_1 P) (.ref 700) = some (.type "type") := by kernel_rfl
theorem sio_reads (P : Params) : readsIn (Mine.frag.heap_1 P) 700 (.type "type") = true := by kernel_rfl

theorem sio_make {p : Program} {loose : List Str} {mean : ExcName → Option Value} {mg mb : Str → Option Value} {dp un : Nat} {gd : Option (List Code)} {cn : Str} {cs : Scope} {a : Addr} {ccd : Value} {cl : List (Str × Addr)} {outer : List Env} {A₀ : Around} {base h₀ : Heap} {L : Addr} {m : Str → Option Value} {s : Shared} {news : List (Addr × Obj)} {b : Str} {t : Tok}
    (B : Below A₀ base outer h₀) (F : Fr h₀ L s.heap m) (X : (Mine.frag.heap_1 w.params).In h₀) (N : News h₀ L s.heap news) (T : Top p loose mean mg mb h₀) (hk : cs.kind = .function) (hd : dp + 10 < recursionLimit) (hu : un + 100 < cLine)
    (hq : ∀ x dx h' tk', Fr h₀ L h' m → News h₀ L h' ((x, instObj 700 dx) :: (dx, dictOf [] 0) :: news) → (∀ p ∈ news, p.1 < dx) → dx < x →
      codeAny (MM w) ((ktrTop dp un gd cn cs L a ccd cl outer).under (.builtin "type.__call__" ⟨[.ref 700, .str b t], []⟩)) (.call (.ref 470) ⟨[.ref x, .str b t], []⟩) (InitBack x R) { s with heap := h', toks := tk' }) :
    codeAny (MM w) (ktrTop dp un gd cn cs L a ccd cl outer) (.call (.ref 700) ⟨[.str b t], []⟩) R s := by
  revert B F X N T hk hd hu hq
  revert w R p loose mean mg mb dp un gd cn cs a ccd cl outer A₀ base h₀ L m s news b t
  change ∀ w R p loose mean mg mb dp un gd cn cs a ccd cl outer A₀ base h₀ L m s news b t, _
  refine' (let rec cy0 : Pk12 _ := pk12 (by repeat' first | exact ne_world | exact ne_cx | exact ne_shared | exact ne_around | exact ⟨default⟩ | refine ne_prod ?_ ?_) _; Pk12.use cy0 ?_)
  generalize cy0.1.1 = w
  generalize cy0.1.2.1 = R
  generalize cy0.1.2.2.1 = p
  generalize cy0.1.2.2.2.1 = loose
  generalize cy0.1.2.2.2.2.1 = mean
  generalize cy0.1.2.2.2.2.2.1 = mg
  generalize cy0.1.2.2.2.2.2.2.1 = mb
  generalize cy0.1.2.2.2.2.2.2.2.1 = dp
  generalize cy0.1.2.2.2.2.2.2.2.2.1 = un
  generalize cy0.1.2.2.2.2.2.2.2.2.2.1 = gd
  generalize cy0.1.2.2.2.2.2.2.2.2.2.2.1 = cn
  generalize cy0.1.2.2.2.2.2.2.2.2.2.2.2 = cs
  clear cy0
  refine' (let rec cy0_1 : Pk12 _ := pk12 (by repeat' first | exact ne_world | exact ne_cx | exact ne_shared | exact ne_around | exact ⟨default⟩ | refine ne_prod ?_ ?_) _; Pk12.use cy0_1 ?_)
  generalize cy0_1.1.1 = a
  generalize cy0_1.1.2.1 = ccd
  generalize cy0_1.1.2.2.1 = cl
  generalize cy0_1.1.2.2.2.1 = outer
  generalize cy0_1.1.2.2.2.2.1 = A₀
  generalize cy0_1.1.2.2.2.2.2.1 = base
  generalize cy0_1.1.2.2.2.2.2.2.1 = h₀
  generalize cy0_1.1.2.2.2.2.2.2.2.1 = L
  generalize cy0_1.1.2.2.2.2.2.2.2.2.1 = m
  generalize cy0_1.1.2.2.2.2.2.2.2.2.2.1 = s
  generalize cy0_1.1.2.2.2.2.2.2.2.2.2.2.1 = news
  generalize cy0_1.1.2.2.2.2.2.2.2.2.2.2.2 = b
  clear cy0_1
  refine' (let rec cy0_2 : Pk1 _ := pk1 (by repeat' first | exact ne_world | exact ne_cx | exact ne_shared | exact ne_around | exact ⟨default⟩ | refine ne_prod ?_ ?_) _; Pk1.use cy0_2 ?_)
  generalize cy0_2.1 = t
  clear cy0_2
  intro B F X N T hk hd hu hq
  obtain ⟨oc, od, cd, sl, ho, e1, e2, e4⟩ := sio_obj (sioB_is w.params)
  have X1 := X.keeps F.keep
  have hC := X1 _ _ ho
  obtain ⟨h, g, d, tk, os⟩ := s
  have call := sio_call X1
  have typ := sio_typ X1
  refine codeAny_of_tree ?_
  show wpAny _ _ (callAny (.ref 700) _) _ _ _
  refine nd_load hC ?_
  show wpAny _ _ (callAny.viaDunder (.ref 700) _) _ _ _
  unfold callAny.viaDunder
  refine wpAny_bind (call.at ?_)
  dsimp only
  rw [tc_bind]
  refine wpAny_bind (wpAny_pure (wpAny_bind (wpAny_pure ?_)))
  refine wpAny_pure (a := Fin.again (.call (.builtin "type.__call__") ⟨[.ref 700, .str b t], []⟩)) (And.intro rfl ?_)
  refine codeAny_call_builtin_at (Code.quiet_builtin _ (by decide +kernel)) entry_typeCall (check_slot tc_kind tc_split typ (tc_args _ _ _) ?_)
  unfold Builtin.«type.__call__»
  have hm := sio_mro X1
  have made := sio_made X1
  show wpAny _ _ (mroOf (.ref 700) >>= _) _ _ _
  refine wpAny_bind (hm.here ?_)
  show wpAny _ _ (Bind.madeBy (.ref 700) >>= _) _ _ _
  refine wpAny_bind (made.here ?_)
  show wpAny _ _ (getAttr (.ref 700) (Str.ofString "__new__") >>= _) _ _ _
  refine wpAny_bind (cls_sm (s := ⟨h, g, d, tk, os⟩) F X (sio_meta _) (sio_reads _) (sio_get _) (sio_fn _) rfl ?_)
  refine wpAny_bind (wpAny_holding ?_)
  refine Ctr.use (dp := dp + 1) (un := un + 1) (s := ⟨h, g, d, tk + 1, os⟩) B F X N T hk (c_new w _ b t) (by omega) (by omega) ?_
  rintro v9 n9 h9 tk9 ⟨x, dx, rfl, rfl, l1, l2⟩ F9 N9
  have X9 := X.keeps F9.keep
  have hx := (N9 _ (.head _)).1
  have t1 : Looks (MM w) h9 (typeOf (.ref x)) (.ref 700) := (Looks.ld hx).andThen .now
  have s1 := sio_self X9
  have i1 := looks_findIn (M := MM w) X9 (sio_init _)
  have b1 := bind_fn (M := MM w) X9 (.ref x) (sio_init_fn _)
  unfold isInstance callSpecial? specialOf
  repeat (first | with_reducible refine wpAny_call ?_ | lk)
  refine codeAny_mono (hq x dx h9 tk9 F9 N9 l1 l2) fun r s' z => ?_
  rcases r with e | (v | _ | _ | _) <;> first | exact z | exact z.elim | skip
  obtain ⟨rfl, z⟩ := z
  exact wpAny_pure (wpAny_pure z)
end
end
end Mine
end SL12
section SL13
open PySem PySem.W PyProof.Rows
namespace Mine
noncomputable section
noncomputable def tk3 (a b c : Tok) : Nat → Tok
  | 0 => a
  | 1 => b
  | _ => c
theorem c_sioinit (w : World) (news) (x dx : Nat) (b : List Nat) (t : Tok) (h1 : x ≠ dx) (hdx : ∀ p ∈ news, p.1 ≠ dx)
    {p : Program} {loose : List Str} {mean : ExcName → Option Value} {mg mb : Str → Option Value} {dp un : Nat} {gd : Option (List Code)} {cn : Str} {cs : Scope} {a : Addr} {ccd : Value} {cl : List (Str × Addr)} {outer : List Env} {A₀ : Around} {base h₀ : Heap} {L : Addr} {m : Str → Option Value} {s : Shared} {R : Result → Shared → Prop}
    (B : Below A₀ base outer h₀) (F : Fr h₀ L s.heap m) (X : (Mine.frag.heap_1 w.params).In h₀) (N : News h₀ L s.heap ((x, instObj 700 dx) :: (dx, dictOf [] 0) :: news)) (T : Top p loose mean mg mb h₀) (hk : cs.kind = .function) (hd : dp + 10 < recursionLimit) (hu : un + 100 < cLine)
    (ret : ∀ t' nl ub tp h' tk', Fr h₀ L h' m → News h₀ L h' ((x, instObj 700 dx) :: (dx, ioD w t' nl (S b) ub (0 : Nat) tp) :: news) → R (.ok (.ret .none)) { s with heap := h', toks := tk' }) :
    codeAny (model PySem.Challenge.rw_qw0075_02.row.prog w) (ktrTop dp un gd cn cs L a ccd cl outer) (.call (.ref 470) ⟨[.ref x, .str (S b) t], []⟩) R s := by
  revert h1 hdx B F X N T hk hd hu ret
  revert w news x dx b t p loose mean mg mb dp un gd cn cs a ccd cl outer A₀ base h₀ L m s R
  change ∀ w news x dx b t p loose mean mg mb dp un gd cn cs a ccd cl outer A₀ base h₀ L m s R, _
  refine' (let rec cy0 : Pk12 _ := pk12 (by repeat' first | exact ne_world | exact ne_cx | exact ne_shared | exact ne_around | exact ⟨default⟩ | refine ne_prod ?_ ?_) _; Pk12.use cy0 ?_)
  generalize cy0.1.1 = w
  generalize cy0.1.2.1 = news
  generalize cy0.1.2.2.1 = x
  generalize cy0.1.2.2.2.1 = dx
  generalize cy0.1.2.2.2.2.1 = b
  generalize cy0.1.2.2.2.2.2.1 = t
  generalize cy0.1.2.2.2.2.2.2.1 = p
  generalize cy0.1.2.2.2.2.2.2.2.1 = loose
  generalize cy0.1.2.2.2.2.2.2.2.2.1 = mean
  generalize cy0.1.2.2.2.2.2.2.2.2.2.1 = mg
  generalize cy0.1.2.2.2.2.2.2.2.2.2.2.1 = mb
  generalize cy0.1.2.2.2.2.2.2.2.2.2.2.2 = dp
  clear cy0
  refine' (let rec cy0_1 : Pk12 _ := pk12 (by repeat' first | exact ne_world | exact ne_cx | exact ne_shared | exact ne_around | exact ⟨default⟩ | refine ne_prod ?_ ?_) _; Pk12.use cy0_1 ?_)
  generalize cy0_1.1.1 = un
  generalize cy0_1.1.2.1 = gd
  generalize cy0_1.1.2.2.1 = cn
  generalize cy0_1.1.2.2.2.1 = cs
  generalize cy0_1.1.2.2.2.2.1 = a
  generalize cy0_1.1.2.2.2.2.2.1 = ccd
  generalize cy0_1.1.2.2.2.2.2.2.1 = cl
  generalize cy0_1.1.2.2.2.2.2.2.2.1 = outer
  generalize cy0_1.1.2.2.2.2.2.2.2.2.1 = A₀
  generalize cy0_1.1.2.2.2.2.2.2.2.2.2.1 = base
  generalize cy0_1.1.2.2.2.2.2.2.2.2.2.2.1 = h₀
  generalize cy0_1.1.2.2.2.2.2.2.2.2.2.2.2 = L
  clear cy0_1
  refine' (let rec cy0_2 : Pk3 _ := pk3 (by repeat' first | exact ne_world | exact ne_cx | exact ne_shared | exact ne_around | exact ⟨default⟩ | refine ne_prod ?_ ?_) _; Pk3.use cy0_2 ?_)
  generalize cy0_2.1.1 = m
  generalize cy0_2.1.2.1 = s
  generalize cy0_2.1.2.2 = R
  clear cy0_2
  intro h1 hdx B F X N T hk hd hu ret
  revert X
  k_fill
  intro X
  k_with_none
  k_dflt (refine' code_def ?k1 ?k2 ?k3 ?k4 ?k5 ?kA ?kF ?kK ?k6 ?k7 ?k8 ?k9 ?kB ?_ ?c2 ?c3 ?c4 ?c5; (case kA => exact rfl); (case kF => exact rfl); (case kK => first | exact rfl | assumption); (case k1 => k_asm); (case k2 => k_asm); (case k3 => k_asm); (case k4 => k_asm); (case k5 => k_asm); (case k6 => k_is); (case k7 => k_is); (case k8 => k_room); (case k9 => first | exact BindsTo.of_eq rfl | exact binds_K (by k_in) rfl (by k_is) rfl rfl rfl | fail "k_enter: no rule for these arguments"); (case c5 => decide); (case kB => exact locs rfl); (case c2 => exact rfl); (case c3 => exact rfl); (case c4 => exact rfl); k_whole; intro g' L' h' FG' F' N' B' X' T'; (try dsimp only); (try k_lift B'); (try k_fold))
  k_steps
  rename News _ _ _ _ => nN
  rename Fr _ _ _ _ => nF
  exact ret (tk3 _ _ _) _ _ _ _ _ nF nN
end
end Mine
end SL13
section SL14
open PySem PySem.W PyProof.Rows PySem.W.X
namespace Mine
section
variable {p : Program} {loose : List Str} {mean : ExcName → Option Value} {mg mb : Str → Option Value} {dp un : Nat} {gd : Option (List Code)} {cn : Str} {cs : Scope} {a : Addr} {ccd : Value} {cl : List (Str × Addr)} {outer : List Env} {A₀ : Around} {base h₀ : Heap} {L : Addr} {m : Str → Option Value} {s : Shared} {news : List (Addr × Obj)}
theorem c_sio (w : World) (b : List Nat) (t : Tok) {Q E : Value → Shared → Prop}
    (B : Below A₀ base outer h₀) (F : Fr h₀ L s.heap m) (X : (Mine.frag.heap_1 w.params).In h₀) (N : News h₀ L s.heap news) (T : Top p loose mean mg mb h₀) (hk : cs.kind = .function) (hd : dp + 20 < recursionLimit) (hu : un + 200 < cLine)
    (ret : ∀ io dio t' nl ub tp h' tk', Fr h₀ L h' m → News h₀ L h' ((io, instObj 700 dio) :: (dio, ioD w t' nl (S b) ub (0 : Nat) tp) :: news) → (∀ p ∈ news, p.1 < dio) → dio < io → Q (.ref io) { s with heap := h', toks := tk' }) :
    wpAny (model PySem.Challenge.rw_qw0075_02.row.prog w) (ktrTop dp un gd cn cs L a ccd cl outer) (call (.ref 700) [.str (S b) t]) Q E s :=
  wpAny_call (sio_make B F X N T hk (by omega) (by omega) fun x dx h' tk' F' N' l1 l2 =>
    c_sioinit (dp := dp + 1) (un := un + 1) w news x dx b t (Nat.ne_of_gt l2) (fun q hq => Nat.ne_of_lt (l1 q hq)) B F' X N' T hk (by omega) (by omega) fun t' nl ub tp h'' tk'' F'' N'' => ⟨rfl, ret x dx t' nl ub tp h'' tk'' F'' N'' l1 l2⟩)

noncomputable abbrev flatA : Around := { handled := none, depth := 900, frames := none, guards := none, units := 9000 }
theorem wpAny_flat {α : Type} {M : Model} {A : Around} {t : Sem α} {Q : α → Shared → Prop} {E : Value → Shared → Prop} (hh : A.handled = none) (hd : A.depth ≤ 900) (hu : A.units ≤ 9000) (h : wpAny M flatA t Q E s) : wpAny M A t Q E s :=
  fun Γ p hΓ => h Γ p ⟨hΓ.1.trans hh, Nat.le_trans hΓ.2.1 hd, fun _ e => (nomatch e), fun _ e => (nomatch e), Nat.le_trans hΓ.2.2.2.2 hu⟩

theorem Fr.kept {h₀ h h' : Heap} {L : Addr} {m : Str → Option Value} (F : Fr h₀ L h m) (k : ∀ b o, h.get? b = some o → h'.get? b = some o) : Fr h₀ L h' m := by
  obtain ⟨oL, a1, a2, hL, a3⟩ := F.ns
  exact ⟨⟨oL, a1, a2, k _ _ hL, a3⟩, fun b o e => k _ _ (F.keep b o e), F.above⟩
theorem News.kept {h₀ h h' : Heap} {L : Addr} {l : List (Addr × Obj)} (N : News h₀ L h l) (k : ∀ b o, h.get? b = some o → h'.get? b = some o) : News h₀ L h' l :=
  fun p hp => ⟨k _ _ (N p hp).1, (N p hp).2⟩
theorem mem_one {h h' : Heap} {q : Addr} {o : Obj} (D : Mem h h' [] [(q, o)]) : (∀ b o, h.get? b = some o → h'.get? b = some o) ∧ h'.get? q = some o ∧ h.get? q = none :=
  ⟨fun b o e => D.keep b o e (by simp [away]), (D.nw _ (.head _)).1, (D.nw _ (.head _)).2⟩
theorem one_made {h₀ h h' : Heap} {L q : Addr} {m : Str → Option Value} {o : Obj} {l : List (Addr × Obj)} (F : Fr h₀ L h m) (N : News h₀ L h l) (D : Mem h h' [] [(q, o)]) :
    Fr h₀ L h' m ∧ News h₀ L h' ((q, o) :: l) ∧ ∀ p ∈ l, p.1 ≠ q := by
  obtain ⟨k, hq, hn⟩ := mem_one D
  obtain ⟨oL, _, _, hL, _⟩ := F.ns
  refine ⟨Fr.kept F k, fun p hp => ?_, fun p hp e => ?_⟩
  · rcases List.mem_cons.mp hp with rfl | hp
    · refine ⟨hq, fun e => ?_, ?_⟩
      · rw [show L = q from e.symm, hn] at hL
        cases hL
      · cases z : h₀.get? q with
        | none => rfl
        | some o' => rw [F.keep _ _ z] at hn; cases hn
    · exact News.kept N k p hp
  · have := (N p hp).1
    rw [show p.1 = q from e, hn] at this
    cases this
noncomputable def AllNe (d : Nat) : List (Addr × Obj) → Prop
  | [] => True
  | p :: r => @Ne Nat p.1 d ∧ AllNe d r
theorem allNe_of {d : Addr} : ∀ {l : List (Addr × Obj)}, (∀ p ∈ l, p.1 ≠ d) → AllNe d l
  | [], _ => trivial
  | p :: _, h => ⟨h p (.head _), allNe_of fun q hq => h q (.tail _ hq)⟩
section
variable {prog : Program} {w : World} {E : Value → Shared → Prop}
theorem dq_end {s : Shared} {q : Addr} {h : Heap} {Q : Value → Shared → Prop} (hQ : ∀ q h', Mem s.heap h' [] [(q, dqO)] → Q (.ref q) { s with heap := h' }) (D : Mem s.heap h [] [(q, dqO)]) : Q (.ref q) { s with heap := h } := hQ q h D
theorem dq_flat {s : Shared} {Q : Value → Shared → Prop} (hQ : ∀ q h', Mem s.heap h' [] [(q, dqO)] → Q (.ref q) { s with heap := h' }) :
    wpAny (model prog w) flatA (call (.type "collections.deque") []) Q E s := by
  k_with "x" => (refine dq_end ?_ ?_ <;> assumption)
  x_run
end
theorem dq_new {prog : Program} {w : World} {A : Around} {Q E : Value → Shared → Prop} (hh : A.handled = none) (hd : A.depth ≤ 900) (hu : A.units ≤ 9000) (F : Fr h₀ L s.heap m) (N : News h₀ L s.heap news)
    (k : ∀ q h', Fr h₀ L h' m → News h₀ L h' ((q, dqO) :: news) → AllNe q news → Q (.ref q) { s with heap := h' }) :
    wpAny (model prog w) A (call (.type "collections.deque") []) Q E s :=
  wpAny_flat hh hd hu (dq_flat fun q h' D => let ⟨a, b, c⟩ := one_made F N D; k q h' a b (allNe_of c))
end
end Mine
end SL14
section SL16
open PySem PySem.W PyProof.Rows PySem.W.X
namespace Mine
noncomputable section
section
variable {prog : Program} {w : World} {E : Value → Shared → Prop} {s : Shared}
theorem is_end {t : Nat} {Q : Value → Shared → Prop} {v : Value} (hQ : ∀ t, Q v { s with toks := t }) : Q v { s with toks := t } := hQ t
theorem issub_flat {D : Addr} {n : Nat} {Q : Value → Shared → Prop} (hD : s.heap.get? D = some { cls := .type "tuple", data := .seq #[.type "str", .type "bytes"] n }) (hQ : ∀ t, Q (.bool true) { s with toks := t }) :
    wpAny (model prog w) flatA (call (.builtin "issubclass") [.type "str", .ref D]) Q E s := by
  k_with "x" => (refine is_end ?_; assumption)
  x_run
end

theorem c_fspath (w : World) (news) (x : Str) (t : Tok) :
   Ctr PySem.Challenge.rw_qw0075_02.row.prog w (Mine.frag.heap_1 w.params) 120 1000 119 [Value.str x t] news (Same news fun v => v = Value.str x t) := by
  k_fill
  refine ctr_of fun cx => ?_
  revert w news x t cx
  refine id ?_
  refine' (let rec cx : Pk5 _ := pk5 (by repeat' first | exact ne_world | exact ne_cx | exact ⟨default⟩ | refine ne_prod ?_ ?_) _; Pk5.use cx ?_)
  unfold CtrX CtrB
  generalize cx.1.2.2.2.2.p = p
  generalize cx.1.2.2.2.2.loose = loose
  generalize cx.1.2.2.2.2.mean = mean
  generalize cx.1.2.2.2.2.mg = mg
  generalize cx.1.2.2.2.2.mb = mb
  generalize cx.1.2.2.2.2.dp = dp
  generalize cx.1.2.2.2.2.un = un
  generalize cx.1.2.2.2.2.gd = gd
  generalize cx.1.2.2.2.2.cn = cn
  generalize cx.1.2.2.2.2.cs = cs
  generalize cx.1.2.2.2.2.a = a
  generalize cx.1.2.2.2.2.ccd = ccd
  generalize cx.1.2.2.2.2.cl = cl
  generalize cx.1.2.2.2.2.outer = outer
  generalize cx.1.2.2.2.2.A₀ = A₀
  generalize cx.1.2.2.2.2.base = base
  generalize cx.1.2.2.2.2.h₀ = h₀
  generalize cx.1.2.2.2.2.L = L
  generalize cx.1.2.2.2.2.m = m
  generalize cx.1.2.2.2.2.s = s
  generalize cx.1.2.2.2.2.Q = Q
  generalize cx.1.2.2.2.2.E = E
  generalize cx.1.1 = w
  generalize cx.1.2.1 = news
  generalize cx.1.2.2.1 = x
  generalize cx.1.2.2.2.1 = t
  clear cx
  intro B F X N T hk hd hu hret
  k_with_none
  k_with "call builtin:issubclass" => (
    k_dflt (
      (refine wpAny_flat ?hh ?hd ?hu (issub_flat (News.get (by k_asm) (by k_mem)) ?_))
      case hh => exact rfl
      case hd => (simp only [recursionLimit] at hd; show dp + 1 ≤ 900; omega)
      case hu => (simp only [cLine] at hu; show un + 3 ≤ 9000; omega)
      intro t9))
  refine wpAny_call ?_
  k_dflt cell_enter
  k_steps
  rename News _ _ _ _ => nN
  rename Fr _ _ _ _ => nF
  exact hret _ _ _ _ ⟨rfl, rfl⟩ nF (News.sub nN fun q hq => .tail _ hq)

theorem c_getsep (w : World) (news) (x : Str) (t : Tok) :
   Ctr PySem.Challenge.rw_qw0075_02.row.prog w (Mine.frag.heap_1 w.params) 120 1000 133 [Value.str x t] news (Same news fun v => ∃ t, v = Value.str "/" t) := by
  k_fill
  refine ctr_of fun cx => ?_
  revert w news x t cx
  refine id ?_
  refine' (let rec cx : Pk5 _ := pk5 (by repeat' first | exact ne_world | exact ne_cx | exact ⟨default⟩ | refine ne_prod ?_ ?_) _; Pk5.use cx ?_)
  unfold CtrX CtrB
  generalize cx.1.2.2.2.2.p = p
  generalize cx.1.2.2.2.2.loose = loose
  generalize cx.1.2.2.2.2.mean = mean
  generalize cx.1.2.2.2.2.mg = mg
  generalize cx.1.2.2.2.2.mb = mb
  generalize cx.1.2.2.2.2.dp = dp
  generalize cx.1.2.2.2.2.un = un
  generalize cx.1.2.2.2.2.gd = gd
  generalize cx.1.2.2.2.2.cn = cn
  generalize cx.1.2.2.2.2.cs = cs
  generalize cx.1.2.2.2.2.a = a
  generalize cx.1.2.2.2.2.ccd = ccd
  generalize cx.1.2.2.2.2.cl = cl
  generalize cx.1.2.2.2.2.outer = outer
  generalize cx.1.2.2.2.2.A₀ = A₀
  generalize cx.1.2.2.2.2.base = base
  generalize cx.1.2.2.2.2.h₀ = h₀
  generalize cx.1.2.2.2.2.L = L
  generalize cx.1.2.2.2.2.m = m
  generalize cx.1.2.2.2.2.s = s
  generalize cx.1.2.2.2.2.Q = Q
  generalize cx.1.2.2.2.2.E = E
  generalize cx.1.1 = w
  generalize cx.1.2.1 = news
  generalize cx.1.2.2.1 = x
  generalize cx.1.2.2.2.1 = t
  clear cx
  intro B F X N T hk hd hu hret
  k_with_none
  refine wpAny_call ?_
  k_dflt cell_enter
  k_steps
  rename News _ _ _ _ => nN
  rename Fr _ _ _ _ => nF
  exact hret _ _ _ _ ⟨⟨_, rfl⟩, rfl⟩ nF nN

noncomputable def dirnameF (x : Str) : Str :=
  let h := Txt.slice x none (some (Txt.rfind x "/" + 1))
  if h.length = 0 then h
  else if (h != Txt.mul "/" (h.length : Int)) = true then Txt.rstripChars h "/" else h

theorem dn1 {x : Str} (h1 : ((Txt.slice x none (some (Txt.rfind x "/" + 1))).length : Int) ≠ 0)
    (h2 : (Txt.slice x none (some (Txt.rfind x "/" + 1)) != Txt.mul "/" ((Txt.slice x none (some (Txt.rfind x "/" + 1))).length : Int)) = true) :
    Txt.rstripChars (Txt.slice x none (some (Txt.rfind x "/" + 1))) "/" = dirnameF x := by
  unfold dirnameF
  dsimp only
  rw [if_neg (by omega), if_pos h2]
theorem dn2 {x : Str} 
    (h2 : (Txt.slice x none (some (Txt.rfind x "/" + 1)) != Txt.mul "/" ((Txt.slice x none (some (Txt.rfind x "/" + 1))).length : Int)) = false) :
    (Txt.slice x none (some (Txt.rfind x "/" + 1))) = dirnameF x := by
  unfold dirnameF
  dsimp only
  split
  · rfl
  · rw [if_neg (by rw [h2]; decide)]
theorem dn3 {x : Str} (h1 : ((Txt.slice x none (some (Txt.rfind x "/" + 1))).length : Int) = 0) :
    (Txt.slice x none (some (Txt.rfind x "/" + 1))) = dirnameF x := by
  unfold dirnameF
  dsimp only
  rw [if_pos (by omega)]

theorem c_dirname (w : World) (news) (x : Str) (t : Tok) (hx : x.length < 1000) :
   Ctr PySem.Challenge.rw_qw0075_02.row.prog w (Mine.frag.heap_1 w.params) 130 1100 147 [Value.str x t] news (Same news fun v => ∃ t, v = Value.str (dirnameF x) t) := by
  k_fill
  refine ctr_of fun cx => ?_
  revert hx
  revert w news x t cx
  refine id ?_
  refine' (let rec cx : Pk5 _ := pk5 (by repeat' first | exact ne_world | exact ne_cx | exact ⟨default⟩ | refine ne_prod ?_ ?_) _; Pk5.use cx ?_)
  unfold CtrX CtrB
  generalize cx.1.2.2.2.2.p = p
  generalize cx.1.2.2.2.2.loose = loose
  generalize cx.1.2.2.2.2.mean = mean
  generalize cx.1.2.2.2.2.mg = mg
  generalize cx.1.2.2.2.2.mb = mb
  generalize cx.1.2.2.2.2.dp = dp
  generalize cx.1.2.2.2.2.un = un
  generalize cx.1.2.2.2.2.gd = gd
  generalize cx.1.2.2.2.2.cn = cn
  generalize cx.1.2.2.2.2.cs = cs
  generalize cx.1.2.2.2.2.a = a
  generalize cx.1.2.2.2.2.ccd = ccd
  generalize cx.1.2.2.2.2.cl = cl
  generalize cx.1.2.2.2.2.outer = outer
  generalize cx.1.2.2.2.2.A₀ = A₀
  generalize cx.1.2.2.2.2.base = base
  generalize cx.1.2.2.2.2.h₀ = h₀
  generalize cx.1.2.2.2.2.L = L
  generalize cx.1.2.2.2.2.m = m
  generalize cx.1.2.2.2.2.s = s
  generalize cx.1.2.2.2.2.Q = Q
  generalize cx.1.2.2.2.2.E = E
  generalize cx.1.1 = w
  generalize cx.1.2.1 = news
  generalize cx.1.2.2.1 = x
  generalize cx.1.2.2.2.1 = t
  clear cx
  intro hx B F X N T hk hd hu hret
  k_with_none
  k_with "call ref" => (
    with_reducible show wpAny _ _ (call (Value.ref 119) _) _ _ _
    k_dflt (
      (refine' Ctr.use ?k1 ?k2 ?k3 ?k4 ?k5 ?kk (c_fspath w _ _ _) ?kd ?ku ?_)
      case k1 => k_asm
      case k2 => k_asm
      case k3 => k_asm
      case k4 => k_asm
      case k5 => k_asm
      case kk => exact rfl
      case kd => ktr_room
      case ku => ktr_units
      intro v9 n9 h9 tk9 hR F9 N9
      obtain ⟨e8, e9⟩ := hR
      subst e8 e9
      (try dsimp only)
      (try k_fold)))
  k_with "call ref" => (
    with_reducible show wpAny _ _ (call (Value.ref 133) _) _ _ _
    k_dflt (
      (refine' Ctr.use ?k1 ?k2 ?k3 ?k4 ?k5 ?kk (c_getsep w _ _ _) ?kd ?ku ?_)
      case k1 => k_asm
      case k2 => k_asm
      case k3 => k_asm
      case k4 => k_asm
      case k5 => k_asm
      case kk => exact rfl
      case kd => ktr_room
      case ku => ktr_units
      intro v9 n9 h9 tk9 hR F9 N9
      obtain ⟨⟨t9, e8⟩, e9⟩ := hR
      subst e8 e9
      (try dsimp only)
      (try k_fold)))
  refine wpAny_call ?_
  k_dflt cell_enter
  k_steps
  · rename News _ _ _ _ => nN
    rename Fr _ _ _ _ => nF
    have e := @dn1 x (by with_reducible assumption) (by with_reducible assumption)
    exact hret _ _ _ _ ⟨⟨_, congrArg (Value.str · _) e⟩, rfl⟩ nF nN
  · rename News _ _ _ _ => nN
    rename Fr _ _ _ _ => nF
    have e := @dn2 x (by with_reducible assumption)
    exact hret _ _ _ _ ⟨⟨_, congrArg (Value.str · _) e⟩, rfl⟩ nF nN
  · rename News _ _ _ _ => nN
    rename Fr _ _ _ _ => nF
    have e := @dn3 x (by with_reducible assumption)
    exact hret _ _ _ _ ⟨⟨_, congrArg (Value.str · _) e⟩, rfl⟩ nF nN
end
end Mine
end SL16
section SL17
open PySem PySem.W PyProof.Rows PySem.W.X PySem.Calls
namespace Mine
section
variable {prog : Program} {w : World} {A A₀ : Around} {s : Shared} {K : Frag} {L : Addr} {h₀ base : Heap} {m mg mb : Str → Option Value} {used rest : List (Addr × Obj)} {p : Program} {loose : List Str} {mean : ExcName → Option Value}

theorem code_def0 {env : Env} {outer : List Env} {R : Result → Shared → Prop} {name qual : Str} {params : Arguments} {body : List Stmt} {scope : Scope} {dV kV doc pm cdv ct oc : Value} {an od : Option Addr} {osl : Array (Option Value)} {f : Addr} {args : Args} {binds : List (Str × Value)}
    (B : Below A₀ base outer h₀) (F : Fr h₀ L s.heap m) (X₀ : K.In h₀) (N : News h₀ L s.heap (used ++ rest)) (T : Top p loose mean mg mb h₀) (dis : ∀ q ∈ rest, ∀ u ∈ used, q.1 ≠ u.1)
    (hA : A.frames = some (env :: outer)) (hf : env.frame = some L) (hke : env.scope.kind = .function)
    (ho : K.lookup f = some ⟨oc, od, .func (fnOf name qual params body scope dV kV doc pm an cdv ct), osl⟩) (hcd : codeIn K cdv qual = true) (hroom : A.depth < recursionLimit)
    (hbind : BindsTo s (fnOf name qual params body scope dV kV doc pm an cdv ct) args binds) (hloc : ∀ y ∈ binds, scope.names.lookup y.1 = some .local)
    (h : ∀ g L' h₁, Fr h₀ L g m → Fr g L' h₁ (fun y => binds.reverse.lookup y) → News g L' h₁ used → Below A base (env :: outer) g → K.In g → Top p loose mean mg mb g →
      wpAny (model prog w) (A.deeper (envOf qual scope L' f cdv)) (execs body (envOf qual scope L' f cdv))
        (fun fl s' => LeaveK h₀ L m g (fun r s' => (∀ n, News h₀ L s'.heap n → News h₀ L s'.heap (n ++ rest)) → R r s') (match fl with | .ret v => v | _ => .none) s')
        (fun e s' => wpAny (model prog w) (A.deeper (envOf qual scope L' f cdv)) (leaving (envOf qual scope L' f cdv) e) (fun _ s'' => R (.error e) s'') (fun e' s'' => R (.error e') s'') s')
        { s with heap := h₁, toks := s.toks + binds.length })
    (hco : scope.isCoroutine = false) (hgen : scope.isGenerator = false) (hk : scope.kind = .function)
    (hcell : ∀ x ∈ scope.names, x.2 ≠ .cell) : codeAny (model prog w) A (.call (.ref f) args) R s := by
  have N' : News h₀ L s.heap used := News.sub N fun q hq => List.mem_append_left _ hq
  obtain ⟨FG, BG, st, lv⟩ := groundX (R := R) B F N' hA hf hke
  refine codeAny_call_def (fd := fnOf name qual params body scope dV kV doc pm an cdv ct) (body := body) (binds := binds) hroom ((X₀.keeps F.keep) _ _ ho) rfl (T.nolimit.keeps F.keep) (codeRec_of (X₀.keeps F.keep) hcd) rfl hbind hcell hloc (fun h₁ hns up => ?_) hco hgen hk
  refine wpAny_mono (h _ s.heap.objs.size h₁ FG ⟨hns, fun b o e => up b o (of_hideAll _ e), Nat.le_of_eq (hideAll_size _ _)⟩
    (fun q hq => ⟨up _ _ (N' q hq).1, Nat.ne_of_lt (Heap.lt_size (N' q hq).1), hideAll_none _ (List.mem_map_of_mem hq)⟩) BG (X₀.keeps st) (T.keeps st)) (fun fl s' hl => ?_) fun _ _ y => y
  obtain ⟨L', m', n', F', Nn, k⟩ := hl
  refine lv _ _ ⟨L', m', n', F', Nn, fun kF kN => k kF kN fun n hn q hq => ?_⟩
  rcases List.mem_append.mp hq with hq | hq
  · exact hn q hq
  · have hN := N q (List.mem_append_right _ hq)
    refine ⟨F'.keep _ _ (hideAll_get _ hN.1 fun hm => ?_), hN.2⟩
    obtain ⟨u, hu, e⟩ := List.mem_map.mp hm
    exact dis q hq u hu e.symm
end
end Mine
end SL17
section SL18
open PySem PySem.W PyProof.Rows PySem.W.X
namespace Mine

theorem mul_list (n : Int) : (Txt.mul "a" n).cps.toList = List.replicate n.toNat 97 := mul_one_list 97 n
theorem str_ext {a b : Str} (h : a.cps.toList = b.cps.toList) : a = b := by
  cases a; cases b; congr 1; exact Array.toList_inj.mp h
theorem mul_left {k : Int} (h : 0 ≤ k) : Txt.mul "a" (k + 1) = "a" ++ Txt.mul "a" k := by
  apply str_ext
  rw [mul_list, KAf.app_list, mul_list, show (k + 1).toNat = k.toNat + 1 by omega, List.replicate_succ]
  rfl
theorem mul_right {k : Int} (h : 0 ≤ k) : Txt.mul "a" (k + 1) = Txt.mul "a" k ++ "a" := by
  apply str_ext
  rw [mul_list, KAf.app_list, mul_list, show (k + 1).toNat = k.toNat + 1 by omega, List.replicate_succ']
  rfl
theorem pre_a {k : Int} (h : 0 ≤ k) : KAf.Pre (Txt.mul "a" (k + 1)) "/" false := by
  rw [mul_left h]
  exact KAf.pre_app ⟨by decide +kernel, by decide +kernel⟩
theorem suf_a {k : Int} (h : 0 ≤ k) : KAf.Suf (Txt.mul "a" (k + 1)) "/" false := by
  rw [mul_right h]
  exact KAf.suf_app ⟨by decide +kernel, by decide +kernel⟩
section
variable {prog : Program} {w : World} {A : Around} {E : Value → Shared → Prop} {s : Shared} {Q : Bool → Shared → Prop} {t : Tok}
theorem tr_any {x : Str} (h1 : 1 ≤ x.length) (h2 : x.length ≤ 1000) (h : ∀ k, Q true { s with toks := k }) : wpAny (model prog w) A (truthy (.str x t)) Q E s := by
  exact KXt.truthy_pos h1 h2 (by decide) h
end

noncomputable def leaf3 (n : Int) : Str := "/" ++ Txt.mul "a" (n.fdiv 2 + 1) ++ ("/" ++ Txt.mul "a" (n.fmod 2 + 1))
noncomputable def leaf4 (n : Int) : Str := "/" ++ Txt.mul "a" ((n.fdiv 2).fdiv 3 + 1) ++ ("/" ++ Txt.mul "a" ((n.fdiv 2).fmod 3 + 1)) ++ ("/" ++ Txt.mul "a" (n.fmod 2 + 1))
end Mine
end SL18
section SL21
open PySem PySem.W PyProof.Rows PySem.W.X PySem.Calls
namespace Mine
section
variable {prog : Program} {w : World} {A A₀ : Around} {s : Shared} {K : Frag} {L : Addr} {h₀ base : Heap} {m mg mb : Str → Option Value} {used rest : List (Addr × Obj)} {p : Program} {loose : List Str} {mean : ExcName → Option Value}

theorem code_defC0 {env : Env} {outer : List Env} {R : Result → Shared → Prop} {name qual : Str} {params : Arguments} {body : List Stmt} {scope : Scope} {dV kV doc pm cdv ct oc : Value} {an od : Option Addr} {osl : Array (Option Value)} {f : Addr} {args : Args} {binds : List (Str × Value)}
    (B : Below A₀ base outer h₀) (F : Fr h₀ L s.heap m) (X₀ : K.In h₀) (N : News h₀ L s.heap (used ++ rest)) (T : Top p loose mean mg mb h₀) (dis : ∀ q ∈ rest, ∀ u ∈ used, q.1 ≠ u.1)
    (hA : A.frames = some (env :: outer)) (hf : env.frame = some L) (hke : env.scope.kind = .function)
    (ho : K.lookup f = some ⟨oc, od, .func (fnOf name qual params body scope dV kV doc pm an cdv ct), osl⟩) (hcd : codeIn K cdv qual = true) (hroom : A.depth < recursionLimit)
    (hbind : BindsTo s (fnOf name qual params body scope dV kV doc pm an cdv ct) args binds) (hkind : (binds.all fun y => scope.names.lookup y.1 == some .local || scope.names.lookup y.1 == some .cell) = true)
    (hnd : ((cellsFrom 0 scope.names []).map (·.1)).Nodup)
    (h : ∀ g L' h₁ tk cells, Fr h₀ L g m → Fr g L' h₁ (bindL (envOfC qual scope L' f cdv).kindOf binds fun _ => none) → News g L' h₁ (cells ++ used) →
      CellsAre (bindC (envOfC qual scope L' f cdv).kindOf binds fun _ => none) (cellsFrom (L' + 1) scope.names []) cells → Below A base (env :: outer) g → K.In g → Top p loose mean mg mb g → (∀ p ∈ used, p.1 < L') →
      wpAny (model prog w) (A.deeper (envOfC qual scope L' f cdv)) (execs body (envOfC qual scope L' f cdv))
        (fun fl s' => LeaveK h₀ L m g (fun r s' => (∀ n, News h₀ L s'.heap n → News h₀ L s'.heap (n ++ rest)) → R r s') (match fl with | .ret v => v | _ => .none) s')
        (fun e s' => wpAny (model prog w) (A.deeper (envOfC qual scope L' f cdv)) (leaving (envOfC qual scope L' f cdv) e) (fun _ s'' => R (.error e) s'') (fun e' s'' => R (.error e') s'') s')
        { s with heap := h₁, toks := tk })
    (hco : scope.isCoroutine = false) (hgen : scope.isGenerator = false) (hk : scope.kind = .function) : codeAny (model prog w) A (.call (.ref f) args) R s := by
  have N' : News h₀ L s.heap used := News.sub N fun q hq => List.mem_append_left _ hq
  obtain ⟨FG, BG, st, lv⟩ := groundX (R := R) B F N' hA hf hke
  refine codeAny_call_function hroom ((X₀.keeps F.keep) _ _ ho) rfl hco hgen rfl (codeRec_of (X₀.keeps F.keep) hcd) (hbind _ _ _ _ ?_)
  refine wpAny_newFunctionEnv_cells hk (kindsX hkind _) fun env' he s' x => ?_
  subst he
  refine ⟨(T.nolimit.keeps F.keep).keeps x.toInCall.keep, codeAny_func ?_⟩
  obtain ⟨h₁, tk, rfl, _⟩ := x.done
  have up := x.toInCall.keep
  obtain ⟨cells, NC, Y⟩ := Cl.news (h₀ := s.heap) (Nat.le_refl _) fun n c hm => ⟨x.cell n c (lookup_of_mem_nodup (cellsFrom_names scope.names 0 (s.heap.objs.size + 1) [] [] rfl ▸ hnd) hm), x.above n c hm⟩
  refine wpAny_mono (h _ s.heap.objs.size h₁ tk cells FG ⟨x.toInCall.ns, fun b o e => up b o (of_hideAll _ e), Nat.le_of_eq (hideAll_size _ _)⟩ (fun q hq => ?_) Y BG (X₀.keeps st) (T.keeps st) (fun q hq => Heap.lt_size (N' q hq).1)) (fun fl s' hl => ?_) fun _ _ y => y
  · rcases List.mem_append.mp hq with hq | hq
    · refine ⟨(NC q hq).1, (NC q hq).2.1, ?_⟩
      cases z : (hideAll s.heap (used.map (·.1))).get? q.1 with
      | none => rfl
      | some o => have := of_hideAll _ z; rw [(NC q hq).2.2] at this; cases this
    · exact ⟨up _ _ (N' q hq).1, Nat.ne_of_lt (Heap.lt_size (N' q hq).1), hideAll_none _ (List.mem_map_of_mem hq)⟩
  · obtain ⟨L', m', n', F', Nn, k⟩ := hl
    refine lv _ _ ⟨L', m', n', F', Nn, fun kF kN => k kF kN fun n hn q hq => ?_⟩
    rcases List.mem_append.mp hq with hq | hq
    · exact hn q hq
    · have hN := N q (List.mem_append_right _ hq)
      refine ⟨F'.keep _ _ (hideAll_get _ hN.1 fun hm => ?_), hN.2⟩
      obtain ⟨u, hu, e⟩ := List.mem_map.mp hm
      exact dis q hq u hu e.symm
end
end Mine
end SL21
section SN01
open PySem PySem.W PyProof.Rows PySem.W.X
namespace Mine
noncomputable def apart (used news : List (Addr × Obj)) : List (Addr × Obj) := news.filter fun q => !(used.any fun u => @decide (@Eq Nat q.1 u.1) inferInstance)
theorem apart_dis {used news : List (Addr × Obj)} : ∀ q ∈ apart used news, ∀ u ∈ used, q.1 ≠ u.1 := by
  intro q hq u hu e
  have h := (List.mem_filter.mp hq).2
  have : (used.any fun u => @decide (@Eq Nat q.1 u.1) inferInstance) = true := List.any_eq_true.mpr ⟨u, hu, decide_eq_true e⟩
  rw [this] at h
  exact absurd h (by decide)
theorem apart_news {h₀ h : Heap} {L : Addr} {used news : List (Addr × Obj)} (N : News h₀ L h news) (hu : ∀ q ∈ used, q ∈ news) : News h₀ L h (used ++ apart used news) := by
  intro q hq
  rcases List.mem_append.mp hq with hq | hq
  · exact N q (hu q hq)
  · exact N q (List.mem_filter.mp hq).1
theorem apart_back {h₀ h h' : Heap} {L L' : Addr} {used news n : List (Addr × Obj)} (N : News h₀ L h news) (hu : ∀ q ∈ used, q ∈ news) (N' : News h₀ L' h' (n ++ apart used news)) (hn : ∀ q ∈ used, q ∈ n) : News h₀ L' h' (n ++ news) := by
  intro q hq
  rcases List.mem_append.mp hq with hq | hq
  · exact N' q (List.mem_append_left _ hq)
  · by_cases hs : (used.any fun u => @decide (@Eq Nat q.1 u.1) inferInstance) = true
    · obtain ⟨u, hu1, e⟩ := List.any_eq_true.mp hs
      have e : q.1 = u.1 := of_decide_eq_true e
      have h1 := (N q hq).1
      have h2 := (N u (hu u hu1)).1
      rw [e, h2] at h1
      have : q = u := Prod.ext e (Option.some.inj h1).symm
      rw [this]
      exact N' u (List.mem_append_left _ (hn u hu1))
    · refine N' q (List.mem_append_right _ (List.mem_filter.mpr ⟨hq, ?_⟩))
      simp only [Bool.not_eq_true] at hs
      rw [hs]; rfl
end Mine
namespace Mine
open PySem PySem.W PyProof.Rows PySem.W.X
theorem parts {h₀ h : Heap} {L : Addr} {news : List (Addr × Obj)} (used : List (Addr × Obj)) (N : News h₀ L h news) (hu : ∀ q ∈ used, q ∈ news) :
    ∃ rest, (∀ q ∈ rest, ∀ u ∈ used, q.1 ≠ u.1) ∧ News h₀ L h (used ++ rest) ∧ ∀ L' h' n, (∀ q ∈ used, q ∈ n) → News h₀ L' h' (n ++ rest) → News h₀ L' h' (n ++ news) :=
  ⟨apart used news, apart_dis, apart_news N hu, fun _ _ _ hn N' => apart_back N hu N' hn⟩
end Mine
end SN01
section SN02
open PySem PySem.W PyProof.Rows PySem.W.X
namespace Mine
noncomputable abbrev Wd := List Nat
noncomputable def rotElt (f : Int) (size : Nat) (told : List Wd) (place : Nat) : Wd :=
  let w := told.getD (((place : Int) - f).fmod size).toNat []
  let turns := if (size : Int).fmod 2 = 0 then f else -(((place : Int) - f).fdiv size)
  if turns.fmod 2 = 1 then w.reverse else w
noncomputable def rot (f : Int) (size : Nat) (told : List Wd) : List Wd := (List.range size).map (rotElt f size told) ++ told.drop size
noncomputable def toldAt (ws : List Wd) (fs : List Int) : Nat → List Wd
  | 0 => ws
  | k + 1 => rot (fs.getD k 0) (ws.length - k) (toldAt ws fs k)
theorem rot_length {f : Int} {size : Nat} {told : List Wd} (h : size ≤ told.length) : (rot f size told).length = told.length := by
  unfold rot; simp; omega
theorem toldAt_length (ws : List Wd) (fs : List Int) : ∀ k, (toldAt ws fs k).length = ws.length
  | 0 => rfl
  | k + 1 => by
    show (rot _ _ _).length = _
    rw [rot_length (by rw [toldAt_length ws fs k]; omega), toldAt_length ws fs k]
noncomputable def Tx (vs : List Value) (ws : List Wd) : Prop := StrsAre vs (ws.map S)
theorem Tx.length {vs : List Value} {ws : List Wd} (h : Tx vs ws) : vs.length = ws.length := by
  have := StrsAre.length h
  simpa using this
theorem Tx.get {vs : List Value} {ws : List Wd} (h : Tx vs ws) {i : Nat} (hi : i < ws.length) : ∃ t, vs[i]? = some (.str (S (ws.getD i [])) t) := by
  have e : (ws.map S)[i]? = some (S (ws.getD i [])) := by simp [hi]
  exact StrsAre.get h i _ e
theorem Tx.app {vs us : List Value} {ws xs : List Wd} (h : Tx vs ws) (h' : Tx us xs) : Tx (vs ++ us) (ws ++ xs) := by
  unfold Tx
  rw [List.map_append]
  exact StrsAre.append' h h'
theorem Tx.drop {vs : List Value} {ws : List Wd} (h : Tx vs ws) (k : Nat) : Tx (vs.drop k) (ws.drop k) := by
  unfold Tx
  rw [List.map_drop]
  exact StrsAre.drop' h k
theorem Tx.one (w : Wd) (t : Tok) : Tx [.str (S w) t] [w] := .cons _ _ .nil
theorem Tx.nil : Tx [] [] := StrsAre.nil
theorem S_rev (l : List Nat) (u : Tok) : Txt.sliceBy (S l) none none (-1, u) = S l.reverse := by
  apply str_ext
  rw [step_rev_list]
  have e1 : (S l).length = l.length := List.size_toArray
  rw [e1]
  show (List.range l.length).map (fun k => l.toArray.getD (l.length - 1 - k) 0) = l.reverse.toArray.toList
  apply List.ext_getElem
  · simp
  · intro i h1 h2
    simp only [List.length_map, List.length_range] at h1
    simp only [List.getElem_map, List.getElem_range, List.getElem_reverse]
    rw [Array.getD_eq_getD_getElem?]
    simp only [List.getElem?_toArray]
    rw [List.getElem?_eq_getElem (by omega)]
    rfl
end Mine
end SN02
section SN03
open PySem PySem.W PyProof.Rows PySem.W.X
namespace Mine
section
variable {prog : Program} {w : World} {A : Around} {E : Value → Shared → Prop} {s : Shared} {env : Env} {h₀ : Heap} {x : Str} {body : List Stmt} {Q : Flow → Shared → Prop}
noncomputable def FreeEnd {σ : Type} (h₀ : Heap) (L : Addr) (I : Nat) (own : List (Addr × Obj)) (Led : σ → List (Addr × Obj)) (ps : σ → List (Str × Value)) (x : Str) (stored : List Str) (m₀ : Str → Option Value) (P : σ → Prop) (s₁ s₂ : Shared) : Prop :=
  ∃ c h' tk m' news', s₂ = { s₁ with heap := h', toks := tk } ∧ Fr h₀ L h' m' ∧ News h₀ L h' news' ∧ (∀ p ∈ Led c, p ∈ news') ∧ (∀ p ∈ own, p ∈ news') ∧ (∀ p ∈ Led c, @Ne Nat p.1 I) ∧ (∀ p ∈ ps c, m' p.1 = some p.2) ∧ (∀ z, z ≠ x → (∀ p ∈ ps c, z ≠ p.1) → stored.contains z = false → m' z = m₀ z) ∧ P c
noncomputable def FreePost {σ : Type} (h₀ : Heap) (L : Addr) (I : Nat) (own : List (Addr × Obj)) (Led : σ → List (Addr × Obj)) (ps : σ → List (Str × Value)) (x : Str) (stored : List Str) (m₀ : Str → Option Value) (P : σ → Prop) (s₁ : Shared) (Q : Flow → Shared → Prop) (f : Flow) (s₂ : Shared) : Prop :=
  match f with
  | .ret v => Q (.ret v) s₂
  | .brk => Q .next s₂
  | _ => FreeEnd h₀ L I own Led ps x stored m₀ P s₁ s₂
theorem free_end {σ : Type} {L : Addr} {I : Nat} {own news' : List (Addr × Obj)} {Led : σ → List (Addr × Obj)} {ps : σ → List (Str × Value)} {stored : List Str} {m₀ m' : Str → Option Value} {P : σ → Prop} {h' : Heap} {tk : Nat} (c : σ)
    (F : Fr h₀ L h' m') (N : News h₀ L h' news') (hn : ∀ p ∈ Led c, p ∈ news') (ho : ∀ p ∈ own, p ∈ news') (hI : ∀ p ∈ Led c, @Ne Nat p.1 I) (hk : ∀ p ∈ ps c, m' p.1 = some p.2) (hr : ∀ z, z ≠ x → (∀ p ∈ ps c, z ≠ p.1) → stored.contains z = false → m' z = m₀ z) (hp : P c) :
    FreePost h₀ L I own Led ps x stored m₀ P s Q .next { s with heap := h', toks := tk } := ⟨c, h', tk, m', news', rfl, F, N, hn, ho, hI, hk, hr, hp⟩
theorem loop_walkF {σ : Type} {n : Nat} {fp : List Addr} {PV : Nat → Value → Prop} {St : Nat → Heap → Prop} {o : Obj} {m₀ : Str → Option Value} (Led : σ → List (Addr × Obj)) (ps : σ → List (Str × Value)) (stored : List Str) (P : Nat → σ → Prop) (c₀ : σ)
    (W : Walks prog w A s.heap.objs.size fp [s.heap.objs.size] n PV St) (hL : env.locals ∉ fp) (hfp : s.heap.objs.size ∈ fp) (hst : St 0 (s.heap.push o)) (hIo : ∀ i h, St i h → ∃ oI, h.get? s.heap.objs.size = some oI)
    (F : Fr h₀ env.locals s.heap m₀) (N : News h₀ env.locals s.heap (Led c₀)) (hk : ∀ p ∈ ps c₀, m₀ p.1 = some p.2) (hp : P 0 c₀)
    (turn : ∀ (c : σ) (i : Nat) (v : Value) (u : Str → Option Value) h tk own, i < n → PV i v → (∀ p ∈ Led c, @Ne Nat p.1 s.heap.objs.size) → (∃ o, (s.heap.objs.size, o) ∈ own) → (∀ p ∈ own, p.1 ∈ fp) → P i c →
      Fr h₀ env.locals h (fun y => if y = x then some v else kstB (fun z => if stored.contains z then u z else m₀ z) (ps c) y) → News h₀ env.locals h (Led c ++ own) →
      wpAny (model prog w) A (execs body env) (FreePost h₀ env.locals s.heap.objs.size own Led ps x stored m₀ (P (i + 1)) { s with heap := h, toks := tk } Q) E { s with heap := h, toks := tk })
    (done : ∀ (c : σ) (u : Str → Option Value) h tk, P n c → Fr h₀ env.locals h (fun y => if y = x then u y else kstB (fun z => if stored.contains z then u z else m₀ z) (ps c) y) → News h₀ env.locals h (Led c) → Q .next { s with heap := h, toks := tk }) :
    LoopAtV prog w A h₀ env x body Q E (.ref s.heap.objs.size) { s with heap := s.heap.push o } := by
  have hnone : h₀.get? s.heap.objs.size = none := next_is_new F
  refine ⟨_, _, _, n, _, _, m₀, Led c₀, fun i m₁ news₁ => ∃ c : σ, news₁ = Led c ∧ (∀ p ∈ ps c, m₁ p.1 = some p.2) ∧ (∀ z, z ≠ x → (∀ p ∈ ps c, z ≠ p.1) → stored.contains z = false → m₁ z = m₀ z) ∧ P i c, rfl, W, hL, ?_, ?_, hst, F.push _, (fun p hp => ⟨Heap.get?_push_of_some _ (N p hp).1, (N p hp).2⟩), ⟨c₀, rfl, hk, fun _ _ _ _ => rfl, hp⟩, ?_, ?_⟩
  · intro b hb
    rw [List.mem_singleton.mp hb]
    exact hnone
  · intro p hp hI
    exact absurd (Heap.lt_size (N p hp).1) ((List.mem_singleton.mp hI) ▸ Nat.lt_irrefl _)
  · rintro i v m₁ news₁ s₁ own ⟨hh', tk', rfl⟩ hin hv ⟨c, rfl, h1, h2, hp'⟩ hoff hown _ hall hst F₁ N₁
    obtain ⟨oI, hoI⟩ := hIo _ _ hst
    have hIo : ∃ o, (s.heap.objs.size, o) ∈ own := ⟨_, hall _ hfp hnone _ hoI⟩
    have N₂ : News h₀ env.locals hh' (Led c ++ own) := fun p hp => N₁ p ((List.mem_append.mp hp).elim (fun h => List.mem_append.mpr (.inr h)) fun h => List.mem_append.mpr (.inl h))
    refine wpAny_mono (turn c i v m₁ hh' tk' own hin hv (fun p hp e => hoff p hp (List.mem_singleton.mpr e)) hIo hown hp' (kst_fr h1 h2 F₁) N₂) (fun f s₂ p => ?_) fun _ _ e => e
    have fin : FreeEnd h₀ env.locals s.heap.objs.size own Led ps x stored m₀ (P (i + 1)) { s with heap := hh', toks := tk' } s₂ → LoopStepU h₀ env.locals [s.heap.objs.size] own (fun m₁ news₁ => ∃ c : σ, news₁ = Led c ∧ (∀ p ∈ ps c, m₁ p.1 = some p.2) ∧ (∀ z, z ≠ x → (∀ p ∈ ps c, z ≠ p.1) → stored.contains z = false → m₁ z = m₀ z) ∧ P (i + 1) c) { s with heap := hh', toks := tk' } .next s₂ := by
      rintro ⟨c', h', tk, m', news', e, F', N', hn', ho', hI', hk', hr', hp9⟩
      refine ⟨rfl, h', tk, m', Led c', e, F', fun p hp => N' p ((List.mem_append.mp hp).elim (ho' p) (hn' p)), fun p hp hm => hI' p hp (List.mem_singleton.mp hm), c', rfl, hk', hr', hp9⟩
    cases f with
    | ret v => exact .ret p
    | brk => exact .brk p
    | next => exact .next (fin p)
    | cont => exact .cont (fin p)
  · rintro h' tk m' news' F' N' _ ⟨c, rfl, h1, h2, hp'⟩
    exact done c m' h' tk hp' (kst_frOut h1 h2 F') N'
theorem kst_rangeF {σ : Type} {r : Addr} {a₀ b₀ : Int} {t₀ u₀ v₀ : Tok} {n : Nat} {m₀ : Str → Option Value} (Led : σ → List (Addr × Obj)) (ps : σ → List (Str × Value)) (stored : List Str) (P : Nat → σ → Prop) (c₀ : σ)
    (hh : A.handled = none) (hr : IsRange s.heap r a₀ b₀ 1 t₀ u₀ v₀) (hsmall : Builtin.Range.small a₀ b₀ 1 = true) (hn : Builtin.Range.rangeSize a₀ b₀ 1 = (n : Int)) (F : Fr h₀ env.locals s.heap m₀) (N : News h₀ env.locals s.heap (Led c₀)) (hk : ∀ p ∈ ps c₀, m₀ p.1 = some p.2) (hp : P 0 c₀)
    (turn : ∀ (I : Nat) (c : σ) (i : Nat) t (u : Str → Option Value) h tk own, i < n → (∀ p ∈ Led c, @Ne Nat p.1 I) → (∃ o, (I, o) ∈ own) → (∀ p ∈ own, @Eq Nat p.1 I) → P i c →
      Fr h₀ env.locals h (fun y => if y = x then some (.int (a₀ + (i : Int)) t) else kstB (fun z => if stored.contains z then u z else m₀ z) (ps c) y) → News h₀ env.locals h (Led c ++ own) →
      wpAny (model prog w) A (execs body env) (FreePost h₀ env.locals I own Led ps x stored m₀ (P (i + 1)) { s with heap := h, toks := tk } Q) E { s with heap := h, toks := tk })
    (done : ∀ (c : σ) (u : Str → Option Value) h tk, P n c → Fr h₀ env.locals h (fun y => if y = x then u y else kstB (fun z => if stored.contains z then u z else m₀ z) (ps c) y) → News h₀ env.locals h (Led c) → Q .next { s with heap := h, toks := tk }) :
    wpAny (model prog w) A (pyIter (.ref r)) (fun it s₂ => LoopAtV prog w A h₀ env x body Q E it s₂) E s := by
  refine wpAny_pyIter_range hr hsmall ?_
  have hLI : env.locals ≠ s.heap.objs.size := Nat.ne_of_lt F.ns.lt
  refine loop_walkF (St := fun i h => IsRangeIter h s.heap.objs.size (a₀ + (i : Nat) * 1) ((n : Int) - (i : Nat)) 1) (PV := fun i v => i < n ∧ ∃ t, v = .int (a₀ + i * 1) t) Led ps stored P c₀ (Walks.range hh _ a₀ 1 n).bound (fun hm => hLI (List.mem_singleton.mp hm)) (.head _) (by show IsRangeIter _ _ _ _ _; rw [hn]; simpa using Heap.get?_push_size _ rfl) (fun i h st => ⟨_, st⟩) F N hk hp (fun c i v u h tk own hin hv h1 h2 h3 h4 F9 N9 => ?_) done
  obtain ⟨_, t, rfl⟩ := hv
  rw [Int.mul_one] at F9
  exact turn _ c i t u h tk own hin h1 h2 (fun p hp => List.mem_singleton.mp (h3 p hp)) h4 F9 N9
end
end Mine
end SN03
section SN04
open PySem PySem.W PyProof.Rows PySem.W.X


namespace Mine
noncomputable section

theorem len_made {prog : Program} {w : World} {A : Around} {E : Value → Shared → Prop} {s : Shared} {l : Addr} {vs : List Value} {Q : Value → Shared → Prop} (n : Nat) (hl : s.heap.IsList l vs.toArray) (e : vs.length = n) (hn : n < 1000)
    (h : Q (.int n (s.toks + 1)) { s with toks := s.toks + 1 + 1 }) : wpAny (model prog w) A (call (.builtin "len") [.ref l]) Q E s := by
  subst e
  have e1 : (vs.toArray.size : Nat) = vs.length := by simp
  refine PyProof.Rows.len_list hl (by rw [e1]; omega) ?_
  rw [e1]
  exact h
theorem pick_from (vs : List Value) (x : Nat) (hx : x ≤ vs.length) : slicePick vs.toArray (some (x : Int)) none none = (vs.drop x).toArray := by
  have e : sliceBounds (some (x : Int)) none none vs.toArray.size = ((x : Int), ((vs.length : Nat) : Int), 1) := by
    simp only [sliceBounds, Option.getD_none, List.size_toArray, show (1 : Int) > 0 by decide, if_true]
    rw [if_neg (by omega)]
    congr 1
    omega
  rw [kmk_pick_nat _ e, List.take_of_length_le (by simp)]
theorem rotElt_len {f : Int} {sz : Nat} {told : List Wd} {p : Nat} (h0 : 0 < sz) (h1 : sz ≤ told.length) (h : ∀ x ∈ told, x.length = 2) : (rotElt f sz told p).length = 2 := by
  have hi : (((p : Int) - f).fmod sz).toNat < told.length := by
    have a := Int.fmod_nonneg_of_pos ((p : Int) - f) (b := (sz : Int)) (by omega)
    have b := Int.fmod_lt_of_pos ((p : Int) - f) (b := (sz : Int)) (by omega)
    omega
  have hm : (told.getD (((p : Int) - f).fmod sz).toNat []).length = 2 := by
    have : told.getD (((p : Int) - f).fmod sz).toNat [] = told[(((p : Int) - f).fmod sz).toNat] := by simp [hi]
    rw [this]
    exact h _ (List.getElem_mem hi)
  unfold rotElt
  dsimp only
  generalize told.getD (((p : Int) - f).fmod sz).toNat [] = wd at hm
  have e : ∀ c : Prop, [Decidable c] → (if c then wd.reverse else wd).length = 2 := fun c _ => by
    split
    · rw [List.length_reverse]; exact hm
    · exact hm
  exact e _
theorem toldAt_two {ws : List Wd} {fs : List Int} (h : ∀ x ∈ ws, x.length = 2) : ∀ k, k ≤ ws.length → ∀ x ∈ toldAt ws fs k, x.length = 2
  | 0, _ => h
  | k + 1, hk => by
    intro x hx
    have ih := toldAt_two (fs := fs) h k (by omega)
    rcases List.mem_append.mp hx with hx | hx
    · obtain ⟨p, _, rfl⟩ := List.mem_map.mp hx
      exact rotElt_len (by omega) (by rw [toldAt_length]; omega) ih
    · exact ih x (List.mem_of_mem_drop hx)
theorem kst_end {σ : Type} {h₀ : Heap} {L : Addr} {s : Shared} {Q : Flow → Shared → Prop} {x : Str} {Led : σ → List (Addr × Obj)} {ps : σ → List (Str × Value)} {Facts : σ → Prop} {stored : List Str} {m₀ m' : Str → Option Value} {P : List Int → σ → Prop} {pre : List Int} {own news' : List (Addr × Obj)} {adr : List Addr} {h' : Heap} {tk : Nat} (c' : σ)
    (F : Fr h₀ L h' m') (N : News h₀ L h' news') (ha : (Led c').map (·.1) = adr) (hn : ∀ p ∈ Led c', p ∈ news') (ho : ∀ p ∈ own, p ∈ news') (hf : Facts c') (hk : ∀ p ∈ ps c', m' p.1 = some p.2) (hr : ∀ z, z ≠ x → (∀ p ∈ ps c', z ≠ p.1) → stored.contains z = false → m' z = m₀ z) (hp : P pre c') :
    InvPostN h₀ L (KstS Led ps Facts x stored m₀ P pre) own adr s Q .next { s with heap := h', toks := tk } := InvEndN.intro F N ⟨c', rfl, hf, hk, hr, hp⟩ ha hn ho
theorem rotElt_at {f : Int} {sz : Nat} {told : List Wd} {p : Nat} {wd : Wd} (h : told.getD (((p : Int) - f).fmod sz).toNat [] = wd) (t : Int) (ht : (if (sz : Int).fmod 2 = 0 then f else -(((p : Int) - f).fdiv sz)) = t) : rotElt f sz told p = if t.fmod 2 = 1 then wd.reverse else wd := by
  unfold rotElt
  dsimp only
  rw [h, ht]
structure TO where
  l : Nat
  vs : List Value
  n : Nat

theorem c_told (w : World) (news) (lw lf : Nat) (vs : List Value) (ws : List Wd) (k1 : Nat) (fvs : List Value) (fs : List Int) (k2 : Nat)
   (hvs : Tx vs ws) (hfs : IntsAre fvs fs) (hNF : Hold (ws.length ≤ 4 ∧ fs.length ≤ ws.length)) (hw2 : ∀ x ∈ ws, x.length = 2) (hf : ∀ f ∈ fs, 0 ≤ f ∧ f ≤ 13) (hne : lf ≠ lw)
   (hw : (lw, listOf vs.toArray k1) ∈ news) (hfm : (lf, listOf fvs.toArray k2) ∈ news) :
   Ctr PySem.Challenge.rw_qw0075_02.row.prog w (Mine.frag.heap_1 w.params) 130 1100 876 [Value.ref lw, Value.ref lf] news (fun v n' => ∃ l vs' n, v = .ref l ∧ Tx vs' (toldAt ws fs fs.length) ∧ n' = (l, listOf vs'.toArray n) :: news) := by
  k_fill
  refine ctr_of fun cx => ?_
  revert k1 hvs hfs hNF hw2 hf hne hw hfm
  revert w news lw lf vs ws fvs fs k2 cx
  refine id ?_
  refine' (let rec cx : Pk10 _ := pk10 (by repeat' first | exact ne_world | exact ne_cx | exact ⟨default⟩ | refine ne_prod ?_ ?_) _; Pk10.use cx ?_)
  unfold CtrX CtrB
  generalize cx.1.2.2.2.2.2.2.2.2.2.p = p
  generalize cx.1.2.2.2.2.2.2.2.2.2.loose = loose
  generalize cx.1.2.2.2.2.2.2.2.2.2.mean = mean
  generalize cx.1.2.2.2.2.2.2.2.2.2.mg = mg
  generalize cx.1.2.2.2.2.2.2.2.2.2.mb = mb
  generalize cx.1.2.2.2.2.2.2.2.2.2.dp = dp
  generalize cx.1.2.2.2.2.2.2.2.2.2.un = un
  generalize cx.1.2.2.2.2.2.2.2.2.2.gd = gd
  generalize cx.1.2.2.2.2.2.2.2.2.2.cn = cn
  generalize cx.1.2.2.2.2.2.2.2.2.2.cs = cs
  generalize cx.1.2.2.2.2.2.2.2.2.2.a = a
  generalize cx.1.2.2.2.2.2.2.2.2.2.ccd = ccd
  generalize cx.1.2.2.2.2.2.2.2.2.2.cl = cl
  generalize cx.1.2.2.2.2.2.2.2.2.2.outer = outer
  generalize cx.1.2.2.2.2.2.2.2.2.2.A₀ = A₀
  generalize cx.1.2.2.2.2.2.2.2.2.2.base = base
  generalize cx.1.2.2.2.2.2.2.2.2.2.h₀ = h₀
  generalize cx.1.2.2.2.2.2.2.2.2.2.L = L
  generalize cx.1.2.2.2.2.2.2.2.2.2.m = m
  generalize cx.1.2.2.2.2.2.2.2.2.2.s = s
  generalize cx.1.2.2.2.2.2.2.2.2.2.Q = Q
  generalize cx.1.2.2.2.2.2.2.2.2.2.E = E
  generalize cx.1.1 = w
  generalize cx.1.2.1 = news
  generalize cx.1.2.2.1 = lw
  generalize cx.1.2.2.2.1 = lf
  generalize cx.1.2.2.2.2.1 = vs
  generalize cx.1.2.2.2.2.2.1 = ws
  generalize cx.1.2.2.2.2.2.2.1 = fvs
  generalize cx.1.2.2.2.2.2.2.2.1 = fs
  generalize cx.1.2.2.2.2.2.2.2.2.1 = k2
  clear cx
  intro k1 hvs hfs hNF hw2 hf hne hw hfm B F X N T hk hd hu hret
  have hus : ∀ q ∈ [(lw, listOf vs.toArray k1), (lf, listOf fvs.toArray k2)], q ∈ news := by
    intro q hq
    simp only [List.mem_cons, List.not_mem_nil, or_false] at hq
    rcases hq with rfl | rfl <;> assumption
  obtain ⟨rest, hdis, N0, hback⟩ := parts _ N hus
  clear N
  k_with_none
  have hvl := Tx.length hvs
  have hfl := IntsAre.length hfs
  have hw1000 : Hold (ws.length < 1000) := Nat.lt_of_le_of_lt hNF.1 (by decide)
  have hf1000 : Hold (fs.length < 1000) := Nat.lt_of_le_of_lt hNF.2 hw1000
  k_with "call builtin:len" => (k_dflt (first | refine len_made fs.length (by is_list) hfl hf1000 ?_ | refine len_made ws.length (by is_list) hvl hw1000 ?_))
  k_with "call type:range" => (rename Fr _ _ _ _ => F9; rename News _ _ _ _ => N9; (with_unfolding_all refine range1_rows F9 N9 ?_); intro _ _ _ _ _ _ _ _ _)
  k_with "pyIter ref" => (refine Hold.out ?_)
  refine wpAny_call ?_
  k_dflt (refine' code_def0 ?k1 ?k2 ?k3 ?k4 ?k5 ?kd ?kA ?kF ?kK ?k6 ?k7 ?k8 ?k9 ?kB ?_ ?c2 ?c3 ?c4 ?c5; (case kA => exact rfl); (case kF => exact rfl); (case kK => first | exact rfl | assumption); (case k1 => k_asm); (case k2 => k_asm); (case k3 => k_asm); (case k4 => assumption); (case k5 => k_asm); (case kd => assumption); (case k6 => k_is); (case k7 => k_is); (case k8 => k_room); (case k9 => first | exact BindsTo.of_eq rfl | exact binds_K (by k_in) rfl (by k_is) rfl rfl rfl | fail "k_enter: no rule for these arguments"); (case c5 => decide); (case kB => exact locs rfl); (case c2 => exact rfl); (case c3 => exact rfl); (case c4 => exact rfl); k_whole; intro g' L' h' FG' F' N' B' X' T'; (try dsimp only); (try k_lift B'); (try k_fold))
  k_steps
  unfold Hold
  rename Fr _ _ _ _ => lF
  rename News _ _ _ _ => lN
  rename IsRange _ _ _ _ _ _ _ _ => rgX
  refine kst_rangeF (σ := TO) (n := fs.length) (fun c => (c.l, listOf c.vs.toArray c.n) :: [(lw, listOf vs.toArray k1), (lf, listOf fvs.toArray k2)]) (fun c => [("told", .ref c.l)]) ["size", "front", "place", "word", "turns"]
    (fun i c => Tx c.vs (toldAt ws fs i)) ⟨lw, vs, k1⟩ rfl rgX ?sm ?rn lF (News.sub lN ?sb) ?ps hvs ?_ ?_
  case sm => exact small_one (by decide) (by decide) (by have := hf1000; unfold Hold at this; omega) (by have := hf1000; unfold Hold at this; omega)
  case rn => rw [rangeSize_nat]; omega
  case sb => (intro q hq; simp only [List.mem_cons, List.not_mem_nil, or_false] at hq ⊢; rcases hq with rfl | rfl | rfl <;> simp)
  case ps => (intro q hq; obtain rfl := List.mem_singleton.mp hq; rfl)
  · clear lF lN rgX
    intro I9 c i9 t9 u9 h9 tk9 own9 hlen9 hLI9 hIo9 hIown9 hP9 F9 N9
    obtain ⟨oI9, hIo9⟩ := hIo9
    obtain ⟨l9, vs9, n9⟩ := c
    dsimp only at hP9 F9 N9 hLI9
    have hlt9 := (Tx.length hP9).trans (toldAt_length ws fs i9)
    obtain ⟨tf9, hf9⟩ := IntsAre.get hfs i9 (fs.getD i9 0) (by simp [hlen9])
    k_with "InvPostN" => refine Hold.out ?_
    k_with "FreePost" => refine Hold.out ?_
    k_with "binaryOp Sub int int" => (with_reducible refine PyProof.Rows.sub_int ?_)
    have hfr := hf _ (List.getElem_mem hlen9)
    have hfe : fs.getD i9 0 = fs[i9] := by simp [hlen9]
    rw [hfe] at hf9
    generalize fs[i9] = f at hfr hfe hf9
    have hpl : ((0 : Int) + (i9 : Int)).toNat = i9 := by omega
    have hpb : (0 : Int) ≤ 0 + (i9 : Int) ∧ (0 : Int) + (i9 : Int) < 2 ^ 63 := by have := hf1000; unfold Hold at this; omega
    have hft : fvs[((0 : Int) + (i9 : Int)).toNat]? = some (.int f tf9) := by rw [hpl]; exact hf9
    k_with "subscriptTail Name Name ref int" => (k_dflt (first | refine item_listL (by is_list) hpb.1 hpb.2 hft ?_ | refine Hold.out ?_))
    k_steps
    unfold Hold
    rename Fr _ _ _ _ => lF
    rename News _ _ _ _ => lN
    rename IsRange _ _ _ _ _ _ _ _ => rgX
    rename (∀ p : Addr × Obj, p ∈ _ → p.1 < _) => l1
    have hsz : (0 : Int) < (ws.length : Int) - (0 + (i9 : Int)) ∧ (ws.length : Int) - (0 + (i9 : Int)) ≤ 4 := by have := hNF; unfold Hold at this; omega
    obtain ⟨sz, hsize⟩ : ∃ sz : Nat, (ws.length : Int) - (0 + (i9 : Int)) = (sz : Int) := ⟨((ws.length : Int) - (0 + (i9 : Int))).toNat, by omega⟩
    rw [hsize] at lF rgX hsz
    refine kst_range (σ := List Value × Nat) (n := sz) (fun c => (_, listOf c.1.toArray c.2) :: ([(l9, listOf vs9.toArray n9), (lw, listOf vs.toArray k1), (lf, listOf fvs.toArray k2)] ++ own9)) (fun c => []) (fun _ => True) ["word", "turns"]
      (fun pre' c => Tx c.1 ((List.range pre'.length).map (rotElt f sz (toldAt ws fs i9)))) ⟨[], 0⟩ rfl rgX ?sm ?rn lF lN trivial ?ps Tx.nil ?_ ?_
    case sm => exact small_one (by decide) (by decide) (by omega) (by omega)
    case rn => rw [rangeSize_nat]; omega
    case ps => (intro q hq; cases hq)
    · clear lF lN rgX
      intro c' pre' k9' t9' u9' h9' tk9' own9' hk9' hlen9' hoff9' _ hP9' F9 N9
      rw [Int.zero_add] at hk9'
      subst hk9'
      have hi1 := Int.fmod_nonneg_of_pos ((pre'.length : Int) - f) (b := (sz : Int)) hsz.1
      have hi2 := Int.fmod_lt_of_pos ((pre'.length : Int) - f) (b := (sz : Int)) hsz.1
      have htl := toldAt_length ws fs i9
      have hil : (((pre'.length : Int) - f).fmod (sz : Int)).toNat < (toldAt ws fs i9).length := by omega
      obtain ⟨tg, hg⟩ := Tx.get hP9 hil
      have hwl : (S ((toldAt ws fs i9).getD (((pre'.length : Int) - f).fmod (sz : Int)).toNat [])).length ≤ 10 := by
        rw [S_len]
        have := toldAt_two (fs := fs) hw2 i9 (by have := hNF; unfold Hold at this; omega) _ (List.getElem_mem hil)
        have e : (toldAt ws fs i9).getD (((pre'.length : Int) - f).fmod (sz : Int)).toNat [] = (toldAt ws fs i9)[(((pre'.length : Int) - f).fmod (sz : Int)).toNat] := by simp [hil]
        rw [e]; omega
      generalize hwd : (toldAt ws fs i9).getD (((pre'.length : Int) - f).fmod (sz : Int)).toNat [] = wd at hg hwl
      obtain ⟨vs9', n9'⟩ := c'
      dsimp only at hP9' F9 N9
      have hall9 : ∀ q ∈ ([(l9, listOf vs9.toArray n9), (lw, listOf vs.toArray k1), (lf, listOf fvs.toArray k2)] ++ own9) ++ own9', q.1 ≠ _ :=
        fun q hq => (List.mem_append.mp hq).elim (fun hq => Nat.ne_of_lt (l1 q hq)) fun hq => OwnOff.ne hoff9' (.head _) q hq
      have hsz9 : vs9'.toArray.size ≤ sizeLine := by
        have e1 := Tx.length hP9'
        simp only [List.length_map, List.length_range] at e1
        simp only [List.size_toArray, sizeLine]
        omega
      k_with "call builtin:list.append" => (k_dflt (first | (refine append_K (its := vs9'.toArray) (n := n9') (by k_asm) (by k_asm) (Upd.head hall9) ?_ hsz9; intro h9 F9 N9; rw [List.push_toArray] at N9; (try rw [S_rev] at N9)) | refine Hold.out ?_))
      k_with "subscriptTail Name BinOp ref int" => (k_dflt (first | refine item_listL (by is_list) hi1 (by omega) hg ?_ | refine Hold.out ?_))
      k_steps
      all_goals (
        unfold Hold
        rename Fr _ _ _ _ => nF
        rename News _ _ _ _ => nN
        refine kst_end (vs9' ++ [_], n9' + 1) nF nN rfl (fun q hq => List.mem_append_left own9' hq) (fun q hq => List.Mem.tail _ (List.mem_append_right _ hq)) trivial (fun q hq => nomatch hq) ?hr ?hp
        case hr =>
          intro z z1 z2 z3
          have z4 : z ≠ Str.ofString "turns" := fun e => by rw [e] at z3; exact absurd z3 (by decide +kernel)
          have z5 : z ≠ Str.ofString "word" := fun e => by rw [e] at z3; exact absurd z3 (by decide +kernel)
          rw [if_neg z4, if_neg z5, if_neg z1]
          show (if _ = true then _ else _) = _
          rw [z3]
          rfl
        case hp =>
          rw [List.length_append, List.length_singleton, List.range_succ, List.map_append]
          refine Tx.app hP9' ?_
          show Tx _ [rotElt _ _ _ _]
          first
          | (rw [rotElt_at hwd f (if_pos (by assumption)), if_pos (by assumption)]; exact Tx.one _ _)
          | (rw [rotElt_at hwd f (if_pos (by assumption)), if_neg (by assumption)]; exact Tx.one _ _)
          | (rw [rotElt_at hwd _ (if_neg (by assumption)), if_pos (by assumption)]; exact Tx.one _ _)
          | (rw [rotElt_at hwd _ (if_neg (by assumption)), if_neg (by assumption)]; exact Tx.one _ _))
    · intro c' u9' h9' tk9' _ hP9' F9 N9
      obtain ⟨vs9', n9'⟩ := c'
      dsimp only at hP9' F9 N9
      have hl9 := Tx.length hP9'
      simp only [rangeKs_length, List.length_map, List.length_range] at hl9
      have hsz9 : vs9.toArray.size ≤ sizeLine := by (have := hNF; unfold Hold at this; simp only [List.size_toArray, sizeLine]; omega)
      k_with "subscriptTail Name Slice ref ref" => (k_dflt (first | (rename Fr _ _ _ _ => qF; rename News _ _ _ _ => qN; refine kmk_slice_lit (zs := vs9.drop sz) qF qN (by is_list) (.int _ _) .none (by rw [pick_from _ _ (by omega)]) ?_ (by with_unfolding_all rfl) (by intro _; with_unfolding_all rfl) hsz9; intro D8 h8 F8 N8 l8) | refine Hold.out ?_))
      k_with "binaryOp Add ref ref" => (k_dflt (first | (rename Fr _ _ _ _ => qF; rename News _ _ _ _ => qN; refine kmk_add_lit (zs := vs9' ++ vs9.drop sz) qF qN (by is_list) (by is_list) (by simp only [List.toList_toArray]) ?_ (by simp only [List.size_toArray, List.length_drop, sizeLine] at hsz9 ⊢; omega); intro D7 h7 F7 N7 l7) | refine Hold.out ?_))
      k_steps
      unfold Hold
      rename Fr _ _ _ _ => nF
      rename News _ _ _ _ => nN
      refine free_end (⟨D7, vs9' ++ vs9.drop sz, 0⟩ : TO) nF nN ?hn ?ho ?hI ?hk ?hr ?hp
      case hI =>
        intro q hq
        rcases List.mem_cons.mp hq with rfl | hq
        · exact Nat.ne_of_gt (l7 _ (.tail _ (.tail _ (List.mem_append_right _ hIo9))))
        · exact hLI9 q (.tail _ hq)
      case hn =>
        intro q hq
        rcases List.mem_cons.mp hq with rfl | hq
        · exact List.Mem.head _
        · exact .tail _ (.tail _ (.tail _ (List.mem_append_left _ (.tail _ hq))))
      case ho =>
        intro q hq
        exact .tail _ (.tail _ (.tail _ (List.mem_append_right _ hq)))
      case hk => (intro q hq; obtain rfl := List.mem_singleton.mp hq; rfl)
      case hr =>
        intro z z1 z2 z3
        have z4 : z ≠ Str.ofString "told" := z2 _ (.head _)
        have z5 : z ≠ Str.ofString "size" := fun e => by rw [e] at z3; exact absurd z3 (by decide +kernel)
        have z6 : z ≠ Str.ofString "front" := fun e => by rw [e] at z3; exact absurd z3 (by decide +kernel)
        have z7 : z ≠ Str.ofString "place" := fun e => by rw [e] at z3; exact absurd z3 (by decide +kernel)
        have z8 : z ≠ Str.ofString "word" := fun e => by rw [e] at z3; exact absurd z3 (by decide +kernel)
        have z9 : z ≠ Str.ofString "turns" := fun e => by rw [e] at z3; exact absurd z3 (by decide +kernel)
        have za : [Str.ofString "word", Str.ofString "turns"].contains z = false := by simp [z8, z9]
        rw [if_neg z4, if_neg z7]
        show (if _ = true then _ else _) = _
        rw [za]
        show (if z = _ then _ else if z = _ then _ else if z = _ then _ else if z = _ then _ else if _ = true then _ else _) = _
        rw [if_neg z6, if_neg z5, if_neg z1, if_neg z4, z3]
        rfl
      case hp =>
        show Tx _ (rot (fs.getD i9 0) (ws.length - i9) (toldAt ws fs i9))
        rw [hfe, show ws.length - i9 = sz by omega]
        rw [rangeKs_length] at hP9'
        exact Tx.app hP9' (Tx.drop hP9 sz)
  · clear lF lN rgX
    intro c u9 h9 tk9 hP9 F9 N9
    obtain ⟨l9, vs9, n9⟩ := c
    dsimp only at hP9 F9 N9
    k_steps
    rename (∀ n, News _ _ _ n → News _ _ _ (n ++ _)) => up
    rename Fr h₀ L _ m => nF
    rename News h₀ L _ _ => nN
    exact hret _ _ _ _ ⟨l9, vs9, n9, rfl, hP9, rfl⟩ nF (News.sub (hback _ _ _ (fun q hq => .tail _ hq) (up _ nN)) fun q hq => (List.mem_cons.mp hq).elim (fun e => e ▸ .head _) fun hq => List.mem_append_right _ hq)
end
end Mine
end SN04
section SL22
open PySem PySem.W PyProof.Rows PySem.W.X
namespace Mine
noncomputable section

theorem News.first {h₀ h : Heap} {L : Addr} {q : Addr × Obj} {r news : List (Addr × Obj)} (N : News h₀ L h ((q :: r) ++ news)) : News h₀ L h (q :: news) :=
  News.sub N fun p hp => (List.mem_cons.mp hp).elim (fun e => e ▸ List.mem_append_left _ (.head _)) fun hp => List.mem_append_right _ hp

theorem c_fig4 (w : World) (news) (n : Int) (t0 t1 : Tok) (h0 : 0 ≤ n) (h1 : n < 14)  :
   Ctr PySem.Challenge.rw_qw0075_02.row.prog w (Mine.frag.heap_1 w.params) 130 1100 864 [Value.int 4 t0, Value.int n t1] news (fun v n' => ∃ l ta tb tc k, v = Value.ref l ∧ n' = (l, listOf #[.int ((n.fdiv 2).fdiv 3) ta, .int ((n.fdiv 2).fmod 3) tb, .int (n.fmod 2) tc] k) :: news) := by
  k_fill
  refine ctr_of fun cx => ?_
  revert h0 h1
  revert w news n t0 t1 cx
  refine id ?_
  refine' (let rec cx : Pk6 _ := pk6 (by repeat' first | exact ne_world | exact ne_cx | exact ⟨default⟩ | refine ne_prod ?_ ?_) _; Pk6.use cx ?_)
  unfold CtrX CtrB
  generalize cx.1.2.2.2.2.2.p = p
  generalize cx.1.2.2.2.2.2.loose = loose
  generalize cx.1.2.2.2.2.2.mean = mean
  generalize cx.1.2.2.2.2.2.mg = mg
  generalize cx.1.2.2.2.2.2.mb = mb
  generalize cx.1.2.2.2.2.2.dp = dp
  generalize cx.1.2.2.2.2.2.un = un
  generalize cx.1.2.2.2.2.2.gd = gd
  generalize cx.1.2.2.2.2.2.cn = cn
  generalize cx.1.2.2.2.2.2.cs = cs
  generalize cx.1.2.2.2.2.2.a = a
  generalize cx.1.2.2.2.2.2.ccd = ccd
  generalize cx.1.2.2.2.2.2.cl = cl
  generalize cx.1.2.2.2.2.2.outer = outer
  generalize cx.1.2.2.2.2.2.A₀ = A₀
  generalize cx.1.2.2.2.2.2.base = base
  generalize cx.1.2.2.2.2.2.h₀ = h₀
  generalize cx.1.2.2.2.2.2.L = L
  generalize cx.1.2.2.2.2.2.m = m
  generalize cx.1.2.2.2.2.2.s = s
  generalize cx.1.2.2.2.2.2.Q = Q
  generalize cx.1.2.2.2.2.2.E = E
  generalize cx.1.1 = w
  generalize cx.1.2.1 = news
  generalize cx.1.2.2.1 = n
  generalize cx.1.2.2.2.1 = t0
  generalize cx.1.2.2.2.2.1 = t1
  clear cx
  intro h0 h1 B F X N T hk hd hu hret
  k_with_none
  k_with "eval ListComp" => (k_here; k_dflt (refine LCg.ListComp_U (F₀ := by k_asm) (by with_unfolding_all rfl) (by decide) (by rfl) (by decide) (by rfl) ?_))
  refine wpAny_call ?_
  k_dflt (refine' code_def0 (used := []) ?k1 ?k2 ?k3 ?k4 ?k5 ?kd ?kA ?kF ?kK ?k6 ?k7 ?k8 ?k9 ?kB ?_ ?c2 ?c3 ?c4 ?c5; (case kA => exact rfl); (case kF => exact rfl); (case kK => first | exact rfl | assumption); (case k1 => k_asm); (case k2 => k_asm); (case k3 => k_asm); (case k4 => (refine News.sub ?_ (fun q hq => hq); k_asm)); (case k5 => k_asm); (case kd => exact fun _ _ _ hu => nomatch hu); (case k6 => k_is); (case k7 => k_is); (case k8 => k_room); (case k9 => first | exact BindsTo.of_eq rfl | exact binds_K (by k_in) rfl (by k_is) rfl rfl rfl | fail "k_enter: no rule for these arguments"); (case c5 => decide); (case kB => exact locs rfl); (case c2 => exact rfl); (case c3 => exact rfl); (case c4 => exact rfl); k_whole; intro g' L' h' FG' F' N' B' X' T'; (try dsimp only); (try k_lift B'); (try k_fold))
  k_steps
  rename (∀ n, News _ _ _ n → News _ _ _ (n ++ _)) => up
  rename News _ _ _ _ => nN
  rename Fr _ _ _ _ => nF
  refine hret _ _ _ _ ?_ nF (News.first (up _ nN))
  exact ⟨_, _, _, _, _, rfl, rfl⟩
end
end Mine
end SL22
section SL27
open PySem PySem.W PyProof.Rows PySem.W.X
namespace Mine
noncomputable section

theorem c_fig3 (w : World) (news) (n : Int) (t0 t1 : Tok) (h0 : 0 ≤ n) (h1 : n < 14)  :
   Ctr PySem.Challenge.rw_qw0075_02.row.prog w (Mine.frag.heap_1 w.params) 130 1100 864 [Value.int 3 t0, Value.int n t1] news (fun v n' => ∃ l ta tc k, v = Value.ref l ∧ n' = (l, listOf #[.int (n.fdiv 2) ta, .int (n.fmod 2) tc] k) :: news) := by
  k_fill
  refine ctr_of fun cx => ?_
  revert h0 h1
  revert w news n t0 t1 cx
  refine id ?_
  refine' (let rec cx : Pk6 _ := pk6 (by repeat' first | exact ne_world | exact ne_cx | exact ⟨default⟩ | refine ne_prod ?_ ?_) _; Pk6.use cx ?_)
  unfold CtrX CtrB
  generalize cx.1.2.2.2.2.2.p = p
  generalize cx.1.2.2.2.2.2.loose = loose
  generalize cx.1.2.2.2.2.2.mean = mean
  generalize cx.1.2.2.2.2.2.mg = mg
  generalize cx.1.2.2.2.2.2.mb = mb
  generalize cx.1.2.2.2.2.2.dp = dp
  generalize cx.1.2.2.2.2.2.un = un
  generalize cx.1.2.2.2.2.2.gd = gd
  generalize cx.1.2.2.2.2.2.cn = cn
  generalize cx.1.2.2.2.2.2.cs = cs
  generalize cx.1.2.2.2.2.2.a = a
  generalize cx.1.2.2.2.2.2.ccd = ccd
  generalize cx.1.2.2.2.2.2.cl = cl
  generalize cx.1.2.2.2.2.2.outer = outer
  generalize cx.1.2.2.2.2.2.A₀ = A₀
  generalize cx.1.2.2.2.2.2.base = base
  generalize cx.1.2.2.2.2.2.h₀ = h₀
  generalize cx.1.2.2.2.2.2.L = L
  generalize cx.1.2.2.2.2.2.m = m
  generalize cx.1.2.2.2.2.2.s = s
  generalize cx.1.2.2.2.2.2.Q = Q
  generalize cx.1.2.2.2.2.2.E = E
  generalize cx.1.1 = w
  generalize cx.1.2.1 = news
  generalize cx.1.2.2.1 = n
  generalize cx.1.2.2.2.1 = t0
  generalize cx.1.2.2.2.2.1 = t1
  clear cx
  intro h0 h1 B F X N T hk hd hu hret
  k_with_none
  k_with "eval ListComp" => (k_here; k_dflt (refine LCg.ListComp_U (F₀ := by k_asm) (by with_unfolding_all rfl) (by decide) (by rfl) (by decide) (by rfl) ?_))
  refine wpAny_call ?_
  k_dflt (refine' code_def0 (used := []) ?k1 ?k2 ?k3 ?k4 ?k5 ?kd ?kA ?kF ?kK ?k6 ?k7 ?k8 ?k9 ?kB ?_ ?c2 ?c3 ?c4 ?c5; (case kA => exact rfl); (case kF => exact rfl); (case kK => first | exact rfl | assumption); (case k1 => k_asm); (case k2 => k_asm); (case k3 => k_asm); (case k4 => (refine News.sub ?_ (fun q hq => hq); k_asm)); (case k5 => k_asm); (case kd => exact fun _ _ _ hu => nomatch hu); (case k6 => k_is); (case k7 => k_is); (case k8 => k_room); (case k9 => first | exact BindsTo.of_eq rfl | exact binds_K (by k_in) rfl (by k_is) rfl rfl rfl | fail "k_enter: no rule for these arguments"); (case c5 => decide); (case kB => exact locs rfl); (case c2 => exact rfl); (case c3 => exact rfl); (case c4 => exact rfl); k_whole; intro g' L' h' FG' F' N' B' X' T'; (try dsimp only); (try k_lift B'); (try k_fold))
  k_steps
  rename (∀ n, News _ _ _ n → News _ _ _ (n ++ _)) => up
  rename News _ _ _ _ => nN
  rename Fr _ _ _ _ => nF
  refine hret _ _ _ _ ?_ nF (News.first (up _ nN))
  exact ⟨_, _, _, _, rfl, rfl⟩
end
end Mine
end SL27
section SM02
open PySem PySem.W PyProof.Rows PySem.W.X PySem.Calls
namespace Mine
noncomputable section
namespace MP
theorem slot_next : Slot "map" "__next__" "map.__next__" :=
  .of (owner := "map") (n := "__next__") (by rw [typeLookup_type, builtinLookup_eq_fast]; kernel_rfl) (by decide +kernel) (by decide +kernel) (by decide +kernel)
    (by first | exact .inl (by decide +kernel) | exact .inr (by decide +kernel)) (by rw [isSubtype_type]; kernel_rfl)
theorem slot_self : Slot "map" "__iter__" "map.__iter__" :=
  .of (owner := "map") (n := "__iter__") (by rw [typeLookup_type, builtinLookup_eq_fast]; kernel_rfl) (by decide +kernel) (by decide +kernel) (by decide +kernel)
    (by first | exact .inl (by decide +kernel) | exact .inr (by decide +kernel)) (by rw [isSubtype_type]; kernel_rfl)
theorem entry_next : entryFor table "map.__next__" = some Builtin.«map.__next__» := entryFor_of_tree (by kernel_rfl)
theorem entry_self : entryFor table "map.__iter__" = some Builtin.«dict_keyiterator.__iter__» := entryFor_alias (id' := "dict_keyiterator.__iter__") (by kernel_rfl) rfl (by decide +kernel) (by kernel_rfl)
theorem args_next (a : Value) : argsOk "map.__next__" ⟨[a], []⟩ := by unfold argsOk; kernel_rfl
theorem args_self (a : Value) : argsOk "map.__iter__" ⟨[a], []⟩ := by unfold argsOk; kernel_rfl
theorem nolen : typeLookup (.type "map") "__len__" = pure none := by rw [typeLookup_type, builtinLookup_eq_fast]; kernel_rfl
theorem nohint : typeLookup (.type "map") "__length_hint__" = pure none := by rw [typeLookup_type, builtinLookup_eq_fast]; kernel_rfl
end MP
noncomputable abbrev mapO (t f : Addr) : Obj := { cls := .type "map", data := .fields #[.ref t, .ref f] }
noncomputable abbrev tup1 (i : Addr) : Obj := { cls := .type "tuple", data := .seq #[.ref i] }
noncomputable abbrev litO (l : Addr) (i : Nat) : Obj := { cls := .type "list_iterator", data := .fields #[.ref l, .int i 0] }
section
variable {prog : Program} {w : World} {A : Around} {E : Value → Shared → Prop} {s : Shared}
theorem li_item {it l : Addr} {i : Nat} {items} {x : Value} {Q : Option Value → Shared → Prop} (hit : s.heap.IsListIter it l i)
    (hl : s.heap.IsList l items) (hx : items[i]? = some x)
    (hQ : ∀ h', h'.IsListIter it l (i + 1) → Heap.SameBut it s.heap h' → Q (some x) { s with heap := h' }) :
    wpAny (model prog w) A (callSpecial? (.ref it) "__next__") Q E s := by
  obtain ⟨o, ho, hc, hd⟩ := id hit
  obtain ⟨ol, hol, _, nl, hdl⟩ := hl
  refine (wpAny_callSpecial?_slot (name := Str.ofString "__next__") hit.typeIs slot_listiter_next
    (wpAny_call_entry slot_listiter_next hit.typeIs entry_listiter_next ?_ (args_listiter_next _)))
  show wpAny _ _ (field (.ref it) 0 >>= _) _ _ s
  refine wpAny_bind (wpAny_field ho hd (x := .ref l) rfl ?_)
  show wpAny _ _ (if (Value.ref l == Value.none) = true then _ else _) _ _ s
  rw [if_neg (show ¬ ((Value.ref l == Value.none) = true) from Bool.false_ne_true)]
  show wpAny _ _ (field (.ref it) 1 >>= _) _ _ s
  refine wpAny_bind (wpAny_field ho hd (x := .int i 0) rfl ?_)
  show wpAny _ _ (seqItems? (.ref l) >>= _) _ _ s
  refine wpAny_bind (wpAny_seqItems hol hdl ?_)
  simp only [Int.toNat_natCast, hx]
  refine wpAny_bind (wpAny_setField ho hd (by simp) (wpAny_pure ⟨x, rfl, (hQ _ ?_ (Heap.SameBut.update ..))⟩))
  exact ⟨_, Heap.get?_update_self _ ho (Obj.isFreed_of_fields (Obj.data_mapFields hd _)), (Obj.cls_mapFields ..).trans hc, by
    rw [Obj.data_mapFields hd]; simp [rawInt]⟩
theorem map_item {M T I l f : Addr} {i : Nat} {items} {x : Value} {Q : Option Value → Shared → Prop} (hM : s.heap.get? M = some (mapO T f)) (hT : s.heap.get? T = some (tup1 I)) (hit : s.heap.IsListIter I l i)
    (hl : s.heap.IsList l items) (hx : items[i]? = some x) (hMI : M ≠ I)
    (hQ : ∀ h', h'.IsListIter I l (i + 1) → Heap.SameBut I s.heap h' → wpAny (model prog w) A.in1 (call (.ref f) [x]) (fun v s' => Q (some v) s') (fun _ _ => False) { s with heap := h' }) :
    wpAny (model prog w) A (pyNext (.ref M)) Q E s := by
  revert hM hT hit hl hx hMI hQ
  revert prog w A E s M T I l f i items x Q
  change ∀ prog w A E s M T I l f i items x Q, _
  refine' (let rec cy0 : Pk12 _ := pk12 (by repeat' first | exact ne_world | exact ne_cx | exact ne_shared | exact ne_around | exact ⟨default⟩ | exact ⟨.sp⟩ | exact ⟨PySem.Challenge.rw_qw0075_02.row.toRowW.claim⟩ | refine ne_prod ?_ ?_) _; Pk12.use cy0 ?_)
  generalize cy0.1.1 = prog
  generalize cy0.1.2.1 = w
  generalize cy0.1.2.2.1 = A
  generalize cy0.1.2.2.2.1 = E
  generalize cy0.1.2.2.2.2.1 = s
  generalize cy0.1.2.2.2.2.2.1 = M
  generalize cy0.1.2.2.2.2.2.2.1 = T
  generalize cy0.1.2.2.2.2.2.2.2.1 = I
  generalize cy0.1.2.2.2.2.2.2.2.2.1 = l
  generalize cy0.1.2.2.2.2.2.2.2.2.2.1 = f
  generalize cy0.1.2.2.2.2.2.2.2.2.2.2.1 = i
  generalize cy0.1.2.2.2.2.2.2.2.2.2.2.2 = items
  clear cy0
  refine' (let rec cy0_1 : Pk2 _ := pk2 (by repeat' first | exact ne_world | exact ne_cx | exact ne_shared | exact ne_around | exact ⟨default⟩ | exact ⟨.sp⟩ | exact ⟨PySem.Challenge.rw_qw0075_02.row.toRowW.claim⟩ | refine ne_prod ?_ ?_) _; Pk2.use cy0_1 ?_)
  generalize cy0_1.1.1 = x
  generalize cy0_1.1.2 = Q
  clear cy0_1
  intro hM hT hit hl hx hMI hQ
  unfold pyNext
  have hMt : s.TypeIs (.ref M) "map" := ⟨_, hM, rfl⟩
  refine wpAny_bind (wpAny_attempt (wpAny_callSpecial?_slot (name := Str.ofString "__next__") hMt MP.slot_next
    (wpAny_call_entry MP.slot_next hMt MP.entry_next ?_ (MP.args_next _))))
  show wpAny _ _ (field (.ref M) 0 >>= _) _ _ s
  refine wpAny_bind (wpAny_field hM rfl (x := .ref T) rfl ?_)
  show wpAny _ _ (seqItems? (.ref T) >>= _) _ _ s
  refine wpAny_bind (wpAny_seqItems hT rfl ?_)
  dsimp only
  simp only [List.forIn_toArray, List.forIn_cons, List.forIn_nil, bind_assoc]
  refine wpAny_bind ?_
  show wpAny _ _ (Builtin.SmallTypes.nextOf (.ref I)) _ _ s
  unfold Builtin.SmallTypes.nextOf
  refine wpAny_bind (li_item hit hl hx fun h' hi hs => ?_)
  refine wpAny_pure (wpAny_bind (wpAny_pure (wpAny_bind (wpAny_pure ?_))))
  have hM' : h'.get? M = some (mapO T f) := hs.extBut M _ hMI hM
  refine wpAny_bind (wpAny_field hM' rfl (x := .ref f) rfl ?_)
  refine wpAny_bind (wpAny_holding ?_)
  refine wpAny_mono (hQ h' hi hs) (fun v s' hv => ?_) fun _ _ h => h.elim
  exact wpAny_bind (wpAny_letGo (wpAny_pure ⟨v, rfl, wpAny_pure hv⟩))
theorem map_stop {M T I l f : Addr} {i : Nat} {items} {Q : Option Value → Shared → Prop} (hh : A.handled = none) (hM : s.heap.get? M = some (mapO T f)) (hT : s.heap.get? T = some (tup1 I)) (hit : s.heap.IsListIter I l i)
    (hl : s.heap.IsList l items) (hx : items[i]? = none)
    (hQ : ∀ h', Heap.ExtBut I s.heap h' → Q none { s with heap := h' }) :
    wpAny (model prog w) A (pyNext (.ref M)) Q E s := by
  revert hh hM hT hit hl hx hQ
  revert prog w A E s M T I l f i items Q
  change ∀ prog w A E s M T I l f i items Q, _
  refine' (let rec cy0 : Pk12 _ := pk12 (by repeat' first | exact ne_world | exact ne_cx | exact ne_shared | exact ne_around | exact ⟨default⟩ | exact ⟨.sp⟩ | exact ⟨PySem.Challenge.rw_qw0075_02.row.toRowW.claim⟩ | refine ne_prod ?_ ?_) _; Pk12.use cy0 ?_)
  generalize cy0.1.1 = prog
  generalize cy0.1.2.1 = w
  generalize cy0.1.2.2.1 = A
  generalize cy0.1.2.2.2.1 = E
  generalize cy0.1.2.2.2.2.1 = s
  generalize cy0.1.2.2.2.2.2.1 = M
  generalize cy0.1.2.2.2.2.2.2.1 = T
  generalize cy0.1.2.2.2.2.2.2.2.1 = I
  generalize cy0.1.2.2.2.2.2.2.2.2.1 = l
  generalize cy0.1.2.2.2.2.2.2.2.2.2.1 = f
  generalize cy0.1.2.2.2.2.2.2.2.2.2.2.1 = i
  generalize cy0.1.2.2.2.2.2.2.2.2.2.2.2 = items
  clear cy0
  refine' (let rec cy0_1 : Pk1 _ := pk1 (by repeat' first | exact ne_world | exact ne_cx | exact ne_shared | exact ne_around | exact ⟨default⟩ | exact ⟨.sp⟩ | exact ⟨PySem.Challenge.rw_qw0075_02.row.toRowW.claim⟩ | refine ne_prod ?_ ?_) _; Pk1.use cy0_1 ?_)
  generalize cy0_1.1 = Q
  clear cy0_1
  intro hh hM hT hit hl hx hQ
  unfold pyNext
  have hMt : s.TypeIs (.ref M) "map" := ⟨_, hM, rfl⟩
  refine wpAny_bind (wpAny_attempt (wpAny_callSpecial?_slot (name := Str.ofString "__next__") hMt MP.slot_next
    (wpAny_call_entry MP.slot_next hMt MP.entry_next ?_ (MP.args_next _))))
  show wpAny _ _ (field (.ref M) 0 >>= _) _ _ s
  refine wpAny_bind (wpAny_field hM rfl (x := .ref T) rfl ?_)
  show wpAny _ _ (seqItems? (.ref T) >>= _) _ _ s
  refine wpAny_bind (wpAny_seqItems hT rfl ?_)
  dsimp only
  simp only [List.forIn_toArray, List.forIn_cons, List.forIn_nil, bind_assoc]
  refine wpAny_bind ?_
  show wpAny _ _ (Builtin.SmallTypes.nextOf (.ref I)) _ _ s
  unfold Builtin.SmallTypes.nextOf
  refine wpAny_bind ?_
  obtain ⟨o, ho, hc, hd⟩ := id hit
  obtain ⟨ol, hol, _, nl, hdl⟩ := hl
  refine (wpAny_callSpecial?_slot (name := Str.ofString "__next__") hit.typeIs slot_listiter_next
    (wpAny_call_entry slot_listiter_next hit.typeIs entry_listiter_next ?_ (args_listiter_next _)))
  show wpAny _ _ (field (.ref I) 0 >>= _) _ _ s
  refine wpAny_bind (wpAny_field ho hd (x := .ref l) rfl ?_)
  show wpAny _ _ (if (Value.ref l == Value.none) = true then _ else _) _ _ s
  rw [if_neg (show ¬ ((Value.ref l == Value.none) = true) from Bool.false_ne_true)]
  show wpAny _ _ (field (.ref I) 1 >>= _) _ _ s
  refine wpAny_bind (wpAny_field ho hd (x := .int i 0) rfl ?_)
  show wpAny _ _ (seqItems? (.ref l) >>= _) _ _ s
  refine wpAny_bind (wpAny_seqItems hol hdl ?_)
  simp only [Int.toNat_natCast, hx]
  refine wpAny_bind (wpAny_rule (wpAny_bind (wpAny_setField ho hd (by simp) ?_)))
  show wpAny _ _ (newExc (.type "StopIteration") [] >>= _) _ _ _
  refine wpAny_bind ?_
  simp only [newExc, newTuple]
  refine wpAny_bind (wpAny_newObj_type ?_ (by size_fits))
  refine wpAny_bind (m := firstArgMember _ _) (wpAny_of_eq (a := Value.none) (by first | rfl | (simp only [firstArgMember]; rfl)) ?_)
  refine wpAny_newObj_type ?_ (by size_fits)
  simp only [raiseNew]
  refine wpAny_bind (wpAny_handled ?_)
  rw [show A.in1.in1.handled = none from hh]
  refine wpAny_bind (wpAny_pure (wpAny_throw ?_))
  refine wpAny_bind (wpAny_isInstance (T := "StopIteration") (b := true) ⟨_, Heap.get?_push_size _ rfl, rfl⟩ isSubtype_stop ?_)
  exact wpAny_pure (hQ _ (((Heap.SameBut.update ..).extBut.push _).push _))
end
end
end Mine
end SM02
section SM03
open PySem PySem.W PyProof.Rows PySem.W.X PySem.Calls
namespace Mine
noncomputable section
section
variable {p : Program} {loose : List Str} {mean : ExcName → Option Value} {mg mb : Str → Option Value} {dp un : Nat} {gd : Option (List Code)} {cn : Str} {cs : Scope} {a : Addr} {ccd : Value} {cl : List (Str × Addr)} {outer : List Env} {A₀ : Around} {base h₀ : Heap} {L : Addr} {m : Str → Option Value}
theorem upd_I {h h' : Heap} {I : Addr} {oI oI' : Obj} {news : List (Addr × Obj)} (F : Fr h₀ L h m) (N : News h₀ L h ((I, oI) :: news)) (hne : ∀ q ∈ news, q.1 ≠ I) (hs : Heap.SameBut I h h') (ho : h'.get? I = some oI') :
    Fr h₀ L h' m ∧ News h₀ L h' ((I, oI') :: news) := by
  have z := N _ (.head _)
  exact ⟨F.change hs z.2.1 z.2.2, news_set (pre := []) N (fun _ hp => nomatch hp) hne hs ho⟩
theorem map_loop (w : World) (news) (S M T I l : Nat) (vs : List Value) (k : Nat) (hstr : ∀ v ∈ vs, ∃ x t, v = Value.str x t) (hz : vs.length ≤ 1000) (hSI : S ≠ I) (hMI : M ≠ I) (hTI : T ≠ I) (hlI : l ≠ I) (hMS : M ≠ S) (hTS : T ≠ S) (hlS : l ≠ S) (hnI : ∀ q ∈ news, q.1 ≠ I) (hnS : ∀ q ∈ news, q.1 ≠ S)
    (hk : cs.kind = .function) (hd : dp + 120 < recursionLimit) (hu : un + 1010 < cLine) (B : Below A₀ base outer h₀) (X : (Mine.frag.heap_1 w.params).In h₀) (Tp : Top p loose mean mg mb h₀) {R : Result → Shared → Prop} (s₀ : Shared) (r : Value)
    (fin : ∀ h' tk' n, Fr h₀ L h' m → News h₀ L h' ((S, listOf vs.toArray n) :: (M, mapO T 119) :: (T, tup1 I) :: (l, listOf vs.toArray k) :: news) → R (.ok (.ret r)) { s₀ with heap := h', toks := tk' }) :
    ∀ (j i : Nat) (h : Heap) (tk n : Nat) (oI : Obj), i + j = vs.length → oI.cls = .type "list_iterator" → oI.data = .fields #[.ref l, .int i 0] → Fr h₀ L h m → News h₀ L h ((S, listOf (vs.take i).toArray n) :: (I, oI) :: (M, mapO T 119) :: (T, tup1 I) :: (l, listOf vs.toArray k) :: news) →
      codeAny (model PySem.Challenge.rw_qw0075_02.row.prog w) (ktrTop dp un gd cn cs L a ccd cl outer) (.builtin "list.extend.loop" ⟨[.ref S, .ref M, r], []⟩) R { s₀ with heap := h, toks := tk } := by
  revert hstr hz hSI hMI hTI hlI hMS hTS hlS hnI hnS hk hd hu B X Tp fin
  revert p loose mean mg mb dp un gd cn cs a ccd cl outer A₀ base h₀ L m w news S M T I l vs k R s₀ r
  change ∀ p loose mean mg mb dp un gd cn cs a ccd cl outer A₀ base h₀ L m w news S M T I l vs k R s₀ r, _
  refine' (let rec cy0 : Pk12 _ := pk12 (by repeat' first | exact ne_world | exact ne_cx | exact ne_shared | exact ne_around | exact ⟨default⟩ | exact ⟨.sp⟩ | refine ne_prod ?_ ?_) _; Pk12.use cy0 ?_)
  generalize cy0.1.1 = p
  generalize cy0.1.2.1 = loose
  generalize cy0.1.2.2.1 = mean
  generalize cy0.1.2.2.2.1 = mg
  generalize cy0.1.2.2.2.2.1 = mb
  generalize cy0.1.2.2.2.2.2.1 = dp
  generalize cy0.1.2.2.2.2.2.2.1 = un
  generalize cy0.1.2.2.2.2.2.2.2.1 = gd
  generalize cy0.1.2.2.2.2.2.2.2.2.1 = cn
  generalize cy0.1.2.2.2.2.2.2.2.2.2.1 = cs
  generalize cy0.1.2.2.2.2.2.2.2.2.2.2.1 = a
  generalize cy0.1.2.2.2.2.2.2.2.2.2.2.2 = ccd
  clear cy0
  refine' (let rec cy0_1 : Pk12 _ := pk12 (by repeat' first | exact ne_world | exact ne_cx | exact ne_shared | exact ne_around | exact ⟨default⟩ | exact ⟨.sp⟩ | refine ne_prod ?_ ?_) _; Pk12.use cy0_1 ?_)
  generalize cy0_1.1.1 = cl
  generalize cy0_1.1.2.1 = outer
  generalize cy0_1.1.2.2.1 = A₀
  generalize cy0_1.1.2.2.2.1 = base
  generalize cy0_1.1.2.2.2.2.1 = h₀
  generalize cy0_1.1.2.2.2.2.2.1 = L
  generalize cy0_1.1.2.2.2.2.2.2.1 = m
  generalize cy0_1.1.2.2.2.2.2.2.2.1 = w
  generalize cy0_1.1.2.2.2.2.2.2.2.2.1 = news
  generalize cy0_1.1.2.2.2.2.2.2.2.2.2.1 = S
  generalize cy0_1.1.2.2.2.2.2.2.2.2.2.2.1 = M
  generalize cy0_1.1.2.2.2.2.2.2.2.2.2.2.2 = T
  clear cy0_1
  refine' (let rec cy0_2 : Pk7 _ := pk7 (by repeat' first | exact ne_world | exact ne_cx | exact ne_shared | exact ne_around | exact ⟨default⟩ | exact ⟨.sp⟩ | refine ne_prod ?_ ?_) _; Pk7.use cy0_2 ?_)
  generalize cy0_2.1.1 = I
  generalize cy0_2.1.2.1 = l
  generalize cy0_2.1.2.2.1 = vs
  generalize cy0_2.1.2.2.2.1 = k
  generalize cy0_2.1.2.2.2.2.1 = R
  generalize cy0_2.1.2.2.2.2.2.1 = s₀
  generalize cy0_2.1.2.2.2.2.2.2 = r
  clear cy0_2
  intro hstr hz hSI hMI hTI hlI hMS hTS hlS hnI hnS hk hd hu B X Tp fin
  have neS : ∀ o, ∀ q ∈ (I, o) :: (M, mapO T 119) :: (T, tup1 I) :: (l, listOf vs.toArray k) :: news, q.1 ≠ S := by
    intro o q hq
    simp only [List.mem_cons] at hq
    rcases hq with rfl | rfl | rfl | rfl | hq
    · exact hSI.symm
    · exact hMS
    · exact hTS
    · exact hlS
    · exact hnS q hq
  have neI : ∀ o, ∀ q ∈ (S, o) :: (M, mapO T 119) :: (T, tup1 I) :: (l, listOf vs.toArray k) :: news, q.1 ≠ I := by
    intro o q hq
    simp only [List.mem_cons] at hq
    rcases hq with rfl | rfl | rfl | rfl | hq
    · exact hSI
    · exact hMI
    · exact hTI
    · exact hlI
    · exact hnI q hq
  intro j
  induction j with
  | zero =>
    intro i h tk n oI hij hc hdt F N
    have hi : i = vs.length := by omega
    subst hi
    refine codeAny_builtin PySem.F.entry_extend_loop ?_
    rw [Around.under_plainId PySem.F.plain_extend_loop _]
    show wpAny _ _ (pyNext (.ref M) >>= _) _ _ _
    have zM := (N _ (.tail _ (.tail _ (.head _)))).1
    have zT := (N _ (.tail _ (.tail _ (.tail _ (.head _))))).1
    have zI := (N _ (.tail _ (.head _)))
    have zl := (N _ (.tail _ (.tail _ (.tail _ (.tail _ (.head _)))))).1
    refine wpAny_bind (map_stop (l := l) (i := vs.length) (items := vs.toArray) rfl zM zT ⟨oI, zI.1, hc, hdt⟩ ⟨_, zl, rfl, _, rfl⟩ (by simp) fun h' he => ?_)
    have hk9 : ∀ b o, b ∉ [I] → h.get? b = some o → h'.get? b = some o := fun b o hb e => he b o (by simpa using hb) e
    refine wpAny_pure (fin h' _ n (LCg.fr_but F hk9 zI.2.1.symm zI.2.2) ?_)
    have N2 := News.sub (l' := (S, listOf vs.toArray n) :: (M, mapO T 119) :: (T, tup1 I) :: (l, listOf vs.toArray k) :: news) (show News h₀ L h ((S, listOf vs.toArray n) :: (I, oI) :: (M, mapO T 119) :: (T, tup1 I) :: (l, listOf vs.toArray k) :: news) by rw [List.take_length] at N; exact N) (fun q hq => by simp only [List.mem_cons] at hq ⊢; rcases hq with h | h <;> simp [h])
    exact LCg.news_but N2 hk9 (neI _)
  | succ j ih =>
    intro i h tk n oI hij hc hdt F N
    have hi : i < vs.length := by omega
    obtain ⟨x, t, hx⟩ := hstr _ (List.getElem_mem hi)
    have hx9 : vs.toArray[i]? = some (.str x t) := by rw [← hx]; simp [hi]
    refine codeAny_builtin PySem.F.entry_extend_loop ?_
    rw [Around.under_plainId PySem.F.plain_extend_loop _]
    show wpAny _ _ (pyNext (.ref M) >>= _) _ _ _
    have zM := (N _ (.tail _ (.tail _ (.head _)))).1
    have zT := (N _ (.tail _ (.tail _ (.tail _ (.head _))))).1
    have zI := (N _ (.tail _ (.head _)))
    have zl := (N _ (.tail _ (.tail _ (.tail _ (.tail _ (.head _)))))).1
    refine wpAny_bind (map_item (l := l) (i := i) (items := vs.toArray) zM zT ⟨oI, zI.1, hc, hdt⟩ ⟨_, zl, rfl, _, rfl⟩ hx9 hMI fun h' hi' hs => ?_)
    obtain ⟨oI', ho', hc', hd'⟩ := hi'
    have N1 := News.sub (l' := (I, oI) :: (S, listOf (vs.take i).toArray n) :: (M, mapO T 119) :: (T, tup1 I) :: (l, listOf vs.toArray k) :: news) N (fun q hq => by simp only [List.mem_cons] at hq ⊢; rcases hq with h | h | h <;> simp [h])
    obtain ⟨F2, N2⟩ := upd_I F N1 (neI _) hs ho'
    refine Ctr.use (dp := dp) (un := un + 1 + 1) B F2 X N2 Tp hk (c_fspath w _ x t) (by omega) (by omega) ?_
    rintro v9 n9 h9 tk9 ⟨rfl, rfl⟩ F9 N9
    have N9' := News.sub (l' := (S, listOf (vs.take i).toArray n) :: (I, oI') :: (M, mapO T 119) :: (T, tup1 I) :: (l, listOf vs.toArray k) :: news) N9 (fun q hq => by simp only [List.mem_cons] at hq ⊢; rcases hq with h | h | h <;> simp [h])
    have hS := (N9' _ (.head _)).1
    have hta : vs.take (i + 1) = vs.take i ++ [.str x t] := by rw [List.take_add_one, List.getElem?_eq_getElem hi, hx]; rfl
    show wpAny _ _ (updateSeq S (·.push _) >>= _) _ _ _
    obtain ⟨F10, N10⟩ := seq_upd (o' := listOf (vs.take (i + 1)).toArray (n + 1)) F9 N9' (neS _) (Obj.mapSeq (·.push (Value.str x t))) (by
      show (⟨_, _, .seq _ (if _ then _ else _), _⟩ : Obj) = _
      rw [hta]
      simp) rfl
    refine wpAny_bind (wpAny_updateSeq hS rfl (wpAny_pure ⟨plainId_quiet PySem.F.plain_extend_loop _, ?_⟩) ?_ ?_)
    · exact ih (i + 1) _ _ (n + 1) oI' (by omega) hc' hd' F10 N10
    · show (vs.take i).toArray.size ≤ sizeLine
      simp only [List.size_toArray, List.length_take, sizeLine]; omega
    · show ((vs.take i).toArray.push _).size ≤ sizeLine + 1
      simp only [Array.size_push, List.size_toArray, List.length_take, sizeLine]; omega
end
end
end Mine
end SM03
section SM04
open PySem PySem.W PyProof.Rows PySem.W.X PySem.Calls
namespace Mine
noncomputable section
section
variable {prog : Program} {w : World} {A : Around} {E : Value → Shared → Prop} {s : Shared}
theorem map_iter {M T f : Addr} {Q : Value → Shared → Prop} (hM : s.heap.get? M = some (mapO T f)) (h : Q (.ref M) s) : wpAny (model prog w) A (pyIter (.ref M)) Q E s := by
  have hMt : s.TypeIs (.ref M) "map" := ⟨_, hM, rfl⟩
  refine wpAny_pyIter_slot hMt MP.slot_self (wpAny_call_entry MP.slot_self hMt MP.entry_self ?_ (MP.args_self _))
  show wpAny _ _ (ret (.ref M)) _ _ s
  exact wpAny_pure ⟨_, rfl, "map", _, hMt, MP.slot_next.lookup, h⟩
end
section
variable {p : Program} {loose : List Str} {mean : ExcName → Option Value} {mg mb : Str → Option Value} {dp un : Nat} {gd : Option (List Code)} {cn : Str} {cs : Scope} {a : Addr} {ccd : Value} {cl : List (Str × Addr)} {outer : List Env} {A₀ : Around} {base h₀ : Heap} {L : Addr} {m : Str → Option Value}
theorem map_collect (w : World) (news) (M T I l : Nat) (vs : List Value) (k : Nat) (hstr : ∀ v ∈ vs, ∃ x t, v = Value.str x t) (hz : vs.length ≤ 1000) (hMI : M ≠ I) (hTI : T ≠ I) (hlI : l ≠ I) (hnI : ∀ q ∈ news, q.1 ≠ I)
    (hk : cs.kind = .function) (hd : dp + 120 < recursionLimit) (hu : un + 1020 < cLine) (B : Below A₀ base outer h₀) (X : (Mine.frag.heap_1 w.params).In h₀) (Tp : Top p loose mean mg mb h₀) {s : Shared} {Q : List Value → Shared → Prop} {E : Value → Shared → Prop} (oI : Obj) (hc : oI.cls = .type "list_iterator") (hdt : oI.data = .fields #[.ref l, .int 0 0]) (F : Fr h₀ L s.heap m) (N : News h₀ L s.heap ((I, oI) :: (M, mapO T 119) :: (T, tup1 I) :: (l, listOf vs.toArray k) :: news))
    (fin : ∀ h' tk', Fr h₀ L h' m → News h₀ L h' ((l, listOf vs.toArray k) :: news) → Q vs { s with heap := h', toks := tk' }) :
    wpAny (model PySem.Challenge.rw_qw0075_02.row.prog w) (ktrTop dp un gd cn cs L a ccd cl outer) (collect (.ref M)) Q E s := by
  revert hstr hz hMI hTI hlI hnI hk hd hu B X Tp hc hdt F N fin
  revert p loose mean mg mb dp un gd cn cs a ccd cl outer A₀ base h₀ L m w news M T I l vs k s Q E oI
  change ∀ p loose mean mg mb dp un gd cn cs a ccd cl outer A₀ base h₀ L m w news M T I l vs k s Q E oI, _
  refine' (let rec cy0 : Pk12 _ := pk12 (by repeat' first | exact ne_world | exact ne_cx | exact ne_shared | exact ne_around | exact ⟨default⟩ | exact ⟨.sp⟩ | refine ne_prod ?_ ?_) _; Pk12.use cy0 ?_)
  generalize cy0.1.1 = p
  generalize cy0.1.2.1 = loose
  generalize cy0.1.2.2.1 = mean
  generalize cy0.1.2.2.2.1 = mg
  generalize cy0.1.2.2.2.2.1 = mb
  generalize cy0.1.2.2.2.2.2.1 = dp
  generalize cy0.1.2.2.2.2.2.2.1 = un
  generalize cy0.1.2.2.2.2.2.2.2.1 = gd
  generalize cy0.1.2.2.2.2.2.2.2.2.1 = cn
  generalize cy0.1.2.2.2.2.2.2.2.2.2.1 = cs
  generalize cy0.1.2.2.2.2.2.2.2.2.2.2.1 = a
  generalize cy0.1.2.2.2.2.2.2.2.2.2.2.2 = ccd
  clear cy0
  refine' (let rec cy0_1 : Pk12 _ := pk12 (by repeat' first | exact ne_world | exact ne_cx | exact ne_shared | exact ne_around | exact ⟨default⟩ | exact ⟨.sp⟩ | refine ne_prod ?_ ?_) _; Pk12.use cy0_1 ?_)
  generalize cy0_1.1.1 = cl
  generalize cy0_1.1.2.1 = outer
  generalize cy0_1.1.2.2.1 = A₀
  generalize cy0_1.1.2.2.2.1 = base
  generalize cy0_1.1.2.2.2.2.1 = h₀
  generalize cy0_1.1.2.2.2.2.2.1 = L
  generalize cy0_1.1.2.2.2.2.2.2.1 = m
  generalize cy0_1.1.2.2.2.2.2.2.2.1 = w
  generalize cy0_1.1.2.2.2.2.2.2.2.2.1 = news
  generalize cy0_1.1.2.2.2.2.2.2.2.2.2.1 = M
  generalize cy0_1.1.2.2.2.2.2.2.2.2.2.2.1 = T
  generalize cy0_1.1.2.2.2.2.2.2.2.2.2.2.2 = I
  clear cy0_1
  refine' (let rec cy0_2 : Pk7 _ := pk7 (by repeat' first | exact ne_world | exact ne_cx | exact ne_shared | exact ne_around | exact ⟨default⟩ | exact ⟨.sp⟩ | refine ne_prod ?_ ?_) _; Pk7.use cy0_2 ?_)
  generalize cy0_2.1.1 = l
  generalize cy0_2.1.2.1 = vs
  generalize cy0_2.1.2.2.1 = k
  generalize cy0_2.1.2.2.2.1 = s
  generalize cy0_2.1.2.2.2.2.1 = Q
  generalize cy0_2.1.2.2.2.2.2.1 = E
  generalize cy0_2.1.2.2.2.2.2.2 = oI
  clear cy0_2
  intro hstr hz hMI hTI hlI hnI hk hd hu B X Tp hc hdt F N fin
  have hlt : ∀ q ∈ ((I, oI) :: (M, mapO T 119) :: (T, tup1 I) :: (l, listOf vs.toArray k) :: news), q.1 < s.heap.objs.size := fun q hq => Heap.lt_size (N q hq).1
  have lI := Nat.ne_of_lt (hlt _ (.head _))
  have lM := Nat.ne_of_lt (hlt _ (.tail _ (.head _)))
  have lT := Nat.ne_of_lt (hlt _ (.tail _ (.tail _ (.head _))))
  have ll := Nat.ne_of_lt (hlt _ (.tail _ (.tail _ (.tail _ (.head _)))))
  have ln : ∀ q ∈ news, q.1 ≠ s.heap.objs.size := fun q hq => Nat.ne_of_lt (hlt q (.tail _ (.tail _ (.tail _ (.tail _ hq)))))
  have hne : ∀ q ∈ ((I, oI) :: (M, mapO T 119) :: (T, tup1 I) :: (l, listOf vs.toArray k) :: news), q.1 ≠ s.heap.objs.size := fun q hq => Nat.ne_of_lt (hlt q hq)
  unfold collect
  refine wpAny_bind (wpAny_runValue (codeAny_builtin PySem.F.entry_proto_collect ?_))
  rw [Around.under_plainId PySem.F.plain_proto_collect _]
  show wpAny _ _ (newList [] >>= fun l => again (.builtin "list.__iadd__" ⟨[l, .ref M], []⟩)) _ _ s
  refine wpAny_bind (wpAny_newObj_type ?_)
  refine wpAny_pure ⟨plainId_quiet PySem.F.plain_list_iadd _, codeAny_builtin PySem.F.entry_list_iadd ?_⟩
  rw [Around.under_plainId PySem.F.plain_list_iadd _]
  have F1 : Fr h₀ L (s.heap.push { cls := .type "list", data := .seq ([] : List Value).toArray }) m := F.push _
  have N1 : News h₀ L (s.heap.push { cls := .type "list", data := .seq ([] : List Value).toArray }) ((s.heap.objs.size, listOf #[] 0) :: (I, oI) :: (M, mapO T 119) :: (T, tup1 I) :: (l, listOf vs.toArray k) :: news) := N.push F _
  have h1 : Builtin.List.listSameRef (.ref s.heap.objs.size) (.ref M) = false := by simp [Builtin.List.listSameRef, Ne.symm lM]
  have zM := (N1 _ (.tail _ (.tail _ (.head _)))).1
  show wpAny _ _ (Builtin.List.listExtendWith (.ref s.heap.objs.size) (.ref M) (.ref s.heap.objs.size)) _ _ _
  unfold Builtin.List.listExtendWith
  have hMt : Shared.TypeIs { s with heap := (s.heap.push { cls := .type "list", data := .seq ([] : List Value).toArray }) } (.ref M) "map" := ⟨_, zM, rfl⟩
  refine wpAny_bind (wpAny_typeOf hMt ?_)
  rw [if_neg (by rw [h1]; decide)]
  refine wpAny_bind (map_iter zM ?_)
  refine wpAny_bind (wpAny_holding ?_)
  unfold Builtin.List.listLengthHint
  refine wpAny_bind (wpAny_specialOf hMt MP.nolen ?_)
  show wpAny _ _ (specialOf (Value.ref M) (Str.ofString "__length_hint__") >>= _) _ _ _
  refine wpAny_bind (wpAny_specialOf hMt MP.nohint ?_)
  refine wpAny_pure ?_
  show wpAny _ _ (rule "list.extend.makes-room" >>= fun _ => Builtin.List.listTouch (.ref s.heap.objs.size) >>= fun _ =>
    again (.builtin "list.extend.loop" ⟨[.ref s.heap.objs.size, .ref M, .ref s.heap.objs.size], []⟩)) _ _ _
  refine wpAny_bind (wpAny_rule ?_)
  refine wpAny_bind ?_
  show wpAny _ _ (updateSeq s.heap.objs.size (·.push .none) >>= fun _ => updateSeq s.heap.objs.size (·.pop)) _ _ _
  have hS9 := (N1 _ (.head _)).1
  refine wpAny_bind (wpAny_updateSeq hS9 rfl ?_)
  obtain ⟨F10, N10⟩ := seq_upd (o' := listOf #[.none] 1) F1 N1 hne (Obj.mapSeq (·.push Value.none)) rfl rfl
  have hS10 := (N10 _ (.head _)).1
  refine wpAny_updateSeq (hz := by seq_fits) hS10 rfl ?_
  obtain ⟨F11, N11⟩ := seq_upd (o' := listOf #[] 2) F10 N10 hne (Obj.mapSeq (·.pop)) rfl rfl
  refine wpAny_pure ⟨plainId_quiet PySem.F.plain_extend_loop _, ?_⟩
  refine map_loop (dp := dp) (un := un) w news s.heap.objs.size M T I l vs k hstr hz (Ne.symm lI) hMI hTI hlI lM lT ll hnI ln hk hd (by omega) B X Tp s _ (fun h' tk' n F' N' => ?_) vs.length 0 _ _ 2 oI (by omega) hc hdt F11 N11
  show wpAny _ _ (load s.heap.objs.size >>= _) _ _ _
  have hS' := (N' _ (.head _)).1
  refine wpAny_bind (wpAny_load hS' ?_)
  refine wpAny_pure ?_
  exact fin h' tk' F' (News.sub N' fun q hq => .tail _ (.tail _ (.tail _ hq)))
end
end
end Mine
end SM04
section SM05
open PySem PySem.W PyProof.Rows PySem.W.X PySem.Calls
namespace Mine
section
variable {p : Program} {loose : List Str} {mean : ExcName → Option Value} {mg mb : Str → Option Value} {dp un : Nat} {gd : Option (List Code)} {cn : Str} {cs : Scope} {a : Addr} {ccd : Value} {cl : List (Str × Addr)} {outer : List Env} {A₀ : Around} {base h₀ : Heap} {L : Addr} {m : Str → Option Value}
noncomputable abbrev tupOf (vs : List Value) : Obj := { cls := .type "tuple", data := .seq vs.toArray }
theorem tuple_map (w : World) (news) (M T I l : Nat) (vs : List Value) (k : Nat) (hstr : ∀ v ∈ vs, ∃ x t, v = Value.str x t) (hz : vs.length ≤ 1000) (hMI : M ≠ I) (hTI : T ≠ I) (hlI : l ≠ I) (hnI : ∀ q ∈ news, q.1 ≠ I)
    (hk : cs.kind = .function) (hd : dp + 120 < recursionLimit) (hu : un + 1040 < cLine) (B : Below A₀ base outer h₀) (X : (Mine.frag.heap_1 w.params).In h₀) (Tp : Top p loose mean mg mb h₀) {s : Shared} {Q : Value → Shared → Prop} {E : Value → Shared → Prop} (oI : Obj) (hc : oI.cls = .type "list_iterator") (hdt : oI.data = .fields #[.ref l, .int 0 0]) (hF : Fr h₀ L s.heap m) (N : News h₀ L s.heap ((I, oI) :: (M, mapO T 119) :: (T, tup1 I) :: (l, listOf vs.toArray k) :: news))
    (fin : ∀ D h' tk', Fr h₀ L h' m → News h₀ L h' ((D, tupOf vs) :: (l, listOf vs.toArray k) :: news) → (∀ q ∈ (l, listOf vs.toArray k) :: news, q.1 < D) → Q (.ref D) { s with heap := h', toks := tk' }) :
    wpAny (model PySem.Challenge.rw_qw0075_02.row.prog w) (ktrTop dp un gd cn cs L a ccd cl outer) (call (.type "tuple") [.ref M]) Q E s := by
  refine callType_codes (Q₁ := fun obj s₁ => s₁.TypeIs obj "tuple" ∧ Q obj s₁) PySem.F.called_tuple (PySem.F.typeCall_tuple_1 _) PySem.F.entry_object_init ?_ fun obj s₁ h₁ => ?_
  · refine codeAny_of_tree ?_
    show wpAny _ _ (do checkBuiltinCall "tuple.__new__" ⟨[.type "tuple", .ref M], []⟩; again (.builtin "tuple.__new__" ⟨[.type "tuple", .ref M], []⟩)) _ _ s
    refine wpAny_bind (wpAny_of_eq (PySem.F.newCall_tuple_1 _) (wpAny_pure ⟨plainId_quiet PySem.F.plain_tuple_new _, codeAny_builtin PySem.F.entry_tuple_new ?_⟩))
    rw [Around.under_plainId PySem.F.plain_tuple_new _]
    have hsub := sub_tuple_self
    have hinit := init_tuple_lookup
    have hmh := madeHere_tuple
    have zM := (N _ (.tail _ (.head _))).1
    have hTI9 : s.TypeIs (.ref M) "map" := ⟨_, zM, rfl⟩
    have key : ∀ {Q : List Value → Shared → Prop} {E : Value → Shared → Prop}, (∀ h' tk', Fr h₀ L h' m → News h₀ L h' ((l, listOf vs.toArray k) :: news) → Q vs { s with heap := h', toks := tk' }) → wpAny (model PySem.Challenge.rw_qw0075_02.row.prog w) ((ktrTop dp un gd cn cs L a ccd cl outer).in1.in1) (collect (.ref M)) Q E s :=
      fun {Q E} fin => map_collect (dp := dp) (un := un + 1 + 1) w news M T I l vs k hstr hz hMI hTI hlI hnI hk hd (by omega) B X Tp oI hc hdt hF N fin
    wp_walk using wpAny_typeOf hTI9, key
    intro h' tk' F' N'
    show wpAny _ _ (Builtin.Tuple.tupleExact vs.toArray >>= fun v => ret v) _ _ _
    unfold Builtin.Tuple.tupleExact
    refine wpAny_bind (wpAny_newObj_type ?_ (by show vs.toArray.size ≤ sizeLine; simp only [List.size_toArray, sizeLine]; omega))
    refine wpAny_pure ?_
    refine ⟨⟨_, Heap.get?_push_size _ rfl, rfl⟩, fin _ _ _ (F'.push _) (N'.push F' _) fun q hq => Heap.lt_size (N' q hq).1⟩
  · exact ⟨h₁.1, PySem.F.args_object_init_2 obj _, object_init_meets PySem.F.called_tuple.init.lookup PySem.F.called_tuple.made (by decide) _ w _ _ s₁ ⟨h₁.1, rfl, h₁.2⟩⟩
end
end Mine
end SM05
section SM01
open PySem PySem.W PyProof.Rows PySem.W.X
namespace Mine
section
variable {prog : Program} {w : World} {E : Value → Shared → Prop}
theorem mp_end {s : Shared} {q t i l f : Addr} {h : Heap} {Q : Value → Shared → Prop} (hQ : ∀ q t i h', Mem s.heap h' [] [(q, { cls := Value.type "map", data := Data.fields { toList := [Value.ref t, Value.ref f] } }), (t, { cls := Value.type "tuple", data := Data.seq { toList := [Value.ref i] } }), (i, { cls := Value.type "list_iterator", data := Data.fields { toList := [Value.ref l, Value.int 0 0] } })] → Q (.ref q) { s with heap := h' }) (D : Mem s.heap h [] [(q, { cls := Value.type "map", data := Data.fields { toList := [Value.ref t, Value.ref f] } }), (t, { cls := Value.type "tuple", data := Data.seq { toList := [Value.ref i] } }), (i, { cls := Value.type "list_iterator", data := Data.fields { toList := [Value.ref l, Value.int 0 0] } })]) : Q (.ref q) { s with heap := h } := hQ q t i h D
theorem map_flat {s : Shared} {Q : Value → Shared → Prop} {l f : Addr} {vs : Array Value} {k : Nat} (hl : s.heap.get? l = some { cls := .type "list", data := .seq vs k })
   (hQ : ∀ q t i h', Mem s.heap h' [] [(q, { cls := Value.type "map", data := Data.fields { toList := [Value.ref t, Value.ref f] } }), (t, { cls := Value.type "tuple", data := Data.seq { toList := [Value.ref i] } }), (i, { cls := Value.type "list_iterator", data := Data.fields { toList := [Value.ref l, Value.int 0 0] } })] → Q (.ref q) { s with heap := h' }) :
    wpAny (model prog w) flatA (call (.type "map") [.ref f, .ref l]) Q E s := by
  k_with "x" => (refine' mp_end (l := ?l) (f := ?f) (t := ?t) (i := ?i) ?hQ ?D; (case D => assumption); (case hQ => assumption))
  x_run
end
theorem map_new {prog : Program} {w : World} {A : Around} {h₀ : Heap} {L l f k : Nat} {vs : List Value} {m : Str → Option Value} {news : List (Addr × Obj)} {s : Shared} {Q E : Value → Shared → Prop} (hh : A.handled = none) (hd : A.depth ≤ 900) (hu : A.units ≤ 9000) (F : Fr h₀ L s.heap m) (N : News h₀ L s.heap news) (hl : (l, listOf vs.toArray k) ∈ news)
    (fin : ∀ M T I h', Fr h₀ L h' m → News h₀ L h' ((I, litO l 0) :: (M, mapO T f) :: (T, tup1 I) :: news) → @Ne Nat M I → @Ne Nat T I → (∀ q ∈ news, q.1 ≠ I) → Q (.ref M) { s with heap := h' }) :
    wpAny (model prog w) A (call (.type "map") [.ref f, .ref l]) Q E s := by
  refine wpAny_flat hh hd hu (map_flat (N _ hl).1 fun M T I h' D => ?_)
  have kp : ∀ b o, s.heap.get? b = some o → h'.get? b = some o := fun b o e => D.keep b o e (by simp [away])
  have zM := D.nw (M, _) (.head _)
  have zT := D.nw (T, _) (.tail _ (.head _))
  have zI := D.nw (I, _) (.tail _ (.tail _ (.head _)))
  obtain ⟨oL, _, _, hL, _⟩ := F.ns
  have new : ∀ q : Addr, s.heap.get? q = none → q ≠ L ∧ h₀.get? q = none := by
    intro q e
    refine ⟨fun e2 => ?_, ?_⟩
    · rw [show L = q from e2.symm, e] at hL
      cases hL
    · cases z : h₀.get? q with
      | none => rfl
      | some o' => rw [F.keep _ _ z] at e; cases e
  refine fin M T I h' (Fr.kept F kp) ?_ ?_ ?_ ?_
  · intro q hq
    simp only [List.mem_cons] at hq
    rcases hq with rfl | rfl | rfl | hq
    · exact ⟨zI.1, new _ zI.2⟩
    · exact ⟨zM.1, new _ zM.2⟩
    · exact ⟨zT.1, new _ zT.2⟩
    · exact ⟨kp _ _ (N q hq).1, (N q hq).2⟩
  · intro e
    have := zM.1
    rw [show M = I from e] at this
    rw [zI.1] at this
    exact absurd (congrArg (fun o => o.map Obj.cls) this) (by simp)
  · intro e
    have := zT.1
    rw [show T = I from e] at this
    rw [zI.1] at this
    exact absurd (congrArg (fun o => o.map Obj.cls) this) (by simp)
  · intro q hq e
    have := (N q hq).1
    rw [show q.1 = I from e, zI.2] at this
    cases this
end Mine
end SM01
section SN05
open PySem PySem.W PyProof.Rows PySem.W.X
namespace Mine
section
variable {prog : Program} {w : World} {A : Around} {E : Value → Shared → Prop} {s : Shared} {env : Env} {h₀ : Heap} {x : Str} {body : List Stmt} {Q : Flow → Shared → Prop}
theorem kst_listF {σ : Type} {l : Nat} {vs : List Value} {k : Nat} {m₀ : Str → Option Value} (Led : σ → List (Addr × Obj)) (ps : σ → List (Str × Value)) (stored : List Str) (P : Nat → σ → Prop) (c₀ : σ)
    (hh : A.handled = none) (hl : ∀ c, (l, listOf vs.toArray k) ∈ Led c) (F : Fr h₀ env.locals s.heap m₀) (N : News h₀ env.locals s.heap (Led c₀)) (hk : ∀ p ∈ ps c₀, m₀ p.1 = some p.2) (hp : P 0 c₀)
    (turn : ∀ (I : Nat) (c : σ) (i : Nat) (v : Value) (u : Str → Option Value) h tk own, vs[i]? = some v → (∀ p ∈ Led c, @Ne Nat p.1 I) → (∃ o, (I, o) ∈ own) → (∀ p ∈ own, @Eq Nat p.1 I ∨ @Eq Nat p.1 l) → P i c →
      Fr h₀ env.locals h (fun y => if y = x then some v else kstB (fun z => if stored.contains z then u z else m₀ z) (ps c) y) → News h₀ env.locals h (Led c ++ own) →
      wpAny (model prog w) A (execs body env) (FreePost h₀ env.locals I own Led ps x stored m₀ (P (i + 1)) { s with heap := h, toks := tk } Q) E { s with heap := h, toks := tk })
    (done : ∀ (c : σ) (u : Str → Option Value) h tk, P vs.length c → Fr h₀ env.locals h (fun y => if y = x then u y else kstB (fun z => if stored.contains z then u z else m₀ z) (ps c) y) → News h₀ env.locals h (Led c) → Q .next { s with heap := h, toks := tk }) :
    wpAny (model prog w) A (pyIter (.ref l)) (fun it s₂ => LoopAtV prog w A h₀ env x body Q E it s₂) E s := by
  have zl := N _ (hl c₀)
  have hls : s.heap.IsList l vs.toArray := ⟨_, zl.1, rfl, _, rfl⟩
  have hlI : l ≠ s.heap.objs.size := Nat.ne_of_lt (Heap.lt_size zl.1)
  refine wpAny_pyIter_list hls ?_
  have W := Walks.list (prog := prog) (w := w) hh s.heap.objs.size l hlI vs.toArray
  rw [List.size_toArray] at W
  have hLI : env.locals ≠ s.heap.objs.size := Nat.ne_of_lt F.ns.lt
  refine loop_walkF Led ps stored P c₀ W (fun hm => (List.mem_cons.mp hm).elim hLI fun hm => zl.2.1 (List.mem_singleton.mp hm).symm) (.head _) ⟨⟨_, Heap.get?_push_size _ rfl, rfl, rfl⟩, hls.at fun o e => Heap.get?_push_of_some _ e⟩
    (fun i h st => by obtain ⟨oI, hoI, _⟩ := st.1; exact ⟨oI, hoI⟩) F N hk hp (fun c i v u h tk own _ hv h1 h2 h3 h4 F9 N9 => ?_) done
  exact turn _ c i v u h tk own (by simpa using hv) h1 h2 (fun p hp => (List.mem_cons.mp (h3 p hp)).elim .inl fun h => .inr (List.mem_singleton.mp h)) h4 F9 N9
end
end Mine
end SN05
section SP03
open PySem PySem.W PyProof.Rows
namespace Mine
noncomputable def markOf (w : Wd) : Nat := if 39 ∈ w then 34 else 39
noncomputable def quoted (w : Wd) : List Nat := markOf w :: w ++ [markOf w]
noncomputable def lineOf : List Wd → List Nat
  | [] => []
  | [w] => quoted w
  | w :: r => quoted w ++ 32 :: lineOf r
noncomputable def Good (w : Wd) : Prop := w.length = 2 ∧ (39 ∈ w → 34 ∉ w ∧ 92 ∉ w)
theorem mark_rev (w : Wd) : markOf w.reverse = markOf w := by unfold markOf; simp
theorem quoted_rev (w : Wd) : (quoted w).reverse = quoted w.reverse := by unfold quoted; rw [mark_rev]; simp
theorem Good.rev {w : Wd} (h : Good w) : Good w.reverse := ⟨by rw [List.length_reverse]; exact h.1, by simpa using h.2⟩
theorem quoted_len {w : Wd} (h : Good w) : (quoted w).length = 4 := by unfold quoted; simp [h.1]
theorem lineOf_cons (w : Wd) {r : List Wd} (hr : r ≠ []) : lineOf (w :: r) = quoted w ++ 32 :: lineOf r := by
  cases r with
  | nil => exact absurd rfl hr
  | cons a r => rfl
theorem lineOf_app : ∀ {a b : List Wd}, a ≠ [] → b ≠ [] → lineOf (a ++ b) = lineOf a ++ 32 :: lineOf b
  | [], _, h, _ => absurd rfl h
  | [w], b, _, hb => by rw [List.singleton_append, lineOf_cons w hb]; rfl
  | w :: x :: r, b, _, hb => by
    rw [List.cons_append, lineOf_cons w (by simp), lineOf_app (by simp) hb, lineOf_cons w (by simp)]
    simp
theorem lineOf_rev : ∀ (a : List Wd), (lineOf a).reverse = lineOf (a.reverse.map List.reverse)
  | [] => rfl
  | [w] => quoted_rev w
  | w :: x :: r => by
    have ih := lineOf_rev (x :: r)
    rw [lineOf_cons w (by simp), List.reverse_append, List.reverse_cons, ih]
    rw [List.reverse_cons (as := x :: r), List.map_append, List.map_singleton, lineOf_app (by simp) (by simp)]
    show _ = _ ++ 32 :: quoted w.reverse
    rw [← quoted_rev]
    simp
theorem lineOf_len : ∀ {a : List Wd}, (∀ w ∈ a, Good w) → a ≠ [] → (lineOf a).length + 1 = 5 * a.length
  | [], _, h => absurd rfl h
  | [w], h, _ => by show (quoted w).length + 1 = _; rw [quoted_len (h w (by simp))]; rfl
  | w :: x :: r, h, _ => by
    have ih := lineOf_len (a := x :: r) (fun y hy => h y (by simp [hy])) (by simp)
    rw [lineOf_cons w (by simp)]
    simp only [List.length_append, List.length_cons, quoted_len (h w (by simp))] at ih ⊢
    omega
noncomputable def flip (m : Nat) (a : List Wd) : List Wd := (a.take m).reverse.map List.reverse ++ a.drop m
theorem flip_line {a : List Wd} {m : Nat} (h : ∀ w ∈ a, Good w) (h0 : 0 < m) (hm : m ≤ a.length) :
    ((lineOf a).take (5 * m - 1)).reverse ++ (lineOf a).drop (5 * m - 1) = lineOf (flip m a) := by
  have ht : a.take m ≠ [] := by intro e; have := congrArg List.length e; rw [List.length_take, List.length_nil] at this; omega
  have hl := lineOf_len (a := a.take m) (fun w hw => h w (List.mem_of_mem_take hw)) ht
  rw [List.length_take, Nat.min_eq_left hm] at hl
  by_cases hd : a.drop m = []
  · have e : a.take m = a := by
      have := List.take_append_drop m a
      rw [hd, List.append_nil] at this; exact this
    rw [e] at hl
    unfold flip
    rw [e, hd, List.append_nil, ← lineOf_rev, List.take_of_length_le (by omega), List.drop_of_length_le (by omega), List.append_nil]
  · have e : lineOf a = lineOf (a.take m) ++ 32 :: lineOf (a.drop m) := by
      rw [← lineOf_app ht hd, List.take_append_drop]
    have hl' : (lineOf (a.take m)).length = 5 * m - 1 := by omega
    rw [e, List.take_append_of_le_length (by omega), List.take_of_length_le (by omega), List.drop_append_of_le_length (by omega), List.drop_of_length_le (by omega), List.nil_append]
    unfold flip
    rw [lineOf_app (by simpa using ht) hd, ← lineOf_rev]
theorem flip_good {a : List Wd} (h : ∀ w ∈ a, Good w) (m : Nat) : ∀ w ∈ flip m a, Good w := by
  intro w hw
  unfold flip at hw
  rcases List.mem_append.mp hw with hw | hw
  · obtain ⟨x, hx, rfl⟩ := List.mem_map.mp hw
    exact (h x (List.mem_of_mem_take (List.mem_reverse.mp hx))).rev
  · exact h w (List.mem_of_mem_drop hw)
theorem flip_len (m : Nat) (a : List Wd) : (flip m a).length = a.length := by
  unfold flip; simp; omega

theorem lex_q1 : ∀ (w tok r : List Nat), 39 ∉ w → lexRun .q1 tok (w ++ 39 :: r) = lexRun .wd (tok ++ w) r
  | [], tok, r, _ => by simp [lexRun]
  | c :: w, tok, r, h => by
    have h1 : c ≠ 39 := fun e => h (by simp [e])
    have h2 : 39 ∉ w := fun e => h (by simp [e])
    show lexRun .q1 tok (c :: (w ++ 39 :: r)) = _
    rw [lexRun, if_neg h1, lex_q1 w _ r h2]; simp
theorem lex_q2 : ∀ (w tok r : List Nat), 34 ∉ w → 92 ∉ w → lexRun .q2 tok (w ++ 34 :: r) = lexRun .wd (tok ++ w) r
  | [], tok, r, _, _ => by simp [lexRun]
  | c :: w, tok, r, h, h' => by
    have h1 : c ≠ 34 := fun e => h (by simp [e])
    have h2 : 34 ∉ w := fun e => h (by simp [e])
    have h3 : c ≠ 92 := fun e => h' (by simp [e])
    have h4 : 92 ∉ w := fun e => h' (by simp [e])
    show lexRun .q2 tok (c :: (w ++ 34 :: r)) = _
    rw [lexRun, if_neg h1, if_neg h3, lex_q2 w _ r h2 h4]; simp
theorem lex_word {w : Wd} (h : Good w) (r : List Nat) : lexRun .sp [] (quoted w ++ r) = lexRun .wd w r := by
  unfold quoted markOf
  split
  · rename_i h39
    obtain ⟨a, b⟩ := h.2 h39
    show lexRun .sp [] (34 :: ((w ++ [34]) ++ r)) = _
    rw [lexRun, if_neg (by decide), if_pos rfl, List.append_assoc, List.singleton_append, lex_q2 w [] r a b]; rfl
  · rename_i h39
    show lexRun .sp [] (39 :: ((w ++ [39]) ++ r)) = _
    rw [lexRun, if_pos rfl, List.append_assoc, List.singleton_append, lex_q1 w [] r h39]; rfl
theorem lex_line : ∀ {a : List Wd}, (∀ w ∈ a, Good w) → a ≠ [] → LexAll .sp (lineOf a) a
  | [], _, h => absurd rfl h
  | [w], h, _ => by
    have hw := h w (by simp)
    have hne : w ≠ [] := by intro e; have := hw.1; rw [e] at this; cases this
    refine .cons (fin := true) (r' := []) ?_ (.nil (fin := true) (r' := []) rfl)
    have := lex_word hw []
    rw [List.append_nil] at this
    show lexRun .sp [] (quoted w) = _
    rw [this, lexRun, if_neg hne]
  | w :: x :: r, h, _ => by
    have hw := h w (by simp)
    have hne : w ≠ [] := by intro e; have := hw.1; rw [e] at this; cases this
    refine .cons (fin := false) (r' := lineOf (x :: r)) ?_ (lex_line (fun y hy => h y (by simp [hy])) (by simp))
    rw [lineOf_cons w (by simp), lex_word hw, lexRun, if_neg hne, if_pos rfl]

noncomputable def manyOf (N n : Nat) : Nat := if n = 0 then 1 else if n % 2 = 1 then 2 else if N = 3 then 3 else if n % 6 = 0 then 4 else 3
noncomputable def arrAt (N : Nat) (ws : List Wd) : Nat → List Wd
  | 0 => ws
  | n + 1 => flip (manyOf N (n + 1)) (arrAt N ws n)
noncomputable def figsOf (N : Nat) (n : Int) : List Int := if N = 3 then [n.fdiv 2, n.fmod 2] else [(n.fdiv 2).fdiv 3, (n.fdiv 2).fmod 3, n.fmod 2]
noncomputable def tVal (ws : List Wd) (t : Nat × Bool) : Wd := if t.2 then (ws.getD t.1 []).reverse else ws.getD t.1 []
noncomputable def tRev (t : Nat × Bool) : Nat × Bool := (t.1, !t.2)
theorem tVal_rev (ws : List Wd) (t : Nat × Bool) : tVal ws (tRev t) = (tVal ws t).reverse := by
  obtain ⟨i, b⟩ := t
  cases b <;> simp [tVal, tRev]
noncomputable def tElt (f : Int) (size : Nat) (told : List (Nat × Bool)) (place : Nat) : Nat × Bool :=
  let t := told.getD (((place : Int) - f).fmod size).toNat (100, false)
  let turns := if (size : Int).fmod 2 = 0 then f else -(((place : Int) - f).fdiv size)
  if turns.fmod 2 = 1 then tRev t else t
noncomputable def tRot (f : Int) (size : Nat) (told : List (Nat × Bool)) : List (Nat × Bool) := (List.range size).map (tElt f size told) ++ told.drop size
noncomputable def tTold (N : Nat) (fs : List Int) : Nat → List (Nat × Bool)
  | 0 => (List.range N).map (·, false)
  | k + 1 => tRot (fs.getD k 0) (N - k) (tTold N fs k)
noncomputable def tArr (N : Nat) : Nat → List (Nat × Bool)
  | 0 => (List.range N).map (·, false)
  | n + 1 => ((tArr N n).take (manyOf N (n + 1))).reverse.map tRev ++ (tArr N n).drop (manyOf N (n + 1))
theorem tVal_none {ws : List Wd} (h : ws.length ≤ 100) : tVal ws (100, false) = [] := by
  unfold tVal
  rw [if_neg (by decide), List.getD_eq_getElem?_getD, List.getElem?_eq_none h]; rfl
theorem rot_map {ws : List Wd} (h : ws.length ≤ 100) (f : Int) (size : Nat) (l : List (Nat × Bool)) : rot f size (l.map (tVal ws)) = (tRot f size l).map (tVal ws) := by
  unfold rot tRot
  rw [List.map_append, List.map_map, List.map_drop]
  congr 1
  refine List.map_congr_left fun p _ => ?_
  have e : (l.map (tVal ws)).getD (((p : Int) - f).fmod size).toNat [] = tVal ws (l.getD (((p : Int) - f).fmod size).toNat (100, false)) := by
    rw [List.getD_eq_getElem?_getD, List.getD_eq_getElem?_getD, List.getElem?_map]
    cases l[(((p : Int) - f).fmod size).toNat]? with
    | none => exact (tVal_none h).symm
    | some t => rfl
  show (if _ then List.reverse _ else _) = tVal ws (if _ then tRev _ else _)
  rw [e]
  split <;> split <;> first | exact (tVal_rev ws _).symm | rfl
theorem range_val (ws : List Wd) : ((List.range ws.length).map (·, false)).map (tVal ws) = ws := by
  rw [List.map_map]
  refine List.ext_getElem (by simp) fun i h1 h2 => ?_
  simp [tVal, h2]
theorem told_map {ws : List Wd} (h : ws.length ≤ 100) (fs : List Int) : ∀ k, toldAt ws fs k = (tTold ws.length fs k).map (tVal ws)
  | 0 => (range_val ws).symm
  | k + 1 => by
    show rot _ _ (toldAt ws fs k) = _
    rw [told_map h fs k, rot_map h]; rfl
theorem arr_map (ws : List Wd) : ∀ n, arrAt ws.length ws n = (tArr ws.length n).map (tVal ws)
  | 0 => (range_val ws).symm
  | n + 1 => by
    show flip _ (arrAt ws.length ws n) = _
    rw [arr_map ws n]
    show (List.take _ (List.map _ _)).reverse.map List.reverse ++ List.drop _ (List.map _ _) = List.map _ (List.map tRev (List.take _ (tArr ws.length n)).reverse ++ List.drop _ (tArr ws.length n))
    rw [List.map_append, List.map_drop, ← List.map_take, ← List.map_reverse, List.map_map, List.map_map]
    congr 1
    exact List.map_congr_left fun t _ => (tVal_rev ws t).symm
theorem told_tags : ∀ N ∈ [3, 4], ∀ n ∈ List.range 14, tTold N (figsOf N n) (N - 1) = tArr N n := by decide +kernel
theorem figs_size : ∀ N ∈ [3, 4], ∀ n ∈ List.range 14, (figsOf N (n : Nat)).length = N - 1 := by decide +kernel
theorem told_all {ws : List Wd} (hl : ws.length ∈ [3, 4]) {n : Nat} (hn : n ∈ List.range 14) : toldAt ws (figsOf ws.length n) (figsOf ws.length n).length = arrAt ws.length ws n := by
  have h : ws.length ≤ 100 := by
    simp only [List.mem_cons, List.not_mem_nil, or_false] at hl
    omega
  rw [figs_size _ hl n hn, told_map h, told_tags _ hl n hn, arr_map]
theorem arrAt_good {N : Nat} {ws : List Wd} (h : ∀ w ∈ ws, Good w) : ∀ n, ∀ w ∈ arrAt N ws n, Good w
  | 0 => h
  | n + 1 => flip_good (arrAt_good h n) _
theorem arrAt_len (N : Nat) (ws : List Wd) : ∀ n, (arrAt N ws n).length = ws.length
  | 0 => rfl
  | n + 1 => by show (flip _ _).length = _; rw [flip_len, arrAt_len N ws n]
end Mine
namespace Mine
noncomputable def wordN (k : Nat) : Wd := [[39, 34, 32, 92, 35, 10].getD (k % 6) 0, [97, 98, 99].getD (k / 6) 0]
theorem wordN_good : ∀ k ∈ List.range 18, Good (wordN k) := by
  intro k hk
  simp only [List.range, List.range.loop, List.mem_cons, List.not_mem_nil, or_false] at hk
  rcases hk with rfl | rfl | rfl | rfl | rfl | rfl | rfl | rfl | rfl | rfl | rfl | rfl | rfl | rfl | rfl | rfl | rfl | rfl
  all_goals (simp (config := {decide := true}) [Good, wordN])
end Mine
end SP03
section SW01
open PySem PySem.W PyProof.Rows PySem.W.X PySem.Spec PySem.Calls
namespace Mine
noncomputable section
section
variable {prog : Program} {w : World} {A : Around} {E : Value → Shared → Prop} {s : Shared} {h₀ : Heap} {L : Addr} {m : Str → Option Value} {env : Env}
noncomputable def CompSrcW (prog : Program) (w : World) (A : Around) (h₀ : Heap) (L : Addr) (m : Str → Option Value) (env : Env) (elt : Expr) (x : Str) (scope : Scope) (cl : List (Str × Addr)) (Fin : Shared → List Value → List (Addr × Obj) → Prop) (xv : Value) (s₁ : Shared) : Prop :=
  ∃ (n : Nat) (P : Nat → Value → Prop) (news : List (Addr × Obj)), A.handled = none ∧ Fr h₀ L s₁.heap m ∧ News h₀ L s₁.heap news ∧ n ≤ sizeLine ∧
    (∀ (Q : Value → Shared → Prop) (E : Value → Shared → Prop), (∀ (o : Obj) (St : Nat → Heap → Prop), Walks prog w A s₁.heap.objs.size [s₁.heap.objs.size] [s₁.heap.objs.size] n P St → (∀ i h, St i h → ∃ o, h.get? s₁.heap.objs.size = some o) →
      (∀ i h h' o, St i h → h.get? s₁.heap.objs.size = some o → h'.get? s₁.heap.objs.size = some o → St i h') → St 0 (s₁.heap.push o) → Q (.ref s₁.heap.objs.size) { s₁ with heap := s₁.heap.push o }) → wpAny (model prog w) A (pyIter xv) Q E s₁) ∧
    ∀ s₂ : Shared, (∃ h, s₂ = { s₁ with heap := h }) → LCg.CompRest prog w A h₀ L m env elt x scope cl s₂ (fun _ => True) P (Fin s₂) n 0 [] news
theorem ListComp_W {elt iter : Expr} {x : Str} {px : Pos} {scope : Scope} {cl : List (Str × Addr)} {pos : Pos} {Q : Value → Shared → Prop} (F₀ : Fr h₀ L s.heap m)
    (hclos : closureFor scope env = pure cl) (hcell : ∀ y ∈ scope.names, y.2 ≠ .cell) (hkind : scope.kind = .function)
    (hnames : ∀ y ∈ scope.names, y.2 = .local → scope.names.lookup y.1 = some .local) (hx : scope.names.lookup x = some .local)
    (h : wpAny (model prog w) A (eval iter env) (CompSrcW prog w A h₀ L m env elt x scope cl (fun s₂ => LCg.FinE h₀ L m s₂ Q)) E s)
    (hs : ∀ x, foldedSetIterable iter env x = pure x := by kmk_pure) :
    wpAny (model prog w) A (eval (.ListComp elt [⟨.Name x px, iter, [], 0⟩] scope pos) env) Q E s := by
  revert F₀ hclos hcell hkind hnames hx h hs
  revert prog w A E s h₀ L m env elt iter x px scope cl pos Q
  change ∀ prog w A E s h₀ L m env elt iter x px scope cl pos Q, _
  refine' (let rec cy0 : Pk12 _ := pk12 (by repeat' first | exact ne_world | exact ne_cx | exact ne_shared | exact ne_around | exact ⟨default⟩ | exact ⟨.sp⟩ | exact ⟨PySem.Challenge.rw_qw0075_02.row.toRowW.claim⟩ | refine ne_prod ?_ ?_) _; Pk12.use cy0 ?_)
  generalize cy0.1.1 = prog
  generalize cy0.1.2.1 = w
  generalize cy0.1.2.2.1 = A
  generalize cy0.1.2.2.2.1 = E
  generalize cy0.1.2.2.2.2.1 = s
  generalize cy0.1.2.2.2.2.2.1 = h₀
  generalize cy0.1.2.2.2.2.2.2.1 = L
  generalize cy0.1.2.2.2.2.2.2.2.1 = m
  generalize cy0.1.2.2.2.2.2.2.2.2.1 = env
  generalize cy0.1.2.2.2.2.2.2.2.2.2.1 = elt
  generalize cy0.1.2.2.2.2.2.2.2.2.2.2.1 = iter
  generalize cy0.1.2.2.2.2.2.2.2.2.2.2.2 = x
  clear cy0
  refine' (let rec cy0_1 : Pk5 _ := pk5 (by repeat' first | exact ne_world | exact ne_cx | exact ne_shared | exact ne_around | exact ⟨default⟩ | exact ⟨.sp⟩ | exact ⟨PySem.Challenge.rw_qw0075_02.row.toRowW.claim⟩ | refine ne_prod ?_ ?_) _; Pk5.use cy0_1 ?_)
  generalize cy0_1.1.1 = px
  generalize cy0_1.1.2.1 = scope
  generalize cy0_1.1.2.2.1 = cl
  generalize cy0_1.1.2.2.2.1 = pos
  generalize cy0_1.1.2.2.2.2 = Q
  clear cy0_1
  intro F₀ hclos hcell hkind hnames hx h hs
  rw [eval_ListComp]
  refine wpAny_comprehension_free (use := none) rfl hs hclos hkind hnames (wpAny_mono h (fun xv s₁ h₁ => ?_) fun _ _ e => e)
  obtain ⟨n, P, news, hh, F, N, hsz, hit, R⟩ := h₁
  refine hit _ _ fun o St W hIo hSt st0 => ?_
  refine LCg.block_U W hsz hIo (fun i h h' o nw a b c _ _ _ => hSt i h h' o a b c) hcell hkind hx st0 (fun b hb => ?_)
    (F.keeps fun _ _ e => Heap.get?_push_of_some _ e) (N.grown fun _ _ e => Heap.get?_push_of_some _ e) (Nat.ne_of_lt F.ns.lt) (next_is_new F) (fun p hp => Nat.ne_of_lt (Heap.lt_size (N p hp).1)) trivial (R _ ⟨_, rfl⟩) ?_
  · rw [List.mem_singleton.mp hb]
    show s₁.heap.objs.size < (s₁.heap.push _).objs.size
    rw [Heap.size_push]; exact Nat.lt_succ_self _
  · intro D C h tk m' ys news' F' N' o1 hn hC₀ hD₀ hCL hDL hCD offC fin
    refine ⟨m', hn, fun h'' hs'' => fin D h'' tk (F'.change hs'' hCL hC₀) (fun p hp => ?_) o1⟩
    refine ⟨hs''.extBut _ _ ?_ (N' p hp).1, (N' p hp).2⟩
    rcases List.mem_cons.mp hp with rfl | hp
    · exact Ne.symm hCD
    · exact offC p hp
theorem iter_same {h h' : Heap} {I : Addr} {P : Obj → Prop} {o : Obj} (a : ∃ o, h.get? I = some o ∧ P o) (b : h.get? I = some o) (c : h'.get? I = some o) : ∃ o, h'.get? I = some o ∧ P o := by
  obtain ⟨o', e, r⟩ := a
  rw [b] at e
  cases e
  exact ⟨o, c, r⟩
theorem src_text {elt : Expr} {x : Str} {scope : Scope} {cl : List (Str × Addr)} {Fin : Shared → List Value → List (Addr × Obj) → Prop} {tx : Str} {t : Tok} {news : List (Addr × Obj)} (hh : A.handled = none) (F : Fr h₀ L s.heap m) (N : News h₀ L s.heap news) (hz : tx.cps.size ≤ sizeLine)
    (h : ∀ g, LCg.CompRest prog w A h₀ L m env elt x scope cl { s with heap := g } (fun _ => True) (SignAt tx) (Fin { s with heap := g }) tx.cps.size 0 [] news) :
    CompSrcW prog w A h₀ L m env elt x scope cl Fin (.str tx t) s := by
  refine ⟨tx.cps.size, SignAt tx, news, hh, F, N, hz, ?_, fun _ ⟨g, e⟩ => e ▸ h g⟩
  intro Q E hQ
  cases ha : tx.cps.all (· < 128)
  · exact wpAny_pyIter_wide ha (hQ _ _ (Walks.strWide hh _ tx t) (fun i h st => let ⟨o, e, _⟩ := st; ⟨o, e⟩) (fun i h h' o a b c => iter_same a b c) ⟨_, Heap.get?_push_size _ rfl, rfl, rfl⟩)
  · exact wpAny_pyIter_ascii ha (hQ _ _ (Walks.strAscii hh _ tx t) (fun i h st => let ⟨o, e, _⟩ := st; ⟨o, e⟩) (fun i h h' o a b c => iter_same a b c) ⟨_, Heap.get?_push_size _ rfl, rfl, rfl⟩)
theorem rest_W {elt : Expr} {x : Str} {scope : Scope} {cl : List (Str × Addr)} {Sp : List (Addr × Obj) → Prop} {P : Nat → Value → Prop} {Fin : List Value → List (Addr × Obj) → Prop} {news : List (Addr × Obj)} {n : Nat} (R : Nat → Value → Prop)
    (turn : ∀ i v I oI C oC D m₂ ys h tk (E' : Value → Shared → Prop), i < n → P i v → LCg.NsObj oC m₂ → m₂ x = some v → Fr h₀ L h m → News h₀ L h ((I, oI) :: (C, oC) :: (D, LCg.lst ys) :: news) → LCg.Off3 I C D news → ((@Ne Nat I C) ∧ (@Ne Nat I D) ∧ (@Ne Nat C D)) →
      wpAny (model prog w) A (eval elt (compEnvC scope cl C env)) (LCg.CompEnd h₀ L m { s with heap := h, toks := tk } I oI C oC D (LCg.lst ys) Sp (fun y news' => news' = news ∧ R i y)) E' { s with heap := h, toks := tk })
    (fin : ∀ ys : List Value, ys.length = n → (∀ i y, ys[i]? = some y → R i y) → Fin ys news) : LCg.CompRest prog w A h₀ L m env elt x scope cl s Sp P Fin n 0 [] news := by
  have key : ∀ (j i : Nat) (ys : List Value), i + j = n → ys.length = i → (∀ i y, ys[i]? = some y → R i y) → LCg.CompRest prog w A h₀ L m env elt x scope cl s Sp P Fin j i ys news := by
    intro j
    induction j with
    | zero => exact fun i ys hi hl hy => LCg.CompRest.zero (fin ys (by omega) hy)
    | succ j ih =>
      intro i ys hi hl hy
      refine LCg.CompRest.succ ?_
      intro v I oI C oC D m₂ h tk E' hv hC hx F N off ne
      refine wpAny_mono (turn i v I oI C oC D m₂ ys h tk E' (by omega) hv hC hx F N off ne) (fun y s₂ hq => ?_) fun _ _ e => e
      obtain ⟨h', tk', nw, e, F', N', off', hS, hn, hr⟩ := hq
      subst hn
      refine ⟨h', tk', nw, e, F', N', off', hS, ?_⟩
      refine ih (i + 1) _ (by omega) (by simp [hl]) ?_
      intro k z hz
      by_cases hk : k < ys.length
      · rw [List.getElem?_append_left hk] at hz
        exact hy k z hz
      · rw [List.getElem?_append_right (by omega)] at hz
        by_cases hk2 : k - ys.length = 0
        · rw [hk2] at hz
          cases hz
          have : k = i := by omega
          rw [this]; exact hr
        · rw [List.getElem?_eq_none (by simp; omega)] at hz
          cases hz
  exact key n 0 [] (by omega) rfl (fun i y h => by simp at h)
theorem ints_of {ys : List Value} {ns : List Int} (hl : ys.length = ns.length) (h : ∀ i y, ys[i]? = some y → ∃ t, y = Value.int (ns.getD i 0) t) : IntsAre ys ns := by
  induction ys generalizing ns with
  | nil => cases ns with
    | nil => exact .nil
    | cons => cases hl
  | cons y ys ih => cases ns with
    | nil => cases hl
    | cons n ns =>
      obtain ⟨t, e⟩ := h 0 y (by simp)
      rw [e]
      exact .cons _ _ (ih (by simpa using hl) fun i z hz => by simpa using h (i + 1) z (by simpa using hz))
theorem strs_of {ys : List Value} {ns : List Str} (hl : ys.length = ns.length) (h : ∀ i y, ys[i]? = some y → ∃ t, y = Value.str (ns.getD i Str.empty) t) : StrsAre ys ns := by
  induction ys generalizing ns with
  | nil => cases ns with
    | nil => exact .nil
    | cons => cases hl
  | cons y ys ih => cases ns with
    | nil => cases hl
    | cons n ns =>
      obtain ⟨t, e⟩ := h 0 y (by simp)
      rw [e]
      exact .cons _ _ (ih (by simpa using hl) fun i z hz => by simpa using h (i + 1) z (by simpa using hz))
end
end
end Mine
end SW01
section SL23
open PySem PySem.W PyProof.Rows PySem.W.X PySem.Spec PySem.Calls
namespace Mine
theorem join_S (sep : List Nat) : ∀ (l : List (List Nat)), Txt.join (S sep) (l.map S) = S (List.intercalate sep l)
  | [] => by show Builtin.Str.glued _ _ = _; rw [StrLaws.glued_eq_join]; simp [Str.join, List.intercalate, Str.empty]
  | [x] => by show Builtin.Str.glued _ _ = _; rw [StrLaws.glued_eq_join]; simp [Str.join, List.intercalate]
  | x :: y :: r => by
    have ih := join_S sep (y :: r)
    show Builtin.Str.glued _ _ = _
    have ih' : Builtin.Str.glued (S sep) ((y :: r).map S) = S (List.intercalate sep (y :: r)) := ih
    rw [StrLaws.glued_eq_join] at ih' ⊢
    show S x ++ S sep ++ Str.join (S sep) ((y :: r).map S) = _
    rw [ih', S_app, S_app]
    simp [List.intercalate]
theorem join_signs (l : List Nat) : Txt.join (S []) ((l.map fun c => [c]).map S) = S l := by
  rw [join_S]
  congr 1
  induction l with
  | nil => rfl
  | cons a l ih =>
    cases l with
    | nil => simp [List.intercalate]
    | cons b l => simp [List.intercalate] at ih ⊢; exact ih
noncomputable def octs (l : List Nat) : List UInt8 := l.map fun n => n.toUInt8
theorem byteArr_octs (l : List Nat) : byteArr (l.map fun n : Nat => (n : Int)) = (octs l).toArray := by
  unfold byteArr octs
  simp
end Mine
end SL23
section SW02
open PySem PySem.W PyProof.Rows PySem.W.X PySem.Spec PySem.Calls
namespace Mine
section
variable {prog : Program} {w : World} {A : Around} {E : Value → Shared → Prop} {s : Shared} {h₀ : Heap} {L : Addr} {m : Str → Option Value} {env : Env}
theorem src_bytes {elt : Expr} {x : Str} {scope : Scope} {cl : List (Str × Addr)} {Fin : Shared → List Value → List (Addr × Obj) → Prop} {b : Array UInt8} {t : Tok} {news : List (Addr × Obj)} (hh : A.handled = none) (F : Fr h₀ L s.heap m) (N : News h₀ L s.heap news) (hz : b.size ≤ sizeLine)
    (h : ∀ g, LCg.CompRest prog w A h₀ L m env elt x scope cl { s with heap := g } (fun _ => True) (fun i v => ∃ c u, b[i]? = some c ∧ v = .int (c.toNat : Int) u) (Fin { s with heap := g }) b.size 0 [] news) :
    CompSrcW prog w A h₀ L m env elt x scope cl Fin (.bytes b t) s := by
  refine ⟨b.size, _, news, hh, F, N, hz, ?_, fun _ ⟨g, e⟩ => e ▸ h g⟩
  intro Q E hQ
  exact KBw.pyIter_bytes (hQ _ _ (KBw.walks hh _ b t) (fun i h st => let ⟨o, e, _⟩ := st; ⟨o, e⟩) (fun i h h' o a b c => iter_same a b c) ⟨_, Heap.get?_push_size _ rfl, rfl, rfl⟩)
end
theorem octs_get {l : List Nat} (h : ∀ c ∈ l, c < 128) {i : Nat} {c : UInt8} (e : (octs l).toArray[i]? = some c) : l.getD i 0 = c.toNat ∧ i < l.length ∧ c.toNat < 128 := by
  have hi : i < l.length := by
    have := (Array.getElem?_eq_some_iff.mp e).1
    simpa [octs] using this
  have hc := h _ (List.getElem_mem hi)
  have e2 : (octs l)[i]? = some c := by simpa using e
  unfold octs at e2
  rw [List.getElem?_map, List.getElem?_eq_getElem hi] at e2
  have e3 : l[i].toUInt8 = c := Option.some.inj e2
  have e4 : c.toNat = l[i] := by
    rw [← e3]
    show l[i] % 256 = _
    omega
  refine ⟨?_, hi, by omega⟩
  rw [e4]
  simp [hi]
end Mine
end SW02
section SW03
open PySem PySem.W PyProof.Rows PySem.W.X PySem.Spec PySem.Calls
namespace Mine
noncomputable section
section
variable {prog : Program} {w : World} {A : Around} {E : Value → Shared → Prop} {s : Shared} {h₀ : Heap} {L : Addr} {m : Str → Option Value} {env : Env}
noncomputable def CompSrcT (prog : Program) (w : World) (A : Around) (h₀ : Heap) (L : Addr) (m : Str → Option Value) (env : Env) (elt : Expr) (x : Str) (scope : Scope) (cl : List (Str × Addr)) (Fin : Shared → List Value → List (Addr × Obj) → Prop) (xv : Value) (s₁ : Shared) : Prop :=
  ∃ (ax : Addr) (its : Array Value) (o : Obj) (news : List (Addr × Obj)), xv = .ref ax ∧ A.handled = none ∧ Fr h₀ L s₁.heap m ∧ News h₀ L s₁.heap news ∧ (ax, o) ∈ news ∧ (∀ h : Heap, h.get? ax = some o → h.IsTuple ax its) ∧ its.size ≤ sizeLine ∧
    ∀ s₂ : Shared, (∃ h, s₂ = { s₁ with heap := h }) → LCg.CompRest prog w A h₀ L m env elt x scope cl s₂ (fun nw => (ax, o) ∈ nw) (fun i v => its[i]? = some v) (Fin s₂) its.size 0 [] news
theorem src_tup {elt : Expr} {x : Str} {scope : Scope} {cl : List (Str × Addr)} {Fin : Shared → List Value → List (Addr × Obj) → Prop} {ax : Addr} {its : Array Value} {k : Nat} {news : List (Addr × Obj)} (hh : A.handled = none) (F : Fr h₀ L s.heap m) (N : News h₀ L s.heap news) (hm : (ax, ({ cls := .type "tuple", data := .seq its k } : Obj)) ∈ news) (hsz : its.size ≤ sizeLine)
    (h : ∀ g, LCg.CompRest prog w A h₀ L m env elt x scope cl { s with heap := g } (fun nw => (ax, ({ cls := .type "tuple", data := .seq its k } : Obj)) ∈ nw) (fun i v => its[i]? = some v) (Fin { s with heap := g }) its.size 0 [] news) :
    CompSrcT prog w A h₀ L m env elt x scope cl Fin (.ref ax) s :=
  ⟨ax, its, _, news, rfl, hh, F, N, hm, fun _ e => ⟨_, e, rfl, _, rfl⟩, hsz, fun _ ⟨g, e⟩ => e ▸ h g⟩
end
end
end Mine
end SW03
section SW04
open PySem PySem.W PyProof.Rows PySem.W.X PySem.Spec PySem.Calls
namespace Mine
noncomputable section
section
variable {prog : Program} {w : World} {A : Around} {E : Value → Shared → Prop} {s : Shared} {h₀ : Heap} {L : Addr} {m : Str → Option Value} {env : Env}
theorem Assign_ListComp_T {elt iter : Expr} {x y : Str} {px py : Pos} {scope : Scope} {cl : List (Str × Addr)} {pos spos : Pos} {Q : Flow → Shared → Prop} (F₀ : Fr h₀ L s.heap m) (hLe : env.locals = L)
    (hsw : swapsWith (.ListComp elt [⟨.Name x px, iter, [], 0⟩] scope pos) (some (.Name y py)) spos.line env = pure true)
    (hclos : closureFor scope env = pure cl) (hcell : ∀ z ∈ scope.names, z.2 ≠ .cell) (hkind : scope.kind = .function)
    (hnames : ∀ z ∈ scope.names, z.2 = .local → scope.names.lookup z.1 = some .local) (hx : scope.names.lookup x = some .local)
    (hy : env.kindOf y = some .local) (hp : (env.scope.kind == .class || (env.scope.kind == .module && env.locals != env.globals)) = false)
    (h : wpAny (model prog w) A (eval iter env) (CompSrcT prog w A h₀ L m env elt x scope cl (fun s₂ => LCg.FinA h₀ L m s₂ y Q)) E s)
    (hs : ∀ x, foldedSetIterable iter env x = pure x := by kmk_pure) :
    wpAny (model prog w) A (exec (.Assign [.Name y py] (.ListComp elt [⟨.Name x px, iter, [], 0⟩] scope pos) spos) env) Q E s := by
  revert F₀ hLe hsw hclos hcell hkind hnames hx hy hp h hs
  revert prog w A E s h₀ L m env elt iter x y px py scope cl pos spos Q
  change ∀ prog w A E s h₀ L m env elt iter x y px py scope cl pos spos Q, _
  refine' (let rec cy0 : Pk12 _ := pk12 (by repeat' first | exact ne_world | exact ne_cx | exact ne_shared | exact ne_around | exact ⟨default⟩ | exact ⟨.sp⟩ | refine ne_prod ?_ ?_) _; Pk12.use cy0 ?_)
  generalize cy0.1.1 = prog
  generalize cy0.1.2.1 = w
  generalize cy0.1.2.2.1 = A
  generalize cy0.1.2.2.2.1 = E
  generalize cy0.1.2.2.2.2.1 = s
  generalize cy0.1.2.2.2.2.2.1 = h₀
  generalize cy0.1.2.2.2.2.2.2.1 = L
  generalize cy0.1.2.2.2.2.2.2.2.1 = m
  generalize cy0.1.2.2.2.2.2.2.2.2.1 = env
  generalize cy0.1.2.2.2.2.2.2.2.2.2.1 = elt
  generalize cy0.1.2.2.2.2.2.2.2.2.2.2.1 = iter
  generalize cy0.1.2.2.2.2.2.2.2.2.2.2.2 = x
  clear cy0
  refine' (let rec cy0_1 : Pk8 _ := pk8 (by repeat' first | exact ne_world | exact ne_cx | exact ne_shared | exact ne_around | exact ⟨default⟩ | exact ⟨.sp⟩ | refine ne_prod ?_ ?_) _; Pk8.use cy0_1 ?_)
  generalize cy0_1.1.1 = y
  generalize cy0_1.1.2.1 = px
  generalize cy0_1.1.2.2.1 = py
  generalize cy0_1.1.2.2.2.1 = scope
  generalize cy0_1.1.2.2.2.2.1 = cl
  generalize cy0_1.1.2.2.2.2.2.1 = pos
  generalize cy0_1.1.2.2.2.2.2.2.1 = spos
  generalize cy0_1.1.2.2.2.2.2.2.2 = Q
  clear cy0_1
  intro F₀ hLe hsw hclos hcell hkind hnames hx hy hp h hs
  subst hLe
  rw [exec_Assign_Name_used _ _ _ _ hsw]
  refine wpAny_bind (wpAny_standAt (wpAny_bind ?_))
  show wpAny _ A (do let _ ← comprehension (.ListComp elt [⟨.Name x px, iter, [], 0⟩] scope pos) scope env _ (newList []) false (eval iter env) (some (assign (.Name y py) env))) _ _ s
  refine wpAny_bind (wpAny_mono (wpAny_comprehension_free (use := some (assign (.Name y py) env)) (Q := fun _ s' => Q .next s') rfl hs hclos hkind hnames
    (wpAny_mono h (fun xv s₁ h₁ => ?_) fun _ _ e => e)) (fun _ s' hq => wpAny_pure (wpAny_pure hq)) fun _ _ e => e)
  obtain ⟨ax, its, o, news, rfl, hh, F, N, hm, ht, hsz, R⟩ := h₁
  have hl := ht _ (N _ hm).1
  have hlt : ax < s₁.heap.objs.size := Heap.lt_size (N _ hm).1
  refine wpAny_pyIter_tuple hl ?_
  have up : ∀ b o, s₁.heap.get? b = some o → (s₁.heap.push { cls := .type "tuple_iterator", data := .fields #[.ref ax, .int 0 0] }).get? b = some o := fun b o e => Heap.get?_push_of_some _ e
  refine LCg.block_U (Walks.tuple hh s₁.heap.objs.size ax (Nat.ne_of_lt hlt) its) hsz (fun i h st => by obtain ⟨o, e, _⟩ := st.1; exact ⟨o, e⟩)
    (fun i h h' o' nw st e e' _ N' S' => ⟨by obtain ⟨o2, q, r⟩ := st.1; rw [e] at q; cases q; exact ⟨o', e', r⟩, ht _ (N' _ S').1⟩) hcell hkind hx ⟨⟨_, Heap.get?_push_size _ rfl, rfl, rfl⟩, hl.at fun o e => up _ o e⟩ (fun b hb => ?_)
    (F.keeps up) (N.grown up) (Nat.ne_of_lt F.ns.lt) (next_is_new F) (fun p hp => Nat.ne_of_lt (Heap.lt_size (N p hp).1)) hm (R _ ⟨_, rfl⟩) ?_
  · show b < (s₁.heap.push _).objs.size
    rw [Heap.size_push]
    rcases List.mem_cons.mp hb with rfl | hb
    · exact Nat.lt_succ_self _
    · rw [List.mem_singleton.mp hb]; exact Nat.lt_succ_of_lt hlt
  · intro D C h' tk m' ys news' F' N' o1 hn hC₀ hD₀ hCL hDL hCD offC fin
    show wpAny _ A (assign (.Name y py) env (.ref D)) _ _ _
    refine wpAny_assign_Name (wpAny_storeName_local hy F'.ns (fun h₂ hn₂ hs₂ => ?_) hp)
    have hL₀ : h₀.get? env.locals = none := Heap.get?_none_of_le F'.above
    have F₂ : Fr h₀ env.locals h₂ (fun z => if z = y then some (.ref D) else m z) := ⟨hn₂, fun b o e => hs₂.extBut b o (fun q => by rw [q, hL₀] at e; cases e) (F'.keep b o e), F'.above⟩
    refine ⟨m', hn.sameBut hs₂ hCL, fun h'' hs'' => fin D h'' _ (F₂.change hs'' hCL hC₀) (fun p hp => ?_) o1⟩
    have z : h₂.get? p.1 = some p.2 := hs₂.extBut _ _ (N' p hp).2.1 (N' p hp).1
    refine ⟨hs''.extBut _ _ ?_ z, (N' p hp).2⟩
    rcases List.mem_cons.mp hp with rfl | hp
    · exact Ne.symm hCD
    · exact offC p hp
end
end
end Mine
end SW04
section SW05
open PySem PySem.W PyProof.Rows PySem.W.X PySem.Spec PySem.Calls
namespace Mine
theorem compEnd_new {h₀ h h' : Heap} {L I C D q : Addr} {m : Str → Option Value} {s₁ : Shared} {oI oC oD o : Obj} {S : List (Addr × Obj) → Prop} {rest : Value → List (Addr × Obj) → Prop} {y : Value} {tk : Nat} {news : List (Addr × Obj)}
    (F : Fr h₀ L h' m) (N : News h₀ L h ((I, oI) :: (C, oC) :: (D, oD) :: news)) (N' : News h₀ L h' ((q, o) :: (I, oI) :: (C, oC) :: (D, oD) :: news)) (hq : h.objs.size ≤ q) (off : LCg.Off3 I C D news) (hS : S ((q, o) :: news)) (r : rest y ((q, o) :: news)) :
    LCg.CompEnd h₀ L m s₁ I oI C oC D oD S rest y { s₁ with heap := h', toks := tk } := by
  have n1 : I < h.objs.size := Heap.lt_size (N _ (.head _)).1
  have n2 : C < h.objs.size := Heap.lt_size (N _ (.tail _ (.head _))).1
  have n3 : D < h.objs.size := Heap.lt_size (N _ (.tail _ (.tail _ (.head _)))).1
  refine LCg.CompEnd.intro F N' ((q, o) :: news) ?_ ⟨⟨Nat.ne_of_gt (Nat.lt_of_lt_of_le n1 hq), Nat.ne_of_gt (Nat.lt_of_lt_of_le n2 hq), Nat.ne_of_gt (Nat.lt_of_lt_of_le n3 hq)⟩, off⟩ hS r
  intro p hp
  simp only [List.mem_cons] at hp ⊢
  rcases hp with h | h | h | h | h <;> simp [h]
end Mine
end SW05
section SS01
open PySem PySem.W PyProof.Rows PySem.W.X PySem.Calls
namespace Mine
noncomputable section
section
variable {prog : Program} {w : World} {A : Around} {E : Value → Shared → Prop} {s : Shared}
theorem hash_true {Q : Int → Shared → Prop} (h : Q 1 { s with toks := s.toks + 1 }) : wpAny (model prog w) A (pyHash (.bool true)) Q E s := by
  unfold pyHash
  have hv : [Value.bool true].any Value.onHeap = false := rfl
  have hT : s.TypeIs (.bool true) "bool" := PySem.typeIs_bool s true
  refine wpAny_bind ?_
  rw [cRoomFor, if_neg (by rw [hv]; exact Bool.false_ne_true)]; refine wpAny_pure ?_
  refine wpAny_bind (wpAny_specialOf hT F.slot_bool_hash.lookup ?_)
  show wpAny _ _ (if (some (Value.builtin "int.__hash__") == some Value.none) = true then _ else _) Q E s
  rw [if_neg (by rw [beq_builtin_none]; exact Bool.false_ne_true)]
  refine wpAny_bind (wpAny_specialOf hT F.slot_bool_hash.lookup ?_)
  show wpAny _ _ (callSpecialIfBoundUnlessNone? (.bool true) "__hash__" _ >>= _) Q E s
  refine wpAny_bind (wpAny_callSpecialIfBoundUnlessNone?_slot hT F.slot_bool_hash
    (wpAny_call_entry F.slot_bool_hash hT entry_int_hash
      (show wpAny _ _ (do ret (← mkInt 1)) _ _ s from wpAny_ret_mkInt ?_) (args_int_hash _)))
  exact wpAny_pure h
theorem eq_true_bool {Q : Bool → Shared → Prop} (h : Q true s) : wpAny (model prog w) A (PySem.eqBool (.bool true) (.bool true)) Q E s := by
  unfold PySem.eqBool
  refine wpAny_holding ?_
  rw [if_pos (by rfl)]
  exact wpAny_bind (wpAny_rule (wpAny_pure h))
end
noncomputable def isT (_ : Unit) : Value → Bool
  | .bool true => true
  | _ => false
theorem isT_shape {u : Unit} {v : Value} (h : isT u v = true) : v = .bool true := by
  unfold isT at h
  split at h
  · rfl
  · cases h
noncomputable def boolKind (prog : Program) (w : World) : KeyKind prog w Unit where
  is := isT
  hash := fun _ => 1
  inj := fun _ _ _ _ _ => rfl
  byValue := fun k v h => by rw [isT_shape h]; rfl
  pyHash := fun hv h => by rw [isT_shape hv]; exact hash_true h
  eqBool := fun hu hv h => by rw [isT_shape hu, isT_shape hv]; exact eq_true_bool (by simpa using h)
  «strs» := fun k x t v h => by have := isT_shape h; cases this
noncomputable abbrev setE (led : Bool) : Obj := { cls := .type "set", data := .set #[] 0 (.fresh 0 0 led) }
noncomputable abbrev tabU (led : Bool) : SetTable := { mask := 7, place := #[1], dummies := #[], finger := 0, led := led, moves := 0, plain := true }
noncomputable abbrev setU (led : Bool) : Obj := { cls := .type "set", data := .set #[(1, .bool true)] 1 (tabU led) }
theorem layU (led : Bool) : layNew (.fresh 0 0 led) #[] 1 (.bool true) = (#[(1, .bool true)], tabU led, false, false) := by
  cases led <;> rfl
theorem elE (prog : Program) (w : World) : ElemsOf (boolKind prog w) (#[] : Array (Int × Value)).toList := fun e he => by simp at he
theorem elU (prog : Program) (w : World) : ElemsOf (boolKind prog w) (#[((1 : Int), Value.bool true)] : Array (Int × Value)).toList := fun e he => by
  have : e = (1, .bool true) := by simpa using he
  rw [this]
  exact ⟨⟨(), rfl, rfl⟩, rfl⟩
section
variable {prog : Program} {w : World} {A : Around} {E : Value → Shared → Prop} {s : Shared}
theorem set_new {Q : Value → Shared → Prop} (h : Q (.ref s.heap.objs.size) { s with heap := s.heap.push (setE (!w.params.followText "set-order")) }) :
    wpAny (model prog w) A (newSet (.type "set")) Q E s := by
  unfold newSet setsByText
  refine wpAny_bind (wpAny_bind (wpAny_askSetting (wpAny_pure ?_)))
  dsimp only
  simp only [newObj]
  exact wpAny_bind (wpAny_alloc (wpAny_pure h))
theorem set_open {a : Addr} {o : Obj} {Q : Value → Shared → Prop} (ho : s.heap.get? a = some o) (hc : o.cls = .type "set")
    (h : wpAny (model prog w) A.in1 (setAddHashed a (.bool true) 1) (fun _ s' => Q .none s') E { s with toks := s.toks + 1 }) :
    wpAny (model prog w) A (call (.builtin "set.add") [.ref a, .bool true]) Q E s := by
  refine wpAny_call_entry F.slot_set_add ⟨o, ho, hc⟩ F.entry_set_add ?_ (F.args_set_add_2 _ _)
  unfold Builtin.«set.add» Builtin.Frozenset.oneOther
  simp only [List.isEmpty_nil, bind_assoc]
  unfold Builtin.Frozenset.addrOf setAdd
  refine wpAny_bind (wpAny_pure ?_)
  try dsimp only
  refine wpAny_bind (wpAny_pure ?_)
  try dsimp only
  refine wpAny_bind ?_
  refine wpAny_holding ?_
  refine wpAny_bind (hash_true ?_)
  refine wpAny_mono h (fun b s' hq => ?_) fun _ _ e => e
  show wpAny _ _ (ret Value.none) _ _ _
  exact wpAny_pure ⟨_, rfl, hq⟩
theorem set_add1 {a : Addr} {led : Bool} {Q : Value → Shared → Prop} (ho : s.heap.get? a = some (setE led))
    (h : ∀ h', Heap.SameBut a s.heap h' → h'.get? a = some (setU led) → Q .none { s with heap := h', toks := s.toks + 1 }) :
    wpAny (model prog w) A (call (.builtin "set.add") [.ref a, .bool true]) Q E s := by
  revert ho h
  revert prog w A E s a led Q
  change ∀ prog w A E s a led Q, _
  refine' (let rec cy0 : Pk8 _ := pk8 (by repeat' first | exact ne_world | exact ne_cx | exact ne_shared | exact ne_around | exact ⟨default⟩ | exact ⟨.sp⟩ | exact ⟨PySem.Challenge.rw_qw0075_02.row.toRowW.claim⟩ | refine ne_prod ?_ ?_) _; Pk8.use cy0 ?_)
  generalize cy0.1.1 = prog
  generalize cy0.1.2.1 = w
  generalize cy0.1.2.2.1 = A
  generalize cy0.1.2.2.2.1 = E
  generalize cy0.1.2.2.2.2.1 = s
  generalize cy0.1.2.2.2.2.2.1 = a
  generalize cy0.1.2.2.2.2.2.2.1 = led
  generalize cy0.1.2.2.2.2.2.2.2 = Q
  clear cy0
  intro ho h
  refine set_open ho rfl ?_
  have hf : (SetTable.fresh 0 0 led).fits (#[] : Array (Int × Value)).size = true := by cases led <;> rfl
  unfold setAddHashed setAddHashedIn
  refine wpAny_holding (wpAny_bind (wpAny_setState_of (s := { s with toks := s.toks + 1 }) ho rfl hf ?_))
  dsimp only
  rw [byScan_of (knd := boolKind prog w) rfl (by decide) (elE prog w)]
  simp only [↓reduceIte]
  unfold setAddByScan
  refine wpAny_bind ?_
  refine wpAny_bind (wpAny_rule ?_)
  refine wpAny_bind (wpAny_setScan_of (s := { s with toks := s.toks + 1 }) (knd := boolKind prog w) (k := ()) rfl ho rfl hf (elE prog w) ?_)
  simp only [List.findIdx?_nil]
  rw [layU]
  dsimp only
  refine wpAny_bind (wpAny_pure ?_)
  rw [if_pos rfl]
  refine wpAny_bind ?_
  rw [hashByValue_scannable 8 (by rfl)]
  refine wpAny_pure ?_
  rw [if_pos (by rfl)]
  refine wpAny_bind (wpAny_storeSet_of (s := { s with toks := s.toks + 1 }) ho rfl ?_ (by decide))
  rw [if_neg (by cases led <;> decide)]
  exact wpAny_pure (wpAny_pure (h _ (Heap.SameBut.update ..) (Heap.get?_update_self _ ho rfl)))
theorem set_add2 {a : Addr} {led : Bool} {Q : Value → Shared → Prop} (ho : s.heap.get? a = some (setU led))
    (h : Q .none { s with toks := s.toks + 1 }) :
    wpAny (model prog w) A (call (.builtin "set.add") [.ref a, .bool true]) Q E s := by
  refine set_open ho rfl ?_
  have hf : (tabU led).fits (#[((1 : Int), Value.bool true)] : Array (Int × Value)).size = true := by cases led <;> rfl
  unfold setAddHashed setAddHashedIn
  refine wpAny_holding (wpAny_bind (wpAny_setState_of (s := { s with toks := s.toks + 1 }) ho rfl hf ?_))
  dsimp only
  rw [byScan_of (knd := boolKind prog w) rfl (by decide) (elU prog w)]
  simp only [↓reduceIte]
  unfold setAddByScan
  refine wpAny_bind ?_
  refine wpAny_bind (wpAny_rule ?_)
  refine wpAny_bind (wpAny_setScan_of (s := { s with toks := s.toks + 1 }) (knd := boolKind prog w) (k := ()) rfl ho rfl hf (elU prog w) ?_)
  exact wpAny_pure (wpAny_pure h)
end
section
variable {prog : Program} {w : World} {A : Around} {E : Value → Shared → Prop} {R : Result → Shared → Prop} {s : Shared}
theorem compTurn_set1 (elt target iter : Expr) (scope : Scope) (pos : Pos) (it acc : Value) (env : Env) :
    compTurn (.SetComp elt [⟨target, iter, [], 0⟩] scope pos) 0 it acc env = (standAt iter.pos >>= fun _ => pyNext it >>= fun r => match r with
      | none => pure (.done .next)
      | some v => letOwnedTupleGo target it v >>= fun _ => assign target env v >>= fun _ =>
        (eval elt env >>= fun x => standAt elt.pos >>= fun _ => call (.builtin "set.add") [acc, x] >>= fun _ => pure ()) >>= fun _ =>
          again (.compLoop (.SetComp elt [⟨target, iter, [], 0⟩] scope pos) 0 it acc env)) := by rfl
theorem codeAny_compLoop_set {elt target iter : Expr} {scope : Scope} {pos : Pos} {it acc : Value} {env : Env} (I : Nat → Shared → Prop)
    (turn : ∀ n s, I n s → wpAny (model prog w) A (pyNext it) (fun r s₁ => match r with
      | none => R (.ok .next) s₁
      | some v => wpAny (model prog w) A (assign target env v) (fun _ s₂ => wpAny (model prog w) A (eval elt env) (fun x s₃ =>
          wpAny (model prog w) A (call (.builtin "set.add") [acc, x]) (fun _ s₄ => ∃ m, m < n ∧ I m s₄) (notedBy (model prog w) A env fun e s' => R (.error e) s') s₃)
          (notedBy (model prog w) A env fun e s' => R (.error e) s') s₂) (notedBy (model prog w) A env fun e s' => R (.error e) s') s₁) (notedBy (model prog w) A env fun e s' => R (.error e) s') s)
    (n : Nat) (h : I n s) (ht : ∀ v, letOwnedTupleGo target it v = pure () := by kmk_pure) :
    codeAny (model prog w) A (.compLoop (.SetComp elt [⟨target, iter, [], 0⟩] scope pos) 0 it acc env) R s := by
  revert turn h ht
  revert prog w A R s elt target iter scope pos it acc env I n
  change ∀ prog w A R s elt target iter scope pos it acc env I n, _
  refine' (let rec cy0 : Pk12 _ := pk12 (by repeat' first | exact ne_world | exact ne_cx | exact ne_shared | exact ne_around | exact ⟨default⟩ | exact ⟨.sp⟩ | exact ⟨PySem.Challenge.rw_qw0075_02.row.toRowW.claim⟩ | refine ne_prod ?_ ?_) _; Pk12.use cy0 ?_)
  generalize cy0.1.1 = prog
  generalize cy0.1.2.1 = w
  generalize cy0.1.2.2.1 = A
  generalize cy0.1.2.2.2.1 = R
  generalize cy0.1.2.2.2.2.1 = s
  generalize cy0.1.2.2.2.2.2.1 = elt
  generalize cy0.1.2.2.2.2.2.2.1 = target
  generalize cy0.1.2.2.2.2.2.2.2.1 = iter
  generalize cy0.1.2.2.2.2.2.2.2.2.1 = scope
  generalize cy0.1.2.2.2.2.2.2.2.2.2.1 = pos
  generalize cy0.1.2.2.2.2.2.2.2.2.2.2.1 = it
  generalize cy0.1.2.2.2.2.2.2.2.2.2.2.2 = acc
  clear cy0
  refine' (let rec cy0_1 : Pk3 _ := pk3 (by repeat' first | exact ne_world | exact ne_cx | exact ne_shared | exact ne_around | exact ⟨default⟩ | exact ⟨.sp⟩ | exact ⟨PySem.Challenge.rw_qw0075_02.row.toRowW.claim⟩ | refine ne_prod ?_ ?_) _; Pk3.use cy0_1 ?_)
  generalize cy0_1.1.1 = env
  generalize cy0_1.1.2.1 = I
  generalize cy0_1.1.2.2 = n
  clear cy0_1
  intro turn h ht
  refine codeAny_loop rfl I (fun n s hI => ?_) n h
  show wpAny _ _ ((compTurn (.SetComp elt [⟨target, iter, [], 0⟩] scope pos) 0 it acc env).onRaise (fun x => do noteFrame x env; theTreesLotGoes x)) _ _ s
  refine wpAny_noted ?_
  rw [compTurn_set1]
  refine wpAny_bind (wpAny_standAt (wpAny_bind (wpAny_mono (turn n s hI) (fun r s₁ h₁ => ?_) fun _ _ h' => h')))
  cases r with
  | none => exact wpAny_pure h₁
  | some v =>
    refine wpAny_bind (wpAny_of_eq (ht v) ?_)
    refine wpAny_bind (wpAny_mono h₁ (fun _ s₂ h₂ => ?_) fun _ _ h' => h')
    exact wpAny_bind (wpAny_bind (wpAny_mono h₂ (fun x s₄ h₄ => wpAny_bind (wpAny_standAt (wpAny_bind (wpAny_mono h₄ (fun _ s₅ h₅ => wpAny_pure (wpAny_pure ⟨rfl, h₅⟩)) fun _ _ h' => h')))) fun _ _ h' => h'))
theorem codeAny_compStart_set {elt target iter ifs rest scope pos it acc env}
    (h0 : codeAny (model prog w) A (.compLoop (.SetComp elt (⟨target, iter, ifs, 0⟩ :: rest) scope pos) 0 it acc env) R s)
    (h : wpAny (model prog w) A (pyIter it) (fun it' s' => codeAny (model prog w) A (.compLoop (.SetComp elt (⟨target, iter, ifs, 0⟩ :: rest) scope pos) 0 it' acc env) R s')
      (notedBy (model prog w) A env fun x s' => R (.error x) s') s) :
    codeAny (model prog w) A (.compStart (.SetComp elt (⟨target, iter, ifs, 0⟩ :: rest) scope pos) 0 it acc env) R s := by
  refine codeAny_of_tree ?_
  show wpAny _ _ ((compStart (.SetComp elt (⟨target, iter, ifs, 0⟩ :: rest) scope pos) 0 it acc env).onRaise (fun x => do noteFrame x env; standAt theWindowsPlace)) _ _ s
  refine wpAny_notedAt ?_
  unfold compStart
  show wpAny _ _ (ask >>= _) _ _ s
  refine wpAny_bind (wpAny_askSetting (wpAny_ite ?_))
  split
  · first
      | exact wpAny_bind (wpAny_pure (wpAny_pure (And.intro rfl h0)))
      | exact wpAny_pure (And.intro rfl h0)
  · first
      | exact wpAny_bind (wpAny_rule (wpAny_bind (wpAny_standAt (wpAny_bind (wpAny_mono h (fun it' s' h' => wpAny_pure (And.intro rfl h')) fun _ _ x => x)))))
      | (refine wpAny_bind (wpAny_rule ?_); show wpAny _ _ (standAt iter.pos >>= _) _ _ s; exact wpAny_bind (wpAny_standAt (wpAny_bind (wpAny_mono h (fun it' s' h' => wpAny_pure (And.intro rfl h')) fun _ _ x => x))))
end
end
end Mine
end SS01
section SS02
open PySem PySem.W PyProof.Rows PySem.W.X PySem.Calls PySem.Spec
namespace Mine
noncomputable section
section
variable {prog : Program} {w : World} {A : Around} {E : Value → Shared → Prop} {s : Shared} {h₀ : Heap} {L : Addr} {m : Str → Option Value} {env : Env}
open LCg
noncomputable def CompSrcS (prog : Program) (w : World) (A : Around) (h₀ : Heap) (L : Addr) (m : Str → Option Value) (env : Env) (elt : Expr) (x : Str) (scope : Scope) (cl : List (Str × Addr)) (Q : Value → Shared → Prop) (xv : Value) (s₁ : Shared) : Prop :=
  ∃ (ax : Addr) (its : Array Value) (o : Obj) (news : List (Addr × Obj)), xv = .ref ax ∧ A.handled = none ∧ Fr h₀ L s₁.heap m ∧ News h₀ L s₁.heap news ∧ (ax, o) ∈ news ∧ (∀ h : Heap, h.get? ax = some o → h.IsTuple ax its) ∧ 0 < its.size ∧
    (∀ (i : Nat) (v : Value) (I : Addr) (oI : Obj) (C : Addr) (oC : Obj) (D : Addr) (oD : Obj) (m₂ : Str → Option Value) (h : Heap) (tk : Nat) (E' : Value → Shared → Prop), its[i]? = some v → NsObj oC m₂ → m₂ x = some v → Fr h₀ L h m → News h₀ L h ((I, oI) :: (C, oC) :: (D, oD) :: news) → Off3 I C D news → ((@Ne Nat I C) ∧ (@Ne Nat I D) ∧ (@Ne Nat C D)) →
      wpAny (model prog w) A (eval elt (compEnvC scope cl C env)) (fun y s' => ∃ h' tk', y = .bool true ∧ s' = { s₁ with heap := h', toks := tk' } ∧ Fr h₀ L h' m ∧ News h₀ L h' ((I, oI) :: (C, oC) :: (D, oD) :: news)) E' { s₁ with heap := h, toks := tk }) ∧
    (∀ (D : Addr) (o : Obj) (h : Heap) (tk : Nat), Fr h₀ L h m → News h₀ L h ((D, o) :: news) → Off1 D news → o = setU (!w.params.followText "set-order") → Q (.ref D) { s₁ with heap := h, toks := tk })
noncomputable def setAt (led : Bool) : Nat → Obj
  | 0 => setE led
  | _ + 1 => setU led
theorem SetComp_T {elt iter : Expr} {x : Str} {px : Pos} {scope : Scope} {cl : List (Str × Addr)} {pos : Pos} {Q : Value → Shared → Prop} (F₀ : Fr h₀ L s.heap m)
    (hclos : closureFor scope env = pure cl) (hcell : ∀ y ∈ scope.names, y.2 ≠ .cell) (hkind : scope.kind = .function)
    (hnames : ∀ y ∈ scope.names, y.2 = .local → scope.names.lookup y.1 = some .local) (hx : scope.names.lookup x = some .local)
    (h : wpAny (model prog w) A (eval iter env) (CompSrcS prog w A h₀ L m env elt x scope cl Q) E s)
    (hs : ∀ x, foldedSetIterable iter env x = pure x := by kmk_pure) :
    wpAny (model prog w) A (eval (.SetComp elt [⟨.Name x px, iter, [], 0⟩] scope pos) env) Q E s := by
  revert F₀ hclos hcell hkind hnames hx h hs
  revert prog w A E s h₀ L m env elt iter x px scope cl pos Q
  change ∀ prog w A E s h₀ L m env elt iter x px scope cl pos Q, _
  refine' (let rec cy0 : Pk12 _ := pk12 (by repeat' first | exact ne_world | exact ne_cx | exact ne_shared | exact ne_around | exact ⟨default⟩ | exact ⟨.sp⟩ | refine ne_prod ?_ ?_) _; Pk12.use cy0 ?_)
  generalize cy0.1.1 = prog
  generalize cy0.1.2.1 = w
  generalize cy0.1.2.2.1 = A
  generalize cy0.1.2.2.2.1 = E
  generalize cy0.1.2.2.2.2.1 = s
  generalize cy0.1.2.2.2.2.2.1 = h₀
  generalize cy0.1.2.2.2.2.2.2.1 = L
  generalize cy0.1.2.2.2.2.2.2.2.1 = m
  generalize cy0.1.2.2.2.2.2.2.2.2.1 = env
  generalize cy0.1.2.2.2.2.2.2.2.2.2.1 = elt
  generalize cy0.1.2.2.2.2.2.2.2.2.2.2.1 = iter
  generalize cy0.1.2.2.2.2.2.2.2.2.2.2.2 = x
  clear cy0
  refine' (let rec cy0_1 : Pk5 _ := pk5 (by repeat' first | exact ne_world | exact ne_cx | exact ne_shared | exact ne_around | exact ⟨default⟩ | exact ⟨.sp⟩ | refine ne_prod ?_ ?_) _; Pk5.use cy0_1 ?_)
  generalize cy0_1.1.1 = px
  generalize cy0_1.1.2.1 = scope
  generalize cy0_1.1.2.2.1 = cl
  generalize cy0_1.1.2.2.2.1 = pos
  generalize cy0_1.1.2.2.2.2 = Q
  clear cy0_1
  intro F₀ hclos hcell hkind hnames hx h hs
  rw [arm_eval_SetComp]
  refine wpAny_comprehension_free (use := none) rfl hs hclos hkind hnames (wpAny_mono h (fun xv s₂ h₁ => ?_) fun _ _ e => e)
  obtain ⟨ax, its, o, news, rfl, hh, F, N, hm, ht, hpos, R, fin⟩ := h₁
  have hl := ht _ (N _ hm).1
  have hlt : ax < s₂.heap.objs.size := Heap.lt_size (N _ hm).1
  refine wpAny_pyIter_tuple hl ?_
  have up : ∀ b o, s₂.heap.get? b = some o → (s₂.heap.push { cls := .type "tuple_iterator", data := .fields #[.ref ax, .int 0 0] }).get? b = some o := fun b o e => Heap.get?_push_of_some _ e
  have W : Walks prog w A s₂.heap.objs.size _ _ its.size _ _ := Walks.tuple hh s₂.heap.objs.size ax (Nat.ne_of_lt hlt) its
  refine set_new ?_
  refine wpAny_newFunctionEnv hcell (by intro y hy; simp at hy) (fun h₁ hns₁ hsb₁ => ?_) hkind
  dsimp only at hns₁ hsb₁ ⊢
  generalize hled : (!w.params.followText "set-order") = led at hns₁ hsb₁ fin ⊢
  generalize hH1 : s₂.heap.push { cls := .type "tuple_iterator", data := .fields #[.ref ax, .int 0 0] } = H1 at hns₁ hsb₁ up ⊢
  generalize hH2 : H1.push (setE led) = H2 at hns₁ hsb₁ ⊢
  have hsz1 : H1.objs.size = s₂.heap.objs.size + 1 := by rw [← hH1, Heap.size_push]
  have hC : H2.objs.size = H1.objs.size + 1 := by rw [← hH2, Heap.size_push]
  generalize hI : s₂.heap.objs.size = I at W hsz1 ⊢
  have hIget : H1.get? I = some { cls := .type "tuple_iterator", data := .fields #[.ref ax, .int 0 0] } := by rw [← hH1, ← hI]; exact Heap.get?_push_size _ rfl
  have up2 : ∀ b o, H1.get? b = some o → H2.get? b = some o := fun b o e => hH2 ▸ Heap.get?_push_of_some _ e
  have hDC : H1.objs.size ≠ H2.objs.size := by rw [hC]; exact Nat.ne_of_lt (Nat.lt_succ_self _)
  have below : ∀ b, b < H1.objs.size → b ≠ H2.objs.size ∧ b ≠ H1.objs.size := fun b hb => ⟨by rw [hC]; exact Nat.ne_of_lt (Nat.lt_succ_of_lt hb), Nat.ne_of_lt hb⟩
  have hax1 : ax < H1.objs.size := by rw [hsz1, ← hI]; exact Nat.lt_succ_of_lt hlt
  have hIlt : I < H1.objs.size := by rw [hsz1]; exact Nat.lt_succ_self _
  have F1 : Fr h₀ L H1 m := F.keeps up
  have N1 : News h₀ L H1 news := N.grown up
  have hIL : L ≠ I := by have := F.ns.lt; rw [hI] at this; exact Nat.ne_of_lt this
  have hI₀ : h₀.get? I = none := by rw [← hI]; exact next_is_new F
  have offI : ∀ p ∈ news, p.1 ≠ I := fun p hp => by have := Heap.lt_size (N p hp).1; rw [hI] at this; exact Nat.ne_of_lt this
  have old : ∀ b o, H1.get? b = some o → h₁.get? b = some o := fun b o e => hsb₁.extBut b o (below b (Heap.lt_size e)).1 (Heap.get?_push_of_some _ (up2 b o e))
  have hlt1 : ∀ p ∈ news, p.1 < H1.objs.size := fun p hp => Heap.lt_size (N1 p hp).1
  have fresh₀ : ∀ a, H1.objs.size ≤ a → h₀.get? a = none := fun a ha => by
    cases e : h₀.get? a with
    | none => rfl
    | some o' => exact absurd (Heap.lt_size (F1.keep a o' e)) (Nat.not_lt.mpr ha)
  have hD₀ : h₀.get? H1.objs.size = none := fresh₀ _ (Nat.le_refl _)
  have hC₀ : h₀.get? H2.objs.size = none := fresh₀ _ (by rw [hC]; exact Nat.le_succ _)
  have hLlt : L < H1.objs.size := F1.ns.lt
  have hDL : H1.objs.size ≠ L := Ne.symm (below L hLlt).2
  have hCL : H2.objs.size ≠ L := Ne.symm (below L hLlt).1
  have hCI : I ≠ H2.objs.size := (below I hIlt).1
  have hDI : I ≠ H1.objs.size := (below I hIlt).2
  have off₀ : Off3 I H2.objs.size H1.objs.size news := Off3.of fun p hp => ⟨offI p hp, (below _ (hlt1 p hp)).1, (below _ (hlt1 p hp)).2⟩
  have hst₁ : h₁.IsTupleIter I ax 0 ∧ h₁.IsTuple ax its := ⟨⟨_, old _ _ hIget, rfl, rfl⟩, ht _ (old _ _ (up _ _ (N _ hm).1))⟩
  have hS1 : h₁.get? H1.objs.size = some (setAt led 0) := hsb₁.extBut _ _ hDC (Heap.get?_push_of_some _ (hH2 ▸ Heap.get?_push_size _ rfl))
  have hDf : H1.objs.size ∉ [I, ax] := fun hm => by
    rcases List.mem_cons.mp hm with e | hm
    · exact hDI e.symm
    · exact Nat.ne_of_lt hax1 (List.mem_singleton.mp hm).symm
  have hCf : H2.objs.size ∉ [I, ax] := fun hm => by
    rcases List.mem_cons.mp hm with e | hm
    · exact hCI e.symm
    · exact (below ax hax1).1 (List.mem_singleton.mp hm).symm
  have loop : ∀ s₃ : Shared, (∃ tk, s₃ = { s₂ with heap := h₁, toks := tk }) →
      codeAny (model prog w) A (.compLoop (.SetComp elt [⟨.Name x px, iter, [], 0⟩] scope pos) 0 (.ref I) (.ref H1.objs.size) (compEnvC scope cl H2.objs.size env))
        (compPost (model prog w) A E none Q (.ref H1.objs.size) H2.objs.size) s₃ := by
    rintro s₃ ⟨tk₀, rfl⟩
    refine codeAny_compLoop_set
      (fun k s' => ∃ h' tk i m', s' = { s₂ with heap := h', toks := tk } ∧ i ≤ its.size ∧ k = its.size + 1 - i ∧ (h'.IsTupleIter I ax i ∧ h'.IsTuple ax its) ∧ Fr h₀ L h' m ∧ h'.Ns H2.objs.size m' ∧ News h₀ L h' news ∧
        h'.get? H1.objs.size = some (setAt led i)) ?_ (its.size + 1)
      ⟨h₁, _, 0, _, rfl, Nat.zero_le _, rfl, hst₁, F1.keeps old, hns₁, fun p hp => ⟨old _ _ (N1 p hp).1, (N1 p hp).2⟩, hS1⟩
    rintro k s' ⟨h', tk, i, m', rfl, hi, rfl, hst', F', hn', N', hS⟩
    by_cases hlt : i < its.size
    · refine W.item i _ _ _ hlt hst' fun v h₂ tk₂ hPv hst₂ hk₂ => ?_
      have hS2 : h₂.get? H1.objs.size = some (setAt led i) := hk₂ _ _ (by simpa using Ne.symm hDI) hS
      refine wpAny_assign_Name (wpAny_storeName_local (lookup_relabel_local hx) (hn'.at' fun o e => hk₂ _ o (by simpa using Ne.symm hCI) e) (fun h₃ hn₃ hs₃ => ?_) (by simp [compEnvC, relabel, hkind]))
      have hst₃ : h₃.IsTupleIter I ax (i + 1) ∧ h₃.IsTuple ax its := W.frame _ _ _ hst₂ fun b hb o e => hs₃.extBut b o (fun q => hCf (by have q' : b = H2.objs.size := q; rw [← q']; exact hb)) e
      have hS3 : h₃.get? H1.objs.size = some (setAt led i) := hs₃.extBut _ _ hDC hS2
      obtain ⟨oI, heI, hoI⟩ := hst₃.1
      obtain ⟨oC, heC, hoC⟩ := ns_obj hn₃
      have heD := hS3
      generalize hoD : setAt led i = oD at heD
      have F₃ : Fr h₀ L h₃ m := (fr_but F' hk₂ hIL hI₀).change hs₃ hCL hC₀
      have N₂ : News h₀ L h₂ news := news_but N' hk₂ offI
      have off3 := off₀.mem
      have N₃ : News h₀ L h₃ ((I, oI) :: (H2.objs.size, oC) :: (H1.objs.size, oD) :: news) := fun p hp => by
        rcases List.mem_cons.mp hp with rfl | hp
        · exact ⟨heI, Ne.symm hIL, hI₀⟩
        · rcases List.mem_cons.mp hp with rfl | hp
          · exact ⟨heC, hCL, hC₀⟩
          · rcases List.mem_cons.mp hp with rfl | hp
            · exact ⟨heD, hDL, hD₀⟩
            · have z := N₂ p hp
              exact ⟨hs₃.extBut _ _ (off3 p hp).2.1 z.1, z.2⟩
      refine wpAny_mono (R i v I oI H2.objs.size oC H1.objs.size oD _ h₃ _ _ hPv hoC (by simp) F₃ N₃ off₀ ⟨hCI, hDI, Ne.symm hDC⟩) (fun y s₄ h₄ => ?_) fun _ _ e => e
      obtain ⟨h₄, tk₄, rfl, rfl, F₄, N₄⟩ := h₄
      have zI := (N₄ (I, oI) List.mem_cons_self).1
      have zC := (N₄ (H2.objs.size, oC) (List.mem_cons_of_mem _ List.mem_cons_self)).1
      have zD := (N₄ (H1.objs.size, oD) (List.mem_cons_of_mem _ (List.mem_cons_of_mem _ List.mem_cons_self))).1
      have N₄' : News h₀ L h₄ news := fun p hp => N₄ p (List.mem_cons_of_mem _ (List.mem_cons_of_mem _ (List.mem_cons_of_mem _ hp)))
      have step : wpAny (model prog w) A (call (.builtin "set.add") [.ref H1.objs.size, .bool true]) (fun _ s₆ => ∃ h₅ tk₅, s₆ = { s₂ with heap := h₅, toks := tk₅ } ∧ Heap.SameBut H1.objs.size h₄ h₅ ∧ h₅.get? H1.objs.size = some (setAt led (i + 1))) (notedBy (model prog w) A (compEnvC scope cl H2.objs.size env) fun e s' => compPost (model prog w) A E none Q (.ref H1.objs.size) H2.objs.size (.error e) s') { s₂ with heap := h₄, toks := tk₄ } := by
        rw [← hoD] at zD
        cases i with
        | zero => exact set_add1 zD fun h₅ hs₅ hS5 => ⟨h₅, _, rfl, hs₅, hS5⟩
        | succ i => exact set_add2 zD ⟨h₄, _, rfl, Heap.SameBut.refl .., zD⟩
      refine wpAny_mono step (fun _ s₆ q => ?_) fun _ _ e => e
      obtain ⟨h₅, tk₅, rfl, hs₅, hS5⟩ := q
      refine ⟨its.size + 1 - (i + 1), by omega, h₅, _, i + 1, _, rfl, hlt, rfl, ?_, F₄.change hs₅ hDL hD₀, (hoC.ns zC).sameBut hs₅ (Ne.symm hDC), fun p hp => ⟨hs₅.extBut _ _ (off3 p hp).2.2 (N₄' p hp).1, (N₄' p hp).2⟩, hS5⟩
      exact ⟨⟨oI, hs₅.extBut _ _ hDI zI, hoI⟩, ht _ (hs₅.extBut _ _ (off3 _ hm).2.2 (N₄' _ hm).1)⟩
    · obtain rfl : i = its.size := Nat.le_antisymm hi (Nat.not_lt.mp hlt)
      refine W.done _ _ _ hst' fun h₂ tk₂ hk₂ => ?_
      have off3 := off₀.mem
      have hS2 : h₂.get? H1.objs.size = some (setAt led its.size) := hk₂ _ _ (by simpa using Ne.symm hDI) hS
      have heD : h₂.get? H1.objs.size = some (setU led) := by
        obtain ⟨j, hj⟩ : ∃ j, its.size = j + 1 := ⟨its.size - 1, by omega⟩
        rw [hS2, hj]
        rfl
      refine ⟨m', hn'.at' fun o e => hk₂ _ o (by simpa using Ne.symm hCI) e, fun h'' hs'' => fin _ (setU led) h'' tk₂ ((fr_but F' hk₂ hIL hI₀).change hs'' hCL hC₀) (fun p hp => ?_) off₀.one rfl⟩
      have N₂ : News h₀ L h₂ news := news_but N' hk₂ offI
      rcases List.mem_cons.mp hp with rfl | hp
      · exact ⟨hs''.extBut _ _ hDC heD, hDL, hD₀⟩
      · exact ⟨hs''.extBut _ _ (off3 p hp).2.1 (N₂ p hp).1, (N₂ p hp).2⟩
  exact codeAny_compStart_set (loop _ ⟨_, rfl⟩) (W.self 0 _ _ _ hst₁ (loop _ ⟨_, rfl⟩))
end
end
end Mine
end SS02
section SS03
open PySem PySem.W PyProof.Rows PySem.W.X PySem.Calls PySem.Spec
namespace Mine
noncomputable section
namespace SI
theorem entry_iter : entryFor table "set.__iter__" = some Builtin.«frozenset.__iter__» :=
  entryFor_alias (id' := "frozenset.__iter__") (by kernel_rfl) rfl (by decide +kernel) (by kernel_rfl)
theorem slot_next : Slot "set_iterator" "__next__" "set_iterator.__next__" :=
  .of (owner := "set_iterator") (n := "__next__") (by rw [typeLookup_type, builtinLookup_eq_fast]; kernel_rfl) (by decide +kernel) (by decide +kernel) (by decide +kernel)
    (by first | exact .inl (by decide +kernel) | exact .inr (by decide +kernel)) (by rw [isSubtype_type]; kernel_rfl)
theorem entry_next : entryFor table "set_iterator.__next__" = some Builtin.«set_iterator.__next__» := entryFor_of_tree (by kernel_rfl)
theorem args_next (a : Value) : argsOk "set_iterator.__next__" ⟨[a], []⟩ := by unfold argsOk; kernel_rfl
end SI
noncomputable abbrev itU (D : Addr) (k i : Int) : Obj := { cls := .type "set_iterator", data := .fields #[rawInt k, rawInt i, .ref D, rawInt 1, rawInt 1] }
section
variable {prog : Program} {w : World} {A : Around} {E : Value → Shared → Prop} {s : Shared}
theorem fitsU (led : Bool) : (tabU led).fits (#[((1 : Int), Value.bool true)] : Array (Int × Value)).size = true := by cases led <;> rfl
theorem sets_by {Q : Bool → Shared → Prop} (h : Q (w.params.followText "set-order") s) : wpAny (model prog w) A setsByText Q E s := by
  unfold setsByText
  exact wpAny_bind (wpAny_askSetting (wpAny_pure h))
theorem setU_iter {D : Addr} {led : Bool} {Q : Value → Shared → Prop} (ho : s.heap.get? D = some (setU led))
    (h : Q (.ref s.heap.objs.size) { s with heap := s.heap.push (itU D 0 0) }) : wpAny (model prog w) A (pyIter (.ref D)) Q E s := by
  have hT : s.TypeIs (.ref D) "set" := ⟨_, ho, rfl⟩
  refine wpAny_pyIter_slot hT F.slot_set_iter (wpAny_call_entry F.slot_set_iter hT SI.entry_iter ?_ (F.args_set_iter_1 _))
  unfold Builtin.«frozenset.__iter__» Builtin.Frozenset.slot0 Builtin.Frozenset.addrOf
  refine wpAny_bind (wpAny_bind (wpAny_of_eq (show slotArgs "__iter__" 0 ⟨[.ref D], []⟩ = pure (.ref D, []) from rfl) ?_))
  dsimp only
  refine wpAny_pure ?_
  unfold Builtin.Frozenset.sizeOf
  refine wpAny_bind (wpAny_bind (wpAny_setEntries_of ho rfl (fitsU led) (wpAny_pure ?_)))
  unfold setDrawn
  refine wpAny_bind (wpAny_bind (wpAny_setState_of ho rfl (fitsU led) ?_))
  dsimp only
  refine wpAny_bind (sets_by ?_)
  refine wpAny_pure ?_
  rw [if_neg (by
    rw [Bool.and_eq_true]
    rintro ⟨_, q⟩
    revert q
    cases led <;> decide)]
  refine wpAny_bind (wpAny_pure ?_)
  refine wpAny_bind (wpAny_setEpoch_of ho rfl (fitsU led) ?_)
  refine wpAny_bind ?_
  unfold newFields
  refine wpAny_newObj_type ?_ (by size_fits)
  exact wpAny_pure ⟨_, rfl, "set_iterator", _, ⟨_, Heap.get?_push_size _ rfl, rfl⟩, SI.slot_next.lookup, h⟩
theorem pick_one {α : Type} (f : Nat → Nat) (x : α) : pickOrder f #[x] = #[x] := by
  unfold pickOrder
  show pickOrder.go f 1 0 [x] #[] = _
  unfold pickOrder.go
  simp only [List.length_singleton, Nat.mod_one, List.getElem?_cons_zero]
  unfold pickOrder.go
  rfl
theorem setU_next {D it : Addr} {led : Bool} {Q : Option Value → Shared → Prop} (ho : s.heap.get? D = some (setU led)) (hled : led = !w.params.followText "set-order") (hit : s.heap.get? it = some (itU D 0 0)) (hne : it ≠ D)
    (h : ∀ h' (k : Nat), Heap.SameBut it s.heap h' → h'.get? it = some (itU D k 1) → (w.params.followText "set-order" = false → k = 2) → Q (some (.bool true)) { s with heap := h' }) :
    wpAny (model prog w) A (pyNext (.ref it)) Q E s := by
  have hT : s.TypeIs (.ref it) "set_iterator" := ⟨_, hit, rfl⟩
  unfold pyNext
  refine wpAny_bind (wpAny_attempt (wpAny_callSpecial?_slot (name := Str.ofString "__next__") hT SI.slot_next
    (wpAny_call_entry SI.slot_next hT SI.entry_next ?_ (SI.args_next _))))
  unfold Builtin.«set_iterator.__next__»
  refine wpAny_bind (wpAny_of_eq (show slotArgs "__next__" 0 ⟨[.ref it], []⟩ = pure (.ref it, []) from rfl) ?_)
  dsimp only
  refine wpAny_bind (wpAny_fieldsOf hit rfl ?_)
  dsimp only [rawInt]
  refine wpAny_bind (wpAny_setEntries_of ho rfl (fitsU led) ?_)
  rw [if_neg (by decide)]
  refine wpAny_bind ?_
  unfold setNext
  refine wpAny_bind (wpAny_setState_of ho rfl (fitsU led) ?_)
  dsimp only
  refine wpAny_bind (sets_by ?_)
  have two : ∀ (k : Nat) (E' : Value → Shared → Prop), (w.params.followText "set-order" = false → k = 2) → wpAny (model prog w) A.in1 (do setField (.ref it) 0 (rawInt k); setField (.ref it) 1 (rawInt (0 + 1)); ret (.bool true)) (fun fin s' => ∃ v, fin = Fin.done (Flow.ret v) ∧ wpAny (model prog w) A (pure (some v) : Sem (Option Value)) Q E s') E' s := by
    intro k E' hk
    refine wpAny_bind (wpAny_setField hit rfl (by show 0 < 5; decide) ?_)
    have h1 : (s.heap.update it (Obj.mapFields (·.setIfInBounds 0 (rawInt k)))).get? it = some (itU D k 0) := Heap.get?_update_self _ hit rfl
    refine wpAny_bind (wpAny_setField (s := { s with heap := _ }) h1 rfl (by show 1 < 5; decide) ?_)
    refine wpAny_pure ⟨_, rfl, wpAny_pure (h _ k ((Heap.SameBut.update ..).trans (Heap.SameBut.update ..)) (Heap.get?_update_self _ h1 rfl) hk)⟩
  cases hb : w.params.followText "set-order"
  · rw [if_neg Bool.false_ne_true]
    rw [hb] at hled
    subst hled
    rw [if_neg (by decide)]
    refine wpAny_bind (wpAny_pure ?_)
    refine wpAny_pure ?_
    exact two 2 _ fun _ => rfl
  · rw [if_pos rfl, if_neg (by decide)]
    unfold setWalk
    refine wpAny_bind (wpAny_bind (wpAny_setState_of ho rfl (fitsU led) ?_))
    dsimp only
    refine wpAny_bind (sets_by ?_)
    rw [if_pos hb]
    refine wpAny_bind (wpAny_askSetting (wpAny_pure ?_))
    rw [pick_one]
    refine wpAny_pure ?_
    exact two 0 _ fun h => by rw [hb] at h; cases h
theorem setU_stop {D it : Addr} {led : Bool} {k : Nat} {Q : Option Value → Shared → Prop} (hh : A.handled = none) (ho : s.heap.get? D = some (setU led)) (hled : led = !w.params.followText "set-order") (hit : s.heap.get? it = some (itU D k 1)) (hk : w.params.followText "set-order" = false → k = 2)
    (h : ∀ h', Heap.ExtBut it s.heap h' → Q none { s with heap := h' }) :
    wpAny (model prog w) A (pyNext (.ref it)) Q E s := by
  revert hh ho hled hit hk h
  revert prog w A E s D it led k Q
  change ∀ prog w A E s D it led k Q, _
  refine' (let rec cy0 : Pk10 _ := pk10 (by repeat' first | exact ne_world | exact ne_cx | exact ne_shared | exact ne_around | exact ⟨default⟩ | exact ⟨.sp⟩ | refine ne_prod ?_ ?_) _; Pk10.use cy0 ?_)
  generalize cy0.1.1 = prog
  generalize cy0.1.2.1 = w
  generalize cy0.1.2.2.1 = A
  generalize cy0.1.2.2.2.1 = E
  generalize cy0.1.2.2.2.2.1 = s
  generalize cy0.1.2.2.2.2.2.1 = D
  generalize cy0.1.2.2.2.2.2.2.1 = it
  generalize cy0.1.2.2.2.2.2.2.2.1 = led
  generalize cy0.1.2.2.2.2.2.2.2.2.1 = k
  generalize cy0.1.2.2.2.2.2.2.2.2.2 = Q
  clear cy0
  intro hh ho hled hit hk h
  have hT : s.TypeIs (.ref it) "set_iterator" := ⟨_, hit, rfl⟩
  unfold pyNext
  refine wpAny_bind (wpAny_attempt (wpAny_callSpecial?_slot (name := Str.ofString "__next__") hT SI.slot_next
    (wpAny_call_entry SI.slot_next hT SI.entry_next ?_ (SI.args_next _))))
  unfold Builtin.«set_iterator.__next__»
  refine wpAny_bind (wpAny_of_eq (show slotArgs "__next__" 0 ⟨[.ref it], []⟩ = pure (.ref it, []) from rfl) ?_)
  dsimp only
  refine wpAny_bind (wpAny_fieldsOf hit rfl ?_)
  dsimp only [rawInt]
  refine wpAny_bind (wpAny_setEntries_of ho rfl (fitsU led) ?_)
  rw [if_neg (by decide)]
  refine wpAny_bind ?_
  unfold setNext
  refine wpAny_bind (wpAny_setState_of ho rfl (fitsU led) ?_)
  dsimp only
  refine wpAny_bind (sets_by ?_)
  have two : wpAny (model prog w) A.in1 (do setField (.ref it) 2 .none; raiseNew (← newExc (.type "StopIteration") []) : Sem Fin) (fun fin s' => ∃ v, fin = Fin.done (Flow.ret v) ∧ wpAny (model prog w) A (pure (some v) : Sem (Option Value)) Q E s')
      (fun e s' => wpAny (model prog w) A (do let __do_lift ← isInstance e (Value.type "StopIteration"); if __do_lift = true then pure none else throw e) Q E s') s := by
    refine wpAny_bind (wpAny_setField hit rfl (by show 2 < 5; decide) ?_)
    refine wpAny_bind ?_
    simp only [newExc, newTuple]
    refine wpAny_bind (wpAny_newObj_type ?_ (by size_fits))
    refine wpAny_bind (m := firstArgMember _ _) (wpAny_of_eq (a := Value.none) (by first | rfl | (simp only [firstArgMember]; rfl)) ?_)
    refine wpAny_newObj_type ?_ (by size_fits)
    simp only [raiseNew]
    refine wpAny_bind (wpAny_handled ?_)
    first | rw [show A.in1.handled = none from hh] | rw [hh]
    refine wpAny_bind (wpAny_pure (wpAny_throw ?_))
    refine wpAny_bind (wpAny_isInstance (T := "StopIteration") (b := true) ⟨_, Heap.get?_push_size _ rfl, rfl⟩ isSubtype_stop ?_)
    exact wpAny_pure (h _ (((show Heap.ExtBut it s.heap _ from (Heap.SameBut.update ..).extBut).push _).push _))
  cases hb : w.params.followText "set-order"
  · rw [if_neg Bool.false_ne_true]
    rw [hb] at hled
    subst hled
    obtain rfl := hk hb
    rw [if_neg (by decide)]
    refine wpAny_bind (wpAny_pure ?_)
    refine wpAny_pure ?_
    exact two
  · rw [if_pos rfl, if_neg (by decide)]
    unfold setWalk
    refine wpAny_bind (wpAny_bind (wpAny_setState_of ho rfl (fitsU led) ?_))
    dsimp only
    refine wpAny_bind (sets_by ?_)
    rw [if_pos hb]
    refine wpAny_bind (wpAny_askSetting (wpAny_pure ?_))
    rw [pick_one]
    refine wpAny_pure ?_
    exact two
theorem setU_items {D : Addr} {led : Bool} {Q : List Value → Shared → Prop} (hh : A.handled = none) (ho : s.heap.get? D = some (setU led)) (hled : led = !w.params.followText "set-order")
    (hQ : ∀ h', Heap.ExtBut s.heap.objs.size s.heap h' → Q [.bool true] { s with heap := h' }) : wpAny (model prog w) A (unpackItems (.ref D) 1 none) Q E s := by
  have hlt : D ≠ s.heap.objs.size := Nat.ne_of_lt (Heap.lt_size ho)
  have hT : s.TypeIs (.ref D) "set" := ⟨_, ho, rfl⟩
  unfold unpackItems
  refine wpAny_bind ?_
  unfold notIterableAtAll
  refine wpAny_bind (wpAny_specialOf hT F.slot_set_iter.lookup ?_)
  refine wpAny_pure ?_
  simp only [Bool.false_eq_true, if_false]
  refine wpAny_bind (wpAny_holding (setU_iter ho ?_))
  have hit : (s.heap.push (itU D 0 0)).get? s.heap.objs.size = some (itU D 0 0) := Heap.get?_push_size _ rfl
  have ho1 : (s.heap.push (itU D 0 0)).get? D = some (setU led) := Heap.get?_push_of_some _ ho
  refine wpAny_bind (wpAny_holding ?_)
  show wpAny _ _ (pyNext (.ref s.heap.objs.size) >>= _) _ _ _
  refine wpAny_bind (setU_next (s := { s with heap := _ }) ho1 hled hit (Ne.symm hlt) fun h1 k hs1 hit1 hk => ?_)
  refine wpAny_bind (wpAny_holding ?_)
  show wpAny _ _ (pure []) _ _ _
  refine wpAny_pure (wpAny_pure ?_)
  rw [if_neg (by decide)]
  have ho2 : h1.get? D = some (setU led) := hs1.extBut _ _ hlt ho1
  refine wpAny_bind (wpAny_holding (setU_stop (s := { s with heap := h1 }) hh ho2 hled hit1 hk fun h2 he2 => ?_))
  simp only [Option.isSome_none, Bool.false_eq_true, if_false]
  exact wpAny_pure (hQ h2 fun b o hb e => he2 b o hb (hs1.extBut b o hb (Heap.get?_push_of_some _ e)))
theorem unpack_T {h₀ : Heap} {L D : Addr} {m : Str → Option Value} {news : List (Addr × Obj)} {elts : List Expr} {env : Env} {k : Nat} {pos : Pos} {Q : Unit → Shared → Prop} (F : Fr h₀ L s.heap m) (N : News h₀ L s.heap news) (hm : (D, setU (!w.params.followText "set-order")) ∈ news) (hh : A.handled = none) (hn : (assignEach elts env).length = 1)
    (hstar : (assignEach elts env).findIdx? (·.1) = none) (h : ∀ h', Fr h₀ L h' m → News h₀ L h' news → wpAny (model prog w) A (assignInOrder ((assignEach elts env).map (·.2)) [.bool true]) Q E { s with heap := h' }) :
    wpAny (model prog w) A (assign (.Tuple elts k pos) env (.ref D)) Q E s := by
  rw [assign_Tuple]
  refine wpAny_bind (wpAny_standAt ?_)
  unfold unpack
  rw [hn, hstar]
  exact wpAny_bind (wpAny_holding (setU_items hh (N _ hm).1 rfl fun h' he => h h' (F.extBut he (Nat.le_refl _)) (N.extBut he (Nat.le_refl _))))
end
end
end Mine
end SS03
section SX01
open PySem PySem.W PyProof.Rows PySem.W.X PySem.Spec PySem.Calls
namespace Mine
section
variable {prog : Program} {w : World} {A : Around} {E : Value → Shared → Prop} {s : Shared} {h₀ : Heap} {L : Addr} {m : Str → Option Value} {news : List (Addr × Obj)} {x : Str} {t u : Tok} {Q : Value → Shared → Prop}
end
end Mine
end SX01
section SX02
open PySem PySem.W PyProof.Rows PySem.W.X PySem.Spec PySem.Calls
namespace Mine
section
variable {prog : Program} {w : World} {A : Around} {E : Value → Shared → Prop} {s : Shared} {h₀ : Heap} {L : Addr} {m : Str → Option Value} {env : Env}
open LCg
noncomputable def SetEnd (h₀ : Heap) (L : Addr) (m : Str → Option Value) (s : Shared) (news : List (Addr × Obj)) (y : Value) (s' : Shared) : Prop := ∃ h' tk', y = .bool true ∧ s' = { s with heap := h', toks := tk' } ∧ Fr h₀ L h' m ∧ News h₀ L h' news
theorem SetEnd.intro {h' : Heap} {tk' : Nat} {news : List (Addr × Obj)} (F : Fr h₀ L h' m) (N : News h₀ L h' news) : SetEnd h₀ L m s news (.bool true) { s with heap := h', toks := tk' } := ⟨h', tk', rfl, rfl, F, N⟩
theorem src_set {elt : Expr} {x : Str} {scope : Scope} {cl : List (Str × Addr)} {Q : Value → Shared → Prop} {ax : Addr} {its : Array Value} {k : Nat} {news : List (Addr × Obj)} (hh : A.handled = none) (F : Fr h₀ L s.heap m) (N : News h₀ L s.heap news) (hm : (ax, ({ cls := .type "tuple", data := .seq its k } : Obj)) ∈ news) (hpos : 0 < its.size)
    (turn : ∀ (i : Nat) (v : Value) (I : Addr) (oI : Obj) (C : Addr) (oC : Obj) (D : Addr) (oD : Obj) (m₂ : Str → Option Value) (h : Heap) (tk : Nat) (E' : Value → Shared → Prop), its[i]? = some v → NsObj oC m₂ → m₂ x = some v → Fr h₀ L h m → News h₀ L h ((I, oI) :: (C, oC) :: (D, oD) :: news) → Off3 I C D news → ((@Ne Nat I C) ∧ (@Ne Nat I D) ∧ (@Ne Nat C D)) →
      wpAny (model prog w) A (eval elt (compEnvC scope cl C env)) (SetEnd h₀ L m s ((I, oI) :: (C, oC) :: (D, oD) :: news)) E' { s with heap := h, toks := tk })
    (fin : ∀ (D : Addr) (h : Heap) (tk : Nat), Fr h₀ L h m → News h₀ L h ((D, setU (!w.params.followText "set-order")) :: news) → Off1 D news → Q (.ref D) { s with heap := h, toks := tk }) :
    CompSrcS prog w A h₀ L m env elt x scope cl Q (.ref ax) s :=
  ⟨ax, its, _, news, rfl, hh, F, N, hm, fun _ e => ⟨_, e, rfl, _, rfl⟩, hpos, turn, fun D o h tk F' N' o1 e => fin D h tk F' (e ▸ N') o1⟩
end
end Mine
end SX02
section SX03
open PySem PySem.W PyProof.Rows PySem.W.X PySem.Spec PySem.Calls
namespace Mine
noncomputable section
section
variable {prog : Program} {w : World} {A : Around} {E : Value → Shared → Prop} {s : Shared} {h₀ : Heap} {L : Addr} {m : Str → Option Value} {env : Env}
open LCg
noncomputable def StayEnd {α : Type} (h₀ : Heap) (L : Addr) (m : Str → Option Value) (s : Shared) (news : List (Addr × Obj)) (b : α) (y : α) (s' : Shared) : Prop := y = b ∧ ∃ h' tk', s' = { s with heap := h', toks := tk' } ∧ Fr h₀ L h' m ∧ News h₀ L h' news
theorem StayEnd.intro {α : Type} {h' : Heap} {tk' : Nat} {news : List (Addr × Obj)} {b : α} (F : Fr h₀ L h' m) (N : News h₀ L h' news) : StayEnd h₀ L m s news b b { s with heap := h', toks := tk' } := ⟨rfl, h', tk', rfl, F, N⟩
theorem rest_tail {ct elt : Expr} {x : Str} {scope : Scope} {cl : List (Str × Addr)} {Sp : List (Addr × Obj) → Prop} {Fin : List Value → List (Addr × Obj) → Prop} {news : List (Addr × Obj)} (vs : List Value) (hS : Sp news)
    (test : ∀ (i : Nat) (v : Value) (I : Addr) (oI : Obj) (C : Addr) (oC : Obj) (D : Addr) (oD : Obj) (m₂ : Str → Option Value) (h : Heap) (tk : Nat) (E' : Value → Shared → Prop), vs.toArray[i]? = some v → NsObj oC m₂ → m₂ x = some v → Fr h₀ L h m → News h₀ L h ((I, oI) :: (C, oC) :: (D, oD) :: news) → Off3 I C D news → ((@Ne Nat I C) ∧ (@Ne Nat I D) ∧ (@Ne Nat C D)) →
      wpAny (model prog w) A (isTrue ct (compEnvC scope cl C env) (eval ct (compEnvC scope cl C env))) (StayEnd h₀ L m s ((I, oI) :: (C, oC) :: (D, oD) :: news) (decide (i ≠ 0))) E' { s with heap := h, toks := tk })
    (elts : ∀ (i : Nat) (v : Value) (I : Addr) (oI : Obj) (C : Addr) (oC : Obj) (D : Addr) (oD : Obj) (m₂ : Str → Option Value) (h : Heap) (tk : Nat) (E' : Value → Shared → Prop), vs.toArray[i]? = some v → NsObj oC m₂ → m₂ x = some v → Fr h₀ L h m → News h₀ L h ((I, oI) :: (C, oC) :: (D, oD) :: news) → Off3 I C D news → ((@Ne Nat I C) ∧ (@Ne Nat I D) ∧ (@Ne Nat C D)) →
      wpAny (model prog w) A (eval elt (compEnvC scope cl C env)) (StayEnd h₀ L m s ((I, oI) :: (C, oC) :: (D, oD) :: news) v) E' { s with heap := h, toks := tk })
    (fin : Fin (vs.drop 1) news) : LCt.CompRestT prog w A h₀ L m env ct elt x scope cl s Sp (fun i v => vs.toArray[i]? = some v) Fin vs.toArray.size 0 [] news := by
  revert hS test elts fin
  revert prog w A s h₀ L m env ct elt x scope cl Sp Fin news vs
  change ∀ prog w A s h₀ L m env ct elt x scope cl Sp Fin news vs, _
  refine' (let rec cy0 : Pk12 _ := pk12 (by repeat' first | exact ne_world | exact ne_cx | exact ne_shared | exact ne_around | exact ⟨default⟩ | exact ⟨.sp⟩ | refine ne_prod ?_ ?_) _; Pk12.use cy0 ?_)
  generalize cy0.1.1 = prog
  generalize cy0.1.2.1 = w
  generalize cy0.1.2.2.1 = A
  generalize cy0.1.2.2.2.1 = s
  generalize cy0.1.2.2.2.2.1 = h₀
  generalize cy0.1.2.2.2.2.2.1 = L
  generalize cy0.1.2.2.2.2.2.2.1 = m
  generalize cy0.1.2.2.2.2.2.2.2.1 = env
  generalize cy0.1.2.2.2.2.2.2.2.2.1 = ct
  generalize cy0.1.2.2.2.2.2.2.2.2.2.1 = elt
  generalize cy0.1.2.2.2.2.2.2.2.2.2.2.1 = x
  generalize cy0.1.2.2.2.2.2.2.2.2.2.2.2 = scope
  clear cy0
  refine' (let rec cy0_1 : Pk5 _ := pk5 (by repeat' first | exact ne_world | exact ne_cx | exact ne_shared | exact ne_around | exact ⟨default⟩ | exact ⟨.sp⟩ | refine ne_prod ?_ ?_) _; Pk5.use cy0_1 ?_)
  generalize cy0_1.1.1 = cl
  generalize cy0_1.1.2.1 = Sp
  generalize cy0_1.1.2.2.1 = Fin
  generalize cy0_1.1.2.2.2.1 = news
  generalize cy0_1.1.2.2.2.2 = vs
  clear cy0_1
  intro hS test elts fin
  have hsz : vs.toArray.size = vs.length := by simp
  have key : ∀ (j i : Nat) (ys : List Value), i + j = vs.length → ys = (vs.take i).drop 1 → LCt.CompRestT prog w A h₀ L m env ct elt x scope cl s Sp (fun i v => vs.toArray[i]? = some v) Fin j i ys news := by
    intro j
    induction j with
    | zero =>
      intro i ys hi hy
      rw [show i = vs.length by omega, List.take_length] at hy
      exact LCt.CompRestT.zero (hy ▸ fin)
    | succ j ih =>
      intro i ys hi hy
      refine LCt.CompRestT.succ ?_
      intro v I oI C oC D m₂ h tk E' hv hC hx F N off ne
      have hv' : vs[i]? = some v := by simpa using hv
      refine wpAny_mono (test i v I oI C oC D _ m₂ h tk E' hv hC hx F N off ne) (fun ok s₂ hq => ?_) fun _ _ e => e
      obtain ⟨rfl, h', tk', rfl, F', N'⟩ := hq
      by_cases h0 : i = 0
      · rw [if_neg (by simp [h0])]
        refine CompEnd.intro (s₁ := { s with heap := h, toks := tk }) F' N' news (fun _ hp => hp) off hS ?_
        refine ih (i + 1) _ (by omega) ?_
        rw [hy, h0]
        cases vs <;> rfl
      · rw [if_pos (by simpa using h0)]
        refine wpAny_mono (elts i v I oI C oC D _ m₂ h' tk' E' hv hC hx F' N' off ne) (fun y s₃ hq => ?_) fun _ _ e => e
        obtain ⟨rfl, h'', tk'', rfl, F'', N''⟩ := hq
        refine CompEnd.intro (s₁ := { s with heap := h, toks := tk }) F'' N'' news (fun _ hp => hp) off hS ?_
        refine ih (i + 1) _ (by omega) ?_
        rw [hy, List.take_succ, hv']
        have hl : i < vs.length := (List.getElem?_eq_some_iff.mp hv').1
        rw [List.drop_append_of_le_length (by rw [List.length_take]; omega)]
        rfl
  rw [hsz]
  exact key vs.length 0 [] (by omega) (by simp)
theorem compEnd_off {h' : Heap} {I C D q : Addr} {s₁ : Shared} {oI oC oD o : Obj} {Sp : List (Addr × Obj) → Prop} {rest : Value → List (Addr × Obj) → Prop} {y : Value} {tk : Nat} {news : List (Addr × Obj)}
    (F : Fr h₀ L h' m) (N' : News h₀ L h' ((q, o) :: (I, oI) :: (C, oC) :: (D, oD) :: news)) (o1 : Off1 q ((I, oI) :: (C, oC) :: (D, oD) :: news)) (off : Off3 I C D news) (hS : Sp ((q, o) :: news)) (r : rest y ((q, o) :: news)) :
    CompEnd h₀ L m s₁ I oI C oC D oD Sp rest y { s₁ with heap := h', toks := tk } := by
  obtain ⟨n1, n2, n3, _⟩ := o1
  refine CompEnd.intro F N' ((q, o) :: news) ?_ ⟨⟨Ne.symm n1, Ne.symm n2, Ne.symm n3⟩, off⟩ hS r
  intro p hp
  simp only [List.mem_cons] at hp ⊢
  rcases hp with h | h | h | h | h <;> simp [h]
end
end
end Mine
end SX03
section SY01
open PySem PySem.W PyProof.Rows PySem.W.X PySem.Spec PySem.Calls
open PySem.AutoSeq1 (wpAny_loadPart')
open PySem.MeetsSeq PySem.MeetsSeq3
namespace Mine
noncomputable def RichGives (op : CmpOp) (x y : Value) (r : Bool) : Prop := ∀ (prog : Program) (w : World) (A : Around) (E : Value → Shared → Prop) (s : Shared) (Q : Value → Shared → Prop), Q (.bool r) s → wpAny (model prog w) A (richCompare op x y) Q E s

theorem lt_loop (l b : Addr) (items items2 : Array Value) (n n2 : Nat) (j : Nat) (h1 : j < items.size) (h2 : j < items2.size) (heq : ∀ i (a1 : i < items.size) (a2 : i < items2.size), i < j → EqGives items[i] items2[i] true) (hne : EqGives items[j] items2[j] false) (r : Bool) (hr : RichGives .Lt items[j] items2[j] r) (k : Nat) :
    ∀ i : Nat, j - i = k → i ≤ j → Meets (Builtin.«list.__eq__.loop» ⟨[.ref l, .ref b, rawInt i, rawInt 0], []⟩)
      (fun _ R s => s.heap.get? l = some { cls := .type "list", dict := none, data := .seq items n, slots := #[] } ∧ s.heap.get? b = some { cls := .type "list", dict := none, data := .seq items2 n2, slots := #[] } ∧
        R (.ok (.ret (.bool r))) s) := by
  induction k with
  | zero =>
    intro i hk hij prog w A R s h
    obtain ⟨hp, g, d, tk, os⟩ := s; obtain ⟨hl, hb, h⟩ := h
    have e : i = j := by omega
    subst e
    wp_walk using wpAny_loadPart' hl, wpAny_loadPart' hb
    have hi1 : items[((i : Nat) : Int).toNat]? = some items[i] := by simp [h1]
    have hi2 : items2[((i : Nat) : Int).toNat]? = some items2[i] := by simp [h2]
    rw [hi1, hi2]
    refine wpAny_bind (hne prog w _ _ _ _ ?_)
    wp_walk using wpAny_loadPart' hl, wpAny_loadPart' hb
    rw [hi1, hi2]
    refine wpAny_bind (hr prog w _ _ _ _ ?_)
    wp_walk
    exact h
  | succ k ih =>
    intro i hk hij prog w A R s h
    obtain ⟨hp, g, d, tk, os⟩ := s; obtain ⟨hl, hb, h⟩ := h
    wp_walk using wpAny_loadPart' hl, wpAny_loadPart' hb
    have hlt : i < items.size := by omega
    have hlt2 : i < items2.size := by omega
    have hi1 : items[((i : Nat) : Int).toNat]? = some items[i] := by simp [hlt]
    have hi2 : items2[((i : Nat) : Int).toNat]? = some items2[i] := by simp [hlt2]
    have hc : ((i : Int) + 1) = ((i + 1 : Nat) : Int) := by push_cast; rfl
    rw [hi1, hi2]
    refine wpAny_bind (heq i hlt hlt2 (by omega) prog w _ _ _ _ ?_)
    wp_walk
    rw [hc]
    exact ⟨plainId_quiet plain_eq_loop _, codeAny_builtin entry_eq_loop (by
      rw [Around.under_plainId plain_eq_loop _]
      exact ih (i + 1) (by omega) (by omega) prog w A R _ ⟨hl, hb, h⟩)⟩
theorem lt_same_loop (l b : Addr) (items items2 : Array Value) (n n2 : Nat) (hsz : items.size = items2.size) (heq : ∀ i (a1 : i < items.size) (a2 : i < items2.size), EqGives items[i] items2[i] true) (k : Nat) :
    ∀ i : Nat, items.size - i = k → i ≤ items.size → Meets (Builtin.«list.__eq__.loop» ⟨[.ref l, .ref b, rawInt i, rawInt 0], []⟩)
      (fun _ R s => s.heap.get? l = some { cls := .type "list", dict := none, data := .seq items n, slots := #[] } ∧ s.heap.get? b = some { cls := .type "list", dict := none, data := .seq items2 n2, slots := #[] } ∧
        R (.ok (.ret (.bool false))) s) := by
  induction k with
  | zero =>
    intro i hk hij prog w A R s h
    obtain ⟨hp, g, d, tk, os⟩ := s; obtain ⟨hl, hb, h⟩ := h
    wp_walk using wpAny_loadPart' hl, wpAny_loadPart' hb
    have hi1 : items[((i : Nat) : Int).toNat]? = none := by simp; omega
    have hi2 : items2[((i : Nat) : Int).toNat]? = none := by simp; omega
    rw [hi1, hi2]
    wp_walk using wpAny_loadPart' hl, wpAny_loadPart' hb
    have e : decide (items.size < items2.size) = false := by rw [decide_eq_false_iff_not]; omega
    show R (.ok (.ret (.bool (decide (items.size < items2.size))))) _
    rw [e]
    exact h
  | succ k ih =>
    intro i hk hij prog w A R s h
    obtain ⟨hp, g, d, tk, os⟩ := s; obtain ⟨hl, hb, h⟩ := h
    wp_walk using wpAny_loadPart' hl, wpAny_loadPart' hb
    have hlt : i < items.size := by omega
    have hlt2 : i < items2.size := by omega
    have hi1 : items[((i : Nat) : Int).toNat]? = some items[i] := by simp [hlt]
    have hi2 : items2[((i : Nat) : Int).toNat]? = some items2[i] := by simp [hlt2]
    have hc : ((i : Int) + 1) = ((i + 1 : Nat) : Int) := by push_cast; rfl
    rw [hi1, hi2]
    refine wpAny_bind (heq i hlt hlt2 prog w _ _ _ _ ?_)
    wp_walk
    rw [hc]
    exact ⟨plainId_quiet plain_eq_loop _, codeAny_builtin entry_eq_loop (by
      rw [Around.under_plainId plain_eq_loop _]
      exact ih (i + 1) (by omega) (by omega) prog w A R _ ⟨hl, hb, h⟩)⟩
theorem lt_str (x y : Str) (t u : Tok) : RichGives .Lt (.str x t) (.str y u) (decide (x.cps.toList < y.cps.toList)) := by
  intro prog w A E s Q h
  exact wpAny_richCompare_same (op := .Lt) (T := "str") (PySem.typeIs_str s x t) (PySem.typeIs_str s y u) PyProof.Rows.slot_str_lt
    (wpAny_call_entry PyProof.Rows.slot_str_lt (PySem.typeIs_str s x t) PyProof.Rows.entry_str_lt (show wpAny _ _ (ret (.bool (decide (x.cps.toList < y.cps.toList)))) _ _ s from wpAny_pure ⟨_, rfl, by simp, h⟩) (PyProof.Rows.args_str_lt _ _))
theorem lt_lists {prog : Program} {w : World} {A : Around} {E : Value → Shared → Prop} {s : Shared} {Q : Value → Shared → Prop} {l b : Addr} {items items2 : Array Value} {n n2 : Nat} {r : Bool} (hu : A.units < cLine) (hl : s.heap.get? l = some { cls := .type "list", dict := none, data := .seq items n, slots := #[] }) (hb : s.heap.get? b = some { cls := .type "list", dict := none, data := .seq items2 n2, slots := #[] })
    (hm : Meets (Builtin.«list.__eq__.loop» ⟨[.ref l, .ref b, rawInt (0 : Nat), rawInt 0], []⟩)
      (fun _ R s => s.heap.get? l = some { cls := .type "list", dict := none, data := .seq items n, slots := #[] } ∧ s.heap.get? b = some { cls := .type "list", dict := none, data := .seq items2 n2, slots := #[] } ∧
        R (.ok (.ret (.bool r))) s)) (hQ : Q (.bool r) s) :
    wpAny (model prog w) A (richCompare .Lt (.ref l) (.ref b)) Q E s := by
  have hTl : s.TypeIs (.ref l) "list" := ⟨_, hl, rfl⟩
  have hTb : s.TypeIs (.ref b) "list" := ⟨_, hb, rfl⟩
  refine wpAny_richCompare_same_or (op := .Lt) hTl hTb PySem.F.slot_list_lt (call_meets PySem.F.slot_list_lt hTl PySem.F.entry_list_lt (PySem.F.args_list_lt_2 _ _) (S := fun _ R s => s.heap.get? l = some { cls := .type "list", dict := none, data := .seq items n, slots := #[] } ∧ s.heap.get? b = some { cls := .type "list", dict := none, data := .seq items2 n2, slots := #[] } ∧
        R (.ok (.ret (.bool r))) s) ?_ ⟨hl, hb, by simp, hQ⟩) (.inr hu)
  intro prog w A R s h
  obtain ⟨hp, g, d, tk, os⟩ := s; obtain ⟨hl, hb, h⟩ := h
  have f3 := AutoSeq1.sub_list_list
  wp_walk using wpAny_loadPart' hl, wpAny_loadPart' hb
  exact ⟨plainId_quiet plain_eq_loop _, codeAny_builtin entry_eq_loop (by
    rw [Around.under_plainId plain_eq_loop _]
    exact hm prog w A R _ ⟨hl, hb, h⟩)⟩

theorem gt_loop (l b : Addr) (items items2 : Array Value) (n n2 : Nat) (j : Nat) (h1 : j < items.size) (h2 : j < items2.size) (heq : ∀ i (a1 : i < items.size) (a2 : i < items2.size), i < j → EqGives items[i] items2[i] true) (hne : EqGives items[j] items2[j] false) (r : Bool) (hr : RichGives .Gt items[j] items2[j] r) (k : Nat) :
    ∀ i : Nat, j - i = k → i ≤ j → Meets (Builtin.«list.__eq__.loop» ⟨[.ref l, .ref b, rawInt i, rawInt 4], []⟩)
      (fun _ R s => s.heap.get? l = some { cls := .type "list", dict := none, data := .seq items n, slots := #[] } ∧ s.heap.get? b = some { cls := .type "list", dict := none, data := .seq items2 n2, slots := #[] } ∧
        R (.ok (.ret (.bool r))) s) := by
  induction k with
  | zero =>
    intro i hk hij prog w A R s h
    obtain ⟨hp, g, d, tk, os⟩ := s; obtain ⟨hl, hb, h⟩ := h
    have e : i = j := by omega
    subst e
    wp_walk using wpAny_loadPart' hl, wpAny_loadPart' hb
    have hi1 : items[((i : Nat) : Int).toNat]? = some items[i] := by simp [h1]
    have hi2 : items2[((i : Nat) : Int).toNat]? = some items2[i] := by simp [h2]
    rw [hi1, hi2]
    refine wpAny_bind (hne prog w _ _ _ _ ?_)
    wp_walk using wpAny_loadPart' hl, wpAny_loadPart' hb
    rw [hi1, hi2]
    refine wpAny_bind (hr prog w _ _ _ _ ?_)
    wp_walk
    exact h
  | succ k ih =>
    intro i hk hij prog w A R s h
    obtain ⟨hp, g, d, tk, os⟩ := s; obtain ⟨hl, hb, h⟩ := h
    wp_walk using wpAny_loadPart' hl, wpAny_loadPart' hb
    have hlt : i < items.size := by omega
    have hlt2 : i < items2.size := by omega
    have hi1 : items[((i : Nat) : Int).toNat]? = some items[i] := by simp [hlt]
    have hi2 : items2[((i : Nat) : Int).toNat]? = some items2[i] := by simp [hlt2]
    have hc : ((i : Int) + 1) = ((i + 1 : Nat) : Int) := by push_cast; rfl
    rw [hi1, hi2]
    refine wpAny_bind (heq i hlt hlt2 (by omega) prog w _ _ _ _ ?_)
    wp_walk
    rw [hc]
    exact ⟨plainId_quiet plain_eq_loop _, codeAny_builtin entry_eq_loop (by
      rw [Around.under_plainId plain_eq_loop _]
      exact ih (i + 1) (by omega) (by omega) prog w A R _ ⟨hl, hb, h⟩)⟩
theorem gt_same_loop (l b : Addr) (items items2 : Array Value) (n n2 : Nat) (hsz : items.size = items2.size) (heq : ∀ i (a1 : i < items.size) (a2 : i < items2.size), EqGives items[i] items2[i] true) (k : Nat) :
    ∀ i : Nat, items.size - i = k → i ≤ items.size → Meets (Builtin.«list.__eq__.loop» ⟨[.ref l, .ref b, rawInt i, rawInt 4], []⟩)
      (fun _ R s => s.heap.get? l = some { cls := .type "list", dict := none, data := .seq items n, slots := #[] } ∧ s.heap.get? b = some { cls := .type "list", dict := none, data := .seq items2 n2, slots := #[] } ∧
        R (.ok (.ret (.bool false))) s) := by
  induction k with
  | zero =>
    intro i hk hij prog w A R s h
    obtain ⟨hp, g, d, tk, os⟩ := s; obtain ⟨hl, hb, h⟩ := h
    wp_walk using wpAny_loadPart' hl, wpAny_loadPart' hb
    have hi1 : items[((i : Nat) : Int).toNat]? = none := by simp; omega
    have hi2 : items2[((i : Nat) : Int).toNat]? = none := by simp; omega
    rw [hi1, hi2]
    wp_walk using wpAny_loadPart' hl, wpAny_loadPart' hb
    have e : decide (items.size > items2.size) = false := by rw [decide_eq_false_iff_not]; omega
    show R (.ok (.ret (.bool (decide (items.size > items2.size))))) _
    rw [e]
    exact h
  | succ k ih =>
    intro i hk hij prog w A R s h
    obtain ⟨hp, g, d, tk, os⟩ := s; obtain ⟨hl, hb, h⟩ := h
    wp_walk using wpAny_loadPart' hl, wpAny_loadPart' hb
    have hlt : i < items.size := by omega
    have hlt2 : i < items2.size := by omega
    have hi1 : items[((i : Nat) : Int).toNat]? = some items[i] := by simp [hlt]
    have hi2 : items2[((i : Nat) : Int).toNat]? = some items2[i] := by simp [hlt2]
    have hc : ((i : Int) + 1) = ((i + 1 : Nat) : Int) := by push_cast; rfl
    rw [hi1, hi2]
    refine wpAny_bind (heq i hlt hlt2 prog w _ _ _ _ ?_)
    wp_walk
    rw [hc]
    exact ⟨plainId_quiet plain_eq_loop _, codeAny_builtin entry_eq_loop (by
      rw [Around.under_plainId plain_eq_loop _]
      exact ih (i + 1) (by omega) (by omega) prog w A R _ ⟨hl, hb, h⟩)⟩
theorem gt_str (x y : Str) (t u : Tok) : RichGives .Gt (.str x t) (.str y u) (decide (x.cps.toList > y.cps.toList)) := by
  intro prog w A E s Q h
  exact wpAny_richCompare_same (op := .Gt) (T := "str") (PySem.typeIs_str s x t) (PySem.typeIs_str s y u) PyProof.Rows.slot_str_gt
    (wpAny_call_entry PyProof.Rows.slot_str_gt (PySem.typeIs_str s x t) PyProof.Rows.entry_str_gt (show wpAny _ _ (ret (.bool (decide (x.cps.toList > y.cps.toList)))) _ _ s from wpAny_pure ⟨_, rfl, by simp, h⟩) (PyProof.Rows.args_str_gt _ _))
theorem gt_lists {prog : Program} {w : World} {A : Around} {E : Value → Shared → Prop} {s : Shared} {Q : Value → Shared → Prop} {l b : Addr} {items items2 : Array Value} {n n2 : Nat} {r : Bool} (hu : A.units < cLine) (hl : s.heap.get? l = some { cls := .type "list", dict := none, data := .seq items n, slots := #[] }) (hb : s.heap.get? b = some { cls := .type "list", dict := none, data := .seq items2 n2, slots := #[] })
    (hm : Meets (Builtin.«list.__eq__.loop» ⟨[.ref l, .ref b, rawInt (0 : Nat), rawInt 4], []⟩)
      (fun _ R s => s.heap.get? l = some { cls := .type "list", dict := none, data := .seq items n, slots := #[] } ∧ s.heap.get? b = some { cls := .type "list", dict := none, data := .seq items2 n2, slots := #[] } ∧
        R (.ok (.ret (.bool r))) s)) (hQ : Q (.bool r) s) :
    wpAny (model prog w) A (richCompare .Gt (.ref l) (.ref b)) Q E s := by
  have hTl : s.TypeIs (.ref l) "list" := ⟨_, hl, rfl⟩
  have hTb : s.TypeIs (.ref b) "list" := ⟨_, hb, rfl⟩
  refine wpAny_richCompare_same_or (op := .Gt) hTl hTb PySem.F.slot_list_gt (call_meets PySem.F.slot_list_gt hTl PySem.F.entry_list_gt (PySem.F.args_list_gt_2 _ _) (S := fun _ R s => s.heap.get? l = some { cls := .type "list", dict := none, data := .seq items n, slots := #[] } ∧ s.heap.get? b = some { cls := .type "list", dict := none, data := .seq items2 n2, slots := #[] } ∧
        R (.ok (.ret (.bool r))) s) ?_ ⟨hl, hb, by simp, hQ⟩) (.inr hu)
  intro prog w A R s h
  obtain ⟨hp, g, d, tk, os⟩ := s; obtain ⟨hl, hb, h⟩ := h
  have f3 := AutoSeq1.sub_list_list
  wp_walk using wpAny_loadPart' hl, wpAny_loadPart' hb
  exact ⟨plainId_quiet plain_eq_loop _, codeAny_builtin entry_eq_loop (by
    rw [Around.under_plainId plain_eq_loop _]
    exact hm prog w A R _ ⟨hl, hb, h⟩)⟩

end Mine
end SY01
section SY02
open PySem PySem.W PyProof.Rows PySem.W.X PySem.Spec PySem.Calls
namespace Mine
noncomputable section
section
variable {prog : Program} {w : World} {A : Around} {E : Value → Shared → Prop} {s : Shared}

theorem min_two {D p q : Addr} {k : Nat} (x : Addr) {r : Bool} (hx : (if r = true then q else p) = x) {Q : Value → Shared → Prop} (hh : A.handled = none) (hD : s.heap.get? D = some { cls := .type "list", dict := none, data := .seq #[.ref p, .ref q] k, slots := #[] })
    (hcmp : ∀ (s' : Shared) (Q : Value → Shared → Prop) (E : Value → Shared → Prop), (∀ b o, s.heap.get? b = some o → s'.heap.get? b = some o) → Q (.bool r) s' → wpAny (model prog w) A.in1 (richCompare .Lt (.ref q) (.ref p)) Q E s')
    (hQ : ∀ h' tk', (∀ b o, s.heap.get? b = some o → h'.get? b = some o) → Q (.ref x) { s with heap := h', toks := tk' }) :
    wpAny (model prog w) A (call (.builtin "min") [.ref D]) Q E s := by
  revert hx hh hD hcmp hQ
  revert prog w A E s D p q k x r Q
  change ∀ prog w A E s D p q k x r Q, _
  refine' (let rec cy0 : Pk12 _ := pk12 (by repeat' first | exact ne_world | exact ne_cx | exact ne_shared | exact ne_around | exact ⟨default⟩ | exact ⟨.sp⟩ | refine ne_prod ?_ ?_) _; Pk12.use cy0 ?_)
  generalize cy0.1.1 = prog
  generalize cy0.1.2.1 = w
  generalize cy0.1.2.2.1 = A
  generalize cy0.1.2.2.2.1 = E
  generalize cy0.1.2.2.2.2.1 = s
  generalize cy0.1.2.2.2.2.2.1 = D
  generalize cy0.1.2.2.2.2.2.2.1 = p
  generalize cy0.1.2.2.2.2.2.2.2.1 = q
  generalize cy0.1.2.2.2.2.2.2.2.2.1 = k
  generalize cy0.1.2.2.2.2.2.2.2.2.2.1 = x
  generalize cy0.1.2.2.2.2.2.2.2.2.2.2.1 = r
  generalize cy0.1.2.2.2.2.2.2.2.2.2.2.2 = Q
  clear cy0
  intro hx hh hD hcmp hQ
  subst hx
  have hname : (toString "min" ++ toString ".loop" : String) = "min.loop" := by decide
  have hls : s.heap.IsList D #[.ref p, .ref q] := ⟨_, hD, rfl, _, rfl⟩
  have hlt : D < s.heap.objs.size := Heap.lt_size hD
  generalize hI : s.heap.objs.size = I
  have hDI : D ≠ I := by rw [← hI]; exact Nat.ne_of_lt hlt
  have W := Walks.list (prog := prog) (w := w) (A := A.in1) hh I D hDI #[.ref p, .ref q]
  refine call_function_tree F.kind_min F.plain_min F.entry_min (F.args_min1 _) ?_
  show wpAny _ A.in1 (Builtin.Builtins.bindParams "min" ["key", "default"] 0 ⟨[], []⟩ >>= _) _ _ s
  refine wpAny_bind (wpAny_of_eq (show Builtin.Builtins.bindParams "min" ["key", "default"] 0 ⟨[], []⟩ = pure [none, none] from rfl) ?_)
  refine wpAny_bind (wpAny_pure ?_)
  refine wpAny_bind (wpAny_pyIter_list hls ?_)
  rw [hI]
  generalize hH1 : s.heap.push { cls := .type "list_iterator", data := .fields #[.ref D, .int 0 0] } = H1
  have up1 : ∀ b o, s.heap.get? b = some o → H1.get? b = some o := fun b o e => hH1 ▸ Heap.get?_push_of_some _ e
  have hit1 : H1.IsListIter I D 0 := ⟨_, hH1 ▸ hI ▸ Heap.get?_push_size _ rfl, rfl, rfl⟩
  have hz1 : H1.objs.size = I + 1 := by rw [← hH1, Heap.size_push, hI]
  refine wpAny_bind (wpAny_newObj_type ?_)
  rw [hname]
  generalize hH2 : ({ s with heap := H1 } : Shared).heap.push { cls := .type "list", dict := none, data := .seq ([] : List Value).toArray } = H2
  have eS : ({ s with heap := H1 } : Shared).heap.objs.size = I + 1 := hz1
  rw [eS]
  generalize hS : I + 1 = S
  have hSI : S ≠ I := by omega
  have hSD : S ≠ D := Nat.ne_of_gt (Nat.lt_of_lt_of_le (hI ▸ hlt) (hS ▸ Nat.le_succ I))
  have up2 : ∀ b o, H1.get? b = some o → H2.get? b = some o := fun b o e => hH2 ▸ Heap.get?_push_of_some _ e
  have hS2 : H2.get? S = some { cls := .type "list", dict := none, data := .seq #[] 0, slots := #[] } := by rw [← hS, ← hz1, ← hH2]; exact Heap.get?_push_size _ rfl
  have hit2 : H2.IsListIter I D 0 ∧ H2.IsList D #[.ref p, .ref q] := ⟨hit1.at fun o e => up2 _ o e, (hls.at fun o e => up1 _ o e).at fun o e => up2 _ o e⟩
  have hnS : ∀ b o, s.heap.get? b = some o → b ≠ I ∧ b ≠ S := fun b o e => by
    have : b < I := hI ▸ Heap.lt_size e
    exact ⟨Nat.ne_of_lt this, Nat.ne_of_lt (Nat.lt_of_lt_of_le this (hS ▸ Nat.le_succ I))⟩
  have old2 : ∀ b o, s.heap.get? b = some o → H2.get? b = some o := fun b o e => up2 _ _ (up1 _ _ e)
  refine wpAny_pure ⟨plainId_quiet F.plain_min_loop _, ?_⟩
  refine codeAny_builtin F.entry_min_loop ?_
  rw [Around.under_plainId F.plain_min_loop _]
  show wpAny _ A.in1 (seqItems? (.ref S) >>= _) _ _ _
  refine wpAny_bind (wpAny_seqItems (s := { s with heap := H2 }) hS2 rfl ?_)
  show wpAny _ A.in1 (tryCatch (pyNext (.ref I)) _ >>= _) _ _ _
  refine wpAny_bind (wpAny_tryCatch (W.item 0 { s with heap := H2 } _ _ (by show 0 < 2; decide) hit2 fun v h3 tk3 hP hit3 hk3 => ?_))
  have e9 : some (Value.ref p) = some v := hP
  obtain rfl := Option.some.inj e9
  clear hP e9
  have hS3 := hk3 S _ (by simpa using hSI) hS2
  have old3 : ∀ b o, s.heap.get? b = some o → h3.get? b = some o := fun b o e => hk3 b o (by simpa using (hnS b o e).1) (old2 b o e)
  show wpAny _ A.in1 (updateSeq S (fun _ => #[Value.ref p, Value.ref p]) >>= _) _ _ _
  refine wpAny_bind ?_
  refine wpAny_updateSeq hS3 rfl ?_
  rw [hname]
  refine wpAny_pure ⟨plainId_quiet F.plain_min_loop _, ?_⟩
  have sb4 := Heap.SameBut.update h3 S (Obj.mapSeq fun _ => #[Value.ref p, Value.ref p])
  have hS4 := Heap.get?_update_self (Obj.mapSeq fun _ => #[Value.ref p, Value.ref p]) hS3 rfl
  dsimp only at hS4 sb4 ⊢
  generalize h3.update S (Obj.mapSeq fun _ => #[Value.ref p, Value.ref p]) = h4 at sb4 hS4 ⊢
  have hit4 : h4.IsListIter I D 1 ∧ h4.IsList D #[.ref p, .ref q] := ⟨hit3.1.at fun o e => sb4.extBut _ _ (Ne.symm hSI) e, hit3.2.at fun o e => sb4.extBut _ _ (Ne.symm hSD) e⟩
  have old4 : ∀ b o, s.heap.get? b = some o → h4.get? b = some o := fun b o e => sb4.extBut _ _ (hnS b o e).2 (old3 b o e)
  refine codeAny_builtin F.entry_min_loop ?_
  rw [Around.under_plainId F.plain_min_loop _]
  show wpAny _ A.in1 (seqItems? (.ref S) >>= _) _ _ _
  refine wpAny_bind (wpAny_seqItems (s := { s with heap := h4, toks := tk3 }) hS4 rfl ?_)
  show wpAny _ A.in1 (tryCatch (pyNext (.ref I)) _ >>= _) _ _ _
  refine wpAny_bind (wpAny_tryCatch (W.item 1 { s with heap := h4, toks := tk3 } _ _ (by show 1 < 2; decide) hit4 fun v h5 tk5 hP hit5 hk5 => ?_))
  have e9 : some (Value.ref q) = some v := hP
  obtain rfl := Option.some.inj e9
  clear hP e9
  have hS5 := hk5 S _ (by simpa using hSI) hS4
  have old5 : ∀ b o, s.heap.get? b = some o → h5.get? b = some o := fun b o e => hk5 b o (by simpa using (hnS b o e).1) (old4 b o e)
  show wpAny _ A.in1 (tryCatch (holding [Value.ref q, Value.ref q] (richCompare .Lt (.ref q) (.ref p) >>= _)) _ >>= _) _ _ _
  refine wpAny_bind (wpAny_tryCatch (wpAny_holding (wpAny_bind (hcmp { s with heap := h5, toks := tk5 } _ _ old5 ?_))))
  refine wpAny_bind (wpAny_holding (wpAny_truthy_bool ?_))
  refine wpAny_bind (wpAny_letGo (wpAny_pure ?_))
  have last : ∀ (x : Addr) (h6 : Heap) (c : Nat) (R : Result → Shared → Prop), (∀ b o, s.heap.get? b = some o → h6.get? b = some o) → h6.get? S = some { cls := .type "list", dict := none, data := .seq #[.ref x, .ref x] c, slots := #[] } → (h6.IsListIter I D 2 ∧ h6.IsList D #[.ref p, .ref q]) →
      (∀ h' tk', (∀ b o, s.heap.get? b = some o → h'.get? b = some o) → R (.ok (.ret (.ref x))) { s with heap := h', toks := tk' }) → codeAny (model prog w) A (.builtin "min.loop" ⟨[.ref I, .none, .ref S], []⟩) R { s with heap := h6, toks := tk5 } := by
    intro x h6 c R old6 hS6 hit6 hR
    refine codeAny_builtin F.entry_min_loop ?_
    rw [Around.under_plainId F.plain_min_loop _]
    show wpAny _ A.in1 (seqItems? (.ref S) >>= _) _ _ _
    refine wpAny_bind (wpAny_seqItems (s := { s with heap := h6, toks := tk5 }) hS6 rfl ?_)
    show wpAny _ A.in1 (tryCatch (pyNext (.ref I)) _ >>= _) _ _ _
    refine wpAny_bind (wpAny_tryCatch (W.done { s with heap := h6, toks := tk5 } _ _ hit6 fun h' tk hk' => ?_))
    have hS' := hk' S _ (by simpa using hSI) hS6
    show wpAny _ A.in1 (updateSeq S (fun _ => #[]) >>= _) _ _ _
    refine wpAny_bind ?_
    refine wpAny_updateSeq hS' rfl (wpAny_bind (wpAny_letGo (wpAny_pure ?_)))
    exact hR _ _ fun b o e => (Heap.get?_update_other _ _ (Ne.symm (hnS b o e).2)).trans (hk' b o (by simpa using (hnS b o e).1) (old6 b o e))
  cases r with
  | true =>
    simp only [if_true]
    refine wpAny_bind ?_
    refine wpAny_updateSeq hS5 rfl (wpAny_bind (wpAny_letGo ?_))
    rw [hname]
    have sb6 := Heap.SameBut.update h5 S (Obj.mapSeq fun _ => #[Value.ref q, Value.ref q])
    refine wpAny_pure ⟨plainId_quiet F.plain_min_loop _, last q _ _ _ (fun b o e => sb6.extBut _ _ (hnS b o e).2 (old5 b o e)) (Heap.get?_update_self _ hS5 rfl) ⟨hit5.1.at fun o e => sb6.extBut _ _ (Ne.symm hSI) e, hit5.2.at fun o e => sb6.extBut _ _ (Ne.symm hSD) e⟩ fun h' tk' ho => ?_⟩
    exact hQ h' tk' ho
  | false =>
    simp only [Bool.false_eq_true, if_false]
    refine wpAny_bind (wpAny_letGo ?_)
    rw [hname]
    refine wpAny_pure ⟨plainId_quiet F.plain_min_loop _, last p _ _ _ old5 hS5 hit5 fun h' tk' ho => ?_⟩
    exact hQ h' tk' ho

theorem max_two {D p q : Addr} {k : Nat} (x : Addr) {r : Bool} (hx : (if r = true then q else p) = x) {Q : Value → Shared → Prop} (hh : A.handled = none) (hD : s.heap.get? D = some { cls := .type "list", dict := none, data := .seq #[.ref p, .ref q] k, slots := #[] })
    (hcmp : ∀ (s' : Shared) (Q : Value → Shared → Prop) (E : Value → Shared → Prop), (∀ b o, s.heap.get? b = some o → s'.heap.get? b = some o) → Q (.bool r) s' → wpAny (model prog w) A.in1 (richCompare .Gt (.ref q) (.ref p)) Q E s')
    (hQ : ∀ h' tk', (∀ b o, s.heap.get? b = some o → h'.get? b = some o) → Q (.ref x) { s with heap := h', toks := tk' }) :
    wpAny (model prog w) A (call (.builtin "max") [.ref D]) Q E s := by
  revert hx hh hD hcmp hQ
  revert prog w A E s D p q k x r Q
  change ∀ prog w A E s D p q k x r Q, _
  refine' (let rec cy0 : Pk12 _ := pk12 (by repeat' first | exact ne_world | exact ne_cx | exact ne_shared | exact ne_around | exact ⟨default⟩ | exact ⟨.sp⟩ | refine ne_prod ?_ ?_) _; Pk12.use cy0 ?_)
  generalize cy0.1.1 = prog
  generalize cy0.1.2.1 = w
  generalize cy0.1.2.2.1 = A
  generalize cy0.1.2.2.2.1 = E
  generalize cy0.1.2.2.2.2.1 = s
  generalize cy0.1.2.2.2.2.2.1 = D
  generalize cy0.1.2.2.2.2.2.2.1 = p
  generalize cy0.1.2.2.2.2.2.2.2.1 = q
  generalize cy0.1.2.2.2.2.2.2.2.2.1 = k
  generalize cy0.1.2.2.2.2.2.2.2.2.2.1 = x
  generalize cy0.1.2.2.2.2.2.2.2.2.2.2.1 = r
  generalize cy0.1.2.2.2.2.2.2.2.2.2.2.2 = Q
  clear cy0
  intro hx hh hD hcmp hQ
  subst hx
  have hname : (toString "max" ++ toString ".loop" : String) = "max.loop" := by decide
  have hls : s.heap.IsList D #[.ref p, .ref q] := ⟨_, hD, rfl, _, rfl⟩
  have hlt : D < s.heap.objs.size := Heap.lt_size hD
  generalize hI : s.heap.objs.size = I
  have hDI : D ≠ I := by rw [← hI]; exact Nat.ne_of_lt hlt
  have W := Walks.list (prog := prog) (w := w) (A := A.in1) hh I D hDI #[.ref p, .ref q]
  refine call_function_tree F.kind_max F.plain_max F.entry_max (F.args_max1 _) ?_
  show wpAny _ A.in1 (Builtin.Builtins.bindParams "max" ["key", "default"] 0 ⟨[], []⟩ >>= _) _ _ s
  refine wpAny_bind (wpAny_of_eq (show Builtin.Builtins.bindParams "max" ["key", "default"] 0 ⟨[], []⟩ = pure [none, none] from rfl) ?_)
  refine wpAny_bind (wpAny_pure ?_)
  refine wpAny_bind (wpAny_pyIter_list hls ?_)
  rw [hI]
  generalize hH1 : s.heap.push { cls := .type "list_iterator", data := .fields #[.ref D, .int 0 0] } = H1
  have up1 : ∀ b o, s.heap.get? b = some o → H1.get? b = some o := fun b o e => hH1 ▸ Heap.get?_push_of_some _ e
  have hit1 : H1.IsListIter I D 0 := ⟨_, hH1 ▸ hI ▸ Heap.get?_push_size _ rfl, rfl, rfl⟩
  have hz1 : H1.objs.size = I + 1 := by rw [← hH1, Heap.size_push, hI]
  refine wpAny_bind (wpAny_newObj_type ?_)
  rw [hname]
  generalize hH2 : ({ s with heap := H1 } : Shared).heap.push { cls := .type "list", dict := none, data := .seq ([] : List Value).toArray } = H2
  have eS : ({ s with heap := H1 } : Shared).heap.objs.size = I + 1 := hz1
  rw [eS]
  generalize hS : I + 1 = S
  have hSI : S ≠ I := by omega
  have hSD : S ≠ D := Nat.ne_of_gt (Nat.lt_of_lt_of_le (hI ▸ hlt) (hS ▸ Nat.le_succ I))
  have up2 : ∀ b o, H1.get? b = some o → H2.get? b = some o := fun b o e => hH2 ▸ Heap.get?_push_of_some _ e
  have hS2 : H2.get? S = some { cls := .type "list", dict := none, data := .seq #[] 0, slots := #[] } := by rw [← hS, ← hz1, ← hH2]; exact Heap.get?_push_size _ rfl
  have hit2 : H2.IsListIter I D 0 ∧ H2.IsList D #[.ref p, .ref q] := ⟨hit1.at fun o e => up2 _ o e, (hls.at fun o e => up1 _ o e).at fun o e => up2 _ o e⟩
  have hnS : ∀ b o, s.heap.get? b = some o → b ≠ I ∧ b ≠ S := fun b o e => by
    have : b < I := hI ▸ Heap.lt_size e
    exact ⟨Nat.ne_of_lt this, Nat.ne_of_lt (Nat.lt_of_lt_of_le this (hS ▸ Nat.le_succ I))⟩
  have old2 : ∀ b o, s.heap.get? b = some o → H2.get? b = some o := fun b o e => up2 _ _ (up1 _ _ e)
  refine wpAny_pure ⟨plainId_quiet F.plain_max_loop _, ?_⟩
  refine codeAny_builtin F.entry_max_loop ?_
  rw [Around.under_plainId F.plain_max_loop _]
  show wpAny _ A.in1 (seqItems? (.ref S) >>= _) _ _ _
  refine wpAny_bind (wpAny_seqItems (s := { s with heap := H2 }) hS2 rfl ?_)
  show wpAny _ A.in1 (tryCatch (pyNext (.ref I)) _ >>= _) _ _ _
  refine wpAny_bind (wpAny_tryCatch (W.item 0 { s with heap := H2 } _ _ (by show 0 < 2; decide) hit2 fun v h3 tk3 hP hit3 hk3 => ?_))
  have e9 : some (Value.ref p) = some v := hP
  obtain rfl := Option.some.inj e9
  clear hP e9
  have hS3 := hk3 S _ (by simpa using hSI) hS2
  have old3 : ∀ b o, s.heap.get? b = some o → h3.get? b = some o := fun b o e => hk3 b o (by simpa using (hnS b o e).1) (old2 b o e)
  show wpAny _ A.in1 (updateSeq S (fun _ => #[Value.ref p, Value.ref p]) >>= _) _ _ _
  refine wpAny_bind ?_
  refine wpAny_updateSeq hS3 rfl ?_
  rw [hname]
  refine wpAny_pure ⟨plainId_quiet F.plain_max_loop _, ?_⟩
  have sb4 := Heap.SameBut.update h3 S (Obj.mapSeq fun _ => #[Value.ref p, Value.ref p])
  have hS4 := Heap.get?_update_self (Obj.mapSeq fun _ => #[Value.ref p, Value.ref p]) hS3 rfl
  dsimp only at hS4 sb4 ⊢
  generalize h3.update S (Obj.mapSeq fun _ => #[Value.ref p, Value.ref p]) = h4 at sb4 hS4 ⊢
  have hit4 : h4.IsListIter I D 1 ∧ h4.IsList D #[.ref p, .ref q] := ⟨hit3.1.at fun o e => sb4.extBut _ _ (Ne.symm hSI) e, hit3.2.at fun o e => sb4.extBut _ _ (Ne.symm hSD) e⟩
  have old4 : ∀ b o, s.heap.get? b = some o → h4.get? b = some o := fun b o e => sb4.extBut _ _ (hnS b o e).2 (old3 b o e)
  refine codeAny_builtin F.entry_max_loop ?_
  rw [Around.under_plainId F.plain_max_loop _]
  show wpAny _ A.in1 (seqItems? (.ref S) >>= _) _ _ _
  refine wpAny_bind (wpAny_seqItems (s := { s with heap := h4, toks := tk3 }) hS4 rfl ?_)
  show wpAny _ A.in1 (tryCatch (pyNext (.ref I)) _ >>= _) _ _ _
  refine wpAny_bind (wpAny_tryCatch (W.item 1 { s with heap := h4, toks := tk3 } _ _ (by show 1 < 2; decide) hit4 fun v h5 tk5 hP hit5 hk5 => ?_))
  have e9 : some (Value.ref q) = some v := hP
  obtain rfl := Option.some.inj e9
  clear hP e9
  have hS5 := hk5 S _ (by simpa using hSI) hS4
  have old5 : ∀ b o, s.heap.get? b = some o → h5.get? b = some o := fun b o e => hk5 b o (by simpa using (hnS b o e).1) (old4 b o e)
  show wpAny _ A.in1 (tryCatch (holding [Value.ref q, Value.ref q] (richCompare .Gt (.ref q) (.ref p) >>= _)) _ >>= _) _ _ _
  refine wpAny_bind (wpAny_tryCatch (wpAny_holding (wpAny_bind (hcmp { s with heap := h5, toks := tk5 } _ _ old5 ?_))))
  refine wpAny_bind (wpAny_holding (wpAny_truthy_bool ?_))
  refine wpAny_bind (wpAny_letGo (wpAny_pure ?_))
  have last : ∀ (x : Addr) (h6 : Heap) (c : Nat) (R : Result → Shared → Prop), (∀ b o, s.heap.get? b = some o → h6.get? b = some o) → h6.get? S = some { cls := .type "list", dict := none, data := .seq #[.ref x, .ref x] c, slots := #[] } → (h6.IsListIter I D 2 ∧ h6.IsList D #[.ref p, .ref q]) →
      (∀ h' tk', (∀ b o, s.heap.get? b = some o → h'.get? b = some o) → R (.ok (.ret (.ref x))) { s with heap := h', toks := tk' }) → codeAny (model prog w) A (.builtin "max.loop" ⟨[.ref I, .none, .ref S], []⟩) R { s with heap := h6, toks := tk5 } := by
    intro x h6 c R old6 hS6 hit6 hR
    refine codeAny_builtin F.entry_max_loop ?_
    rw [Around.under_plainId F.plain_max_loop _]
    show wpAny _ A.in1 (seqItems? (.ref S) >>= _) _ _ _
    refine wpAny_bind (wpAny_seqItems (s := { s with heap := h6, toks := tk5 }) hS6 rfl ?_)
    show wpAny _ A.in1 (tryCatch (pyNext (.ref I)) _ >>= _) _ _ _
    refine wpAny_bind (wpAny_tryCatch (W.done { s with heap := h6, toks := tk5 } _ _ hit6 fun h' tk hk' => ?_))
    have hS' := hk' S _ (by simpa using hSI) hS6
    show wpAny _ A.in1 (updateSeq S (fun _ => #[]) >>= _) _ _ _
    refine wpAny_bind ?_
    refine wpAny_updateSeq hS' rfl (wpAny_bind (wpAny_letGo (wpAny_pure ?_)))
    exact hR _ _ fun b o e => (Heap.get?_update_other _ _ (Ne.symm (hnS b o e).2)).trans (hk' b o (by simpa using (hnS b o e).1) (old6 b o e))
  cases r with
  | true =>
    simp only [if_true]
    refine wpAny_bind ?_
    refine wpAny_updateSeq hS5 rfl (wpAny_bind (wpAny_letGo ?_))
    rw [hname]
    have sb6 := Heap.SameBut.update h5 S (Obj.mapSeq fun _ => #[Value.ref q, Value.ref q])
    refine wpAny_pure ⟨plainId_quiet F.plain_max_loop _, last q _ _ _ (fun b o e => sb6.extBut _ _ (hnS b o e).2 (old5 b o e)) (Heap.get?_update_self _ hS5 rfl) ⟨hit5.1.at fun o e => sb6.extBut _ _ (Ne.symm hSI) e, hit5.2.at fun o e => sb6.extBut _ _ (Ne.symm hSD) e⟩ fun h' tk' ho => ?_⟩
    exact hQ h' tk' ho
  | false =>
    simp only [Bool.false_eq_true, if_false]
    refine wpAny_bind (wpAny_letGo ?_)
    rw [hname]
    refine wpAny_pure ⟨plainId_quiet F.plain_max_loop _, last p _ _ _ old5 hS5 hit5 fun h' tk' ho => ?_⟩
    exact hQ h' tk' ho

end
end
end Mine
end SY02
section SG01
open PySem PySem.W PyProof.Rows PySem.W.X PySem.MeetsSeq
namespace Mine
noncomputable def lcpS : List Str → List Str → List Str
  | a :: l, b :: r => if a = b then a :: lcpS l r else []
  | _, _ => []
theorem lcpS_symm : ∀ a b : List Str, lcpS a b = lcpS b a
  | [], [] => rfl
  | [], _ :: _ => rfl
  | _ :: _, [] => rfl
  | a :: l, b :: r => by
    unfold lcpS
    by_cases e : a = b
    · rw [if_pos e, if_pos e.symm, lcpS_symm l r, e]
    · rw [if_neg e, if_neg (Ne.symm e)]
theorem lcpS_take : ∀ (a b : List Str) (j : Nat) (hj : j < a.length) (hb : j < b.length), (∀ k (h1 : k < a.length) (h2 : k < b.length), k < j → a[k] = b[k]) → a[j] ≠ b[j] → lcpS a b = a.take j
  | [], _, _, h, _, _, _ => absurd h (Nat.not_lt_zero _)
  | _ :: _, [], _, _, h, _, _ => absurd h (Nat.not_lt_zero _)
  | x :: l, y :: r, 0, _, _, _, hne => by
    unfold lcpS
    rw [if_neg (by simpa using hne)]; rfl
  | x :: l, y :: r, j + 1, h1, h2, he, hne => by
    have e0 : x = y := he 0 (by simp) (by simp) (Nat.succ_pos _)
    unfold lcpS
    rw [if_pos e0, List.take_succ_cons]
    congr 1
    exact lcpS_take l r j (Nat.lt_of_succ_lt_succ h1) (Nat.lt_of_succ_lt_succ h2) (fun k a b c => he (k + 1) (Nat.succ_lt_succ a) (Nat.succ_lt_succ b) (Nat.succ_lt_succ c)) hne
theorem lcpS_all : ∀ (a b : List Str), a.length ≤ b.length → (∀ k (h1 : k < a.length) (h2 : k < b.length), a[k] = b[k]) → lcpS a b = a
  | [], _, _, _ => by cases ‹List Str› <;> rfl
  | _ :: _, [], h, _ => absurd h (Nat.not_succ_le_zero _)
  | x :: l, y :: r, h, he => by
    unfold lcpS
    rw [if_pos (show x = y from he 0 (by simp) (by simp)), lcpS_all l r (Nat.le_of_succ_le_succ h) fun k a b => he (k + 1) (Nat.succ_lt_succ a) (Nat.succ_lt_succ b)]
theorem first_ne : ∀ (a b : List Str), a.length = b.length → a ≠ b → ∃ j, ∃ (h1 : j < a.length) (h2 : j < b.length), (∀ k (h1 : k < a.length) (h2 : k < b.length), k < j → a[k] = b[k]) ∧ a[j] ≠ b[j]
  | [], [], _, h => absurd rfl h
  | [], _ :: _, h, _ => by cases h
  | _ :: _, [], h, _ => by cases h
  | x :: l, y :: r, h, hne => by
    by_cases e : x = y
    · obtain ⟨j, h1, h2, h3, h4⟩ := first_ne l r (Nat.succ.inj h) fun q => hne (by rw [e, q])
      exact ⟨j + 1, Nat.succ_lt_succ h1, Nat.succ_lt_succ h2, fun k a b c => match k, a, b, c with
        | 0, _, _, _ => e
        | k + 1, a, b, c => h3 k (Nat.lt_of_succ_lt_succ a) (Nat.lt_of_succ_lt_succ b) (Nat.lt_of_succ_lt_succ c), h4⟩
    · exact ⟨0, Nat.succ_pos _, Nat.succ_pos _, fun k _ _ c => absurd c (Nat.not_lt_zero _), e⟩
theorem strs_at : ∀ {vs : List Value} {ss : List Str}, StrsAre vs ss → ∀ (i : Nat) (h : i < vs.length) (h' : i < ss.length), ∃ t, vs[i] = .str ss[i] t := by
  intro vs ss H i h h'
  obtain ⟨y, t, e, hy⟩ := StrsAre.item H i _ (List.getElem?_eq_getElem h)
  rw [List.getElem?_eq_getElem h'] at hy
  exact ⟨t, by rw [e, Option.some.inj hy]⟩
theorem nat_tri {a b : List Nat} (h : a ≠ b) : (decide (a < b) = true ∧ decide (a > b) = false) ∨ (decide (a < b) = false ∧ decide (a > b) = true) := by
  by_cases h1 : a < b
  · exact .inl ⟨decide_eq_true h1, decide_eq_false (List.lt_asymm h1)⟩
  · refine .inr ⟨decide_eq_false h1, decide_eq_true ?_⟩
    refine Decidable.byContradiction fun h2 => h ?_
    exact List.le_antisymm (List.not_lt.mp h2) (List.not_lt.mp h1)
noncomputable def Cmps (l b : Nat) (op : CmpOp) (code : Int) (items items2 : Array Value) (r : Bool) : Prop := ∀ n n2 : Nat, Meets (Builtin.«list.__eq__.loop» ⟨[.ref l, .ref b, rawInt (0 : Nat), rawInt code], []⟩)
      (fun _ R s => s.heap.get? l = some { cls := .type "list", dict := none, data := .seq items n, slots := #[] } ∧ s.heap.get? b = some { cls := .type "list", dict := none, data := .seq items2 n2, slots := #[] } ∧
        R (.ok (.ret (.bool r))) s)
theorem eqs (a : Str) (t u : Tok) : EqGives (.str a t) (.str a u) true := by
  have := SeqRoads2.EqGives.str a a t u
  rwa [beq_self_eq_true] at this
theorem nes {a b : Str} (h : a ≠ b) (t u : Tok) : EqGives (.str a t) (.str b u) false := by
  have := SeqRoads2.EqGives.str a b t u
  rwa [show (a.cps.toList == b.cps.toList) = false from beq_eq_false_iff_ne.mpr fun e => h (by
    obtain ⟨x⟩ := a
    obtain ⟨y⟩ := b
    exact congrArg Str.mk (Array.toList_inj.mp e))] at this
theorem ord_same {ua ub : List Value} {as bs : List Str} (ha : StrsAre ua as) (hb : StrsAre ub bs) (hl : as.length = bs.length) :
    ∃ r1 r2 : Bool, (∀ l b, Cmps l b .Lt 0 ub.toArray ua.toArray r1) ∧ (∀ l b, Cmps l b .Gt 4 ub.toArray ua.toArray r2) ∧ lcpS (if r1 = true then bs else as) (if r2 = true then bs else as) = lcpS as bs := by
  have la := StrsAre.length ha
  have lb := StrsAre.length hb
  by_cases hab : as = bs
  · subst hab
    have he : ∀ i (h1 : i < ub.toArray.size) (h2 : i < ua.toArray.size), EqGives ub.toArray[i] ua.toArray[i] true := by
      intro i h1 h2
      have h1' : i < ub.length := by simpa using h1
      have h2' : i < ua.length := by simpa using h2
      obtain ⟨t, e1⟩ := strs_at hb i h1' (by omega)
      obtain ⟨u, e2⟩ := strs_at ha i h2' (by omega)
      simp only [List.getElem_toArray, e1, e2]
      exact eqs _ _ _
    exact ⟨false, false, fun l b n n2 => lt_same_loop l b _ _ n n2 (by simp; omega) he _ 0 rfl (Nat.zero_le _), fun l b n n2 => gt_same_loop l b _ _ n n2 (by simp; omega) he _ 0 rfl (Nat.zero_le _), rfl⟩
  · obtain ⟨j, h1, h2, h3, h4⟩ := first_ne as bs hl hab
    have j1 : j < ub.toArray.size := by simp; omega
    have j2 : j < ua.toArray.size := by simp; omega
    have j1' : j < ub.length := by omega
    have j2' : j < ua.length := by omega
    obtain ⟨t, e1⟩ := strs_at hb j j1' h2
    obtain ⟨u, e2⟩ := strs_at ha j j2' h1
    have he : ∀ i (h1 : i < ub.toArray.size) (h2 : i < ua.toArray.size), i < j → EqGives ub.toArray[i] ua.toArray[i] true := by
      intro i k1 k2 hij
      have k1' : i < ub.length := by simpa using k1
      have k2' : i < ua.length := by simpa using k2
      obtain ⟨t, e1⟩ := strs_at hb i k1' (by omega)
      obtain ⟨u, e2⟩ := strs_at ha i k2' (by omega)
      simp only [List.getElem_toArray, e1, e2]
      rw [h3 i (by omega) (by omega) hij]
      exact eqs _ _ _
    have g1 : ub.toArray[j] = .str bs[j] t := by simpa using e1
    have g2 : ua.toArray[j] = .str as[j] u := by simpa using e2
    have hne : EqGives ub.toArray[j] ua.toArray[j] false := by
      rw [g1, g2]
      exact nes (Ne.symm h4) _ _
    have hcl : (bs[j]).cps.toList ≠ (as[j]).cps.toList := fun e => h4 (by
      generalize as[j] = x at e ⊢
      generalize bs[j] = y at e ⊢
      obtain ⟨x⟩ := x
      obtain ⟨y⟩ := y
      exact congrArg Str.mk (Array.toList_inj.mp e.symm))
    have hlt : RichGives .Lt ub.toArray[j] ua.toArray[j] (decide ((bs[j]).cps.toList < (as[j]).cps.toList)) := by
      rw [g1, g2]
      exact lt_str _ _ _ _
    have hgt : RichGives .Gt ub.toArray[j] ua.toArray[j] (decide ((bs[j]).cps.toList > (as[j]).cps.toList)) := by
      rw [g1, g2]
      exact gt_str _ _ _ _
    refine ⟨_, _, fun l b n n2 => lt_loop l b _ _ n n2 j j1 j2 he hne _ hlt _ 0 rfl (Nat.zero_le _), fun l b n n2 => gt_loop l b _ _ n n2 j j1 j2 he hne _ hgt _ 0 rfl (Nat.zero_le _), ?_⟩
    rcases nat_tri hcl with ⟨a1, a2⟩ | ⟨a1, a2⟩
    · rw [a1, a2, if_pos rfl, if_neg Bool.false_ne_true]
      exact lcpS_symm bs as
    · rw [a1, a2, if_pos rfl, if_neg Bool.false_ne_true]
end Mine
end SG01
section SG02
open PySem PySem.W PyProof.Rows PySem.W.X
namespace Mine
noncomputable section
noncomputable def TurnEnd (h₀ : Heap) (L : Addr) (m : Str → Option Value) (led : List (Addr × Obj)) (xi xc : Str) (p : Prop) (s s₂ : Shared) : Prop :=
  p ∧ ∃ h' tk' m', s₂ = { s with heap := h', toks := tk' } ∧ Fr h₀ L h' m' ∧ News h₀ L h' led ∧ ∀ y, y ≠ xc → y ≠ xi → m' y = m y
section
variable {prog : Program} {w : World} {A : Around} {E : Value → Shared → Prop} {s : Shared} {env : Env} {h₀ : Heap} {m : Str → Option Value} {news : List (Addr × Obj)} {Q : Flow → Shared → Prop} {xi xc : Str} {body : List Stmt}
theorem enum_led {l : Nat} {vs : List Value} {k : Nat} (P : Nat → Prop) (hh : A.handled = none) (F : Fr h₀ env.locals s.heap m) (N : News h₀ env.locals s.heap news) (hm : (l, listOf vs.toArray k) ∈ news) (hp : P 0)
    (turn : ∀ (i : Nat) (v : Value) t h tk own, vs[i]? = some v → P i → Fr h₀ env.locals h (fun y => if y = xc then some v else if y = xi then some (.int i t) else m y) → News h₀ env.locals h (own ++ news) →
      wpAny (model prog w) A (execs body env) (fun f s₂ => match f with
        | .next => TurnEnd h₀ env.locals m (own ++ news) xi xc (P (i + 1)) s s₂
        | .brk => Q .next s₂
        | .ret v => Q (.ret v) s₂
        | .cont => False) E { s with heap := h, toks := tk })
    (done : ∀ (u : Str → Option Value) h tk, P vs.length → Fr h₀ env.locals h (fun y => if y = xc then u y else if y = xi then u y else m y) → News h₀ env.locals h news → Q .next { s with heap := h, toks := tk }) :
    wpAny (model prog w) A (call (.type "enumerate") [.ref l]) (fun xv s₁ => wpAny (model prog w) A (pyIter xv) (fun it s₂ => PairAt3 prog w A h₀ env xi xc body Q E it s₂) E s₁) E s := by
  revert hh F N hm hp turn done
  revert prog w A E s env h₀ m news Q xi xc body l vs k P
  change ∀ prog w A E s env h₀ m news Q xi xc body l vs k P, _
  refine' (let rec cy0 : Pk12 _ := pk12 (by repeat' first | exact ne_world | exact ne_cx | exact ne_shared | exact ne_around | exact ⟨default⟩ | refine ne_prod ?_ ?_) _; Pk12.use cy0 ?_)
  generalize cy0.1.1 = prog
  generalize cy0.1.2.1 = w
  generalize cy0.1.2.2.1 = A
  generalize cy0.1.2.2.2.1 = E
  generalize cy0.1.2.2.2.2.1 = s
  generalize cy0.1.2.2.2.2.2.1 = env
  generalize cy0.1.2.2.2.2.2.2.1 = h₀
  generalize cy0.1.2.2.2.2.2.2.2.1 = m
  generalize cy0.1.2.2.2.2.2.2.2.2.1 = news
  generalize cy0.1.2.2.2.2.2.2.2.2.2.1 = Q
  generalize cy0.1.2.2.2.2.2.2.2.2.2.2.1 = xi
  generalize cy0.1.2.2.2.2.2.2.2.2.2.2.2 = xc
  clear cy0
  refine' (let rec cy0_1 : Pk5 _ := pk5 (by repeat' first | exact ne_world | exact ne_cx | exact ne_shared | exact ne_around | exact ⟨default⟩ | refine ne_prod ?_ ?_) _; Pk5.use cy0_1 ?_)
  generalize cy0_1.1.1 = body
  generalize cy0_1.1.2.1 = l
  generalize cy0_1.1.2.2.1 = vs
  generalize cy0_1.1.2.2.2.1 = k
  generalize cy0_1.1.2.2.2.2 = P
  clear cy0_1
  intro hh F N hm hp turn done
  have zl := N _ hm
  have hls : s.heap.IsList l vs.toArray := ⟨_, zl.1, rfl, _, rfl⟩
  refine enum_rows F hls fun h' he hi hl' F' hk n1 n2 n3 _ _ => ?_
  have N' : News h₀ env.locals h' news := fun p hp => ⟨hk _ _ (N p hp).1, (N p hp).2⟩
  refine wpAny_pyIter_enum he ?_
  have hsz : vs.toArray.size = vs.length := by simp
  have hold : ∀ b, s.heap.objs.size ≤ b → h₀.get? b = none := fun b hb => Heap.get?_none_of_le (Nat.le_trans (Nat.le_trans F.above (Nat.le_of_lt F.ns.lt)) hb)
  have hlt : ∀ p ∈ news, p.1 < s.heap.objs.size := fun p hp => Heap.lt_size (N p hp).1
  have hL : env.locals < s.heap.objs.size := F.ns.lt
  have hLl : env.locals ≠ l := fun e => zl.2.1 e.symm
  refine ⟨_, _, _, vs.length, _, _, _, (fun i v0 v1 => (∃ t, v0 = .int i t) ∧ vs[i]? = some v1), m, news, (fun i m₁ news₁ => news₁ = news ∧ (∀ y, y ≠ xc → y ≠ xi → m₁ y = m y) ∧ P i), rfl, hsz ▸ WalksT.enumerate hh _ _ l n1 n2 n3 vs.toArray, ?_, ?_, ?_, ?_, ⟨⟨_, he⟩, hi, hl'⟩, F', N', ⟨rfl, fun _ _ _ => rfl, hp⟩, ?_, ?_⟩
  · rintro i vals ⟨t, x, hx, rfl⟩
    exact ⟨_, _, rfl, ⟨t, rfl⟩, by simpa using hx⟩
  · intro hb
    simp only [List.mem_cons, List.not_mem_nil, or_false] at hb
    rcases hb with e | e | e
    · exact absurd e (Nat.ne_of_lt (Nat.lt_succ_of_lt hL))
    · exact absurd e (Nat.ne_of_lt hL)
    · exact hLl e
  · intro b hb
    simp only [List.mem_cons, List.not_mem_nil, or_false] at hb
    rcases hb with rfl | rfl
    · exact hold _ (Nat.le_succ _)
    · exact hold _ (Nat.le_refl _)
  · intro p hp hb
    have := hlt p hp
    simp only [List.mem_cons, List.not_mem_nil, or_false] at hb
    rcases hb with e | e
    · exact absurd e (Nat.ne_of_lt (Nat.lt_succ_of_lt this))
    · exact absurd e (Nat.ne_of_lt this)
  · rintro i v0 v1 m₁ news₁ s₁ own ⟨h₁, tk, rfl⟩ _ ⟨⟨t, rfl⟩, hv⟩ ⟨rfl, hm₁, hpi⟩ _ _ F₁ N₁
    have F₂ : Fr h₀ env.locals h₁ (fun y => if y = xc then some v1 else if y = xi then some (.int i t) else m y) := by
      have e : (fun y => if y = xc then some v1 else if y = xi then some (Value.int i t) else m₁ y) = fun y => if y = xc then some v1 else if y = xi then some (.int i t) else m y := by
        funext y
        by_cases q : y = xc
        · rw [if_pos q, if_pos q]
        · by_cases q2 : y = xi
          · rw [if_neg q, if_neg q, if_pos q2, if_pos q2]
          · rw [if_neg q, if_neg q, if_neg q2, if_neg q2, hm₁ y q q2]
      exact e ▸ F₁
    refine wpAny_mono (turn i v1 t h₁ tk own hv hpi F₂ N₁) (fun f s₂ q => ?_) fun _ _ e => e
    cases f with
    | ret v => exact q
    | brk => exact q
    | next =>
      obtain ⟨hp', h', tk', m', rfl, F', N', he'⟩ := q
      exact ⟨rfl, h', tk', m', news₁, rfl, F', N', rfl, rfl, he', hp'⟩
    | cont => exact q.elim
  · rintro h9 tk m' news' F9 N9 _ ⟨rfl, hm', hp'⟩
    refine done m' h9 tk hp' ?_ N9
    have e : m' = fun y => if y = xc then m' y else if y = xi then m' y else m y := by
      funext y
      by_cases q : y = xc
      · rw [if_pos q]
      · by_cases q2 : y = xi
        · rw [if_neg q, if_pos q2]
        · rw [if_neg q, if_neg q2, hm' y q q2]
    exact e ▸ F9
end
end
end Mine
end SG02
section SG03
open PySem PySem.W PyProof.Rows PySem.W.X PySem.MeetsSeq
namespace Mine
theorem item_at {prog : Program} {w : World} {A : Around} {E : Value → Shared → Prop} {s : Shared} {value slice : PySem.Expr} {l : Addr} {vs : List Value} {n : Nat} {k : Int} {u : Tok} {v : Value} {Q : Value → Shared → Prop} (hl : s.heap.get? l = some (listOf vs.toArray n)) (h0 : 0 ≤ k) (hhi : k < 2 ^ 63) (hx : vs[k.toNat]? = some v) (h : Q v s)
    (hs : subscripted slice false (.ref l) (.int k u) = operate [.ref l, .int k u] (getItem (.ref l) (.int k u)) := by with_unfolding_all rfl) :
    wpAny (model prog w) A (subscriptTail value slice (.ref l) (.int k u)) Q E s := item_litK ⟨_, hl, rfl, _, rfl⟩ h0 hhi hx h hs
section
variable {p : Program} {loose : List Str} {mean : ExcName → Option Value} {mg mb : Str → Option Value} {dp un : Nat} {gd : Option (List Code)} {cn : Str} {cs : Scope} {a : Addr} {ccd : Value} {cl : List (Str × Addr)} {outer : List Env} {A₀ : Around} {base h₀ : Heap} {L : Addr} {m : Str → Option Value}
theorem tuple_map2 (w : World) {s : Shared} {Q : Value → Shared → Prop} {E : Value → Shared → Prop} (nw : List (Addr × Obj)) (M T I l : Nat) (vs : List Value) (k : Nat) (hF : Fr h₀ L s.heap m) (N : News h₀ L s.heap ((I, litO l 0) :: (M, mapO T 119) :: (T, tup1 I) :: nw)) (hl : (l, listOf vs.toArray k) ∈ nw) (hstr : ∀ v ∈ vs, ∃ x t, v = Value.str x t) (hz : vs.length ≤ 1000) (hMI : M ≠ I) (hTI : T ≠ I) (hnI : ∀ q ∈ nw, q.1 ≠ I)
    (hk : cs.kind = .function) (hd : dp + 120 < recursionLimit) (hu : un + 1040 < cLine) (B : Below A₀ base outer h₀) (X : (Mine.frag.heap_1 w.params).In h₀) (Tp : Top p loose mean mg mb h₀)
    (fin : ∀ D h' tk', Fr h₀ L h' m → News h₀ L h' ((D, tupOf vs) :: nw) → (∀ q ∈ nw, q.1 < D) → Q (.ref D) { s with heap := h', toks := tk' }) :
    wpAny (model PySem.Challenge.rw_qw0075_02.row.prog w) (ktrTop dp un gd cn cs L a ccd cl outer) (call (.type "tuple") [.ref M]) Q E s :=
  tuple_map w nw M T I l vs k hstr hz hMI hTI (hnI _ hl) hnI hk hd hu B X Tp (litO l 0) rfl rfl hF (News.sub N fun q hq => by
    simp only [List.mem_cons] at hq ⊢
    rcases hq with h | h | h | h | h
    · simp [h]
    · simp [h]
    · simp [h]
    · rw [h]; exact .inr (.inr (.inr hl))
    · simp [h]) fun D h' tk' F' N' hlt => fin D h' tk' F' (News.sub N' fun q hq => by
      simp only [List.mem_cons] at hq ⊢
      rcases hq with h | h <;> simp [h]) fun q hq => hlt q (.tail _ hq)
end
noncomputable def Piece (z : Str) : Prop := 1 ≤ z.length ∧ z.length ≤ 100 ∧ (z != ".") = true
theorem strs_drop : ∀ {vs : List Value} {x : Str} {ss : List Str}, StrsAre vs (x :: ss) → StrsAre (vs.drop 1) ss := fun h => StrsAre.drop' h 1
theorem item_gen : ∀ {vs : List Value} {ss : List Str}, StrsAre vs (Str.empty :: ss) → (∀ z ∈ ss, Piece z) → ∀ {i : Nat} {v : Value}, vs.toArray[i]? = some v → (i = 0 ∧ ∃ t, v = .str Str.empty t) ∨ (i ≠ 0 ∧ ∃ z t, v = .str z t ∧ Piece z) := by
  intro vs ss H hp i v h
  obtain ⟨y, t, e, hy⟩ := StrsAre.item H i v (by simpa using h)
  cases i with
  | zero => exact .inl ⟨rfl, t, by rw [e, ← Option.some.inj hy]⟩
  | succ i => exact .inr ⟨Nat.succ_ne_zero _, y, t, e, hp _ (List.mem_of_getElem? hy)⟩
section
variable {prog : Program} {w : World} {A : Around} {E : Value → Shared → Prop} {s : Shared} {t u : Tok} {Q : Value → Shared → Prop} {h₀ h : Heap} {L : Addr} {m : Str → Option Value} {news : List (Addr × Obj)} {x : Str}
theorem split_any (hF : Fr h₀ L s.heap m) (hN : News h₀ L s.heap news) (hx : x.length ≤ 100)
    (h : ∀ q h' k vs, StrsAre vs (Txt.split x "/") → Fr h₀ L h' m → News h₀ L h' ((q, listOf vs.toArray 0) :: news) → s.heap.objs.size ≤ q → Q (.ref q) { s with heap := h', toks := k }) :
    wpAny (model prog w) A (call (.builtin "str.split") [.str x t, .str "/" u]) Q E s := by
  refine splitN1A hF hN (by decide +kernel) ?_ (by simp only [sizeLine]; omega)
  intro lv h' k e hs _ _ F N
  exact h _ h' k _ (e ▸ hs) F N (Nat.le_refl _)
theorem add_any {x y : Str} (hx : x.length ≤ 10000) (hy : y.length ≤ 10000) (h : ∀ t' tk, Q (.str (x ++ y) t') { s with toks := tk }) : wpAny (model prog w) A (binaryOp .Add (.str x t) (.str y u)) Q E s :=
  PyProof.Rows.add_str h (by simp only [sizeLine]; omega)
theorem pick_two {r : Bool} {p q : Nat} {ua ub : List Value} {na nb : Nat} {as bs : List Str} (N : News h₀ L h news) (h1 : (p, listOf ua.toArray na) ∈ news) (h2 : (q, listOf ub.toArray nb) ∈ news) (sA : StrsAre ua as) (sB : StrsAre ub bs) :
    ∃ X uu n, (if r = true then q else p) = X ∧ News h₀ L h ((X, listOf uu.toArray n) :: news) ∧ StrsAre uu (if r = true then bs else as) := by
  cases r
  · exact ⟨p, ua, na, rfl, fun z hz => N z ((List.mem_cons.mp hz).elim (fun e => e ▸ h1) id), sA⟩
  · exact ⟨q, ub, nb, rfl, fun z hz => N z ((List.mem_cons.mp hz).elim (fun e => e ▸ h2) id), sB⟩
end
theorem len_slash : ("/" : Str).length = 1 := rfl
theorem pieces_sum : ∀ (l : List Str), (∀ z ∈ l, Piece z) → (l.map (·.length)).sum ≤ 100 * l.length
  | [], _ => by simp
  | z :: l, h => by
    have := (h z (.head _)).2.1
    have := pieces_sum l fun y hy => h y (.tail _ hy)
    simp only [List.map_cons, List.sum_cons, List.length_cons]
    omega
theorem lcpS_mem : ∀ (a b : List Str), ∀ z ∈ lcpS a b, z ∈ a
  | [], [], _, h => h
  | [], _ :: _, _, h => h
  | _ :: _, [], _, h => nomatch h
  | x :: l, y :: r, z, h => by
    unfold lcpS at h
    split at h
    · rcases List.mem_cons.mp h with rfl | h
      · exact .head _
      · exact .tail _ (lcpS_mem l r z h)
    · cases h
theorem lcpS_len (a b : List Str) : (lcpS a b).length ≤ a.length := by
  induction a generalizing b with
  | nil => cases b <;> exact Nat.le_refl _
  | cons x l ih =>
    cases b with
    | nil => exact Nat.zero_le _
    | cons y r =>
      unfold lcpS
      split
      · exact Nat.succ_le_succ (ih r)
      · exact Nat.zero_le _
noncomputable def JoinFit (x : Str) : Prop := x.length ≤ 10000
theorem join_fit {x : Str} : ∀ (l : List Str), (∀ z ∈ l, Piece z) → (Txt.join "/" l).length ≤ 101 * l.length
  | [], _ => by show (Builtin.Str.glued _ _).length ≤ _; rw [StrLaws.glued_eq_join]; exact Nat.le_refl _
  | [a], h => by
    show (Builtin.Str.glued _ _).length ≤ _; rw [StrLaws.glued_eq_join]
    have := (h a (.head _)).2.1
    show a.length ≤ _
    simp only [List.length_cons, List.length_nil]; omega
  | a :: b :: l, h => by
    have ih := join_fit (x := x) (b :: l) fun y hy => h y (.tail _ hy)
    have ih' : (Builtin.Str.glued "/" (b :: l)).length ≤ 101 * (b :: l).length := ih
    have := (h a (.head _)).2.1
    show (Builtin.Str.glued _ _).length ≤ _
    rw [StrLaws.glued_eq_join] at ih' ⊢
    show (a ++ "/" ++ Str.join "/" (b :: l)).length ≤ _
    rw [Str.length_append, Str.length_append, len_slash]
    simp only [List.length_cons] at ih' ⊢
    omega
theorem pick_upto (vs : List Value) (x : Nat) : slicePick vs.toArray none (some (x : Int)) none = (vs.take x).toArray := by
  have e : sliceBounds none (some (x : Int)) none vs.toArray.size = (((0 : Nat) : Int), ((min x vs.length : Nat) : Int), 1) := by
    simp only [sliceBounds, Option.getD_none, List.size_toArray, show (1 : Int) > 0 by decide, if_true]
    rw [if_neg (by omega)]
    congr 2
    omega
  rw [kmk_pick_nat _ e]
  simp
theorem strs_take : ∀ {vs : List Value} {ss : List Str}, StrsAre vs ss → ∀ i, StrsAre (vs.take i) (ss.take i) := fun h i => StrsAre.take' h i
theorem slice_upto {prog : Program} {w : World} {A : Around} {E : Value → Shared → Prop} {s : Shared} {value slice : PySem.Expr} {h₀ : Heap} {L : Addr} {m : Str → Option Value} {news : List (Addr × Obj)} {Q : Value → Shared → Prop} {X n i : Nat} {vs : List Value} {u : Tok}
    (F : Fr h₀ L s.heap m) (N : News h₀ L s.heap news) (hm : (X, listOf vs.toArray n) ∈ news) (_hi : i ≤ 20) (hz : vs.length ≤ 30)
    (h : ∀ D h', Fr h₀ L h' m → News h₀ L h' ((D, listOf (vs.take i).toArray 0) :: news) → (∀ p ∈ news, p.1 < D) → Q (.ref D) { s with heap := h' })
    (hs : subscripted slice false (.ref X) (.ref s.heap.objs.size) = operate [.ref s.heap.objs.size, .ref X] (getItem (.ref X) (.ref s.heap.objs.size))) (ht : ∀ r, letTemporaryGo value (.ref X) r = pure ()) :
    wpAny (model prog w) A (subscriptTail value slice (.ref X) (.ref s.heap.objs.size)) Q E { s with heap := s.heap.push { cls := .type "slice", data := .fields #[.none, .int i u, .none] } } :=
  kmk_slice_lit (zs := vs.take i) F N ⟨_, (N _ hm).1, rfl, _, rfl⟩ .none (.int _ _) (by rw [pick_upto]) h hs ht (by rw [List.size_toArray]; simp only [sizeLine]; omega)
end Mine
end SG03
section SG04
open PySem PySem.W PyProof.Rows PySem.W.X PySem.MeetsSeq
namespace Mine
noncomputable section
noncomputable def LoopPost (h₀ : Heap) (L : Addr) (m : Str → Option Value) (news : List (Addr × Obj)) (cs : List Str) (s s' : Shared) : Prop :=
  ∃ (C : Nat) (cvs : List Value) (n : Nat) (h : Heap) (tk : Nat) (u : Str → Option Value), s' = { s with heap := h, toks := tk } ∧ Fr h₀ L h (fun y => if y = "common" then some (.ref C) else if y = "c" then u y else if y = "i" then u y else m y) ∧ News h₀ L h ((C, listOf cvs.toArray n) :: news) ∧ StrsAre cvs cs
theorem stmt_loop {prog : Program} {w : World} {A : Around} {st : Stmt} {env : Env} {Q : Flow → Shared → Prop} {E : Value → Shared → Prop} {s : Shared} {h₀ : Heap} {L : Addr} {m : Str → Option Value} {news : List (Addr × Obj)} (_F : Fr h₀ L s.heap m) (_N : News h₀ L s.heap news) (cs : List Str)
    (h : wpAny (model prog w) A (exec st env) (fun f s' => f = .next ∧ LoopPost h₀ L m news cs s s') E s) (k : ∀ s', LoopPost h₀ L m news cs s s' → Q .next s') : wpAny (model prog w) A (exec st env) Q E s :=
  wpAny_mono h (fun _ s' q => q.1 ▸ k s' q.2) fun _ _ e => e
theorem Fr.alike {h₀ h : Heap} {L : Addr} {m m' : Str → Option Value} (F : Fr h₀ L h m) (e : ∀ z, m z = m' z) : Fr h₀ L h m' := (funext e : m = m') ▸ F
theorem c_commonG (w : World) (news) (x y : Str) (t0 t1 : Tok) (l : Nat) (k : Nat) (hw : (l, listOf #[.str x t0, .str y t1] k) ∈ news) (hx1 : x.length ≤ 100) (hy1 : y.length ≤ 100)
   (as bs : List Str) (hpx : KAf.Pre x "/" true) (hpy : KAf.Pre y "/" true) (ha : ∀ z ∈ as, Piece z) (hb : ∀ z ∈ bs, Piece z) (hsx : Txt.split x "/" = Str.empty :: as) (hsy : Txt.split y "/" = Str.empty :: bs) (hab : as.length = bs.length) (h20 : Hold (as.length ≤ 20)) :
   Ctr PySem.Challenge.rw_qw0075_02.row.prog w (Mine.frag.heap_1 w.params) 200 2300 152 [Value.ref l] news (Same news fun v => ∃ t, v = Value.str ("/" ++ Txt.join "/" (lcpS as bs)) t) := by
  k_fill
  refine ctr_of fun cx => ?_
  revert hw hx1 hy1 hpx hpy ha hb hsx hsy hab h20
  revert w news x y t0 t1 l k as bs cx
  refine id ?_
  refine' (let rec cx : Pk11 _ := pk11 (by repeat' first | exact ne_world | exact ne_cx | exact ⟨default⟩ | refine ne_prod ?_ ?_) _; Pk11.use cx ?_)
  unfold CtrX CtrB
  generalize cx.1.2.2.2.2.2.2.2.2.2.2.p = p
  generalize cx.1.2.2.2.2.2.2.2.2.2.2.loose = loose
  generalize cx.1.2.2.2.2.2.2.2.2.2.2.mean = mean
  generalize cx.1.2.2.2.2.2.2.2.2.2.2.mg = mg
  generalize cx.1.2.2.2.2.2.2.2.2.2.2.mb = mb
  generalize cx.1.2.2.2.2.2.2.2.2.2.2.dp = dp
  generalize cx.1.2.2.2.2.2.2.2.2.2.2.un = un
  generalize cx.1.2.2.2.2.2.2.2.2.2.2.gd = gd
  generalize cx.1.2.2.2.2.2.2.2.2.2.2.cn = cn
  generalize cx.1.2.2.2.2.2.2.2.2.2.2.cs = cs
  generalize cx.1.2.2.2.2.2.2.2.2.2.2.a = a
  generalize cx.1.2.2.2.2.2.2.2.2.2.2.ccd = ccd
  generalize cx.1.2.2.2.2.2.2.2.2.2.2.cl = cl
  generalize cx.1.2.2.2.2.2.2.2.2.2.2.outer = outer
  generalize cx.1.2.2.2.2.2.2.2.2.2.2.A₀ = A₀
  generalize cx.1.2.2.2.2.2.2.2.2.2.2.base = base
  generalize cx.1.2.2.2.2.2.2.2.2.2.2.h₀ = h₀
  generalize cx.1.2.2.2.2.2.2.2.2.2.2.L = L
  generalize cx.1.2.2.2.2.2.2.2.2.2.2.m = m
  generalize cx.1.2.2.2.2.2.2.2.2.2.2.s = s
  generalize cx.1.2.2.2.2.2.2.2.2.2.2.Q = Q
  generalize cx.1.2.2.2.2.2.2.2.2.2.2.E = E
  generalize cx.1.1 = w
  generalize cx.1.2.1 = news
  generalize cx.1.2.2.1 = x
  generalize cx.1.2.2.2.1 = y
  generalize cx.1.2.2.2.2.1 = t0
  generalize cx.1.2.2.2.2.2.1 = t1
  generalize cx.1.2.2.2.2.2.2.1 = l
  generalize cx.1.2.2.2.2.2.2.2.1 = k
  generalize cx.1.2.2.2.2.2.2.2.2.1 = as
  generalize cx.1.2.2.2.2.2.2.2.2.2.1 = bs
  clear cx
  intro hw hx1 hy1 hpx hpy ha hb hsx hsy hab h20 B F X N T hk hd hu hret
  have hus : ∀ q ∈ [(l, listOf #[Value.str x t0, .str y t1] k)], q ∈ news := by
    intro q hq
    rw [List.mem_singleton.mp hq]; exact hw
  obtain ⟨rest, hdis, N0, hback⟩ := parts _ N hus
  clear N
  k_with_none
  k_with "exec Assign cons ListComp" => (k_here; (with_reducible show wpAny _ _ (exec (Stmt.Assign _ (Expr.ListComp (Expr.Call _ _ _ _) _ _ _) _) _) _ _ _); k_dflt (refine Assign_ListComp_T (by assumption) (by rfl) (by with_unfolding_all rfl) (by with_unfolding_all rfl) (by decide) (by rfl) (by decide) (by rfl) (by rfl) (by rfl) ?_))
  k_with "exec Assign cons ListComp" => (k_here; (with_reducible show wpAny _ _ (exec (Stmt.Assign _ (Expr.ListComp (Expr.ListComp _ _ _ _) _ _ _) _) _) _ _ _); k_dflt (refine LCg.Assign_ListComp_U (F₀ := by k_asm) (by rfl) (by with_unfolding_all rfl) (by with_unfolding_all rfl) (by decide) (by rfl) (by decide) (by rfl) (by rfl) (by rfl) ?_))
  k_with "eval ListComp" => (k_here; k_dflt (refine LCt.ListComp_T (F₀ := by k_asm) (by with_unfolding_all rfl) (by decide) (by rfl) (by decide) (by rfl) ?_))
  k_with "eval SetComp" => (k_here; k_dflt (refine SetComp_T (by assumption) (by with_unfolding_all rfl) (by decide) (by rfl) (by decide) (by rfl) ?_))
  k_with "CompSrc" => (refine Hold.out ?_)
  k_with "CompSrcT" => (refine Hold.out ?_)
  k_with "exec For Tuple Call cons nil" => (refine Hold.out ?_)
  k_with "call builtin:min" => (refine Hold.out ?_)
  k_with "call builtin:max" => (refine Hold.out ?_)
  k_with "exec Try" => (refine wpAny_Try_except ?_)
  k_with "call type:enumerate" => (refine Hold.out ?_)
  k_with "subscriptTail Name Name ref int" => (k_here; (with_reducible show wpAny _ _ (subscriptTail _ _ (Value.ref _) (Value.int _ _)) _ _ _); (rename News _ _ _ _ => qNz); k_dflt (refine item_at (qNz.get (by k_mem)) (by omega) (by omega) (by assumption) ?_))
  k_with "call type:map" => (
    k_dflt (
      (refine' map_new (vs := [.str x t0, .str y t1]) (k := k) ?hh ?hd ?hu ?k1 ?k2 ?hl ?_)
      case hh => exact rfl
      case hd => (simp only [recursionLimit] at hd; show dp + 1 ≤ 900; omega)
      case hu => (simp only [cLine] at hu; show un + 1 + 1 + 1 ≤ 9000; omega)
      case k1 => k_asm
      case k2 => k_asm
      case hl => k_mem
      intro M9 T9 I9 h9 F9 N9 e1 e2 e3))
  have hstr9 : ∀ v ∈ [Value.str x t0, .str y t1], ∃ x t, v = Value.str x t := by
    intro v hv
    simp only [List.mem_cons, List.not_mem_nil, or_false] at hv
    rcases hv with rfl | rfl <;> exact ⟨_, _, rfl⟩
  k_with "call type:tuple" => (
    k_dflt (first
      | ((refine' tuple_map2 w _ M9 T9 I9 l [.str x t0, .str y t1] k F9 N9 ?hl hstr9 (by simp) e1 e2 e3 ?kk ?kd ?ku ?k1 ?k3 ?k5 ?_)
         case hl => k_mem
         case kk => exact rfl
         case kd => ktr_room
         case ku => ktr_units
         case k1 => k_asm
         case k3 => k_asm
         case k5 => k_asm
         intro D8 h8 tk8 F8 N8 l8
         clear F9 N9 e1 e2 e3)
      | refine Hold.out ?_))
  k_with "CompSrcT" => refine Hold.out ?_
  refine wpAny_call ?_
  k_dflt (refine' code_defC0 ?k1 ?k2 ?k3 ?k4 ?k5 ?kd ?kA ?kF ?kK ?k6 ?k7 ?k8 ?k9 ?kB ?kD ?_ ?c2 ?c3 ?c4; (case kA => exact rfl); (case kF => exact rfl); (case kK => first | exact rfl | assumption); (case k1 => k_asm); (case k2 => k_asm); (case k3 => k_asm); (case k4 => assumption); (case k5 => k_asm); (case kd => assumption); (case k6 => k_is); (case k7 => k_is); (case k8 => k_room); (case k9 => first | exact BindsTo.of_eq rfl | exact binds_K (by k_in) rfl (by k_is) rfl rfl rfl | fail "k_enter: no rule for these arguments"); (case kB => exact rfl); (case kD => decide +kernel); (case c2 => exact rfl); (case c3 => exact rfl); (case c4 => exact rfl); k_whole; intro g' L' h' tk' cells' FG' F' N' Y' B' X' T' l1; (try k_lt l1); k_cells Y'; (try simp only [List.cons_append, List.nil_append] at N'); (try dsimp only); (try k_lift B'); (try k_fold))
  k_steps
  unfold Hold
  rename Fr _ _ _ _ => xF
  rename News _ _ _ _ => xN
  refine src_tup (by exact rfl) xF xN (by k_mem) (by exact Nat.le_of_ble_eq_true rfl) fun g => LCg.CompRest.succ ?_
  clear xF xN
  intro v I oI C oC D m₂ h tk E' hv hC hx F9 N9 off ne
  have e9 : some (Value.str x t0) = some v := hv
  obtain rfl := Option.some.inj e9
  clear hv e9
  k_with "call builtin:str.split" => (k_dflt (first | (rename Fr _ _ _ _ => qF; rename News _ _ _ _ => qN; refine split_any qF qN (by omega) ?_; intro lv7 h7 k7 va sa F7 N7 l7; rw [hsx] at sa) | refine Hold.out ?_))
  k_with "CompEnd" => refine Hold.out ?_
  k_steps
  unfold Hold
  refine compEnd_new F7 qN N7 l7 off (.tail _ (by k_mem)) (LCg.CompRest.succ ?_)
  (try clear F9); (try clear N9); clear qF qN F7 N7 hC hx off ne
  intro v I oI C oC D m₂ h tk E' hv hC hx F9 N9 off ne
  have e9 : some (Value.str y t1) = some v := hv
  obtain rfl := Option.some.inj e9
  clear hv e9
  k_with_none
  k_with "exec Assign cons ListComp" => (k_here; (with_reducible show wpAny _ _ (exec (Stmt.Assign _ (Expr.ListComp (Expr.Call _ _ _ _) _ _ _) _) _) _ _ _); k_dflt (refine Assign_ListComp_T (by assumption) (by rfl) (by with_unfolding_all rfl) (by with_unfolding_all rfl) (by decide) (by rfl) (by decide) (by rfl) (by rfl) (by rfl) ?_))
  k_with "exec Assign cons ListComp" => (k_here; (with_reducible show wpAny _ _ (exec (Stmt.Assign _ (Expr.ListComp (Expr.ListComp _ _ _ _) _ _ _) _) _) _ _ _); k_dflt (refine LCg.Assign_ListComp_U (F₀ := by k_asm) (by rfl) (by with_unfolding_all rfl) (by with_unfolding_all rfl) (by decide) (by rfl) (by decide) (by rfl) (by rfl) (by rfl) ?_))
  k_with "eval ListComp" => (k_here; k_dflt (refine LCt.ListComp_T (F₀ := by k_asm) (by with_unfolding_all rfl) (by decide) (by rfl) (by decide) (by rfl) ?_))
  k_with "eval SetComp" => (k_here; k_dflt (refine SetComp_T (by assumption) (by with_unfolding_all rfl) (by decide) (by rfl) (by decide) (by rfl) ?_))
  k_with "CompSrc" => (refine Hold.out ?_)
  k_with "CompSrcT" => (refine Hold.out ?_)
  k_with "exec For Tuple Call cons nil" => (refine Hold.out ?_)
  k_with "call builtin:min" => (refine Hold.out ?_)
  k_with "call builtin:max" => (refine Hold.out ?_)
  k_with "exec Try" => (refine wpAny_Try_except ?_)
  k_with "call type:enumerate" => (refine Hold.out ?_)
  k_with "subscriptTail Name Name ref int" => (k_here; (with_reducible show wpAny _ _ (subscriptTail _ _ (Value.ref _) (Value.int _ _)) _ _ _); (rename News _ _ _ _ => qNz); k_dflt (refine item_at (qNz.get (by k_mem)) (by omega) (by omega) (by assumption) ?_))
  k_with "call builtin:str.split" => (k_dflt (first | (rename Fr _ _ _ _ => qF; rename News _ _ _ _ => qN; refine split_any qF qN (by omega) ?_; intro lv6 h6 k6 vb sb F7 N7 l6; rw [hsy] at sb) | refine Hold.out ?_))
  k_with "CompEnd" => refine Hold.out ?_
  k_steps
  unfold Hold
  refine compEnd_new F7 qN N7 l6 off (.tail _ (by k_mem)) (LCg.CompRest.zero ?_)
  (try clear F9); (try clear N9); clear qF qN F7 N7 hC hx off ne
  intro D9 h9 tk9 F9 N9 off9
  k_with_none
  k_with "exec Assign cons ListComp" => (k_here; (with_reducible show wpAny _ _ (exec (Stmt.Assign _ (Expr.ListComp (Expr.Call _ _ _ _) _ _ _) _) _) _ _ _); k_dflt (refine Assign_ListComp_T (by assumption) (by rfl) (by with_unfolding_all rfl) (by with_unfolding_all rfl) (by decide) (by rfl) (by decide) (by rfl) (by rfl) (by rfl) ?_))
  k_with "exec Assign cons ListComp" => (k_here; (with_reducible show wpAny _ _ (exec (Stmt.Assign _ (Expr.ListComp (Expr.ListComp _ _ _ _) _ _ _) _) _) _ _ _); k_dflt (refine LCg.Assign_ListComp_U (F₀ := by k_asm) (by rfl) (by with_unfolding_all rfl) (by with_unfolding_all rfl) (by decide) (by rfl) (by decide) (by rfl) (by rfl) (by rfl) ?_))
  k_with "eval ListComp" => (k_here; k_dflt (refine LCt.ListComp_T (F₀ := by k_asm) (by with_unfolding_all rfl) (by decide) (by rfl) (by decide) (by rfl) ?_))
  k_with "eval SetComp" => (k_here; k_dflt (refine SetComp_T (by assumption) (by with_unfolding_all rfl) (by decide) (by rfl) (by decide) (by rfl) ?_))
  k_with "CompSrc" => (refine Hold.out ?_)
  k_with "CompSrcT" => (refine Hold.out ?_)
  k_with "exec For Tuple Call cons nil" => (refine Hold.out ?_)
  k_with "call builtin:min" => (refine Hold.out ?_)
  k_with "call builtin:max" => (refine Hold.out ?_)
  k_with "exec Try" => (refine wpAny_Try_except ?_)
  k_with "call type:enumerate" => (refine Hold.out ?_)
  k_with "subscriptTail Name Name ref int" => (k_here; (with_reducible show wpAny _ _ (subscriptTail _ _ (Value.ref _) (Value.int _ _)) _ _ _); (rename News _ _ _ _ => qNz); k_dflt (refine item_at (qNz.get (by k_mem)) (by omega) (by omega) (by assumption) ?_))
  k_with "CompSrcS" => refine Hold.out ?_
  k_steps
  unfold Hold
  rename Fr _ _ _ _ => xF
  rename News _ _ _ _ => xN
  refine src_set (by exact rfl) xF xN (by k_mem) (by show 0 < 2; decide) ?_ ?_
  · clear xF xN
    intro i v I oI C oC D oD m₂ h tk E' hi hC hx F9 N9 off ne
    have hv9 : ∃ z tz, v = .str z tz ∧ KAf.Pre z "/" true := by
      match i, hi with
      | 0, hi => exact ⟨x, t0, (Option.some.inj hi).symm, hpx⟩
      | 1, hi => exact ⟨y, t1, (Option.some.inj hi).symm, hpy⟩
    obtain ⟨z, tz, rfl, hz⟩ := hv9
    clear hi
    k_with_none
    k_with "exec Assign cons ListComp" => (k_here; (with_reducible show wpAny _ _ (exec (Stmt.Assign _ (Expr.ListComp (Expr.Call _ _ _ _) _ _ _) _) _) _ _ _); k_dflt (refine Assign_ListComp_T (by assumption) (by rfl) (by with_unfolding_all rfl) (by with_unfolding_all rfl) (by decide) (by rfl) (by decide) (by rfl) (by rfl) (by rfl) ?_))
    k_with "exec Assign cons ListComp" => (k_here; (with_reducible show wpAny _ _ (exec (Stmt.Assign _ (Expr.ListComp (Expr.ListComp _ _ _ _) _ _ _) _) _) _ _ _); k_dflt (refine LCg.Assign_ListComp_U (F₀ := by k_asm) (by rfl) (by with_unfolding_all rfl) (by with_unfolding_all rfl) (by decide) (by rfl) (by decide) (by rfl) (by rfl) (by rfl) ?_))
    k_with "eval ListComp" => (k_here; k_dflt (refine LCt.ListComp_T (F₀ := by k_asm) (by with_unfolding_all rfl) (by decide) (by rfl) (by decide) (by rfl) ?_))
    k_with "eval SetComp" => (k_here; k_dflt (refine SetComp_T (by assumption) (by with_unfolding_all rfl) (by decide) (by rfl) (by decide) (by rfl) ?_))
    k_with "CompSrc" => (refine Hold.out ?_)
    k_with "CompSrcT" => (refine Hold.out ?_)
    k_with "exec For Tuple Call cons nil" => (refine Hold.out ?_)
    k_with "call builtin:min" => (refine Hold.out ?_)
    k_with "call builtin:max" => (refine Hold.out ?_)
    k_with "exec Try" => (refine wpAny_Try_except ?_)
    k_with "call type:enumerate" => (refine Hold.out ?_)
    k_with "subscriptTail Name Name ref int" => (k_here; (with_reducible show wpAny _ _ (subscriptTail _ _ (Value.ref _) (Value.int _ _)) _ _ _); (rename News _ _ _ _ => qNz); k_dflt (refine item_at (qNz.get (by k_mem)) (by omega) (by omega) (by assumption) ?_))
    k_with "call builtin:str.startswith" => (refine KAf.starts_pre hz ?_)
    k_with "SetEnd" => refine Hold.out ?_
    k_steps
    unfold Hold
    rename Fr _ _ _ _ => yF
    rename News _ _ _ _ => yN
    exact SetEnd.intro yF yN
  clear xF xN
  intro D8 h8 tk8 F8 N8 off8
  k_with_none
  k_with "exec Assign cons ListComp" => (k_here; (with_reducible show wpAny _ _ (exec (Stmt.Assign _ (Expr.ListComp (Expr.Call _ _ _ _) _ _ _) _) _) _ _ _); k_dflt (refine Assign_ListComp_T (by assumption) (by rfl) (by with_unfolding_all rfl) (by with_unfolding_all rfl) (by decide) (by rfl) (by decide) (by rfl) (by rfl) (by rfl) ?_))
  k_with "exec Assign cons ListComp" => (k_here; (with_reducible show wpAny _ _ (exec (Stmt.Assign _ (Expr.ListComp (Expr.ListComp _ _ _ _) _ _ _) _) _) _ _ _); k_dflt (refine LCg.Assign_ListComp_U (F₀ := by k_asm) (by rfl) (by with_unfolding_all rfl) (by with_unfolding_all rfl) (by decide) (by rfl) (by decide) (by rfl) (by rfl) (by rfl) ?_))
  k_with "eval ListComp" => (k_here; k_dflt (refine LCt.ListComp_T (F₀ := by k_asm) (by with_unfolding_all rfl) (by decide) (by rfl) (by decide) (by rfl) ?_))
  k_with "eval SetComp" => (k_here; k_dflt (refine SetComp_T (by assumption) (by with_unfolding_all rfl) (by decide) (by rfl) (by decide) (by rfl) ?_))
  k_with "CompSrc" => (refine Hold.out ?_)
  k_with "CompSrcT" => (refine Hold.out ?_)
  k_with "exec For Tuple Call cons nil" => (refine Hold.out ?_)
  k_with "call builtin:min" => (refine Hold.out ?_)
  k_with "call builtin:max" => (refine Hold.out ?_)
  k_with "exec Try" => (refine wpAny_Try_except ?_)
  k_with "call type:enumerate" => (refine Hold.out ?_)
  k_with "subscriptTail Name Name ref int" => (k_here; (with_reducible show wpAny _ _ (subscriptTail _ _ (Value.ref _) (Value.int _ _)) _ _ _); (rename News _ _ _ _ => qNz); k_dflt (refine item_at (qNz.get (by k_mem)) (by omega) (by omega) (by assumption) ?_))
  refine unpack_T F8 N8 (by k_mem) (by exact rfl) (by rfl) (by rfl) ?_
  clear F8 N8
  intro h7 F7 N7
  refine wpAny_bind (wpAny_holding ?_)
  k_steps
  unfold Hold
  rename Fr _ _ _ _ => xF
  rename News _ _ _ _ => xN
  refine LCg.CompSrc.ledger (by exact rfl) xF xN (by k_mem) (by exact Nat.le_of_ble_eq_true rfl) fun g => LCg.CompRest.succ ?_
  clear xF xN
  intro v I oI C oC D m₂ h tk E' hv hC hx F9 N9 off ne
  have e9 : some (Value.ref lv7) = some v := hv
  obtain rfl := Option.some.inj e9
  clear hv e9
  k_with_none
  k_with "exec Assign cons ListComp" => (k_here; (with_reducible show wpAny _ _ (exec (Stmt.Assign _ (Expr.ListComp (Expr.Call _ _ _ _) _ _ _) _) _) _ _ _); k_dflt (refine Assign_ListComp_T (by assumption) (by rfl) (by with_unfolding_all rfl) (by with_unfolding_all rfl) (by decide) (by rfl) (by decide) (by rfl) (by rfl) (by rfl) ?_))
  k_with "exec Assign cons ListComp" => (k_here; (with_reducible show wpAny _ _ (exec (Stmt.Assign _ (Expr.ListComp (Expr.ListComp _ _ _ _) _ _ _) _) _) _ _ _); k_dflt (refine LCg.Assign_ListComp_U (F₀ := by k_asm) (by rfl) (by with_unfolding_all rfl) (by with_unfolding_all rfl) (by decide) (by rfl) (by decide) (by rfl) (by rfl) (by rfl) ?_))
  k_with "eval ListComp" => (k_here; k_dflt (refine LCt.ListComp_T (F₀ := by k_asm) (by with_unfolding_all rfl) (by decide) (by rfl) (by decide) (by rfl) ?_))
  k_with "eval SetComp" => (k_here; k_dflt (refine SetComp_T (by assumption) (by with_unfolding_all rfl) (by decide) (by rfl) (by decide) (by rfl) ?_))
  k_with "CompSrc" => (refine Hold.out ?_)
  k_with "CompSrcT" => (refine Hold.out ?_)
  k_with "exec For Tuple Call cons nil" => (refine Hold.out ?_)
  k_with "call builtin:min" => (refine Hold.out ?_)
  k_with "call builtin:max" => (refine Hold.out ?_)
  k_with "exec Try" => (refine wpAny_Try_except ?_)
  k_with "call type:enumerate" => (refine Hold.out ?_)
  k_with "subscriptTail Name Name ref int" => (k_here; (with_reducible show wpAny _ _ (subscriptTail _ _ (Value.ref _) (Value.int _ _)) _ _ _); (rename News _ _ _ _ => qNz); k_dflt (refine item_at (qNz.get (by k_mem)) (by omega) (by omega) (by assumption) ?_))
  k_steps
  unfold Hold
  rename Fr _ _ _ _ => xF
  rename News _ _ _ _ => xN
  refine LCt.CompSrcT.ledger (by exact rfl) xF xN (by k_mem) (by rw [List.size_toArray]; simp only [sizeLine]; have := StrsAre.length sa; unfold Hold at h20; simp only [List.length_cons] at this; omega) fun g => rest_tail va (.inr ⟨_, by k_mem, rfl, _, rfl⟩) ?_ ?_ ?_
  · clear xF xN
    intro i v I oI C oC D oD m₂ h tk E' hi hC hx F9 N9 off ne
    rcases item_gen sa ha hi with ⟨rfl, tz, rfl⟩ | ⟨hi0, z, tz, rfl, hz⟩
    · k_with "StayEnd" => refine Hold.out ?_
      k_steps
      unfold Hold
      rename Fr _ _ _ _ => yF
      rename News _ _ _ _ => yN
      exact StayEnd.intro yF yN
    · rw [decide_eq_true hi0]
      obtain ⟨z1, z2, z3⟩ := hz
      k_with_none
      k_with "exec Assign cons ListComp" => (k_here; (with_reducible show wpAny _ _ (exec (Stmt.Assign _ (Expr.ListComp (Expr.Call _ _ _ _) _ _ _) _) _) _ _ _); k_dflt (refine Assign_ListComp_T (by assumption) (by rfl) (by with_unfolding_all rfl) (by with_unfolding_all rfl) (by decide) (by rfl) (by decide) (by rfl) (by rfl) (by rfl) ?_))
      k_with "exec Assign cons ListComp" => (k_here; (with_reducible show wpAny _ _ (exec (Stmt.Assign _ (Expr.ListComp (Expr.ListComp _ _ _ _) _ _ _) _) _) _ _ _); k_dflt (refine LCg.Assign_ListComp_U (F₀ := by k_asm) (by rfl) (by with_unfolding_all rfl) (by with_unfolding_all rfl) (by decide) (by rfl) (by decide) (by rfl) (by rfl) (by rfl) ?_))
      k_with "eval ListComp" => (k_here; k_dflt (refine LCt.ListComp_T (F₀ := by k_asm) (by with_unfolding_all rfl) (by decide) (by rfl) (by decide) (by rfl) ?_))
      k_with "eval SetComp" => (k_here; k_dflt (refine SetComp_T (by assumption) (by with_unfolding_all rfl) (by decide) (by rfl) (by decide) (by rfl) ?_))
      k_with "CompSrc" => (refine Hold.out ?_)
      k_with "CompSrcT" => (refine Hold.out ?_)
      k_with "exec For Tuple Call cons nil" => (refine Hold.out ?_)
      k_with "call builtin:min" => (refine Hold.out ?_)
      k_with "call builtin:max" => (refine Hold.out ?_)
      k_with "exec Try" => (refine wpAny_Try_except ?_)
      k_with "call type:enumerate" => (refine Hold.out ?_)
      k_with "subscriptTail Name Name ref int" => (k_here; (with_reducible show wpAny _ _ (subscriptTail _ _ (Value.ref _) (Value.int _ _)) _ _ _); (rename News _ _ _ _ => qNz); k_dflt (refine item_at (qNz.get (by k_mem)) (by omega) (by omega) (by assumption) ?_))
      k_with "truthy str" => ((first | with_reducible refine tr_any z1 (Nat.le_trans z2 (by decide)) ?_ | refine Hold.out ?_); (try intro tk9))
      k_with "StayEnd" => refine Hold.out ?_
      k_steps
      unfold Hold
      rename Fr _ _ _ _ => yF
      rename News _ _ _ _ => yN
      exact StayEnd.intro yF yN
  · clear xF xN
    intro i v I oI C oC D oD m₂ h tk E' hi hC hx F9 N9 off ne
    clear hi
    k_with_none
    k_with "exec Assign cons ListComp" => (k_here; (with_reducible show wpAny _ _ (exec (Stmt.Assign _ (Expr.ListComp (Expr.Call _ _ _ _) _ _ _) _) _) _ _ _); k_dflt (refine Assign_ListComp_T (by assumption) (by rfl) (by with_unfolding_all rfl) (by with_unfolding_all rfl) (by decide) (by rfl) (by decide) (by rfl) (by rfl) (by rfl) ?_))
    k_with "exec Assign cons ListComp" => (k_here; (with_reducible show wpAny _ _ (exec (Stmt.Assign _ (Expr.ListComp (Expr.ListComp _ _ _ _) _ _ _) _) _) _ _ _); k_dflt (refine LCg.Assign_ListComp_U (F₀ := by k_asm) (by rfl) (by with_unfolding_all rfl) (by with_unfolding_all rfl) (by decide) (by rfl) (by decide) (by rfl) (by rfl) (by rfl) ?_))
    k_with "eval ListComp" => (k_here; k_dflt (refine LCt.ListComp_T (F₀ := by k_asm) (by with_unfolding_all rfl) (by decide) (by rfl) (by decide) (by rfl) ?_))
    k_with "eval SetComp" => (k_here; k_dflt (refine SetComp_T (by assumption) (by with_unfolding_all rfl) (by decide) (by rfl) (by decide) (by rfl) ?_))
    k_with "CompSrc" => (refine Hold.out ?_)
    k_with "CompSrcT" => (refine Hold.out ?_)
    k_with "exec For Tuple Call cons nil" => (refine Hold.out ?_)
    k_with "call builtin:min" => (refine Hold.out ?_)
    k_with "call builtin:max" => (refine Hold.out ?_)
    k_with "exec Try" => (refine wpAny_Try_except ?_)
    k_with "call type:enumerate" => (refine Hold.out ?_)
    k_with "subscriptTail Name Name ref int" => (k_here; (with_reducible show wpAny _ _ (subscriptTail _ _ (Value.ref _) (Value.int _ _)) _ _ _); (rename News _ _ _ _ => qNz); k_dflt (refine item_at (qNz.get (by k_mem)) (by omega) (by omega) (by assumption) ?_))
    k_with "StayEnd" => refine Hold.out ?_
    k_steps
    unfold Hold
    rename Fr _ _ _ _ => yF
    rename News _ _ _ _ => yN
    exact StayEnd.intro yF yN
  clear xF xN
  intro D5 h5 tk5 F5 N5 off5
  refine compEnd_off F5 N5 off5 off (.inr ⟨_, .tail _ (by k_mem), rfl, _, rfl⟩) (LCg.CompRest.succ ?_)
  clear hC hx off ne F5 N5 off5
  intro v I oI C oC D m₂ h tk E' hv hC hx F9 N9 off ne
  have e9 : some (Value.ref lv6) = some v := hv
  obtain rfl := Option.some.inj e9
  clear hv e9
  k_with_none
  k_with "exec Assign cons ListComp" => (k_here; (with_reducible show wpAny _ _ (exec (Stmt.Assign _ (Expr.ListComp (Expr.Call _ _ _ _) _ _ _) _) _) _ _ _); k_dflt (refine Assign_ListComp_T (by assumption) (by rfl) (by with_unfolding_all rfl) (by with_unfolding_all rfl) (by decide) (by rfl) (by decide) (by rfl) (by rfl) (by rfl) ?_))
  k_with "exec Assign cons ListComp" => (k_here; (with_reducible show wpAny _ _ (exec (Stmt.Assign _ (Expr.ListComp (Expr.ListComp _ _ _ _) _ _ _) _) _) _ _ _); k_dflt (refine LCg.Assign_ListComp_U (F₀ := by k_asm) (by rfl) (by with_unfolding_all rfl) (by with_unfolding_all rfl) (by decide) (by rfl) (by decide) (by rfl) (by rfl) (by rfl) ?_))
  k_with "eval ListComp" => (k_here; k_dflt (refine LCt.ListComp_T (F₀ := by k_asm) (by with_unfolding_all rfl) (by decide) (by rfl) (by decide) (by rfl) ?_))
  k_with "eval SetComp" => (k_here; k_dflt (refine SetComp_T (by assumption) (by with_unfolding_all rfl) (by decide) (by rfl) (by decide) (by rfl) ?_))
  k_with "CompSrc" => (refine Hold.out ?_)
  k_with "CompSrcT" => (refine Hold.out ?_)
  k_with "exec For Tuple Call cons nil" => (refine Hold.out ?_)
  k_with "call builtin:min" => (refine Hold.out ?_)
  k_with "call builtin:max" => (refine Hold.out ?_)
  k_with "exec Try" => (refine wpAny_Try_except ?_)
  k_with "call type:enumerate" => (refine Hold.out ?_)
  k_with "subscriptTail Name Name ref int" => (k_here; (with_reducible show wpAny _ _ (subscriptTail _ _ (Value.ref _) (Value.int _ _)) _ _ _); (rename News _ _ _ _ => qNz); k_dflt (refine item_at (qNz.get (by k_mem)) (by omega) (by omega) (by assumption) ?_))
  k_steps
  unfold Hold
  rename Fr _ _ _ _ => xF
  rename News _ _ _ _ => xN
  refine LCt.CompSrcT.ledger (by exact rfl) xF xN (by k_mem) (by rw [List.size_toArray]; simp only [sizeLine]; have := StrsAre.length sb; unfold Hold at h20; simp only [List.length_cons] at this; omega) fun g => rest_tail vb (.inr ⟨_, by k_mem, rfl, _, rfl⟩) ?_ ?_ ?_
  · clear xF xN
    intro i v I oI C oC D oD m₂ h tk E' hi hC hx F9 N9 off ne
    rcases item_gen sb hb hi with ⟨rfl, tz, rfl⟩ | ⟨hi0, z, tz, rfl, hz⟩
    · k_with "StayEnd" => refine Hold.out ?_
      k_steps
      unfold Hold
      rename Fr _ _ _ _ => yF
      rename News _ _ _ _ => yN
      exact StayEnd.intro yF yN
    · rw [decide_eq_true hi0]
      obtain ⟨z1, z2, z3⟩ := hz
      k_with_none
      k_with "exec Assign cons ListComp" => (k_here; (with_reducible show wpAny _ _ (exec (Stmt.Assign _ (Expr.ListComp (Expr.Call _ _ _ _) _ _ _) _) _) _ _ _); k_dflt (refine Assign_ListComp_T (by assumption) (by rfl) (by with_unfolding_all rfl) (by with_unfolding_all rfl) (by decide) (by rfl) (by decide) (by rfl) (by rfl) (by rfl) ?_))
      k_with "exec Assign cons ListComp" => (k_here; (with_reducible show wpAny _ _ (exec (Stmt.Assign _ (Expr.ListComp (Expr.ListComp _ _ _ _) _ _ _) _) _) _ _ _); k_dflt (refine LCg.Assign_ListComp_U (F₀ := by k_asm) (by rfl) (by with_unfolding_all rfl) (by with_unfolding_all rfl) (by decide) (by rfl) (by decide) (by rfl) (by rfl) (by rfl) ?_))
      k_with "eval ListComp" => (k_here; k_dflt (refine LCt.ListComp_T (F₀ := by k_asm) (by with_unfolding_all rfl) (by decide) (by rfl) (by decide) (by rfl) ?_))
      k_with "eval SetComp" => (k_here; k_dflt (refine SetComp_T (by assumption) (by with_unfolding_all rfl) (by decide) (by rfl) (by decide) (by rfl) ?_))
      k_with "CompSrc" => (refine Hold.out ?_)
      k_with "CompSrcT" => (refine Hold.out ?_)
      k_with "exec For Tuple Call cons nil" => (refine Hold.out ?_)
      k_with "call builtin:min" => (refine Hold.out ?_)
      k_with "call builtin:max" => (refine Hold.out ?_)
      k_with "exec Try" => (refine wpAny_Try_except ?_)
      k_with "call type:enumerate" => (refine Hold.out ?_)
      k_with "subscriptTail Name Name ref int" => (k_here; (with_reducible show wpAny _ _ (subscriptTail _ _ (Value.ref _) (Value.int _ _)) _ _ _); (rename News _ _ _ _ => qNz); k_dflt (refine item_at (qNz.get (by k_mem)) (by omega) (by omega) (by assumption) ?_))
      k_with "truthy str" => ((first | with_reducible refine tr_any z1 (Nat.le_trans z2 (by decide)) ?_ | refine Hold.out ?_); (try intro tk9))
      k_with "StayEnd" => refine Hold.out ?_
      k_steps
      unfold Hold
      rename Fr _ _ _ _ => yF
      rename News _ _ _ _ => yN
      exact StayEnd.intro yF yN
  · clear xF xN
    intro i v I oI C oC D oD m₂ h tk E' hi hC hx F9 N9 off ne
    clear hi
    k_with_none
    k_with "exec Assign cons ListComp" => (k_here; (with_reducible show wpAny _ _ (exec (Stmt.Assign _ (Expr.ListComp (Expr.Call _ _ _ _) _ _ _) _) _) _ _ _); k_dflt (refine Assign_ListComp_T (by assumption) (by rfl) (by with_unfolding_all rfl) (by with_unfolding_all rfl) (by decide) (by rfl) (by decide) (by rfl) (by rfl) (by rfl) ?_))
    k_with "exec Assign cons ListComp" => (k_here; (with_reducible show wpAny _ _ (exec (Stmt.Assign _ (Expr.ListComp (Expr.ListComp _ _ _ _) _ _ _) _) _) _ _ _); k_dflt (refine LCg.Assign_ListComp_U (F₀ := by k_asm) (by rfl) (by with_unfolding_all rfl) (by with_unfolding_all rfl) (by decide) (by rfl) (by decide) (by rfl) (by rfl) (by rfl) ?_))
    k_with "eval ListComp" => (k_here; k_dflt (refine LCt.ListComp_T (F₀ := by k_asm) (by with_unfolding_all rfl) (by decide) (by rfl) (by decide) (by rfl) ?_))
    k_with "eval SetComp" => (k_here; k_dflt (refine SetComp_T (by assumption) (by with_unfolding_all rfl) (by decide) (by rfl) (by decide) (by rfl) ?_))
    k_with "CompSrc" => (refine Hold.out ?_)
    k_with "CompSrcT" => (refine Hold.out ?_)
    k_with "exec For Tuple Call cons nil" => (refine Hold.out ?_)
    k_with "call builtin:min" => (refine Hold.out ?_)
    k_with "call builtin:max" => (refine Hold.out ?_)
    k_with "exec Try" => (refine wpAny_Try_except ?_)
    k_with "call type:enumerate" => (refine Hold.out ?_)
    k_with "subscriptTail Name Name ref int" => (k_here; (with_reducible show wpAny _ _ (subscriptTail _ _ (Value.ref _) (Value.int _ _)) _ _ _); (rename News _ _ _ _ => qNz); k_dflt (refine item_at (qNz.get (by k_mem)) (by omega) (by omega) (by assumption) ?_))
    k_with "StayEnd" => refine Hold.out ?_
    k_steps
    unfold Hold
    rename Fr _ _ _ _ => yF
    rename News _ _ _ _ => yN
    exact StayEnd.intro yF yN
  clear xF xN
  intro D4 h4 tk4 F4 N4 off4
  refine compEnd_off F4 N4 off4 off (.inr ⟨_, .tail _ (by k_mem), rfl, _, rfl⟩) (LCg.CompRest.zero ?_)
  clear hC hx off ne F4 N4 off4
  intro D9 h9 tk9 F9 N9 off9
  k_with_none
  k_with "exec Assign cons ListComp" => (k_here; (with_reducible show wpAny _ _ (exec (Stmt.Assign _ (Expr.ListComp (Expr.Call _ _ _ _) _ _ _) _) _) _ _ _); k_dflt (refine Assign_ListComp_T (by assumption) (by rfl) (by with_unfolding_all rfl) (by with_unfolding_all rfl) (by decide) (by rfl) (by decide) (by rfl) (by rfl) (by rfl) ?_))
  k_with "exec Assign cons ListComp" => (k_here; (with_reducible show wpAny _ _ (exec (Stmt.Assign _ (Expr.ListComp (Expr.ListComp _ _ _ _) _ _ _) _) _) _ _ _); k_dflt (refine LCg.Assign_ListComp_U (F₀ := by k_asm) (by rfl) (by with_unfolding_all rfl) (by with_unfolding_all rfl) (by decide) (by rfl) (by decide) (by rfl) (by rfl) (by rfl) ?_))
  k_with "eval ListComp" => (k_here; k_dflt (refine LCt.ListComp_T (F₀ := by k_asm) (by with_unfolding_all rfl) (by decide) (by rfl) (by decide) (by rfl) ?_))
  k_with "eval SetComp" => (k_here; k_dflt (refine SetComp_T (by assumption) (by with_unfolding_all rfl) (by decide) (by rfl) (by decide) (by rfl) ?_))
  k_with "CompSrc" => (refine Hold.out ?_)
  k_with "CompSrcT" => (refine Hold.out ?_)
  k_with "exec For Tuple Call cons nil" => (refine Hold.out ?_)
  k_with "call builtin:min" => (refine Hold.out ?_)
  k_with "call builtin:max" => (refine Hold.out ?_)
  k_with "exec Try" => (refine wpAny_Try_except ?_)
  k_with "call type:enumerate" => (refine Hold.out ?_)
  k_with "subscriptTail Name Name ref int" => (k_here; (with_reducible show wpAny _ _ (subscriptTail _ _ (Value.ref _) (Value.int _ _)) _ _ _); (rename News _ _ _ _ => qNz); k_dflt (refine item_at (qNz.get (by k_mem)) (by omega) (by omega) (by assumption) ?_))
  have sA := strs_drop sa
  have sB := strs_drop sb
  have e9 : LCg.lst ([] ++ [Value.ref D5] ++ [Value.ref D4]) = listOf #[.ref D5, .ref D4] 2 := rfl
  have e5 : LCg.lst (List.drop 1 va) = listOf (List.drop 1 va).toArray (List.drop 1 va).length := rfl
  have e4 : LCg.lst (List.drop 1 vb) = listOf (List.drop 1 vb).toArray (List.drop 1 vb).length := rfl
  rw [e5, e4, e9] at N9
  simp only [List.cons_append, List.nil_append] at N9
  clear e5 e4 e9
  generalize List.drop 1 va = ua at *
  generalize List.drop 1 vb = ub at *
  generalize ua.length = na at *
  generalize ub.length = nb at *
  obtain ⟨r1, r2, hc1, hc2, hlcp⟩ := ord_same sA sB hab
  k_steps
  unfold Hold
  rename Fr _ _ _ _ => qF
  rename News _ _ _ _ => qN
  refine min_two (if r1 = true then D4 else D5) (r := r1) rfl (by exact rfl) (qN.get (by k_mem)) (fun s' Q E old hq => lt_lists (by simp only [cLine] at hu ⊢; show un + 3 + 1 < _; omega) (old _ _ (qN.get (by k_mem))) (old _ _ (qN.get (by k_mem))) (hc1 _ _ _ _) hq) ?_
  intro h7 tk7 old7
  have F7 := Fr.kept qF old7
  have N7 := News.kept qN old7
  clear qF qN old7
  obtain ⟨X1, u1, n1, eX1, N7, s1⟩ := pick_two (r := r1) (p := D5) (q := D4) N7 (by k_mem) (by k_mem) sA sB
  rw [eX1]
  k_steps
  unfold Hold
  rename Fr _ _ _ _ => qF
  rename News _ _ _ _ => qN
  refine max_two (if r2 = true then D4 else D5) (r := r2) rfl (by exact rfl) (qN.get (by k_mem)) (fun s' Q E old hq => gt_lists (by simp only [cLine] at hu ⊢; show un + 3 + 1 < _; omega) (old _ _ (qN.get (by k_mem))) (old _ _ (qN.get (by k_mem))) (hc2 _ _ _ _) hq) ?_
  intro h6 tk6 old6
  have F6 := Fr.kept qF old6
  have N6 := News.kept qN old6
  clear qF qN old6
  obtain ⟨X2, u2, n2, eX2, N6, s2⟩ := pick_two (r := r2) (p := D5) (q := D4) N6 (by k_mem) (by k_mem) sA sB
  rw [eX2]
  k_steps
  unfold Hold
  rename Fr _ _ _ _ => qF
  rename News _ _ _ _ => qN
  have hl1 : (if r1 = true then bs else as).length = as.length := by cases r1 <;> simp [hab]
  have hl2 : (if r2 = true then bs else as).length = as.length := by cases r2 <;> simp [hab]
  have hP1 : ∀ z ∈ (if r1 = true then bs else as), Piece z := by
    cases r1
    · exact ha
    · exact hb
  have hPc : ∀ z ∈ lcpS as bs, Piece z := fun z hz => ha z (lcpS_mem _ _ z hz)
  have hlc := lcpS_len as bs
  clear hc1 hc2 eX1 eX2 sA sB sa sb
  generalize (if r1 = true then bs else as) = us1 at *
  generalize (if r2 = true then bs else as) = us2 at *
  generalize lcpS as bs = cs at *
  have lu1 := StrsAre.length s1
  have lu2 := StrsAre.length s2
  refine stmt_loop qF qN cs ?_ ?_
  · refine For_pair3F qF (by exact rfl) (by rfl) (by rfl) (by exact rfl) ?_ (by intro _; rfl)
    k_with_none
    k_with "exec Assign cons ListComp" => (k_here; (with_reducible show wpAny _ _ (exec (Stmt.Assign _ (Expr.ListComp (Expr.Call _ _ _ _) _ _ _) _) _) _ _ _); k_dflt (refine Assign_ListComp_T (by assumption) (by rfl) (by with_unfolding_all rfl) (by with_unfolding_all rfl) (by decide) (by rfl) (by decide) (by rfl) (by rfl) (by rfl) ?_))
    k_with "exec Assign cons ListComp" => (k_here; (with_reducible show wpAny _ _ (exec (Stmt.Assign _ (Expr.ListComp (Expr.ListComp _ _ _ _) _ _ _) _) _) _ _ _); k_dflt (refine LCg.Assign_ListComp_U (F₀ := by k_asm) (by rfl) (by with_unfolding_all rfl) (by with_unfolding_all rfl) (by decide) (by rfl) (by decide) (by rfl) (by rfl) (by rfl) ?_))
    k_with "eval ListComp" => (k_here; k_dflt (refine LCt.ListComp_T (F₀ := by k_asm) (by with_unfolding_all rfl) (by decide) (by rfl) (by decide) (by rfl) ?_))
    k_with "eval SetComp" => (k_here; k_dflt (refine SetComp_T (by assumption) (by with_unfolding_all rfl) (by decide) (by rfl) (by decide) (by rfl) ?_))
    k_with "CompSrc" => (refine Hold.out ?_)
    k_with "CompSrcT" => (refine Hold.out ?_)
    k_with "exec For Tuple Call cons nil" => (refine Hold.out ?_)
    k_with "call builtin:min" => (refine Hold.out ?_)
    k_with "call builtin:max" => (refine Hold.out ?_)
    k_with "exec Try" => (refine wpAny_Try_except ?_)
    k_with "call type:enumerate" => (refine Hold.out ?_)
    k_with "subscriptTail Name Name ref int" => (k_here; (with_reducible show wpAny _ _ (subscriptTail _ _ (Value.ref _) (Value.int _ _)) _ _ _); (rename News _ _ _ _ => qNz); k_dflt (refine item_at (qNz.get (by k_mem)) (by omega) (by omega) (by assumption) ?_))
    k_steps
    unfold Hold
    refine enum_led (l := X1) (vs := u1) (k := n1) (fun i => ∀ k (h1 : k < us1.length) (h2 : k < us2.length), k < i → us1[k] = us2[k]) (by exact rfl) qF qN (by k_mem) (fun k _ _ h => absurd h (Nat.not_lt_zero _)) ?_ ?_
    · clear qF qN
      intro i v t h tk own hv hPi F9 N9
      have hi : i < u1.length := (List.getElem?_eq_some_iff.mp hv).1
      obtain ⟨t1, e1⟩ := strs_at s1 i hi (by omega)
      obtain ⟨t2, e2⟩ := strs_at s2 i (by omega) (by omega)
      have hi20 : i ≤ 20 := by
        unfold Hold at h20
        omega
      have hx2 : u2[((i : Nat) : Int).toNat]? = some (.str us2[i] t2) := by
        rw [Int.toNat_natCast, List.getElem?_eq_getElem (by omega), e2]
      rw [List.getElem?_eq_getElem hi, e1] at hv
      obtain rfl := Option.some.inj hv
      clear hv
      by_cases hz : us1[i] = us2[i]
      · have hn0 : (us1[i] != us2[i]) = false := by rw [hz]; exact bne_self_eq_false _
        have hnext : ∀ k (h1 : k < us1.length) (h2 : k < us2.length), k < i + 1 → us1[k] = us2[k] := by
          intro k k1 k2 hk
          rcases Nat.lt_or_eq_of_le (Nat.le_of_lt_succ hk) with q | q
          · exact hPi k k1 k2 q
          · subst q; exact hz
        generalize us1[i] = z1 at *
        generalize us2[i] = z2 at *
        k_with_none
        k_with "exec Assign cons ListComp" => (k_here; (with_reducible show wpAny _ _ (exec (Stmt.Assign _ (Expr.ListComp (Expr.Call _ _ _ _) _ _ _) _) _) _ _ _); k_dflt (refine Assign_ListComp_T (by assumption) (by rfl) (by with_unfolding_all rfl) (by with_unfolding_all rfl) (by decide) (by rfl) (by decide) (by rfl) (by rfl) (by rfl) ?_))
        k_with "exec Assign cons ListComp" => (k_here; (with_reducible show wpAny _ _ (exec (Stmt.Assign _ (Expr.ListComp (Expr.ListComp _ _ _ _) _ _ _) _) _) _ _ _); k_dflt (refine LCg.Assign_ListComp_U (F₀ := by k_asm) (by rfl) (by with_unfolding_all rfl) (by with_unfolding_all rfl) (by decide) (by rfl) (by decide) (by rfl) (by rfl) (by rfl) ?_))
        k_with "eval ListComp" => (k_here; k_dflt (refine LCt.ListComp_T (F₀ := by k_asm) (by with_unfolding_all rfl) (by decide) (by rfl) (by decide) (by rfl) ?_))
        k_with "eval SetComp" => (k_here; k_dflt (refine SetComp_T (by assumption) (by with_unfolding_all rfl) (by decide) (by rfl) (by decide) (by rfl) ?_))
        k_with "CompSrc" => (refine Hold.out ?_)
        k_with "CompSrcT" => (refine Hold.out ?_)
        k_with "exec For Tuple Call cons nil" => (refine Hold.out ?_)
        k_with "call builtin:min" => (refine Hold.out ?_)
        k_with "call builtin:max" => (refine Hold.out ?_)
        k_with "exec Try" => (refine wpAny_Try_except ?_)
        k_with "call type:enumerate" => (refine Hold.out ?_)
        k_with "subscriptTail Name Name ref int" => (k_here; (with_reducible show wpAny _ _ (subscriptTail _ _ (Value.ref _) (Value.int _ _)) _ _ _); (rename News _ _ _ _ => qNz); k_dflt (refine item_at (qNz.get (by k_mem)) (by omega) (by omega) (by assumption) ?_))
        k_with "TurnEnd" => refine Hold.out ?_
        k_steps
        dsimp only
        unfold TurnEnd
        rename Fr _ _ _ _ => nF
        rename News _ _ _ _ => nN
        refine ⟨hnext, _, _, _, rfl, nF, nN, fun y y1 y2 => ?_⟩
        show (if y = "c" then _ else if y = "i" then _ else _) = _
        rw [if_neg y1, if_neg y2]
      · have hn0 : (us1[i] != us2[i]) = true := bne_iff_ne.mpr hz
        have htake := lcpS_take us1 us2 i (by omega) (by omega) hPi hz
        generalize us1[i] = z1 at *
        generalize us2[i] = z2 at *
        have hz9 : Hold (u1.length ≤ 30) := by
          have h21 : as.length ≤ 20 := h20
          show u1.length ≤ 30
          omega
        k_with_none
        k_with "exec Assign cons ListComp" => (k_here; (with_reducible show wpAny _ _ (exec (Stmt.Assign _ (Expr.ListComp (Expr.Call _ _ _ _) _ _ _) _) _) _ _ _); k_dflt (refine Assign_ListComp_T (by assumption) (by rfl) (by with_unfolding_all rfl) (by with_unfolding_all rfl) (by decide) (by rfl) (by decide) (by rfl) (by rfl) (by rfl) ?_))
        k_with "exec Assign cons ListComp" => (k_here; (with_reducible show wpAny _ _ (exec (Stmt.Assign _ (Expr.ListComp (Expr.ListComp _ _ _ _) _ _ _) _) _) _ _ _); k_dflt (refine LCg.Assign_ListComp_U (F₀ := by k_asm) (by rfl) (by with_unfolding_all rfl) (by with_unfolding_all rfl) (by decide) (by rfl) (by decide) (by rfl) (by rfl) (by rfl) ?_))
        k_with "eval ListComp" => (k_here; k_dflt (refine LCt.ListComp_T (F₀ := by k_asm) (by with_unfolding_all rfl) (by decide) (by rfl) (by decide) (by rfl) ?_))
        k_with "eval SetComp" => (k_here; k_dflt (refine SetComp_T (by assumption) (by with_unfolding_all rfl) (by decide) (by rfl) (by decide) (by rfl) ?_))
        k_with "CompSrc" => (refine Hold.out ?_)
        k_with "CompSrcT" => (refine Hold.out ?_)
        k_with "exec For Tuple Call cons nil" => (refine Hold.out ?_)
        k_with "call builtin:min" => (refine Hold.out ?_)
        k_with "call builtin:max" => (refine Hold.out ?_)
        k_with "exec Try" => (refine wpAny_Try_except ?_)
        k_with "call type:enumerate" => (refine Hold.out ?_)
        k_with "subscriptTail Name Name ref int" => (k_here; (with_reducible show wpAny _ _ (subscriptTail _ _ (Value.ref _) (Value.int _ _)) _ _ _); (rename News _ _ _ _ => qNz); k_dflt (refine item_at (qNz.get (by k_mem)) (by omega) (by omega) (by assumption) ?_))
        k_with "subscriptTail Name Slice ref ref" => (k_dflt (first | (rename Fr _ _ _ _ => qF; rename News _ _ _ _ => qN; refine slice_upto qF qN (n := n1) (vs := u1) (i := i) (by k_mem) hi20 hz9 ?_ (by with_unfolding_all rfl) (by intro _; with_unfolding_all rfl); intro D8 h8 F8 N8 l8) | refine Hold.out ?_))
        k_steps
        rename Fr _ _ _ _ => nF
        rename News _ _ _ _ => nN
        refine ⟨D8, u1.take i, 0, _, _, (fun y => if y = "c" then some (.str z1 t1) else some (.int i t)), rfl, Fr.alike nF fun z => ?_, News.sub nN fun q hq => ?_, ?_⟩
        · by_cases hz1 : z = "common"
          · subst hz1
            rfl
          · by_cases hz2 : z = "c"
            · subst hz2
              rfl
            · by_cases hz3 : z = "i"
              · subst hz3
                rfl
              · simp only [if_neg hz1, if_neg hz2, if_neg hz3]
        · rcases List.mem_cons.mp hq with rfl | hq
          · exact List.Mem.head _
          · exact .tail _ (List.mem_append_right _ hq)
        · rw [← hlcp, htake]
          exact strs_take s1 i
    · clear qF qN
      intro u h tk hPi F9 N9
      refine ⟨rfl, X1, u1, n1, h, tk, u, rfl, Fr.alike F9 fun z => ?_, fun q hq => N9 q ((List.mem_cons.mp hq).elim (fun e => e ▸ (by k_mem)) id), ?_⟩
      · by_cases hz : z = "common"
        · subst hz
          rfl
        · exact (if_neg hz).symm
      · have e := lcpS_all us1 us2 (by omega) fun k a b => hPi k a b (by omega)
        rw [← hlcp, e]
        exact s1
  · clear qF qN
    intro s' hpost
    obtain ⟨C, cvs, n, h, tk, u, rfl, F9, N9, sC⟩ := hpost
    dsimp only
    k_with_none
    k_with "exec Assign cons ListComp" => (k_here; (with_reducible show wpAny _ _ (exec (Stmt.Assign _ (Expr.ListComp (Expr.Call _ _ _ _) _ _ _) _) _) _ _ _); k_dflt (refine Assign_ListComp_T (by assumption) (by rfl) (by with_unfolding_all rfl) (by with_unfolding_all rfl) (by decide) (by rfl) (by decide) (by rfl) (by rfl) (by rfl) ?_))
    k_with "exec Assign cons ListComp" => (k_here; (with_reducible show wpAny _ _ (exec (Stmt.Assign _ (Expr.ListComp (Expr.ListComp _ _ _ _) _ _ _) _) _) _ _ _); k_dflt (refine LCg.Assign_ListComp_U (F₀ := by k_asm) (by rfl) (by with_unfolding_all rfl) (by with_unfolding_all rfl) (by decide) (by rfl) (by decide) (by rfl) (by rfl) (by rfl) ?_))
    k_with "eval ListComp" => (k_here; k_dflt (refine LCt.ListComp_T (F₀ := by k_asm) (by with_unfolding_all rfl) (by decide) (by rfl) (by decide) (by rfl) ?_))
    k_with "eval SetComp" => (k_here; k_dflt (refine SetComp_T (by assumption) (by with_unfolding_all rfl) (by decide) (by rfl) (by decide) (by rfl) ?_))
    k_with "CompSrc" => (refine Hold.out ?_)
    k_with "CompSrcT" => (refine Hold.out ?_)
    k_with "exec For Tuple Call cons nil" => (refine Hold.out ?_)
    k_with "call builtin:min" => (refine Hold.out ?_)
    k_with "call builtin:max" => (refine Hold.out ?_)
    k_with "exec Try" => (refine wpAny_Try_except ?_)
    k_with "call type:enumerate" => (refine Hold.out ?_)
    k_with "subscriptTail Name Name ref int" => (k_here; (with_reducible show wpAny _ _ (subscriptTail _ _ (Value.ref _) (Value.int _ _)) _ _ _); (rename News _ _ _ _ => qNz); k_dflt (refine item_at (qNz.get (by k_mem)) (by omega) (by omega) (by assumption) ?_))
    have hcl : cs.length ≤ 20 := by
      unfold Hold at h20
      omega
    have hsum : (cs.map (·.length)).sum + cs.length ≤ 1048576 := by
      have := pieces_sum cs hPc
      omega
    have hfit : (Txt.join "/" cs).length ≤ 10000 := by
      have := join_fit (x := "/") cs hPc
      omega
    have sC' : StrsAre cvs.toArray.toList cs := sC
    k_with "call builtin:str.join" => (k_dflt (first | (refine PyProof.Rows.join_listW (by is_list) sC' (by decide +kernel) hsum ?_; intro _ _) | refine Hold.out ?_))
    k_with "binaryOp Add str str" => (k_dflt (first | (refine add_any (Nat.le_of_ble_eq_true rfl) hfit ?_; intro _ _) | refine Hold.out ?_))
    k_steps
    rename (∀ n, News _ _ _ n → News _ _ _ (n ++ _)) => up
    rename Fr h₀ L _ m => nF
    rename News h₀ L _ _ => nN
    refine hret _ _ _ _ ⟨⟨_, rfl⟩, rfl⟩ nF (News.sub (hback _ _ _ (fun q hq => ?_) (up _ nN)) fun q hq => List.mem_append_right _ hq)
    rw [List.mem_singleton.mp hq]
    k_mem
end
end Mine
end SG04
section SL24
open PySem PySem.W PyProof.Rows PySem.W.X PySem.Spec PySem.Calls
namespace Mine
theorem join_line : ∀ (ws : List Wd), List.intercalate [32] (ws.map quoted) = lineOf ws
  | [] => rfl
  | [w] => by simp [List.intercalate, lineOf]
  | w :: x :: r => by
    have ih := join_line (x :: r)
    rw [lineOf_cons w (by simp), ← ih]
    simp [List.intercalate]
noncomputable section
structure LO where
  vs : List Value
  n : Nat
theorem has39 (wd : Wd) (b : Bool) (h : decide (39 ∈ wd) = b) : (!(Builtin.Str.occurrences (S wd) (Str.ofString "'") 0 (S wd).length 1).isEmpty) = b := by
  have e : Str.ofString "'" = (⟨#[39]⟩ : Str) := by decide +kernel
  rw [e, StrLaws.found_one]
  rw [← h]
theorem quoted_lt {x : Wd} (h : ∀ c ∈ x, c < 128) : ∀ c ∈ quoted x, c < 128 := by
  intro c hc
  unfold quoted markOf at hc
  have hm : (if 39 ∈ x then 34 else 39) < 128 := by split <;> decide
  generalize (if 39 ∈ x then 34 else 39) = mk at hc hm
  simp only [List.cons_append, List.mem_cons, List.mem_append, List.not_mem_nil, or_false] at hc
  rcases hc with rfl | hc | rfl
  · exact hm
  · exact h c hc
  · exact hm
theorem lineOf_lt : ∀ {ws : List Wd}, (∀ x ∈ ws, ∀ c ∈ x, c < 128) → ∀ c ∈ lineOf ws, c < 128
  | [], _, c, hc => nomatch hc
  | [w], h, c, hc => quoted_lt (h w (.head _)) c hc
  | w :: x :: r, h, c, hc => by
    rw [lineOf_cons w (by simp)] at hc
    rcases List.mem_append.mp hc with hc | hc
    · exact quoted_lt (h w (.head _)) c hc
    · rcases List.mem_cons.mp hc with rfl | hc
      · decide
      · exact lineOf_lt (fun y hy => h y (.tail _ hy)) c hc
theorem sum_four : ∀ (l : List (List Nat)), (∀ x ∈ l, x.length ≤ 4) → ((l.map S).map (·.length)).sum ≤ 4 * l.length
  | [], _ => by simp
  | x :: l, h => by
    have ih := sum_four l (fun y hy => h y (.tail _ hy))
    have := h x (.head _)
    simp only [List.map_cons, List.sum_cons, List.length_cons, S_len] at ih ⊢
    omega
theorem inter_len : ∀ (l : List (List Nat)), (∀ x ∈ l, x.length ≤ 4) → (List.intercalate [32] l).length ≤ 5 * l.length
  | [], _ => by simp [List.intercalate]
  | [x], h => by have := h x (.head _); simp [List.intercalate]; omega
  | x :: y :: l, h => by
    have ih := inter_len (y :: l) (fun z hz => h z (.tail _ hz))
    have := h x (.head _)
    have e : List.intercalate [32] (x :: y :: l) = x ++ [32] ++ List.intercalate [32] (y :: l) := by simp [List.intercalate]
    rw [e]
    simp only [List.length_append, List.length_cons, List.length_nil] at ih ⊢
    omega
section
variable {prog : Program} {w : World} {A : Around} {E : Value → Shared → Prop} {s : Shared} {Q : Value → Shared → Prop}
theorem add_a {q : Nat} {M : Str} {t u : Tok} {wd : Wd} (hM : M = S [q]) (hw : wd.length = 2) (h : ∀ t' tk, Q (.str (S (q :: wd)) t') { s with toks := tk }) : wpAny (model prog w) A (binaryOp .Add (.str M t) (.str (S wd) u)) Q E s := by
  subst hM
  refine PyProof.Rows.add_str (fun t' tk => ?_) (by rw [S_len, S_len, hw]; simp [sizeLine])
  rw [S_app]; exact h t' tk
theorem add_b {q : Nat} {M : Str} {t u : Tok} {wd : Wd} (hM : M = S [q]) (hw : wd.length = 2) (h : ∀ t' tk, Q (.str (S (q :: wd ++ [q])) t') { s with toks := tk }) : wpAny (model prog w) A (binaryOp .Add (.str (S (q :: wd)) u) (.str M t)) Q E s := by
  subst hM
  refine PyProof.Rows.add_str (fun t' tk => ?_) (by rw [S_len, S_len, List.length_cons, hw]; simp [sizeLine])
  rw [S_app]; exact h t' tk
end
theorem free_line {h₀ h' : Heap} {L I l : Nat} {own rest news' : List (Addr × Obj)} {v : Value} {vs : List Value} {n tk : Nat} {stored : List Str} {m₀ m' : Str → Option Value} {P : LO → Prop} {x : Str} {s : Shared} {Q : Flow → Shared → Prop}
    (F : Fr h₀ L h' m') (N : News h₀ L h' ((l, listOf (vs ++ [v]).toArray (n + 1)) :: news')) (hn : ∀ p ∈ rest, p ∈ news') (ho : ∀ p ∈ own, p ∈ news') (hI : ∀ o : Obj, ∀ p ∈ (l, o) :: rest, p.1 ≠ I)
    (hr : ∀ z, z ≠ x → stored.contains z = false → m' z = m₀ z) (hp : P ⟨vs ++ [v], n + 1⟩) :
    FreePost h₀ L I own (fun c : LO => (l, listOf c.vs.toArray c.n) :: rest) (fun _ => []) x stored m₀ P s Q .next { s with heap := h', toks := tk } := by
  refine free_end (⟨vs ++ [v], n + 1⟩ : LO) F N ?_ (fun q hq => .tail _ (ho q hq)) (hI _) (fun q hq => nomatch hq) (fun z z1 _ z3 => hr z z1 z3) hp
  intro q hq
  rcases List.mem_cons.mp hq with rfl | hq
  · exact .head _
  · exact .tail _ (hn q hq)
theorem c_line (w : World) (news) (lw : Nat) (vs : List Value) (ws : List Wd) (k1 : Nat)
   (hvs : Tx vs ws) (hNF : Hold (ws.length ≤ 4)) (hw2 : ∀ x ∈ ws, x.length = 2) (hb2 : ∀ x ∈ ws, ∀ c ∈ x, c < 128)
   (hw : (lw, listOf vs.toArray k1) ∈ news) :
   Ctr PySem.Challenge.rw_qw0075_02.row.prog w (Mine.frag.heap_1 w.params) 130 1100 857 [Value.ref lw] news (Same news fun v => ∃ t, v = .bytes (octs (lineOf ws)).toArray t) := by
  k_fill
  refine ctr_of fun cx => ?_
  revert k1 hvs hNF hw2 hb2 hw
  revert w news lw vs ws cx
  refine id ?_
  refine' (let rec cx : Pk6 _ := pk6 (by repeat' first | exact ne_world | exact ne_cx | exact ⟨default⟩ | refine ne_prod ?_ ?_) _; Pk6.use cx ?_)
  unfold CtrX CtrB
  generalize cx.1.2.2.2.2.2.p = p
  generalize cx.1.2.2.2.2.2.loose = loose
  generalize cx.1.2.2.2.2.2.mean = mean
  generalize cx.1.2.2.2.2.2.mg = mg
  generalize cx.1.2.2.2.2.2.mb = mb
  generalize cx.1.2.2.2.2.2.dp = dp
  generalize cx.1.2.2.2.2.2.un = un
  generalize cx.1.2.2.2.2.2.gd = gd
  generalize cx.1.2.2.2.2.2.cn = cn
  generalize cx.1.2.2.2.2.2.cs = cs
  generalize cx.1.2.2.2.2.2.a = a
  generalize cx.1.2.2.2.2.2.ccd = ccd
  generalize cx.1.2.2.2.2.2.cl = cl
  generalize cx.1.2.2.2.2.2.outer = outer
  generalize cx.1.2.2.2.2.2.A₀ = A₀
  generalize cx.1.2.2.2.2.2.base = base
  generalize cx.1.2.2.2.2.2.h₀ = h₀
  generalize cx.1.2.2.2.2.2.L = L
  generalize cx.1.2.2.2.2.2.m = m
  generalize cx.1.2.2.2.2.2.s = s
  generalize cx.1.2.2.2.2.2.Q = Q
  generalize cx.1.2.2.2.2.2.E = E
  generalize cx.1.1 = w
  generalize cx.1.2.1 = news
  generalize cx.1.2.2.1 = lw
  generalize cx.1.2.2.2.1 = vs
  generalize cx.1.2.2.2.2.1 = ws
  clear cx
  intro k1 hvs hNF hw2 hb2 hw B F X N T hk hd hu hret
  have hus : ∀ q ∈ [(lw, listOf vs.toArray k1)], q ∈ news := by
    intro q hq
    simp only [List.mem_cons, List.not_mem_nil, or_false] at hq
    rcases hq with rfl
    assumption
  obtain ⟨rest, hdis, N0, hback⟩ := parts _ N hus
  clear N
  k_with_none
  have hvl := Tx.length hvs
  k_with "pyIter ref" => (refine Hold.out ?_)
  refine wpAny_call ?_
  k_dflt (refine' code_def0 ?k1 ?k2 ?k3 ?k4 ?k5 ?kd ?kA ?kF ?kK ?k6 ?k7 ?k8 ?k9 ?kB ?_ ?c2 ?c3 ?c4 ?c5; (case kA => exact rfl); (case kF => exact rfl); (case kK => first | exact rfl | assumption); (case k1 => k_asm); (case k2 => k_asm); (case k3 => k_asm); (case k4 => assumption); (case k5 => k_asm); (case kd => assumption); (case k6 => k_is); (case k7 => k_is); (case k8 => k_room); (case k9 => first | exact BindsTo.of_eq rfl | exact binds_K (by k_in) rfl (by k_is) rfl rfl rfl | fail "k_enter: no rule for these arguments"); (case c5 => decide); (case kB => exact locs rfl); (case c2 => exact rfl); (case c3 => exact rfl); (case c4 => exact rfl); k_whole; intro g' L' h' FG' F' N' B' X' T'; (try dsimp only); (try k_lift B'); (try k_fold))
  k_steps
  unfold Hold
  rename Fr _ _ _ _ => lF
  rename News _ _ _ _ => lN
  rename (lw < _) => l1
  refine kst_listF (σ := LO) (l := lw) (vs := vs) (k := k1) (fun c => (_, listOf c.vs.toArray c.n) :: [(lw, listOf vs.toArray k1)]) (fun c => []) ["word", "mark"]
    (fun i c => Tx c.vs ((ws.take i).map quoted)) ⟨[], 0⟩ (by exact rfl) (fun c => .tail _ (.head _)) lF lN (fun q hq => nomatch hq) Tx.nil ?_ ?_
  · clear lF lN
    intro I9 c i9 v9 u9 h9 tk9 own9 hv9 hLI9 hIo9 hIown9 hP9 F9 N9
    obtain ⟨vs9, n9⟩ := c
    dsimp only at hP9 F9 N9 hLI9
    have hi9 : i9 < ws.length := by
      rw [← hvl]
      rcases Nat.lt_or_ge i9 vs.length with h | h
      · exact h
      · rw [List.getElem?_eq_none h] at hv9; cases hv9
    obtain ⟨tv9, hg9⟩ := Tx.get hvs hi9
    rw [hg9] at hv9
    cases hv9
    have hwl : (ws.getD i9 []).length = 2 := by
      have e : ws.getD i9 [] = ws[i9] := by simp [hi9]
      rw [e]; exact hw2 _ (List.getElem_mem hi9)
    have hta : (ws.take (i9 + 1)).map quoted = (ws.take i9).map quoted ++ [quoted (ws.getD i9 [])] := by
      rw [← List.map_singleton, ← List.map_append]
      congr 1
      rw [List.take_add_one, List.getElem?_eq_getElem hi9]
      simp [hi9]
    rw [hta]
    generalize ws.getD i9 [] = wd at hwl F9 N9
    k_with "FreePost" => refine Hold.out ?_
    have hall9 : ∀ q ∈ ([(lw, listOf vs.toArray k1)] ++ own9), q.1 ≠ _ := fun q hq => (List.mem_append.mp hq).elim (fun hq => by rw [List.mem_singleton.mp hq]; exact Nat.ne_of_lt l1) fun hq => (hIown9 q hq).elim (fun e => by rw [e]; exact Ne.symm (hLI9 _ (.head _))) fun e => by rw [e]; exact Nat.ne_of_lt l1
    have hsz9 : vs9.toArray.size ≤ sizeLine := by
      have e1 := Tx.length hP9
      have := hNF
      unfold Hold at this
      simp only [List.length_map, List.length_take] at e1
      simp only [List.size_toArray, sizeLine]
      omega
    k_with "call builtin:list.append" => (k_dflt (first | (refine append_K (its := vs9.toArray) (n := n9) (by k_asm) (by k_asm) (Upd.head hall9) ?_ hsz9; intro h9 F9 N9; rw [List.push_toArray] at N9) | refine Hold.out ?_))
    k_with "binaryOp Add str str" => (k_dflt (first | (with_reducible refine add_a S39.symm hwl ?_; intro _ _) | (with_reducible refine add_a S34.symm hwl ?_; intro _ _) | (with_reducible refine add_b S39.symm hwl ?_; intro _ _) | (with_reducible refine add_b S34.symm hwl ?_; intro _ _) | refine Hold.out ?_))
    cases hb : decide (39 ∈ wd)
    all_goals (
      k_with "compareOp In str str" => (k_dflt (first | with_reducible refine in_str_b (has39 wd _ hb) ?_ | refine Hold.out ?_))
      k_steps
      unfold Hold
      rename Fr _ _ _ _ => nF
      rename News _ _ _ _ => nN
      refine free_line nF nN ?hn ?ho ?hI ?hr ?hp
      case hI =>
        intro o q hq
        rcases List.mem_cons.mp hq with rfl | hq
        · have z := hLI9 _ (List.Mem.head _)
          exact z
        · exact hLI9 q (.tail _ hq)
      case hn => exact fun q hq => List.mem_append_left _ hq
      case ho => exact fun q hq => List.mem_append_right _ hq
      case hr =>
        intro z z1 z3
        have z4 : z ≠ Str.ofString "word" := fun e => by rw [e] at z3; exact absurd z3 (by decide +kernel)
        have z5 : z ≠ Str.ofString "mark" := fun e => by rw [e] at z3; exact absurd z3 (by decide +kernel)
        rw [if_neg z5]
        show (if _ then _ else if _ = true then _ else _) = _
        rw [if_neg z1, z3]
        rfl
      case hp =>
        refine Tx.app hP9 ?_
        show Tx _ [markOf wd :: wd ++ [markOf wd]]
        first
        | rw [show markOf wd = 34 from if_pos (of_decide_eq_true hb)]
        | rw [show markOf wd = 39 from if_neg (of_decide_eq_false hb)]
        exact Tx.one _ _)
  · clear lF lN
    intro c u9 h9 tk9 hP9 F9 N9
    obtain ⟨vs9, n9⟩ := c
    dsimp only at hP9 F9 N9
    rw [List.take_of_length_le (by omega)] at hP9
    have hJ : StrsAre vs9.toArray.toList ((ws.map quoted).map S) := hP9
    have hq4 : ∀ x ∈ ws.map quoted, x.length ≤ 4 := by
      intro x hx
      obtain ⟨y, hy, rfl⟩ := List.mem_map.mp hx
      unfold quoted
      simp [hw2 y hy]
    have hsum : ((((ws.map quoted).map S).map (·.length)).sum + ((ws.map quoted).map S).length ≤ 1048576) := by
      have h1 := sum_four _ hq4
      have := hNF
      unfold Hold at this
      simp only [List.length_map] at h1 ⊢
      omega
    have hlen9 : (lineOf ws).length ≤ 100 := by
      rw [← join_line]
      have := inter_len _ hq4
      have h2 := hNF
      unfold Hold at h2
      simp only [List.length_map] at this
      omega
    k_with "call builtin:str.join" => (k_dflt (first | (refine PyProof.Rows.join_listW (by is_list) hJ (by decide +kernel) hsum ?_; intro _ _; rw [← S32, join_S, join_line]) | refine Hold.out ?_))
    k_with "eval ListComp" => (k_dflt (first | (refine ListComp_W (by assumption) (by with_unfolding_all rfl) (by decide) (by rfl) (by decide) (by rfl) ?_) | refine Hold.out ?_))
    k_with "CompSrcW" => refine Hold.out ?_
    k_steps
    unfold Hold
    rename Fr _ _ _ _ => xF
    rename News _ _ _ _ => xN
    have hsz9 : (S (lineOf ws)).cps.size = (lineOf ws).length := List.size_toArray
    refine src_text (by exact rfl) xF xN (by rw [hsz9]; simp only [sizeLine]; omega) fun g => rest_W (fun i y => ∃ t, y = Value.int ((((lineOf ws).getD i 0 : Nat)) : Int) t) ?_ ?_
    · clear xF xN
      intro i v I oI C oC D m₂ ys h tk E' hi hv hC hx F9 N9 off ne
      obtain ⟨c, u, hc, rfl⟩ := hv
      k_with "CompEnd" => refine Hold.out ?_
      k_steps
      unfold Hold
      rename Fr _ _ _ _ => nF
      rename News _ _ _ _ => nN
      refine LCg.CompEnd.intro nF nN _ (fun q hq => hq) off trivial ⟨rfl, ?_⟩
      have hi2 : i < (lineOf ws).length := by rw [← hsz9]; exact hi
      have hc2 : (lineOf ws)[i]? = some c := by simpa [S] using hc
      rw [List.getElem?_eq_getElem hi2] at hc2
      have hc3 : (lineOf ws).getD i 0 = c := by
        have := Option.some.inj hc2
        simp [hi2, this]
      rw [hc3]
      exact ⟨_, rfl⟩
    · clear xF xN
      intro ys hl hr D h tk F9 N9 off
      have hints := ints_of (ns := (lineOf ws).map fun n : Nat => (n : Int)) (by rw [hl, hsz9, List.length_map]) (fun i y hy => by
        obtain ⟨t, e⟩ := hr i y hy
        refine ⟨t, e.trans ?_⟩
        congr 1
        have hi : i < (lineOf ws).length := by rw [← hsz9, ← hl]; exact (List.getElem?_eq_some_iff.mp hy).1
        simp [hi])
      have hbyte : ∀ n ∈ (lineOf ws).map fun n : Nat => (n : Int), 0 ≤ n ∧ n < 256 := by
        intro n hn
        obtain ⟨c, hc, rfl⟩ := List.mem_map.mp hn
        have := lineOf_lt hb2 c hc
        omega
      k_steps
      rename (∀ n, News _ _ _ n → News _ _ _ (n ++ _)) => up
      rename Fr h₀ L _ m => nF
      rename News h₀ L _ _ => nN
      exact hret _ _ _ _ ⟨⟨_, by rw [byteArr_octs]⟩, rfl⟩ nF (News.sub (hback _ _ _ (fun q hq => .tail _ (.tail _ hq)) (up _ nN)) fun q hq => List.mem_append_right _ hq)
end
end Mine
end SL24
section SL25
open PySem PySem.W PyProof.Rows PySem.W.X PySem.Spec PySem.Calls
namespace Mine
noncomputable section
section
variable {prog : Program} {w : World} {A : Around} {E : Value → Shared → Prop} {s : Shared} {env : Env} {h₀ : Heap} {x : Str} {body : List Stmt} {Q : Flow → Shared → Prop}
end
section
variable {prog : Program} {w : World} {A : Around} {E : Value → Shared → Prop} {s : Shared} {h₀ : Heap} {L : Addr} {m : Str → Option Value} {env : Env}
theorem ListComp_H {elt iter : Expr} {x : Str} {px : Pos} {scope : Scope} {cl : List (Str × Addr)} {pos : Pos} {Q : Value → Shared → Prop} (F₀ : Fr h₀ L s.heap m)
    (hclos : closureFor scope env = pure cl) (hcell : ∀ y ∈ scope.names, y.2 ≠ .cell) (hkind : scope.kind = .function)
    (hnames : ∀ y ∈ scope.names, y.2 = .local → scope.names.lookup y.1 = some .local) (hx : scope.names.lookup x = some .local)
    (h : wpAny (model prog w) A (eval iter env) (fun v s₁ => Hold (LCg.CompSrc prog w A h₀ L m env elt x scope cl (fun s₂ => LCg.FinE h₀ L m s₂ Q) v s₁)) E s)
    (hs : ∀ x, foldedSetIterable iter env x = pure x := by kmk_pure) :
    wpAny (model prog w) A (eval (.ListComp elt [⟨.Name x px, iter, [], 0⟩] scope pos) env) Q E s := LCg.ListComp_U F₀ hclos hcell hkind hnames hx h hs
theorem src_ints {elt : Expr} {x : Str} {scope : Scope} {cl : List (Str × Addr)} {Fin : Shared → List Value → List (Addr × Obj) → Prop} {ax : Addr} {vs : List Value} {ns : List Int} {k : Nat} {news : List (Addr × Obj)} (R : Nat → Value → Prop)
    (hh : A.handled = none) (F : Fr h₀ L s.heap m) (N : News h₀ L s.heap news) (hm : (ax, ({ cls := .type "list", data := .seq vs.toArray k } : Obj)) ∈ news) (hI : IntsAre vs ns) (hsz : vs.length ≤ sizeLine)
    (turn : ∀ i n t I oI C oC D m₂ ys h tk (E' : Value → Shared → Prop), ns[i]? = some n → LCg.NsObj oC m₂ → m₂ x = some (.int n t) → Fr h₀ L h m → News h₀ L h ((I, oI) :: (C, oC) :: (D, LCg.lst ys) :: news) → LCg.Off3 I C D news → ((@Ne Nat I C) ∧ (@Ne Nat I D) ∧ (@Ne Nat C D)) →
      wpAny (model prog w) A (eval elt (compEnvC scope cl C env)) (LCg.CompEnd h₀ L m { s with heap := h, toks := tk } I oI C oC D (LCg.lst ys) (LCg.SrcAt h₀ ax vs.toArray) (fun y news' => news' = news ∧ R i y)) E' { s with heap := h, toks := tk })
    (fin : ∀ (g : Heap) (ys : List Value), ys.length = ns.length → (∀ i y, ys[i]? = some y → R i y) → Fin { s with heap := g } ys news) :
    LCg.CompSrc prog w A h₀ L m env elt x scope cl Fin (.ref ax) s := by
  refine LCg.CompSrc.ledger hh F N hm (by rw [List.size_toArray]; exact hsz) fun g => rest_W R ?_ ?_
  · intro i v I oI C oC D m₂ ys h tk E' hi hv hC hx F9 N9 off ne
    obtain ⟨n, t, rfl, hn⟩ := IntsAre.at hI i v (by simpa using hv)
    exact turn i n t I oI C oC D m₂ ys h tk E' hn hC hx F9 N9 off ne
  · intro ys hl hr
    exact fin g ys (by rw [hl, List.size_toArray, hI.length]) hr
end
theorem fd6 {n : Int} (h0 : 0 ≤ n) (h1 : n < 18) : 0 ≤ n.fdiv (6 + ((0 : Nat) : Int)) ∧ n.fdiv (6 + ((0 : Nat) : Int)) ≤ 2 ∧ 0 ≤ n.fmod (6 + ((0 : Nat) : Int)) ∧ n.fmod (6 + ((0 : Nat) : Int)) ≤ 5 := by
  rw [Int.fdiv_eq_ediv_of_nonneg _ (by omega), Int.fmod_eq_emod_of_nonneg _ (by omega)]
  omega
noncomputable def numsOf (ns : List Int) : List Int := (ns.take (if ns.length > 3 then 4 else 3)).map (fun x => x.fmod 18) ++ [0, 7, 14].drop ((ns.take (if ns.length > 3 then 4 else 3)).length)
noncomputable def wordsOf (ns : List Int) : List Wd := (numsOf ns).map fun n => wordN n.toNat
theorem nums_lt (ns : List Int) : ∀ n ∈ numsOf ns, 0 ≤ n ∧ n < 18 := by
  intro n hn
  unfold numsOf at hn
  rcases List.mem_append.mp hn with hn | hn
  · obtain ⟨x, _, rfl⟩ := List.mem_map.mp hn
    exact ⟨Int.fmod_nonneg_of_pos _ (by decide), Int.fmod_lt_of_pos _ (by decide)⟩
  · have := List.mem_of_mem_drop hn
    simp only [List.mem_cons, List.not_mem_nil, or_false] at this
    rcases this with rfl | rfl | rfl <;> decide
theorem wordN_txt : ∀ k ∈ List.range 18, Txt.item (Str.ofString "'\" \\#\n") ((k : Int).fmod (6 + ((0 : Nat) : Int))) ++ Txt.item (Str.ofString "abc") ((k : Int).fdiv (6 + ((0 : Nat) : Int))) = S (wordN k) := by decide +kernel
theorem word_of {ns : List Int} {i : Nat} {n : Int} (h : (numsOf ns)[i]? = some n) : S ((wordsOf ns).getD i []) = Txt.item (Str.ofString "'\" \\#\n") (n.fmod (6 + ((0 : Nat) : Int))) ++ Txt.item (Str.ofString "abc") (n.fdiv (6 + ((0 : Nat) : Int))) := by
  obtain ⟨h0, h1⟩ := nums_lt ns n (List.mem_of_getElem? h)
  obtain ⟨k, rfl⟩ : ∃ k : Nat, n = (k : Int) := ⟨n.toNat, by omega⟩
  rw [wordN_txt k (List.mem_range.mpr (by omega))]
  have e : (wordsOf ns)[i]? = some (wordN k) := by unfold wordsOf; rw [List.getElem?_map, h]; rfl
  rw [List.getD_eq_getElem?_getD, e]; rfl
theorem words_are {ns : List Int} {ys : List Value} (hl : ys.length = (numsOf ns).length) (hr : ∀ i y, ys[i]? = some y → ∃ t, y = Value.str (S ((wordsOf ns).getD i [])) t) : Tx ys (wordsOf ns) := by
  have hwl : (wordsOf ns).length = (numsOf ns).length := by unfold wordsOf; simp
  refine strs_of (by rw [hl, List.length_map, hwl]) fun i y hy => ?_
  obtain ⟨t, e⟩ := hr i y hy
  have hi : i < (wordsOf ns).length := by rw [hwl, ← hl]; exact (List.getElem?_eq_some_iff.mp hy).1
  refine ⟨t, e.trans ?_⟩
  congr 1
  simp [hi]
noncomputable def CtrS (prog : Program) (w : World) (K : Frag) (d u : Nat) (f : Addr) (args : List Value) (lx : Nat) (its : Array Value) (news : List (Addr × Obj)) (R : Value → List (Addr × Obj) → Prop) : Prop :=
  ∀ (p : Program) (loose : List Str) (mean : ExcName → Option Value) (mg mb : Str → Option Value) (dp un : Nat) (gd : Option (List Code)) (cn : Str) (cs : Scope) (a : Addr) (ccd : Value) (cl : List (Str × Addr)) (outer : List Env) (A₀ : Around) (base h₀ : Heap) (L : Addr) (m : Str → Option Value) (s : Shared) (Q E : Value → Shared → Prop),
    Below A₀ base outer h₀ → Fr h₀ L s.heap m → K.In h₀ → News h₀ L s.heap news → Top p loose mean mg mb h₀ → cs.kind = .function → dp + d < recursionLimit → un + u < cLine → h₀.IsList lx its →
    (∀ v news' h' tk', R v news' → Fr h₀ L h' m → News h₀ L h' news' → Q v { s with heap := h', toks := tk' }) →
    wpAny (model prog w) (ktrTop dp un gd cn cs L a ccd cl outer) (call (.ref f) args) Q E s
theorem pick_to (vs : List Value) (x : Nat) : slicePick vs.toArray none (some (x : Int)) none = (vs.take x).toArray := by
  have e : sliceBounds none (some (x : Int)) none vs.toArray.size = (((0 : Nat) : Int), ((min x vs.length : Nat) : Int), 1) := by
    simp only [sliceBounds, Option.getD_none, List.size_toArray, show (1 : Int) > 0 by decide, if_true]
    rw [if_neg (by omega)]
    congr 2
    omega
  rw [kmk_pick_nat _ e]
  simp [List.take_eq_take_iff]
noncomputable def CtrSX (prog : Program) (w : World) (K : Frag) (d u : Nat) (f : Addr) (args : List Value) (lx : Nat) (its : Array Value) (news : List (Addr × Obj)) (R : Value → List (Addr × Obj) → Prop) (x : Cx) : Prop :=
    Below x.A₀ x.base x.outer x.h₀ → Fr x.h₀ x.L x.s.heap x.m → K.In x.h₀ → News x.h₀ x.L x.s.heap news → Top x.p x.loose x.mean x.mg x.mb x.h₀ → x.cs.kind = .function → x.dp + d < recursionLimit → x.un + u < cLine → x.h₀.IsList lx its →
    (∀ v news' h' tk', R v news' → Fr x.h₀ x.L h' x.m → News x.h₀ x.L h' news' → x.Q v { x.s with heap := h', toks := tk' }) →
    wpAny (model prog w) (ktrTop x.dp x.un x.gd x.cn x.cs x.L x.a x.ccd x.cl x.outer) (call (.ref f) args) x.Q x.E x.s
theorem ctrs_of {prog : Program} {w : World} {K : Frag} {d u : Nat} {f : Addr} {args : List Value} {lx : Nat} {its : Array Value} {news : List (Addr × Obj)} {R : Value → List (Addr × Obj) → Prop} (h : ∀ x, CtrSX prog w K d u f args lx its news R x) : CtrS prog w K d u f args lx its news R :=
  fun p loose mean mg mb dp un gd cn cs a ccd cl outer A₀ base h₀ L m s Q E => h ⟨p, loose, mean, mg, mb, dp, un, gd, cn, cs, a, ccd, cl, outer, A₀, base, h₀, L, m, s, Q, E⟩
theorem ints_take : ∀ {vs : List Value} {ns : List Int}, IntsAre vs ns → ∀ i, IntsAre (vs.take i) (ns.take i)
  | _, _, .nil, i => by simp only [List.take_nil]; exact .nil
  | _, _, .cons n t h, 0 => by simp only [List.take_zero]; exact .nil
  | _, _, .cons n t h, i + 1 => by simp only [List.take_succ_cons]; exact .cons n t (ints_take h i)
theorem pick_off (vs : List Value) (x : Nat) : slicePick vs.toArray (some (x : Int)) none none = (vs.drop x).toArray := by
  have e : sliceBounds (some (x : Int)) none none vs.toArray.size = (((min x vs.length : Nat) : Int), ((vs.length : Nat) : Int), 1) := by
    simp only [sliceBounds, Option.getD_none, List.size_toArray, show (1 : Int) > 0 by decide, if_true]
    rw [if_neg (by omega)]
    congr 1
    omega
  rw [kmk_pick_nat _ e, List.take_of_length_le (by simp)]
  congr 1
  rcases Nat.le_total x vs.length with h | h
  · rw [Nat.min_eq_left h]
  · rw [Nat.min_eq_right h, List.drop_of_length_le (Nat.le_refl _), List.drop_of_length_le h]
theorem ints_drop : ∀ {vs : List Value} {ns : List Int}, IntsAre vs ns → ∀ i, IntsAre (vs.drop i) (ns.drop i)
  | _, _, .nil, i => by simp only [List.drop_nil]; exact .nil
  | _, _, .cons n t h, 0 => .cons n t h
  | _, _, .cons n t h, i + 1 => by simp only [List.drop_succ_cons]; exact ints_drop h i
theorem ints_snoc : ∀ {vs : List Value} {ns : List Int}, IntsAre vs ns → ∀ n t, IntsAre (vs ++ [Value.int n t]) (ns ++ [n])
  | _, _, .nil, n, t => .cons n t .nil
  | _, _, .cons m u h, n, t => .cons m u (ints_snoc h n t)
noncomputable def IntPost (s : Shared) (v : Int) (r : Value) (s' : Shared) : Prop := ∃ u k, r = .int v u ∧ s' = { s with toks := k }
theorem if_join {M : Model} {A : Around} {E : Value → Shared → Prop} {s : Shared} {t : Sem Value} {Q : Value → Shared → Prop} (v : Int) (h : wpAny M A t (IntPost s v) E s) (k : ∀ u tk, Q (.int v u) { s with toks := tk }) : wpAny M A t Q E s :=
  wpAny_mono h (fun r s' q => by obtain ⟨u, tk, rfl, rfl⟩ := q; exact k u tk) fun _ _ e => e
theorem c_words (w : World) (news) (lx : Nat) (vs : List Value) (ns : List Int) (hv : IntsAre vs ns) (hn : Hold (ns.length ≤ 63)) :
   CtrS PySem.Challenge.rw_qw0075_02.row.prog w (Mine.frag.heap_1 w.params) 130 1100 852 [Value.ref lx] lx vs.toArray news (fun v n' => ∃ l ys k, v = .ref l ∧ Tx ys (wordsOf ns) ∧ n' = (l, listOf ys.toArray k) :: news) := by
  k_fill
  refine ctrs_of fun cx => ?_
  revert hv hn
  revert w news lx vs ns cx
  refine id ?_
  refine' (let rec cx : Pk6 _ := pk6 (by repeat' first | exact ne_world | exact ne_cx | exact ⟨default⟩ | refine ne_prod ?_ ?_) _; Pk6.use cx ?_)
  unfold CtrSX
  generalize cx.1.2.2.2.2.2.p = p
  generalize cx.1.2.2.2.2.2.loose = loose
  generalize cx.1.2.2.2.2.2.mean = mean
  generalize cx.1.2.2.2.2.2.mg = mg
  generalize cx.1.2.2.2.2.2.mb = mb
  generalize cx.1.2.2.2.2.2.dp = dp
  generalize cx.1.2.2.2.2.2.un = un
  generalize cx.1.2.2.2.2.2.gd = gd
  generalize cx.1.2.2.2.2.2.cn = cn
  generalize cx.1.2.2.2.2.2.cs = cs
  generalize cx.1.2.2.2.2.2.a = a
  generalize cx.1.2.2.2.2.2.ccd = ccd
  generalize cx.1.2.2.2.2.2.cl = cl
  generalize cx.1.2.2.2.2.2.outer = outer
  generalize cx.1.2.2.2.2.2.A₀ = A₀
  generalize cx.1.2.2.2.2.2.base = base
  generalize cx.1.2.2.2.2.2.h₀ = h₀
  generalize cx.1.2.2.2.2.2.L = L
  generalize cx.1.2.2.2.2.2.m = m
  generalize cx.1.2.2.2.2.2.s = s
  generalize cx.1.2.2.2.2.2.Q = Q
  generalize cx.1.2.2.2.2.2.E = E
  generalize cx.1.1 = w
  generalize cx.1.2.1 = news
  generalize cx.1.2.2.1 = lx
  generalize cx.1.2.2.2.1 = vs
  generalize cx.1.2.2.2.2.1 = ns
  clear cx
  intro hv hn B F X N T hk hd hu hs hret
  have hn' : ns.length ≤ 63 := hn
  have hvl : vs.length = ns.length := hv.length
  have hz9 : vs.toArray.size ≤ sizeLine := by simp only [List.size_toArray, sizeLine]; omega
  have hnum : numsOf ns = (ns.take (if ns.length > 3 then 4 else 3)).map (fun x => x.fmod 18) ++ [0, 7, 14].drop ((ns.take (if ns.length > 3 then 4 else 3)).length) := rfl
  k_with_none
  k_with "eval IfExp" => refine Hold.out ?_
  refine wpAny_call ?_
  k_dflt (refine' code_def0 (used := []) ?k1 ?k2 ?k3 ?k4 ?k5 ?kd ?kA ?kF ?kK ?k6 ?k7 ?k8 ?k9 ?kB ?_ ?c2 ?c3 ?c4 ?c5; (case kA => exact rfl); (case kF => exact rfl); (case kK => first | exact rfl | assumption); (case k1 => k_asm); (case k2 => k_asm); (case k3 => k_asm); (case k4 => (refine News.sub ?_ (fun q hq => hq); k_asm)); (case k5 => k_asm); (case kd => exact fun _ _ _ hu => nomatch hu); (case k6 => k_is); (case k7 => k_is); (case k8 => k_room); (case k9 => first | exact BindsTo.of_eq rfl | exact binds_K (by k_in) rfl (by k_is) rfl rfl rfl | fail "k_enter: no rule for these arguments"); (case c5 => decide); (case kB => exact locs rfl); (case c2 => exact rfl); (case c3 => exact rfl); (case c4 => exact rfl); k_whole; intro g' L' h' FG' F' N' B' X' T'; (try dsimp only); (try k_lift B'); (try k_fold))
  rename Fr h₀ L _ _ => FG9
  have hs9 := hs.at (fun o e => FG9.keep _ o e)
  clear hs
  k_steps
  unfold Hold
  generalize hsz : (if ns.length > 3 then 4 else 3) = sz at hnum
  refine if_join ((sz : Nat) : Int) ?_ ?_
  · k_with_none
    k_with "call builtin:len" => (k_dflt (rename Fr _ _ _ _ => qF; (first | refine len_made ns.length (hs9.at fun o e => qF.keep _ o e) hvl (Nat.lt_of_le_of_lt hn' (by decide)) ?_ | refine Hold.out ?_)))
    k_steps
    · subst hsz
      rw [if_pos (by omega)]
      exact ⟨_, _, rfl, rfl⟩
    · subst hsz
      rw [if_neg (by omega)]
      exact ⟨_, _, rfl, rfl⟩
  have hs4 : sz ≤ 4 := by subst hsz; split <;> decide
  intro u8 tk8
  k_with_none
  k_with "exec Assign cons ListComp" => (k_here; k_dflt (refine LCg.Assign_ListComp_U (F₀ := by k_asm) (by rfl) (by with_unfolding_all rfl) (by with_unfolding_all rfl) (by decide) (by rfl) (by decide) (by rfl) (by rfl) (by rfl) ?_))
  k_with "CompSrc" => refine Hold.out ?_
  k_with "subscriptTail Name Slice ref ref" => (k_dflt (first | (rename Fr _ _ _ _ => qF; rename News _ _ _ _ => qN; refine kmk_slice_lit (zs := vs.take sz) qF qN (hs9.at fun o e => qF.keep _ o e) .none (.int _ _) (by rw [pick_to _ sz]) ?_ (by with_unfolding_all rfl) (by intro _; with_unfolding_all rfl) hz9; intro D8 h8 F8 N8 l8)))
  k_steps
  unfold Hold
  rename Fr _ _ _ _ => xF
  rename News _ _ _ _ => xN
  have hv8 : IntsAre (vs.take sz) (ns.take sz) := ints_take hv sz
  generalize hvs8 : vs.take sz = vs8 at *
  generalize hns8 : ns.take sz = ns8 at *
  have hl8 : ns8.length ≤ 4 := by subst hns8; rw [List.length_take]; omega
  have hvl8 : vs8.length = ns8.length := hv8.length
  refine src_ints (ns := ns8) (fun i y => ∃ t, y = Value.int ((ns8.map fun x => x.fmod 18).getD i 0) t) (by exact rfl) xF xN (by k_mem) hv8 (by rw [hvl8]; simp only [sizeLine]; omega) ?_ ?_
  · clear xF xN
    intro i n t I oI C oC D m₂ ys h tk E' hi hC hx F9 N9 off ne
    k_with "CompEnd" => refine Hold.out ?_
    k_steps
    unfold Hold
    rename Fr _ _ _ _ => nF
    rename News _ _ _ _ => nN
    refine LCg.CompEnd.intro nF nN _ (fun q hq => hq) off (.inr ⟨_, by k_mem, rfl, _, rfl⟩) ⟨rfl, ?_⟩
    refine ⟨_, congrArg (fun k => Value.int k _) ?_⟩
    rw [List.getD_eq_getElem?_getD, List.getElem?_map, hi]
    rfl
  · clear xF xN
    intro g ys hl hr D9 h9 tk9 F9 N9 off9
    have hb9 : IntsAre ys (ns8.map fun x => x.fmod 18) := ints_of (by rw [hl, List.length_map]) hr
    have e9 : LCg.lst ys = listOf ys.toArray ys.length := rfl
    rw [e9] at N9
    clear e9 hr
    generalize ys.length = n9 at N9
    generalize (ns8.map fun x => x.fmod 18) = bs at hb9 hnum
    k_with_none
    k_with "call builtin:len" => (k_dflt (first | (rename News _ _ _ _ => qN; refine len_made ns8.length (News.isList qN (by k_mem)) hl (by omega) ?_) | refine Hold.out ?_))
    k_with "pyIter ref" => refine Hold.out ?_
    k_with "subscriptTail Name Slice ref ref" => refine Hold.out ?_
    k_steps
    unfold Hold
    rename Fr _ _ _ _ => qF
    rename (_ ∧ _) => l1
    refine kmk_slice_lit (zs := [Value.int 0 _, .int 7 _, .int 14 _].drop ns8.length) qF qN (News.isList qN (by k_mem)) (.int _ _) .none (congrArg Array.toList (pick_off [Value.int 0 _, .int 7 _, .int 14 _] ns8.length)) ?_ (by with_unfolding_all rfl) (by intro _; with_unfolding_all rfl) (Nat.le_of_ble_eq_true rfl)
    intro D7 h7 F7 N7 l7
    clear qF qN
    have hcs : IntsAre ([Value.int 0 _, .int 7 _, .int 14 _].drop ns8.length) ([0, 7, 14].drop ns8.length) := ints_drop (.cons _ tk9 (.cons _ (tk9 + 1) (.cons _ (tk9 + 1 + 1) .nil))) _
    have hcl3 : (List.drop ns8.length [(0 : Int), 7, 14]).length ≤ 3 := by rw [List.length_drop]; exact Nat.sub_le _ _
    generalize ([Value.int 0 _, Value.int 7 _, Value.int 14 _].drop ns8.length) = cvs at N7 hcs
    generalize (List.drop ns8.length [(0 : Int), 7, 14]) = ds at hcs hnum hcl3
    have hcl : ds.length ≤ 3 := hcl3
    have hcvl : cvs.length = ds.length := hcs.length
    k_with_none
    k_with "pyIter ref" => refine Hold.out ?_
    k_steps
    unfold Hold
    rename Fr _ _ _ _ => lF
    rename News _ _ _ _ => lN
    have hD : D9 < D7 := l7 _ (.tail _ (.head _))
    have hys : ys.length ≤ 4 := by omega
    refine kst_listF (σ := LO) (l := D7) (vs := cvs) (k := 0) (fun c => (D9, listOf c.vs.toArray c.n) :: [(D7, listOf cvs.toArray 0)]) (fun c => []) [] (fun i c => IntsAre c.vs (bs ++ ds.take i)) ⟨ys, n9⟩ (by exact rfl) (fun c => .tail _ (.head _)) lF (News.sub lN ?sub) (fun q hq => nomatch hq) (by rw [List.take_zero, List.append_nil]; exact hb9) ?_ ?_
    case sub =>
      intro q hq
      rcases List.mem_cons.mp hq with rfl | hq
      · k_mem
      · rw [List.mem_singleton.mp hq]; k_mem
    · clear lF lN l7 l8 off9
      intro I9 c i9 v9 u9 h9 tk9 own9 hv9 hLI9 hIo9 hIown9 hP9 F9 N9
      obtain ⟨vs9, k9⟩ := c
      dsimp only at hP9 F9 N9 hLI9
      obtain ⟨n5, t5, rfl, hn5⟩ := hcs.at i9 v9 hv9
      k_with "FreePost" => refine Hold.out ?_
      have hall9 : ∀ q ∈ ([(D7, listOf cvs.toArray 0)] ++ own9), q.1 ≠ D9 := fun q hq => (List.mem_append.mp hq).elim (fun hq => by rw [List.mem_singleton.mp hq]; exact Nat.ne_of_gt hD) fun hq => (hIown9 q hq).elim (fun e => by rw [e]; exact Ne.symm (hLI9 _ (.head _))) fun e => by rw [e]; exact Nat.ne_of_gt hD
      have hsz9 : vs9.toArray.size ≤ sizeLine := by
        have e1 := hP9.length
        have e2 := hb9.length
        simp only [List.length_append, List.length_take] at e1
        simp only [List.size_toArray, sizeLine]
        omega
      k_with "call builtin:list.append" => (k_dflt (first | (refine append_K (its := vs9.toArray) (n := k9) (by k_asm) (by k_asm) (Upd.head hall9) ?_ hsz9; intro h9 F9 N9; rw [List.push_toArray] at N9) | refine Hold.out ?_))
      k_steps
      unfold Hold
      rename Fr _ _ _ _ => nF
      rename News _ _ _ _ => nN
      refine free_line nF nN ?hn ?ho ?hI ?hr ?hp
      case hI =>
        intro o q hq
        rcases List.mem_cons.mp hq with rfl | hq
        · have z := hLI9 _ (List.Mem.head _)
          exact z
        · exact hLI9 q (.tail _ hq)
      case hn => exact fun q hq => List.mem_append_left _ hq
      case ho => exact fun q hq => List.mem_append_right _ hq
      case hr =>
        intro z z1 z3
        exact if_neg z1
      case hp =>
        rw [List.take_add_one, hn5, ← List.append_assoc]
        exact ints_snoc hP9 _ _
    · clear lF lN l7 l8 off9
      intro c u9 h9 tk9 hP9 F9 N9
      obtain ⟨vs9, k9⟩ := c
      dsimp only at hP9 F9 N9
      rw [List.take_of_length_le (by omega), ← hnum] at hP9
      k_with_none
      k_with "eval ListComp" => (k_here; k_dflt (refine ListComp_H (by assumption) (by with_unfolding_all rfl) (by decide) (by rfl) (by decide) (by rfl) ?_))
      k_steps
      unfold Hold
      rename Fr _ _ _ _ => xF
      rename News _ _ _ _ => xN
      refine src_ints (ns := numsOf ns) (fun i y => ∃ t, y = Value.str (S ((wordsOf ns).getD i [])) t) (by exact rfl) xF xN (by k_mem) hP9 (by rw [hP9.length, hnum, List.length_append, ← hb9.length]; simp only [sizeLine]; omega) ?_ ?_
      · clear xF xN
        intro i n t I oI C oC D m₂ ys h tk E' hi hC hx F9 N9 off ne
        have hn0 := nums_lt _ n (List.mem_of_getElem? hi)
        obtain ⟨f1, f2, f3, f4⟩ := fd6 hn0.1 hn0.2
        k_with "CompEnd" => refine Hold.out ?_
        k_steps
        unfold Hold
        rename Fr _ _ _ _ => nF
        rename News _ _ _ _ => nN
        refine LCg.CompEnd.intro nF nN _ (fun q hq => hq) off (.inr ⟨_, by k_mem, rfl, _, rfl⟩) ⟨rfl, ?_⟩
        rw [word_of hi]
        exact ⟨_, rfl⟩
      · clear xF xN
        intro g ys hl hr D h tk F9 N9 off
        k_steps
        rename (∀ n, News _ _ _ n → News _ _ _ (n ++ _)) => up
        rename Fr h₀ L _ m => nF
        rename News h₀ L _ _ => nN
        exact hret _ _ _ _ ⟨D, ys, ys.length, rfl, words_are hl hr, rfl⟩ nF (News.sub (up _ nN) fun q hq => (List.mem_cons.mp hq).elim (fun e => e ▸ .head _) fun hq => List.mem_append_right _ hq)
end
end Mine
end SL25
section SP04
open PySem PySem.W PyProof.Rows PySem.W.X
namespace Mine
noncomputable def leafOf (N n : Nat) : Str := if N = 3 then leaf3 n else leaf4 n
noncomputable abbrev aN (k : Int) : Str := Txt.mul "a" (k + 1)
noncomputable def partsOf (N n : Nat) : List Str := if N = 3 then [aN ((n : Int).fdiv 2), aN ((n : Int).fmod 2)] else [aN (((n : Int).fdiv 2).fdiv 3), aN (((n : Int).fdiv 2).fmod 3), aN ((n : Int).fmod 2)]
noncomputable def sharedOf (N n : Nat) : Str := "/" ++ Txt.join "/" (lcpS (partsOf N (n - 1)) (partsOf N n))
noncomputable def LeafOk (N n : Nat) : Prop := (leafOf N n).length ≤ 100 ∧ (Txt.startswith (leafOf N n) "/" = true ∧ ("/" : Str).length ≤ (leafOf N n).length)
theorem leaf_ok : ∀ N ∈ [3, 4], ∀ n ∈ List.range 14, LeafOk N n := by delta LeafOk; decide +kernel
theorem split_leaf : ∀ N ∈ [3, 4], ∀ n ∈ List.range 14, Txt.split (leafOf N n) "/" = Str.empty :: partsOf N n := by decide +kernel
theorem parts_ok : ∀ N ∈ [3, 4], ∀ n ∈ List.range 14, ∀ z ∈ partsOf N n, Piece z := by delta Piece; decide +kernel
theorem parts_len : ∀ N ∈ [3, 4], ∀ n ∈ List.range 14, (partsOf N n).length = N - 1 := by decide +kernel
noncomputable def upOf (x : Str) : Nat → Str
  | 0 => x
  | j + 1 => dirnameF (upOf x j)
noncomputable def UpOk (N n : Nat) : Prop := upOf (leafOf N (n - 1)) (manyOf N n - 1) = sharedOf N n ∧ (∀ j ∈ List.range (manyOf N n - 1), (upOf (leafOf N (n - 1)) j != sharedOf N n) = true) ∧ (∀ j ∈ List.range 5, (upOf (leafOf N (n - 1)) j).length < 1000) ∧ (sharedOf N n).length < 1000 ∧ 1 ≤ manyOf N n ∧ manyOf N n ≤ N
theorem up_ok : ∀ N ∈ [3, 4], ∀ n ∈ List.range 14, UpOk N n := by delta UpOk; decide +kernel
end Mine
end SP04
section SP05
open PySem PySem.W PyProof.Rows PySem.W.X
namespace Mine
theorem Ctr.grow {prog : Program} {w : World} {K : Frag} {d u d' u' : Nat} {f : Addr} {args : List Value} {news : List (Addr × Obj)} {R R' : Value → List (Addr × Obj) → Prop} (C : Ctr prog w K d u f args news R) (hd : d ≤ d') (hu : u ≤ u') (hR : ∀ v n, R v n → R' v n) : Ctr prog w K d' u' f args news R' := by
  intro p loose mean mg mb dp un gd cn cs a ccd cl outer A₀ base h₀ L m s Q E B F X N T hk h1 h2 hret
  exact C p loose mean mg mb dp un gd cn cs a ccd cl outer A₀ base h₀ L m s Q E B F X N T hk (by omega) (by omega) fun v news' h' tk' r => hret v news' h' tk' (hR _ _ r)
theorem fdNat {n : Nat} (h : n < 14) : ((n : Int).fdiv 2).fdiv 3 = ((n / 2 / 3 : Nat) : Int) ∧ ((n : Int).fdiv 2).fmod 3 = ((n / 2 % 3 : Nat) : Int) ∧ (n : Int).fmod 2 = ((n % 2 : Nat) : Int) ∧ (n : Int).fdiv 2 = ((n / 2 : Nat) : Int) := by
  refine ⟨?_, ?_, ?_, ?_⟩
  all_goals (simp only [Int.fdiv_eq_ediv_of_nonneg _ (show (0 : Int) ≤ 2 by decide), Int.fdiv_eq_ediv_of_nonneg _ (show (0 : Int) ≤ 3 by decide), Int.fmod_eq_emod_of_nonneg _ (show (0 : Int) ≤ 2 by decide), Int.fmod_eq_emod_of_nonneg _ (show (0 : Int) ≤ 3 by decide)]; omega)
theorem c_figN (w : World) (news) (N n : Nat) (hN : N = 3 ∨ N = 4) (hn : n < 14) (t0 t1 : Tok) :
   Ctr PySem.Challenge.rw_qw0075_02.row.prog w (Mine.frag.heap_1 w.params) 130 1100 864 [Value.int N t0, Value.int n t1] news (fun v n' => ∃ l fvs k, v = Value.ref l ∧ IntsAre fvs (figsOf N n) ∧ n' = (l, listOf fvs.toArray k) :: news) := by
  rcases hN with rfl | rfl
  · refine (c_fig3 w news n t0 t1 (by omega) (by omega)).grow (by decide) (by decide) ?_
    rintro v n' ⟨l, ta, tc, k, rfl, rfl⟩
    exact ⟨l, _, k, rfl, .cons _ _ (.cons _ _ .nil), rfl⟩
  · refine (c_fig4 w news n t0 t1 (by omega) (by omega)).grow (by decide) (by decide) ?_
    rintro v n' ⟨l, ta, tb, tc, k, rfl, rfl⟩
    exact ⟨l, _, k, rfl, .cons _ _ (.cons _ _ (.cons _ _ .nil)), rfl⟩
theorem c_commonN (w : World) (news) (N n : Nat) (hN : N = 3 ∨ N = 4) (hn : n < 14) (t0 t1 : Tok) (l k : Nat) (hw : (l, listOf #[.str (leafOf N (n - 1)) t0, .str (leafOf N n) t1] k) ∈ news) :
   Ctr PySem.Challenge.rw_qw0075_02.row.prog w (Mine.frag.heap_1 w.params) 200 2300 152 [Value.ref l] news (Same news fun v => ∃ t, v = Value.str (sharedOf N n) t) := by
  have m1 : n - 1 ∈ List.range 14 := List.mem_range.mpr (by omega)
  have m2 : n ∈ List.range 14 := List.mem_range.mpr hn
  have mN : N ∈ [3, 4] := by rcases hN with rfl | rfl <;> decide
  have k1 := leaf_ok N mN _ m1
  have k2 := leaf_ok N mN _ m2
  have l1 := parts_len N mN _ m1
  have l2 := parts_len N mN _ m2
  exact c_commonG w news _ _ t0 t1 l k hw k1.1 k2.1 _ _ k1.2 k2.2 (parts_ok N mN _ m1) (parts_ok N mN _ m2) (split_leaf N mN _ m1) (split_leaf N mN _ m2) (l1.trans l2.symm) (show (partsOf N (n - 1)).length ≤ 20 by rcases hN with e | e <;> rw [l1, e] <;> decide)
theorem told_arr {ws : List Wd} {n : Nat} (hl : ws.length = 3 ∨ ws.length = 4) (hn : n < 14) : toldAt ws (figsOf ws.length n) (figsOf ws.length n).length = arrAt ws.length ws n :=
  told_all (by rcases hl with e | e <;> rw [e] <;> decide) (List.mem_range.mpr hn)
theorem figs_bounds {N n : Nat} (hN : N = 3 ∨ N = 4) (hn : n < 14) : ∀ f ∈ figsOf N n, 0 ≤ f ∧ f ≤ 13 := by
  obtain ⟨e1, e2, e3, e4⟩ := fdNat hn
  rcases hN with rfl | rfl
  · intro f hf
    have hf : f ∈ [(n : Int).fdiv 2, (n : Int).fmod 2] := hf
    rw [e3, e4] at hf
    simp only [List.mem_cons, List.not_mem_nil, or_false] at hf
    omega
  · intro f hf
    have hf : f ∈ [((n : Int).fdiv 2).fdiv 3, ((n : Int).fdiv 2).fmod 3, (n : Int).fmod 2] := hf
    rw [e1, e2, e3] at hf
    simp only [List.mem_cons, List.not_mem_nil, or_false] at hf
    omega
theorem figs_len {N n : Nat} (hN : N = 3 ∨ N = 4) : (figsOf N n).length ≤ N := by
  rcases hN with rfl | rfl
  · show 2 ≤ 3; decide
  · show 3 ≤ 4; decide
theorem words_len (ns : List Int) : (wordsOf ns).length = 3 ∨ (wordsOf ns).length = 4 := by
  unfold wordsOf numsOf
  simp only [List.length_map, List.length_append, List.length_drop, List.length_take, List.length_cons, List.length_nil]
  split <;> omega
theorem words_good (ns : List Int) : ∀ x ∈ wordsOf ns, Good x := by
  intro x hx
  obtain ⟨n, hn, rfl⟩ := List.mem_map.mp hx
  have := nums_lt ns n hn
  exact wordN_good _ (List.mem_range.mpr (by omega))
theorem wordN_small : ∀ k ∈ List.range 18, ∀ c ∈ wordN k, c < 128 := by decide +kernel
theorem words_small (ns : List Int) : ∀ x ∈ wordsOf ns, ∀ c ∈ x, c < 128 := by
  intro x hx
  obtain ⟨n, hn, rfl⟩ := List.mem_map.mp hx
  have := nums_lt ns n hn
  exact wordN_small _ (List.mem_range.mpr (by omega))
theorem flip_small {a : List Wd} (h : ∀ x ∈ a, ∀ c ∈ x, c < 128) (m : Nat) : ∀ x ∈ flip m a, ∀ c ∈ x, c < 128 := by
  intro x hx
  unfold flip at hx
  rcases List.mem_append.mp hx with hx | hx
  · obtain ⟨y, hy, rfl⟩ := List.mem_map.mp hx
    intro c hc
    exact h y (List.mem_of_mem_take (List.mem_reverse.mp hy)) c (List.mem_reverse.mp hc)
  · exact h x (List.mem_of_mem_drop hx)
theorem arrAt_small {N : Nat} {ws : List Wd} (h : ∀ x ∈ ws, ∀ c ∈ x, c < 128) : ∀ n, ∀ x ∈ arrAt N ws n, ∀ c ∈ x, c < 128
  | 0 => h
  | n + 1 => flip_small (arrAt_small h n) _
theorem quoted_small {w : Wd} (h : ∀ c ∈ w, c < 128) : ∀ c ∈ quoted w, c < 128 := by
  intro c hc
  unfold quoted at hc
  have hm : markOf w < 128 := by unfold markOf; split <;> decide
  simp only [List.cons_append, List.mem_cons, List.mem_append, List.not_mem_nil, or_false] at hc
  rcases hc with rfl | hc | rfl
  · exact hm
  · exact h c hc
  · exact hm
theorem lineOf_small : ∀ {a : List Wd}, (∀ x ∈ a, ∀ c ∈ x, c < 128) → ∀ c ∈ lineOf a, c < 128
  | [], _ => fun c hc => nomatch hc
  | [w], h => fun c hc => quoted_small (h w (by simp)) c hc
  | w :: x :: r, h => by
    intro c hc
    rw [lineOf_cons w (by simp)] at hc
    rcases List.mem_append.mp hc with hc | hc
    · exact quoted_small (h w (by simp)) c hc
    · rcases List.mem_cons.mp hc with rfl | hc
      · decide
      · exact lineOf_small (fun y hy => h y (by simp [hy])) c hc
theorem many_le {N : Nat} (hN : N = 3 ∨ N = 4) (n : Nat) : 1 ≤ manyOf N n ∧ manyOf N n ≤ N := by
  unfold manyOf
  rcases hN with rfl | rfl <;> (repeat' split) <;> omega
end Mine
end SP05
section SC02
open PySem PySem.W PyProof.Rows PySem.Calls
namespace Mine
noncomputable section
section
variable {M : Model} {A : Around} {E : Value → Shared → Prop} {s : Shared} {K : Frag} {env : Env}
theorem wpC_keep {α : Type} {vs : List Value} {m : Sem α} {Q : α → Shared → Prop} (h : wpC M A m Q E s) : wpC M A (m.keep vs) Q E s := fun Γ p hΓ hc => by rw [Sem.wp_keep]; exact h Γ p hΓ hc
theorem callWith_C {pos : Pos} {f : Value} {e : Expr} {rest : List Expr} {Q : Value → Shared → Prop} (hk : keepIn K f = true)
    (h : wpAny M A (spliced (backTo pos (starEach (e :: rest) env))) (fun vs s₁ => K.In s₁.heap ∧ wpC M A (call f vs) Q E s₁) E s)
    (he : starEach (e :: rest) env = (false, eval e env) :: starEach rest env := by rfl) (hplain : (backTo pos (starEach rest env)).any (·.1) = false := by rfl) :
    wpC M A (callWith pos f [] (backTo pos (starEach (e :: rest) env)) []) Q E s := by
  rw [he] at h ⊢
  have hp : ((backTo pos ((false, eval e env) :: starEach rest env)).any (·.1) || ([] : List (Option Str × Sem Value)).any (·.1.isNone)) = false := by
    show ((false || (backTo pos (starEach rest env)).any (·.1)) || false) = false
    rw [hplain]; rfl
  have h' : wpAny M A (evalArgs f true (backTo pos ((false, eval e env) :: starEach rest env)) []) (fun a s₁ => K.In s₁.heap ∧ wpC M A (call f a.pos a.kw) Q E s₁) E s := evalArgs_plain h
  unfold callWith
  refine wpC_bind (wpC_holding (wpC_mono (wpC_of h') (fun a s₁ h₁ => wpC_bind (wpC_standAt ?_)) fun _ _ x => x))
  obtain ⟨k, hk', L⟩ := keeps_K (M := M) hk _ h₁.1
  simp only [hp]
  refine wpC_bind (wpC_of (L.here ?_))
  have tail : ∀ {t : Sem Value}, wpC M A t Q E s₁ → wpC M A (t >>= fun r => holding [r] point >>= fun _ => pure r) Q E s₁ :=
    fun ht => wpC_bind (wpC_mono ht (fun r s₂ hr => wpC_of (wpAny_bind (wpAny_holding (wpAny_point (wpAny_pure hr))))) fun _ _ x => x)
  have marked (mk : Value) : wpC M A (callMarked mk f ([] ++ a.pos) a.kw) Q E s₁ := by unfold callMarked; exact wpC_keep h₁.2
  rcases hk' with rfl | rfl | rfl <;> dsimp only <;> first | exact tail h₁.2 | (split <;> first | exact tail h₁.2 | exact tail (marked _))
end
section
variable {prog : Program} {w : World} {A A₀ : Around} {s : Shared} {R : Result → Shared → Prop} {E : Value → Shared → Prop}
theorem codeC_func {body : List Stmt} {env : Env}
    (h : wpC (model prog w) (A.deeper env) (execs body env) (fun f s' => R (.ok (.ret (match f with | .ret v => v | _ => .none))) s') (fun _ _ => False) s) : codeC (model prog w) A (.func body env) R s := by
  refine codeC_tree ?_
  show wpC _ (A.deeper env) (do point; match ← (execs body env).onRaise (leaving env) with | .ret v => ret v | _ => ret .none) _ _ s
  refine wpC_bind (wpC_of (wpAny_point ?_))
  refine wpC_bind (wpC_onRaise (wpC_mono h (fun f s' h' => ?_) fun _ _ x => x))
  cases f <;> exact wpC_pure h'
theorem codeC_call_def {a : Addr} {o : Obj} {fd : FuncData} {body : List Stmt} {args : Args} {binds : List (Str × Value)}
    (hroom : A.depth < recursionLimit) (ho : s.heap.get? a = some o) (hdata : o.data = .func fd) (hlim : s.heap.NoLimit) (hcd : s.heap.CodeRec fd.code fd.qualname)
    (hbody : fd.body = .stmts body) (hbind : BindsTo s fd args binds)
    (hcell : ∀ x ∈ fd.scope.names, x.2 ≠ .cell) (hloc : ∀ x ∈ binds, fd.scope.names.lookup x.1 = some .local)
    (h : ∀ h₀, h₀.Ns s.heap.objs.size (fun x => binds.reverse.lookup x) → (∀ b o, s.heap.get? b = some o → h₀.get? b = some o) →
      wpC (model prog w) (A.deeper (callEnv fd s.heap.objs.size a)) (execs body (callEnv fd s.heap.objs.size a)) (fun f s' => R (.ok (.ret (match f with | .ret v => v | _ => .none))) s') (fun _ _ => False)
        { s with heap := h₀, toks := s.toks + binds.length })
    (hco : fd.scope.isCoroutine = false := by rfl) (hgen : fd.scope.isGenerator = false := by rfl) (hk : fd.scope.kind = .function := by rfl) :
    codeC (model prog w) A (.call (.ref a) args) R s := by
  revert hroom ho hdata hlim hcd hbody hbind hcell hloc h hco hgen hk
  revert prog w A s R a o fd body args binds
  change ∀ prog w A s R a o fd body args binds, _
  refine' (let rec cy0 : Pk11 _ := pk11 (by repeat' first | exact ne_world | exact ne_cx | exact ne_shared | exact ne_around | exact ⟨default⟩ | exact ⟨.sp⟩ | exact ⟨PySem.Challenge.rw_qw0075_02.row.toRowW.claim⟩ | refine ne_prod ?_ ?_) _; Pk11.use cy0 ?_)
  generalize cy0.1.1 = prog
  generalize cy0.1.2.1 = w
  generalize cy0.1.2.2.1 = A
  generalize cy0.1.2.2.2.1 = s
  generalize cy0.1.2.2.2.2.1 = R
  generalize cy0.1.2.2.2.2.2.1 = a
  generalize cy0.1.2.2.2.2.2.2.1 = o
  generalize cy0.1.2.2.2.2.2.2.2.1 = fd
  generalize cy0.1.2.2.2.2.2.2.2.2.1 = body
  generalize cy0.1.2.2.2.2.2.2.2.2.2.1 = args
  generalize cy0.1.2.2.2.2.2.2.2.2.2.2 = binds
  clear cy0
  intro hroom ho hdata hlim hcd hbody hbind hcell hloc h hco hgen hk
  refine codeC_tree (wpC_of ?_)
  show wpAny _ A.in1 (callAny (.ref a) args) _ _ s
  simp only [callAny]
  refine wpAny_bind (wpAny_load ho ?_)
  obtain ⟨c, oc, vs, tq, hc, hoc, hdc, hq⟩ := hcd
  simp only [hdata, callFunction, hco, hgen, hbody, hc]
  refine wpAny_bind (m := field (.ref c) 1) (wpAny_field hoc hdc hq (wpAny_bind (wpAny_pure ?_)))
  refine wpAny_bind (hbind _ _ _ _ ?_)
  refine wpAny_bind (wpAny_newFunctionEnv hcell hloc (fun h₀ hns₀ hsb₀ => ?_) hk)
  refine wpAny_bind (wpAny_enterFrame (hlim.fresh _ hsb₀) hroom (wpAny_pure ⟨rfl, rfl, codeC_func ?_⟩))
  have := h h₀ hns₀ fun b o e => hsb₀.extBut b o (Nat.ne_of_lt (Heap.lt_size e)) (Heap.get?_push_of_some _ e)
  rw [← hc]
  exact this
end
end
end Mine
end SC02
section SC03
open PySem PySem.W PyProof.Rows PySem.Calls PySem.W.X
namespace Mine
section
variable {prog : Program} {w : World} {A : Around} {s : Shared} {E : Value → Shared → Prop} {env : Env} {h₀ : Heap} {x : Str} {body : List Stmt} {Q : Flow → Shared → Prop}
theorem codeC_block_nil {R : Result → Shared → Prop} (h : R (.ok .next) s) : codeC (model prog w) A (.block [] env) R s :=
  codeC_of (codeAny_block (fun _ _ _ => h))

theorem for_range_C {σ : Type} {px pos : Pos} {iter : Expr} {n : Nat} (m₀ : Str → Option Value) (news : List (Addr × Obj)) (ps : σ → List (Str × Value)) (stored : List Str) (P : Nat → σ → Prop) (c₀ : σ)
    (hx : env.kindOf x = some .local) (hp : (env.scope.kind == .class || (env.scope.kind == .module && env.locals != env.globals)) = false) (hh : A.handled = none)
    (h : wpAny (model prog w) A (eval iter env) (fun v s₁ => ∃ r b t₀ u₀ v₀ hh tk, v = .ref r ∧ s₁ = { s with heap := hh, toks := tk } ∧ IsRange hh r 0 b 1 t₀ u₀ v₀ ∧ Builtin.Range.small 0 b 1 = true ∧ Builtin.Range.rangeSize 0 b 1 = (n : Int) ∧
        Fr h₀ env.locals hh m₀ ∧ News h₀ env.locals hh news) E s)
    (hk : ∀ p ∈ ps c₀, m₀ p.1 = some p.2) (hp0 : P 0 c₀)
    (turn : ∀ (I : Nat) (o : Obj) (c : σ) (i : Nat) t (u : Str → Option Value) h tk, i < n → (∀ p ∈ news, @Ne Nat p.1 I) → P i c →
      Fr h₀ env.locals h (fun y => if y = x then some (.int (i : Int) t) else kstB (fun z => if stored.contains z then u z else m₀ z) (ps c) y) → News h₀ env.locals h ((I, o) :: news) →
      wpC (model prog w) A (execs body env) (fun f s₂ => match f with
        | .next => FreeEnd h₀ env.locals I [(I, o)] (fun _ => news) ps x stored m₀ (P (i + 1)) { s with heap := h, toks := tk } s₂
        | .ret v => Q (.ret v) s₂
        | _ => False) (fun _ _ => False) { s with heap := h, toks := tk })
    (done : ∀ (c : σ) (u : Str → Option Value) h tk, P n c → Fr h₀ env.locals h (fun y => if y = x then u y else kstB (fun z => if stored.contains z then u z else m₀ z) (ps c) y) → News h₀ env.locals h news → Q .next { s with heap := h, toks := tk })
    (hs : ∀ v, foldedSetIterable iter env v = pure v := by kmk_pure) : wpC (model prog w) A (exec (.For (.Name x px) iter body [] pos) env) Q E s := by
  rw [exec_For]
  refine wpC_bind (wpC_standAt (wpC_bind (wpC_mono (wpC_of h) (fun v s₁ h₁ => ?_) fun _ _ y => y)))
  obtain ⟨r, b, t₀, u₀, v₀, hh₁, tk₁, rfl, rfl, hr, hsm, hn, F, N⟩ := h₁
  refine wpC_bind (wpC_of (wpAny_of_eq (hs _) ?_))
  refine wpC_bind (wpC_standAt (wpC_bind (wpC_holding (wpC_of (wpAny_pyIter_range hr hsm ?_)))))
  have W : Walks prog w A hh₁.objs.size [hh₁.objs.size] [hh₁.objs.size] n (fun i v => ∃ t, v = .int (0 + i * 1) t) (fun i h => IsRangeIter h hh₁.objs.size (0 + (i : Nat) * 1) ((n : Int) - (i : Nat)) 1) := Walks.range hh _ 0 1 n
  have hnone : h₀.get? hh₁.objs.size = none := next_is_new F
  have hLI : env.locals ≠ hh₁.objs.size := Nat.ne_of_lt F.ns.lt
  have hnI : ∀ p ∈ news, @Ne Nat p.1 hh₁.objs.size := fun p hp => Nat.ne_of_lt (Heap.lt_size (N p hp).1)
  refine wpC_onRaise (wpC_run rfl ?_)
  refine codeC_loop rfl rfl (fun k s' => ∃ h' tk m' c i, s' = { s with heap := h', toks := tk } ∧ IsRangeIter h' hh₁.objs.size (0 + (i : Nat) * 1) ((n : Int) - (i : Nat)) 1 ∧ Fr h₀ env.locals h' m' ∧ News h₀ env.locals h' news ∧
      (∀ p ∈ ps c, m' p.1 = some p.2) ∧ (∀ z, z ≠ x → (∀ p ∈ ps c, z ≠ p.1) → stored.contains z = false → m' z = m₀ z) ∧ P i c ∧ i ≤ n ∧ k = n + 1 - i) ?_ (n + 1)
    ⟨_, _, m₀, c₀, 0, rfl, (by rw [hn]; simpa using Heap.get?_push_size _ rfl), F.push _, (fun p hp => ⟨Heap.get?_push_of_some _ (N p hp).1, (N p hp).2⟩), hk, fun _ _ _ _ => rfl, hp0, Nat.zero_le _, rfl⟩
  rintro k s' ⟨h', tk', m', c, i, rfl, hst, F', N', h1, h2, hP, hi, rfl⟩
  refine (show wpC (model prog w) A ((forTurn (.Name x px) (.ref hh₁.objs.size) body [] env).onRaise (fun x => do noteFrame x env; theTreesLotGoes x)) _ _ _ from ?_)
  refine wpC_onRaise ?_
  simp only [forTurn]
  refine wpC_bind (wpC_standAt ?_)
  have keepF : ∀ h₁ : Heap, (∀ b o, b ∉ [hh₁.objs.size] → h'.get? b = some o → h₁.get? b = some o) → Fr h₀ env.locals h₁ m' ∧ News h₀ env.locals h₁ news := fun h₁ hk₁ =>
    ⟨⟨F'.ns.at' fun o e => hk₁ _ o (by simpa using hLI) e, fun b o e => hk₁ b o (fun hb => by rw [List.mem_singleton.mp hb, hnone] at e; cases e) (F'.keep b o e), F'.above⟩,
      fun p hp => ⟨hk₁ _ _ (by simpa using hnI p hp) (N' p hp).1, (N' p hp).2⟩⟩
  by_cases hlt : i < n
  · refine wpC_bind (wpC_onRaise (wpC_of (W.item i { s with heap := h', toks := tk' } _ _ hlt hst fun v h₁ tk₁ hv hst₁ hk₁ => ?_)))
    obtain ⟨t, rfl⟩ := hv
    obtain ⟨F₁, N₁⟩ := keepF h₁ hk₁
    refine wpC_bind (wpC_of (wpAny_of_eq (show letOwnedTupleGo (.Name x px) _ _ = pure () from rfl) ?_))
    refine wpC_bind (wpC_of (wpAny_assign_Name (wpAny_storeName_local hx F₁.ns (fun h₂ hn₂ hs₂ => ?_) hp)))
    have F₂ := F₁.set hn₂ hs₂
    have N₂ := N₁.set hs₂
    have hst₂ := W.frame _ _ h₂ hst₁ fun b hb o e => (hs₂.2 b fun q => hLI (q.symm.trans (List.mem_singleton.mp hb))).trans e
    have e1 : (0 : Int) + (i : Int) * 1 = (i : Int) := by omega
    rw [e1] at F₂
    have Nown : News h₀ env.locals h₂ ((hh₁.objs.size, _) :: news) := fun p hp => (List.mem_cons.mp hp).elim (fun e => e ▸ ⟨hst₂, fun e => hLI e.symm, hnone⟩) (N₂ p)
    refine wpC_bind (wpC_mono (turn hh₁.objs.size _ c i t m' h₂ _ hlt hnI hP (kst_fr h1 h2 F₂) Nown) (fun f s₃ h₃ => ?_) fun _ _ y => y.elim)
    cases f with
    | next =>
      obtain ⟨c', h₃', tk₃, m₃, news₃, rfl, F₃, N₃, hn₃, ho₃, _, hk₃, hr₃, hP₃⟩ := h₃
      refine wpC_pure (.inl ⟨rfl, n + 1 - (i + 1), by omega, h₃', tk₃, m₃, c', i + 1, rfl, ?_, F₃, fun p hp => N₃ p (hn₃ p hp), hk₃, hr₃, hP₃, hlt, rfl⟩)
      exact (N₃ _ (ho₃ _ (.head _))).1
    | brk => exact h₃.elim
    | cont => exact h₃.elim
    | ret v => exact wpC_pure h₃
  · obtain rfl : i = n := Nat.le_antisymm hi (Nat.not_lt.mp hlt)
    refine wpC_bind (wpC_onRaise (wpC_of (W.done { s with heap := h', toks := tk' } _ _ hst fun h₁ tk₁ hk₁ => ?_)))
    obtain ⟨F₁, N₁⟩ := keepF h₁ hk₁
    exact wpC_pure (.inr ⟨rfl, rfl, codeC_block_nil (done c m' h₁ tk₁ hP (kst_frOut h1 h2 F₁) N₁)⟩)
end
end Mine
end SC03
section SC04
open PySem PySem.W PyProof.Rows PySem.Calls PySem.W.X
namespace Mine
noncomputable section
namespace BA
theorem mro : mroOf (.type "bytearray") = pure [.type "bytearray", .type "object"] := by rw [mroOf_type]; kernel_rfl
theorem lookup_new : typeLookup (.type "bytearray") "__new__" = pure (some (.builtin "bytearray.__new__")) := by rw [typeLookup_type, builtinLookup_eq_fast]; kernel_rfl
theorem slot_init : Slot "bytearray" "__init__" "bytearray.__init__" :=
  .of (owner := "bytearray") (n := "__init__") (by rw [typeLookup_type, builtinLookup_eq_fast]; kernel_rfl) (by decide +kernel) (by decide +kernel) (by decide +kernel)
    (by first | exact .inl (by decide +kernel) | exact .inr (by decide +kernel)) (by rw [isSubtype_type]; kernel_rfl)
theorem called : TypeCalled "bytearray" "bytearray.__new__" "bytearray.__init__" :=
  ⟨by decide +kernel, by decide +kernel, ⟨_, _, mro⟩, madeBy_type mro lookup_new (by decide +kernel), by decide +kernel, by rw [isSubtype_type]; kernel_rfl, slot_init⟩
theorem check (a : Value) : checkTypeCall "bytearray" ⟨[a], []⟩ = pure () := by kernel_rfl
theorem argsInit (a b : Value) : argsOk "bytearray.__init__" ⟨[a, b], []⟩ := by unfold argsOk; kernel_rfl
theorem entry_init : entryFor table "bytearray.__init__" = some Builtin.«bytearray.__init__» := entryFor_of_tree (by kernel_rfl)
theorem lookup_rel : typeLookup (.type "bytearray") "__release_buffer__" = pure (some (.builtin "bytearray.__release_buffer__")) := by rw [typeLookup_type, builtinLookup_eq_fast]; kernel_rfl
theorem rel_end : ("bytearray.__release_buffer__" : String).endsWith ("." ++ "__release_buffer__") = true := by decide +kernel
theorem rel_drop : (("bytearray.__release_buffer__" : String).dropRight (("__release_buffer__" : String).length + 1)) = "bytearray" := by decide +kernel
theorem bindOpt (v : Value) : Builtin.Bytes.bindOptional "bytearray.__init__" "bytearray" ["source", "encoding", "errors"] [v] [] = pure [some v, none, none] := by kernel_rfl
end BA
noncomputable abbrev baO (a : Array UInt8) : Obj := { cls := .type "bytearray", data := .bytearray a 0 }
section
variable {prog : Program} {w : World} {s : Shared} {E : Value → Shared → Prop}
theorem ba_end {q : Addr} {h : Heap} {Q : Value → Shared → Prop} (hQ : ∀ q h', Mem s.heap h' [] [(q, baO #[])] → Q (.ref q) { s with heap := h' }) (D : Mem s.heap h [] [(q, baO #[])]) : Q (.ref q) { s with heap := h } := hQ q h D
theorem ba_newf {n : Int} {t : Tok} {Q : Value → Shared → Prop} (hQ : ∀ q h', Mem s.heap h' [] [(q, baO #[])] → Q (.ref q) { s with heap := h' }) :
    wpAny (model prog w) flatA (call (.builtin "bytearray.__new__") [.type "bytearray", .int n t]) Q E s := by
  k_with "x" => (refine ba_end ?_ ?_ <;> assumption)
  x_run
end
section
variable {prog : Program} {w : World} {A : Around} {s : Shared} {E : Value → Shared → Prop}
theorem codeC_builtin {R : Result → Shared → Prop} {id : String} {args : Args} {b : Builtin} (hb : entryFor table id = some b)
    (h : wpC (model prog w) (A.under (.builtin id args)) (b args) (FinC (model prog w) A R) (fun e s' => R (.error e) s') s) : codeC (model prog w) A (.builtin id args) R s := by
  refine codeC_tree ?_
  show wpC _ _ (match entryFor table id with | some b => b args | none => unsupported ((withoutEnding? id "#data").getD id)) _ _ s
  rw [hb]; exact h
theorem own_rel {q : Addr} {a : Array UInt8} {Q : Bool → Shared → Prop} (hq : s.heap.get? q = some (baO a)) (h : Q false s) : wpAny (model prog w) A (Builtin.Bytes.ownRelease (.ref q)) Q E s := by
  have hT : s.TypeIs (.ref q) "bytearray" := ⟨_, hq, rfl⟩
  unfold Builtin.Bytes.ownRelease Builtin.Bytes.slotIsOwn
  refine wpAny_bind (wpAny_bind (wpAny_specialOf hT BA.lookup_rel ?_))
  dsimp only
  rw [BA.rel_end]
  simp only [Bool.not_true, Bool.false_eq_true, if_false]
  rw [BA.rel_drop]
  exact wpAny_isInstance hT BA.called.sub (wpAny_pure h)
theorem ba_write {q : Addr} {a : Array UInt8} {f : Array UInt8 → Array UInt8} {Q : Unit → Shared → Prop} (hq : s.heap.get? q = some (baO a)) (hz : (f a).size ≤ sizeLine)
    (h : ∀ h', Heap.SameBut q s.heap h' → h'.get? q = some (baO (f a)) → Q () { s with heap := h' }) : wpAny (model prog w) A (Builtin.Bytes.write (.ref q) f) Q E s := by
  show wpAny _ _ (updateBytearray q f) _ _ _
  unfold updateBytearray
  refine wpAny_bind (wpAny_load hq ?_)
  dsimp only
  refine wpAny_bind (wpAny_update hq ?_)
  have h2 : (s.heap.update q (Obj.mapBytearray f)).get? q = some (baO (f a)) := Heap.get?_update_self _ hq rfl
  refine wpAny_lookBehind h2 ?_ (h _ (Heap.SameBut.update ..) h2)
  show (if (f a).size > sizeLine then some "bytearray:memory" else none) = none
  rw [if_neg (Nat.not_lt.mpr hz)]
theorem dec_of_bad {id : String} (h : badIds.contains id = false) : Builtin.Bytes.decodersThatHold.contains id = false := by
  cases e : Builtin.Bytes.decodersThatHold.contains id with
  | false => rfl
  | true =>
    have : badIds.contains id = true := by
      rw [List.contains_iff_mem] at e ⊢
      exact List.mem_append_left _ e
    rw [this] at h
    cases h
theorem exported_no {v : Value} {Q : Bool → Shared → Prop} (h : Q false s) : wpC (model prog w) A (Builtin.Bytes.exported v) Q E s := by
  unfold Builtin.Bytes.exported
  refine wpC_bind (wpC_stack fun st hst => wpC_pure ?_)
  rw [List.any_eq_false.mpr ?_]
  · exact h
  · rintro ⟨c, p⟩ hc
    have ok := hst _ hc
    rw [Bool.not_eq_true]
    cases c with
    | builtin id args =>
      have hb : badIds.contains id = false := by simpa [okCode] using ok
      have nb : ∀ y, badIds.contains y = true → id ≠ y := fun y hy e => by rw [e, hy] at hb; cases hb
      delta PySem.Builtin.Bytes.exported.match_1
      dsimp only
      delta PySem.Builtin.Bytes.exported._sparseCasesOn_1
      dsimp only
      rw [dif_neg (nb "bytearray.__contains__" (by decide +kernel)), dif_neg (nb "bytearray.__mod__" (by decide +kernel)), dif_neg (nb "bytearray.__rmod__" (by decide +kernel)), dif_neg (nb "_struct.pack_into.held" (by decide +kernel)), dif_neg (nb "bytearray.find.held" (by decide +kernel))]
      obtain ⟨pos, kw⟩ := args
      cases pos with
      | nil => rfl
      | cons v tail =>
        show (Builtin.Bytes.sameRef v _ && Builtin.Bytes.decodersThatHold.contains id) = false
        rw [dec_of_bad hb, Bool.and_false]
    | _ => rfl
theorem ba_call {n : Int} {t : Tok} {Q : Value → Shared → Prop} (h0 : 0 < n) (h1 : n < 1000) (hh : A.handled = none) (hd : A.depth ≤ 800) (hu : A.units ≤ 8000)
    (hQ : ∀ q h', (∀ b o, s.heap.get? b = some o → h'.get? b = some o) → h'.get? q = some (baO (Array.replicate n.toNat 0)) → s.heap.get? q = none → Q (.ref q) { s with heap := h' }) :
    wpC (model prog w) A (call (.type "bytearray") [.int n t]) Q E s := by
  revert h0 h1 hh hd hu hQ
  revert prog w A s E n t Q
  change ∀ prog w A s E n t Q, _
  refine' (let rec cy0 : Pk8 _ := pk8 (by repeat' first | exact ne_world | exact ne_cx | exact ne_shared | exact ne_around | exact ⟨default⟩ | refine ne_prod ?_ ?_) _; Pk8.use cy0 ?_)
  generalize cy0.1.1 = prog
  generalize cy0.1.2.1 = w
  generalize cy0.1.2.2.1 = A
  generalize cy0.1.2.2.2.1 = s
  generalize cy0.1.2.2.2.2.1 = E
  generalize cy0.1.2.2.2.2.2.1 = n
  generalize cy0.1.2.2.2.2.2.2.1 = t
  generalize cy0.1.2.2.2.2.2.2.2 = Q
  clear cy0
  intro h0 h1 hh hd hu hQ
  refine wpC_call (codeC_tree ?_)
  show wpC _ _ (callAny (.type "bytearray") _) _ _ _
  refine wpC_pure ⟨Code.quiet_builtin _ (by decide +kernel), rfl, codeC_builtin F.entry_type_call ?_⟩
  rw [Around.under_plain (weight_type_call_type "bytearray" _ []) rfl]
  unfold Builtin.«type.__call__»
  dsimp only
  rw [if_neg (by rw [BA.called.notType]; exact Bool.false_ne_true), if_neg (by rw [BA.called.canCreate]; exact Bool.false_ne_true)]
  rw [BA.check, BA.mro, BA.called.made]
  simp only [pure_bind, List.isEmpty_cons, Bool.false_eq_true, if_false]
  refine wpC_bind (wpC_holding (wpC_of (wpAny_flat hh (by show A.depth ≤ 900; omega) (by show A.units + 1 ≤ 9000; omega) (ba_newf fun q h D => ?_))))
  obtain ⟨kp, hq, hqn⟩ := mem_one D
  have hT : ({ s with heap := h } : Shared).TypeIs (.ref q) "bytearray" := ⟨_, hq, rfl⟩
  refine wpC_bind (wpC_of (wpAny_isInstance hT BA.called.sub ?_))
  simp only [Bool.not_true, Bool.false_eq_true, if_false]
  refine wpC_bind (wpC_holding ?_)
  unfold callSpecial?
  refine wpC_bind (wpC_of (wpAny_specialOf hT BA.slot_init.lookup ?_))
  refine wpC_holding ?_
  refine wpC_bind (wpC_of (wpAny_of_eq (BA.slot_init.bind _) ?_))
  refine wpC_bind (wpC_call (codeC_tree ?_))
  show wpC _ _ (do checkBuiltinCall "bytearray.__init__" ⟨[.ref q, .int n t], []⟩; again (.builtin "bytearray.__init__" ⟨[.ref q, .int n t], []⟩)) _ _ _
  refine wpC_bind (wpC_of (BA.slot_init.check _ _ _ _ _ _ _ _ hT (BA.argsInit _ _) ?_))
  refine wpC_pure ⟨plainId_quiet (by decide +kernel) _, rfl, codeC_builtin BA.entry_init ?_⟩
  unfold Builtin.«bytearray.__init__»
  dsimp only
  refine wpC_bind (wpC_of (own_rel hq ?_))
  simp only [Bool.false_eq_true, if_false]
  rw [BA.bindOpt]
  simp only [pure_bind]
  refine wpC_bind (wpC_of (wpAny_of_eq (show Builtin.Bytes.checkCodecArg _ _ _ none = pure () from rfl) ?_))
  refine wpC_bind (wpC_of (wpAny_of_eq (show Builtin.Bytes.checkCodecArg _ _ _ none = pure () from rfl) ?_))
  refine wpC_bind ?_
  unfold orM
  refine wpC_bind (exported_no ?_)
  dsimp only [toBool]
  refine wpC_bind (wpC_of ?_)
  unfold Builtin.Bytes.exportsOf
  refine wpAny_bind (wpAny_load hq (wpAny_pure ?_))
  refine wpC_pure ?_
  rw [if_neg (by decide)]
  refine wpC_of ?_
  have hz0 : (0 : Nat) ≤ sizeLine := Nat.zero_le _
  refine wpAny_bind (ba_write hq hz0 fun h2 sb2 hq2 => ?_)
  refine wpAny_bind (wpAny_of_eq (rfl : asStr? (.int n t) = pure none) ?_)
  simp only [Option.isSome_none, Bool.false_eq_true, if_false]
  refine wpAny_bind (wpAny_pure ?_)
  refine wpAny_bind (wpAny_specialOf (T := "int") (typeIs_int _ n t) int_index ?_)
  simp only [Option.isSome_some, if_true]
  refine wpAny_bind (wpAny_attempt (wpAny_of_eq (rfl : asIndex (.int n t) = pure n) ?_))
  dsimp only
  have e1 : Builtin.Bytes.fitsIndex n = true := by
    simp only [Builtin.Bytes.fitsIndex, Bool.and_eq_true, decide_eq_true_eq]
    omega
  have e2 : (n == 2 ^ 63 - 1) = false := by rw [beq_eq_false_iff_ne]; omega
  have e3 : Builtin.Bytes.tooLong n.toNat = false := by
    have : sizeLine = 16777216 := rfl
    simp only [Builtin.Bytes.tooLong, decide_eq_false_iff_not]
    omega
  have e4 : ¬ n < 0 := by omega
  have e5 : n > 0 := h0
  have hz : (Array.replicate n.toNat (0 : UInt8)).size ≤ sizeLine := by simp only [Array.size_replicate, sizeLine]; omega
  rw [e1, e2, e3, if_neg e4, if_pos e5]
  simp only [Bool.not_true, Bool.false_eq_true, if_false]
  refine wpAny_bind (wpAny_rule ?_)
  refine wpAny_bind (ba_write hq2 hz fun h3 sb3 hq3 => ?_)
  refine wpAny_pure ?_
  show wpC _ _ _ _ _ _
  refine wpC_pure ?_
  dsimp only
  rw [if_neg (by decide)]
  refine wpC_pure ?_
  refine hQ q h3 (fun b o e => ?_) hq3 hqn
  have hb : b ≠ q := fun e' => by rw [e', hqn] at e; cases e
  exact (sb3.2 b hb).trans ((sb2.2 b hb).trans (kp b o e))
end
end
end Mine
end SC04
section SC05
open PySem PySem.W PyProof.Rows PySem.Calls PySem.W.X
namespace Mine
noncomputable section
namespace BA
theorem slot_set : Slot "bytearray" "__setitem__" "bytearray.__setitem__" :=
  .of (owner := "bytearray") (n := "__setitem__") (by rw [typeLookup_type, builtinLookup_eq_fast]; kernel_rfl) (by decide +kernel) (by decide +kernel) (by decide +kernel)
    (by first | exact .inl (by decide +kernel) | exact .inr (by decide +kernel)) (by rw [isSubtype_type]; kernel_rfl)
theorem entry_set : entryFor table "bytearray.__setitem__" = some Builtin.«bytearray.__setitem__» := entryFor_of_tree (by kernel_rfl)
theorem args_set (a b c : Value) : argsOk "bytearray.__setitem__" ⟨[a, b, c], []⟩ := by unfold argsOk; kernel_rfl
end BA
section
variable {prog : Program} {w : World} {A : Around} {s : Shared} {E : Value → Shared → Prop}
theorem ba_setItem {q : Addr} {a : Array UInt8} {k b : Int} {t u : Tok} {Q : Unit → Shared → Prop} (hq : s.heap.get? q = some (baO a)) (h0 : 0 ≤ k) (h1 : k < a.size) (hz : a.size ≤ 1000) (hb0 : 0 ≤ b) (hb1 : b < 256)
    (h : ∀ h', Heap.SameBut q s.heap h' → h'.get? q = some (baO (a.setIfInBounds k.toNat b.toNat.toUInt8)) → Q () { s with heap := h' }) : wpAny (model prog w) A (setItem (.ref q) (.int k t) (.int b u)) Q E s := by
  revert hq h0 h1 hz hb0 hb1 h
  revert prog w A s E q a k b t u Q
  change ∀ prog w A s E q a k b t u Q, _
  refine' (let rec cy0 : Pk12 _ := pk12 (by repeat' first | exact ne_world | exact ne_cx | exact ne_shared | exact ne_around | exact ⟨default⟩ | exact ⟨.sp⟩ | exact ⟨PySem.Challenge.rw_qw0075_02.row.toRowW.claim⟩ | refine ne_prod ?_ ?_) _; Pk12.use cy0 ?_)
  generalize cy0.1.1 = prog
  generalize cy0.1.2.1 = w
  generalize cy0.1.2.2.1 = A
  generalize cy0.1.2.2.2.1 = s
  generalize cy0.1.2.2.2.2.1 = E
  generalize cy0.1.2.2.2.2.2.1 = q
  generalize cy0.1.2.2.2.2.2.2.1 = a
  generalize cy0.1.2.2.2.2.2.2.2.1 = k
  generalize cy0.1.2.2.2.2.2.2.2.2.1 = b
  generalize cy0.1.2.2.2.2.2.2.2.2.2.1 = t
  generalize cy0.1.2.2.2.2.2.2.2.2.2.2.1 = u
  generalize cy0.1.2.2.2.2.2.2.2.2.2.2.2 = Q
  clear cy0
  intro hq h0 h1 hz hb0 hb1 h
  have hT : s.TypeIs (.ref q) "bytearray" := ⟨_, hq, rfl⟩
  unfold setItem
  refine wpAny_holding ?_
  refine wpAny_bind (wpAny_sequenceKey hT (by decide) ?_)
  refine wpAny_bind (wpAny_callSpecial?_slot (name := Str.ofString "__setitem__") hT BA.slot_set (wpAny_call_entry BA.slot_set hT BA.entry_set ?_ (BA.args_set _ _ _)))
  unfold Builtin.«bytearray.__setitem__»
  dsimp only
  rw [if_neg (by decide)]
  refine wpAny_bind ?_
  unfold Builtin.Bytes.subscript?
  refine wpAny_bind (wpAny_specialOf (T := "int") (typeIs_int _ k t) int_index ?_)
  rw [if_neg (by decide)]
  refine wpAny_bind (wpAny_of_eq (rfl : asIndex (.int k t) = pure k) ?_)
  have e1 : Builtin.Bytes.fitsIndex k = true := by
    simp only [Builtin.Bytes.fitsIndex, Bool.and_eq_true, decide_eq_true_eq]
    omega
  rw [e1, if_neg (by decide)]
  refine wpAny_pure ?_
  refine wpAny_bind ?_
  unfold Builtin.Bytes.byteValue
  refine wpAny_bind (wpAny_of_eq (rfl : asIndex (.int b u) = pure b) ?_)
  rw [if_neg (by simp only [Bool.or_eq_true, decide_eq_true_eq]; omega)]
  refine wpAny_pure ?_
  refine wpAny_bind ?_
  unfold Builtin.Bytes.payload Builtin.Bytes.payload?
  refine wpAny_bind (wpAny_bind (wpAny_load hq (wpAny_pure (wpAny_pure ?_))))
  have e2 : seqIndex? k a.size = some k.toNat := by
    have hn : ¬ k < 0 := by omega
    unfold seqIndex?
    simp only [if_neg hn]
    rw [if_pos (by simp only [Bool.and_eq_true, decide_eq_true_eq]; omega)]
  rw [e2]
  dsimp only
  have hs : sizeLine = 16777216 := rfl
  refine wpAny_bind (ba_write hq (by rw [Array.size_setIfInBounds, hs]; omega) fun h' sb hq' => ?_)
  exact wpAny_pure ⟨_, rfl, wpAny_pure (h h' sb hq')⟩
end
section
variable {prog : Program} {w : World} {E : Value → Shared → Prop}
theorem by_end {s : Shared} {a : Array UInt8} {k : Nat} {Q : Value → Shared → Prop} (hQ : ∀ t k, Q (.bytes a t) { s with toks := k }) {t : Tok} : Q (.bytes a t) { s with toks := k } := hQ t k
theorem ba_bytes {s : Shared} {Q : Value → Shared → Prop} {D : Addr} {a : Array UInt8} (hD : s.heap.get? D = some { cls := .type "bytearray", data := .bytearray a 0 }) (h3 : a.size ≤ 1000) (hQ : ∀ t k, Q (.bytes a t) { s with toks := k }) :
    wpAny (model prog w) flatA (call (.type "bytes") [.ref D]) Q E s := by
  revert hD h3 hQ
  revert prog w E s Q D a
  change ∀ prog w E s Q D a, _
  refine' (let rec cy0 : Pk7 _ := pk7 (by repeat' first | exact ne_world | exact ne_cx | exact ne_shared | exact ne_around | exact ⟨default⟩ | exact ⟨.sp⟩ | exact ⟨PySem.Challenge.rw_qw0075_02.row.toRowW.claim⟩ | refine ne_prod ?_ ?_) _; Pk7.use cy0 ?_)
  generalize cy0.1.1 = prog
  generalize cy0.1.2.1 = w
  generalize cy0.1.2.2.1 = E
  generalize cy0.1.2.2.2.1 = s
  generalize cy0.1.2.2.2.2.1 = Q
  generalize cy0.1.2.2.2.2.2.1 = D
  generalize cy0.1.2.2.2.2.2.2 = a
  clear cy0
  intro hD h3 hQ
  k_with "x" => (refine by_end ?_; assumption)
  x_run
end
end
end Mine
end SC05
section SC06
open PySem PySem.W PyProof.Rows PySem.Calls PySem.W.X
namespace Mine
section
variable {prog : Program} {w : World} {A A₀ : Around} {s : Shared} {K : Frag} {L : Addr} {h₀ base : Heap} {m mg mb : Str → Option Value} {used rest : List (Addr × Obj)} {p : Program} {loose : List Str} {mean : ExcName → Option Value}
theorem codeC_def0 {env : Env} {outer : List Env} {R : Result → Shared → Prop} {name qual : Str} {params : Arguments} {body : List Stmt} {scope : Scope} {dV kV doc pm cdv ct oc : Value} {an od : Option Addr} {osl : Array (Option Value)} {f : Addr} {args : Args} {binds : List (Str × Value)}
    (B : Below A₀ base outer h₀) (F : Fr h₀ L s.heap m) (X₀ : K.In h₀) (N : News h₀ L s.heap (used ++ rest)) (T : Top p loose mean mg mb h₀) (dis : ∀ q ∈ rest, ∀ u ∈ used, q.1 ≠ u.1)
    (hA : A.frames = some (env :: outer)) (hf : env.frame = some L) (hke : env.scope.kind = .function)
    (ho : K.lookup f = some ⟨oc, od, .func (fnOf name qual params body scope dV kV doc pm an cdv ct), osl⟩) (hcd : codeIn K cdv qual = true) (hroom : A.depth < recursionLimit)
    (hbind : BindsTo s (fnOf name qual params body scope dV kV doc pm an cdv ct) args binds) (hloc : ∀ y ∈ binds, scope.names.lookup y.1 = some .local)
    (h : ∀ g L' h₁, Fr h₀ L g m → Fr g L' h₁ (fun y => binds.reverse.lookup y) → News g L' h₁ used → Below A base (env :: outer) g → K.In g → Top p loose mean mg mb g →
      wpC (model prog w) (A.deeper (envOf qual scope L' f cdv)) (execs body (envOf qual scope L' f cdv))
        (fun fl s' => LeaveK h₀ L m g (fun r s' => (∀ n, News h₀ L s'.heap n → News h₀ L s'.heap (n ++ rest)) → R r s') (match fl with | .ret v => v | _ => .none) s') (fun _ _ => False)
        { s with heap := h₁, toks := s.toks + binds.length })
    (hco : scope.isCoroutine = false) (hgen : scope.isGenerator = false) (hk : scope.kind = .function)
    (hcell : ∀ x ∈ scope.names, x.2 ≠ .cell) : codeC (model prog w) A (.call (.ref f) args) R s := by
  have N' : News h₀ L s.heap used := News.sub N fun q hq => List.mem_append_left _ hq
  obtain ⟨FG, BG, st, lv⟩ := groundX (R := R) B F N' hA hf hke
  refine codeC_call_def (fd := fnOf name qual params body scope dV kV doc pm an cdv ct) (body := body) (binds := binds) hroom ((X₀.keeps F.keep) _ _ ho) rfl (T.nolimit.keeps F.keep) (codeRec_of (X₀.keeps F.keep) hcd) rfl hbind hcell hloc (fun h₁ hns up => ?_) hco hgen hk
  refine wpC_mono (h _ s.heap.objs.size h₁ FG ⟨hns, fun b o e => up b o (of_hideAll _ e), Nat.le_of_eq (hideAll_size _ _)⟩
    (fun q hq => ⟨up _ _ (N' q hq).1, Nat.ne_of_lt (Heap.lt_size (N' q hq).1), hideAll_none _ (List.mem_map_of_mem hq)⟩) BG (X₀.keeps st) (T.keeps st)) (fun fl s' hl => ?_) fun _ _ y => y
  obtain ⟨L', m', n', F', Nn, k⟩ := hl
  refine lv _ _ ⟨L', m', n', F', Nn, fun kF kN => k kF kN fun n hn q hq => ?_⟩
  rcases List.mem_append.mp hq with hq | hq
  · exact hn q hq
  · have hN := N q (List.mem_append_right _ hq)
    refine ⟨F'.keep _ _ (hideAll_get _ hN.1 fun hm => ?_), hN.2⟩
    obtain ⟨u, hu, e⟩ := List.mem_map.mp hm
    exact dis q hq u hu e.symm
theorem made_new {h h' : Heap} {q : Addr} {o : Obj} {l : List (Addr × Obj)} (F : Fr h₀ L h m) (N : News h₀ L h l) (kp : ∀ b o, h.get? b = some o → h'.get? b = some o) (hq : h'.get? q = some o) (hn : h.get? q = none) :
    Fr h₀ L h' m ∧ News h₀ L h' ((q, o) :: l) ∧ AllNe q l := by
  obtain ⟨oL, _, _, hL, _⟩ := F.ns
  refine ⟨Fr.kept F kp, fun p hp => ?_, allNe_of fun p hp e => ?_⟩
  · rcases List.mem_cons.mp hp with rfl | hp
    · refine ⟨hq, fun e => ?_, ?_⟩
      · rw [show L = q from e.symm, hn] at hL
        cases hL
      · cases z : h₀.get? q with
        | none => rfl
        | some o' => rw [F.keep _ _ z] at hn; cases hn
    · exact News.kept N kp p hp
  · have := (N p hp).1
    rw [show p.1 = q from e, hn] at this
    cases this
end
section
variable {prog : Program} {w : World} {A : Around} {E : Value → Shared → Prop} {s : Shared} {env : Env} {h₀ : Heap} {x : Str} {body : List Stmt} {Q : Flow → Shared → Prop}
theorem kst_rangeS {σ : Type} {r : Addr} {a₀ b₀ st : Int} {t₀ u₀ v₀ : Tok} {n : Nat} {m₀ : Str → Option Value} (Led : σ → List (Addr × Obj)) (ps : σ → List (Str × Value)) (stored : List Str) (P : Nat → σ → Prop) (c₀ : σ)
    (hh : A.handled = none) (hr : IsRange s.heap r a₀ b₀ st t₀ u₀ v₀) (hsmall : Builtin.Range.small a₀ b₀ st = true) (hn : Builtin.Range.rangeSize a₀ b₀ st = (n : Int)) (F : Fr h₀ env.locals s.heap m₀) (N : News h₀ env.locals s.heap (Led c₀)) (hk : ∀ p ∈ ps c₀, m₀ p.1 = some p.2) (hp : P 0 c₀)
    (turn : ∀ (I : Nat) (c : σ) (i : Nat) t (u : Str → Option Value) h tk own, i < n → (∀ p ∈ Led c, @Ne Nat p.1 I) → (∃ o, (I, o) ∈ own) → (∀ p ∈ own, @Eq Nat p.1 I) → P i c →
      Fr h₀ env.locals h (fun y => if y = x then some (.int (a₀ + (i : Int) * st) t) else kstB (fun z => if stored.contains z then u z else m₀ z) (ps c) y) → News h₀ env.locals h (Led c ++ own) →
      wpAny (model prog w) A (execs body env) (FreePost h₀ env.locals I own Led ps x stored m₀ (P (i + 1)) { s with heap := h, toks := tk } Q) E { s with heap := h, toks := tk })
    (done : ∀ (c : σ) (u : Str → Option Value) h tk, P n c → Fr h₀ env.locals h (fun y => if y = x then u y else kstB (fun z => if stored.contains z then u z else m₀ z) (ps c) y) → News h₀ env.locals h (Led c) → Q .next { s with heap := h, toks := tk }) :
    wpAny (model prog w) A (pyIter (.ref r)) (fun it s₂ => LoopAtV prog w A h₀ env x body Q E it s₂) E s := by
  refine wpAny_pyIter_range hr hsmall ?_
  have hLI : env.locals ≠ s.heap.objs.size := Nat.ne_of_lt F.ns.lt
  refine loop_walkF (St := fun i h => IsRangeIter h s.heap.objs.size (a₀ + (i : Nat) * st) ((n : Int) - (i : Nat)) st) (PV := fun i v => i < n ∧ ∃ t, v = .int (a₀ + i * st) t) Led ps stored P c₀ (Walks.range hh _ a₀ st n).bound (fun hm => hLI (List.mem_singleton.mp hm)) (.head _) (by show IsRangeIter _ _ _ _ _; rw [hn]; simpa using Heap.get?_push_size _ rfl) (fun i h st => ⟨_, st⟩) F N hk hp (fun c i v u h tk own hin hv h1 h2 h3 h4 F9 N9 => ?_) done
  obtain ⟨_, t, rfl⟩ := hv
  exact turn _ c i t u h tk own hin h1 h2 (fun p hp => List.mem_singleton.mp (h3 p hp)) h4 F9 N9
end
end Mine
end SC06
section SC07
open PySem PySem.W PyProof.Rows PySem.Calls PySem.W.X
namespace Mine
section
variable {M : Model} {A : Around} {E : Value → Shared → Prop} {s : Shared} {env : Env}
theorem callWith_CT {pos : Pos} {T : String} {e : Expr} {rest : List Expr} {Q : Value → Shared → Prop}
    (h : wpAny M A (spliced (backTo pos (starEach (e :: rest) env))) (fun vs s₁ => wpC M A (call (.type T) vs) Q E s₁) E s)
    (he : starEach (e :: rest) env = (false, eval e env) :: starEach rest env := by rfl) (hplain : (backTo pos (starEach rest env)).any (·.1) = false := by rfl) :
    wpC M A (callWith pos (.type T) [] (backTo pos (starEach (e :: rest) env)) []) Q E s := by
  rw [he] at h ⊢
  have hp : ((backTo pos ((false, eval e env) :: starEach rest env)).any (·.1) || ([] : List (Option Str × Sem Value)).any (·.1.isNone)) = false := by
    show ((false || (backTo pos (starEach rest env)).any (·.1)) || false) = false
    rw [hplain]; rfl
  have h' : wpAny M A (evalArgs (.type T) true (backTo pos ((false, eval e env) :: starEach rest env)) []) (fun a s₁ => wpC M A (call (.type T) a.pos a.kw) Q E s₁) E s := evalArgs_plain h
  unfold callWith
  refine wpC_bind (wpC_holding (wpC_mono (wpC_of h') (fun a s₁ h₁ => wpC_bind (wpC_standAt ?_)) fun _ _ x => x))
  simp only [hp]
  refine wpC_bind (wpC_pure ?_)
  exact wpC_bind (wpC_mono h₁ (fun r s₂ hr => wpC_of (wpAny_bind (wpAny_holding (wpAny_point (wpAny_pure hr))))) fun _ _ x => x)
end
end Mine
end SC07
section SB01
open PySem PySem.W PyProof.Rows PySem.W.X


namespace Mine
noncomputable section
theorem len_by {prog : Program} {w : World} {A : Around} {E : Value → Shared → Prop} {s : Shared} {l : List UInt8} {t : Tok} {Q : Value → Shared → Prop} (n : Nat) (e : l.length = n) (hn : Hold (n ≤ 100))
    (h : Q (.int n (s.toks + 1)) { s with toks := s.toks + 1 + 1 }) : wpAny (model prog w) A (call (.builtin "len") [.bytes l.toArray t]) Q E s := by
  subst e
  have e1 : l.toArray.size = l.length := by simp
  refine len_bytes (by rw [e1]; unfold Hold at hn; omega) ?_
  rw [e1]
  exact h
theorem range_once : ∀ n ∈ List.range 101, 0 < n → Builtin.Range.rangeSize 0 (n : Int) (n : Int) = 1 ∧ Builtin.Range.small 0 (n : Int) (n : Int) = true := by decide +kernel
noncomputable def swapAt (l : List UInt8) (j : Nat) : List UInt8 := List.replicate (l.length - j) 0 ++ (l.take j).reverse
theorem swapAt_len (l : List UInt8) {j : Nat} (hj : j ≤ l.length) : (swapAt l j).length = l.length := by
  unfold swapAt; simp; omega
theorem swapAt_set (l : List UInt8) {j : Nat} (hj : j < l.length) : (swapAt l j).set (l.length - 1 - j) (l.getD j 0) = swapAt l (j + 1) := by
  have e0 : l.getD j 0 = l[j] := by simp [hj]
  unfold swapAt
  rw [show l.length - j = (l.length - (j + 1)) + 1 by omega, List.replicate_succ', List.append_assoc, e0]
  rw [show List.take (j + 1) l = List.take j l ++ [l[j]] by simp, List.reverse_append]
  rw [List.set_append_right _ _ (by simp; omega)]
  have e1 : l.length - 1 - j - (List.replicate (l.length - (j + 1)) (0 : UInt8)).length = 0 := by simp; omega
  rw [e1]
  rfl
theorem swapAt_end (l : List UInt8) : swapAt l l.length = l.reverse := by
  unfold swapAt; simp
section
variable {prog : Program} {w : World} {A : Around} {E : Value → Shared → Prop} {s : Shared}
theorem by_item {value slice : Expr} {l : List UInt8} {k : Int} {t u : Tok} {Q : Value → Shared → Prop} (h0 : 0 ≤ k) (h1 : k < l.length) (hz : l.length ≤ 1000) (h : Q (.int (l.getD k.toNat 0).toNat s.toks) { s with toks := s.toks + 1 })
    (hs : subscripted slice false (.bytes l.toArray t) (.int k u) = operate [.bytes l.toArray t, .int k u] (getItem (.bytes l.toArray t) (.int k u)) := by with_unfolding_all rfl) (hg : ∀ r, letTemporaryGo value (.bytes l.toArray t) r = pure () := by kmk_pure) :
    wpAny (model prog w) A (subscriptTail value slice (.bytes l.toArray t) (.int k u)) Q E s :=
  PyProof.Rows.subscriptTail_builtin (typeIs_bytes s _ t) FB.slot_bytes_getitem.lookup (getItem_bytes (by omega) h0 h1 h) hs hg
end
theorem one_upd {h₀ h h' : Heap} {L S : Addr} {m : Str → Option Value} {o o' : Obj} {news : List (Addr × Obj)} (F : Fr h₀ L h m) (N : News h₀ L h ((S, o) :: news)) (hne : ∀ p ∈ news, p.1 ≠ S) (hs : Heap.SameBut S h h') (ho : h'.get? S = some o') :
    Fr h₀ L h' m ∧ News h₀ L h' ((S, o') :: news) := by
  have z := N _ (.head _)
  exact ⟨F.change hs z.2.1 z.2.2, news_set (pre := []) N (fun _ hp => nomatch hp) hne hs ho⟩
section
variable {p : Program} {loose : List Str} {mean : ExcName → Option Value} {mg mb : Str → Option Value} {dp un : Nat} {gd : Option (List Code)} {cn : Str} {cs : Scope} {a : Addr} {ccd : Value} {cl : List (Str × Addr)} {outer : List Env} {A₀ : Around} {base h₀ : Heap} {L : Addr} {m : Str → Option Value}
theorem c_swap (w : World) (news) (l : List UInt8) (n : Nat) (hl : l.length = n) (h0 : 0 < n) (h19 : Hold (n ≤ 100)) (t u : Tok)
    {s : Shared} {Q : Value → Shared → Prop} {E : Value → Shared → Prop}
    (B : Below A₀ base outer h₀) (F : Fr h₀ L s.heap m) (X : (Mine.frag.heap_1 w.params).In h₀) (N : News h₀ L s.heap news) (T : Top p loose mean mg mb h₀) (hk : cs.kind = .function) (hd : dp + 140 < 700) (hu : un + 1000 < 7000)
    (fin : ∀ t' h' tk', Fr h₀ L h' m → News h₀ L h' news → Q (.bytes l.reverse.toArray t') { s with heap := h', toks := tk' }) :
    wpC (model PySem.Challenge.rw_qw0075_02.row.prog w) (ktrTop dp un gd cn cs L a ccd cl outer) (call (.ref 46) [.bytes l.toArray t, .int n u]) Q E s := by
  revert hl h0 h19 B F X N T hk hd hu fin
  revert p loose mean mg mb dp un gd cn cs a ccd cl outer A₀ base h₀ L m w news l n t u s Q E
  change ∀ p loose mean mg mb dp un gd cn cs a ccd cl outer A₀ base h₀ L m w news l n t u s Q E, _
  refine' (let rec cy0 : Pk12 _ := pk12 (by repeat' first | exact ne_world | exact ne_cx | exact ne_shared | exact ne_around | exact ⟨default⟩ | refine ne_prod ?_ ?_) _; Pk12.use cy0 ?_)
  generalize cy0.1.1 = p
  generalize cy0.1.2.1 = loose
  generalize cy0.1.2.2.1 = mean
  generalize cy0.1.2.2.2.1 = mg
  generalize cy0.1.2.2.2.2.1 = mb
  generalize cy0.1.2.2.2.2.2.1 = dp
  generalize cy0.1.2.2.2.2.2.2.1 = un
  generalize cy0.1.2.2.2.2.2.2.2.1 = gd
  generalize cy0.1.2.2.2.2.2.2.2.2.1 = cn
  generalize cy0.1.2.2.2.2.2.2.2.2.2.1 = cs
  generalize cy0.1.2.2.2.2.2.2.2.2.2.2.1 = a
  generalize cy0.1.2.2.2.2.2.2.2.2.2.2.2 = ccd
  clear cy0
  refine' (let rec cy0_1 : Pk12 _ := pk12 (by repeat' first | exact ne_world | exact ne_cx | exact ne_shared | exact ne_around | exact ⟨default⟩ | refine ne_prod ?_ ?_) _; Pk12.use cy0_1 ?_)
  generalize cy0_1.1.1 = cl
  generalize cy0_1.1.2.1 = outer
  generalize cy0_1.1.2.2.1 = A₀
  generalize cy0_1.1.2.2.2.1 = base
  generalize cy0_1.1.2.2.2.2.1 = h₀
  generalize cy0_1.1.2.2.2.2.2.1 = L
  generalize cy0_1.1.2.2.2.2.2.2.1 = m
  generalize cy0_1.1.2.2.2.2.2.2.2.1 = w
  generalize cy0_1.1.2.2.2.2.2.2.2.2.1 = news
  generalize cy0_1.1.2.2.2.2.2.2.2.2.2.1 = l
  generalize cy0_1.1.2.2.2.2.2.2.2.2.2.2.1 = n
  generalize cy0_1.1.2.2.2.2.2.2.2.2.2.2.2 = t
  clear cy0_1
  refine' (let rec cy0_2 : Pk4 _ := pk4 (by repeat' first | exact ne_world | exact ne_cx | exact ne_shared | exact ne_around | exact ⟨default⟩ | refine ne_prod ?_ ?_) _; Pk4.use cy0_2 ?_)
  generalize cy0_2.1.1 = u
  generalize cy0_2.1.2.1 = s
  generalize cy0_2.1.2.2.1 = Q
  generalize cy0_2.1.2.2.2 = E
  clear cy0_2
  intro hl h0 h19 B F X N T hk hd hu fin
  revert X
  k_fill
  intro X
  k_with_none
  refine wpC_call ?_
  have N0 : News h₀ L s.heap ([] ++ news) := N
  refine' codeC_def0 (used := []) ?k1 ?k2 ?k3 ?k4 ?k5 ?kd ?kA ?kF ?kK ?k6 ?k7 ?k8 ?k9 ?kB ?_ ?c2 ?c3 ?c4 ?c5
  case kA => exact rfl
  case kF => exact rfl
  case kK => assumption
  case k1 => assumption
  case k2 => assumption
  case k3 => assumption
  case k4 => exact N0
  case k5 => assumption
  case kd => exact fun _ _ _ hu => nomatch hu
  case k6 => k_dflt k_is
  case k7 => k_dflt k_is
  case k8 => (simp only [recursionLimit]; show dp < 1000; omega)
  case k9 => k_dflt (first | exact BindsTo.of_eq rfl | exact binds_K (by k_in) rfl (by k_is) rfl rfl rfl)
  case c5 => k_dflt decide
  case kB => exact locs rfl
  case c2 => exact rfl
  case c3 => exact rfl
  case c4 => exact rfl
  intro g' L' h' FG' F0 N' B' X' T'
  have F' : Fr g' L' h' (fun y => ([("width", .int n u), ("data", .bytes l.toArray t)] : List (Str × Value)).lookup y) := F0
  clear F0 N0 FG'
  dsimp only
  k_lift B'
  try k_fold
  k_with "call builtin:len" => (k_dflt (refine len_by n hl h19 ?_))
  k_with "call type:range" => (rename Fr _ _ _ _ => F9; rename News _ _ _ _ => N9; first | ((with_unfolding_all refine range1_rows F9 N9 ?_); intro _ _ _ _ _ _ _ _ _) | ((with_unfolding_all refine range3_rows F9 N9 (by omega) ?_ (Or.inl (PyProof.noPylong_small (by unfold Hold at h19; omega)))); intro _ _ _ _ _ _ _ _ _))
  k_with "pyIter ref" => refine Hold.out ?_
  refine execs_C (exec_Assign_C (eval_Call_C ?_))
  k_steps
  refine callWith_CT ?_
  k_steps
  refine ba_call (by omega) (by have := h19; unfold Hold at this; omega) rfl (by show dp + 1 ≤ 800; omega) (by show un + 3 ≤ 8000; omega) fun q h2 kp hq hqn => ?_
  rename Fr g' _ _ _ => F1
  rename News g' _ _ _ => N1
  obtain ⟨F2, N2, _⟩ := made_new F1 N1 kp hq hqn
  clear F1 N1
  k_steps
  refine wpC_of ?_
  k_steps
  unfold Hold
  rename IsRange _ _ _ _ _ _ _ _ => rgX
  have h100 : n ≤ 100 := h19
  obtain ⟨ho1, ho2⟩ := range_once n (List.mem_range.mpr (by omega)) h0
  have ho3 : Builtin.Range.rangeSize 0 (n : Int) (n : Int) = ((1 : Nat) : Int) := by rw [ho1]; rfl
  rename Fr g' _ _ _ => lF
  rename News g' _ _ _ => lN
  refine' kst_rangeS (σ := List UInt8) (n := 1) (st := (n : Int)) (fun c => [(q, baO c.toArray)]) (fun _ => []) ["j"] (fun i c => c = if i = 0 then List.replicate n 0 else l.reverse) (List.replicate n 0) ?a1 ?a2 ?a3 ?a4 ?a5 ?n0 ?n1 ?n2 ?_ ?_
  case a1 => exact rfl
  case a2 => exact rgX
  case a3 => exact ho2
  case a4 => exact ho3
  case a5 => exact lF
  case n1 => (intro x hx; cases hx)
  case n2 => exact (if_pos rfl).symm
  case n0 => (intro x hx; obtain rfl := List.mem_singleton.mp hx; exact (show baO (Array.replicate n 0) = baO (List.replicate n 0).toArray by simp) ▸ lN _ (.head _))
  · clear lF lN rgX
    intro I9 c i9 t9 u9 h9 tk9 own9 hi9 hLI9 _ hIown9 hP9 F9 N9
    obtain rfl : i9 = 0 := by omega
    rw [if_pos rfl] at hP9
    subst hP9
    rw [show (0 : Int) + ((0 : Nat) : Int) * (n : Int) = 0 by simp] at F9
    k_with "FreePost" => refine Hold.out ?_
    k_steps
    unfold Hold
    rename Fr g' _ _ _ => lF
    rename News g' _ _ _ => lN
    rename IsRange _ _ _ _ _ _ _ _ => rgX
    refine kst_rangeS (σ := List UInt8) (n := n) (fun c => (q, baO c.toArray) :: own9) (fun _ => []) [] (fun i c => c = swapAt l i) (List.replicate n 0) rfl rgX ?a3 ?a4 lF lN ?n1 ?n2 ?_ ?_
    case a3 => exact small_one (by decide) (by decide) (by omega) (by omega)
    case a4 => (rw [rangeSize_nat]; omega)
    case n1 => (intro x hx; cases hx)
    case n2 => (unfold swapAt; simp [hl])
    · clear lF lN rgX
      intro I8 c j t8 u8 h8 tk8 own8 hj8 hLI8 _ hIown8 hP8 F8 N8
      subst hP8
      rw [show (0 : Int) + (j : Int) * 1 = (j : Int) by omega] at F8
      have hbv : 0 ≤ (((l.getD j 0).toNat : Nat) : Int) ∧ (((l.getD j 0).toNat : Nat) : Int) < 256 := ⟨by omega, by have := (l.getD j 0).toNat_lt; omega⟩
      have hsl := swapAt_len l (j := j) (by omega)
      have hne8 : ∀ x ∈ own9 ++ own8, x.1 ≠ q := fun x hx => (List.mem_append.mp hx).elim (fun hx e => hLI9 (q, baO (List.replicate n 0).toArray) (.head _) ((show @Eq Nat q x.1 from e.symm).trans (hIown9 x hx))) fun hx e => hLI8 (q, baO (swapAt l j).toArray) (.head _) ((show @Eq Nat q x.1 from e.symm).trans (hIown8 x hx))
      k_with "subscriptTail" => (k_dflt (refine by_item (l := l) (by omega) (by omega) (by omega) ?_); rw [show (0 + (j : Int)).toNat = j by omega])
      k_with "setItem ref int" => (k_dflt (rename Fr g' _ _ _ => xF; rename News g' _ _ _ => xN; refine ba_setItem (xN _ (.head _)).1 (by omega) (by simp only [List.size_toArray, hsl]; omega) (by simp only [List.size_toArray, hsl]; omega) hbv.1 hbv.2 fun h7 sb7 hq7 => ?_; (obtain ⟨F7, N7⟩ := one_upd xF xN hne8 sb7 hq7); clear xF xN))
      k_steps
      unfold Hold
      rename Fr g' _ _ _ => nF
      rename News g' _ _ _ => nN
      have e7 : ((swapAt l j).toArray.setIfInBounds ((0 : Int) + (n : Int) - 1 - (j : Int)).toNat (((l.getD j 0).toNat : Nat) : Int).toNat.toUInt8) = (swapAt l (j + 1)).toArray := by
        have e1 : ((0 : Int) + (n : Int) - 1 - (j : Int)).toNat = l.length - 1 - j := by omega
        have e2 : (((l.getD j 0).toNat : Nat) : Int).toNat.toUInt8 = l.getD j 0 := by simp
        rw [e1, e2, List.setIfInBounds_toArray, swapAt_set l (by omega)]
      rw [e7] at nN
      refine free_end (swapAt l (j + 1)) nF nN (fun x hx => List.mem_append_left own8 hx) (fun x hx => List.Mem.tail _ (List.mem_append_right _ hx)) ?hI (fun x hx => nomatch hx) ?hr rfl
      case hI =>
        intro x hx
        rcases List.mem_cons.mp hx with rfl | hx
        · exact hLI8 (q, baO (swapAt l j).toArray) (.head _)
        · exact hLI8 x (.tail _ hx)
      case hr =>
        intro z z1 z2 z3
        rw [if_neg z1]
        rfl
    · intro c u8 h8 tk8 hP8 F8 N8
      subst hP8
      k_steps
      unfold Hold
      rename Fr g' _ _ _ => nF
      rename News g' _ _ _ => nN
      refine free_end l.reverse nF (News.sub nN ?sb) (fun x hx => List.mem_append_left own9 hx) (fun x hx => List.mem_append_right _ hx) (fun x hx => by rw [List.mem_singleton.mp hx]; exact hLI9 (q, baO (List.replicate n 0).toArray) (.head _)) (fun x hx => nomatch hx) ?hr rfl
      case sb =>
        have e8 : swapAt l n = l.reverse := by rw [← hl]; exact swapAt_end l
        intro x hx
        rw [e8]
        exact hx
      case hr =>
        intro z z1 z2 z3
        have z4 : z ≠ Str.ofString "j" := fun e => by rw [e] at z3; exact absurd z3 (by decide +kernel)
        rw [if_neg z4]
        show (if z = _ then _ else if _ = true then _ else _) = _
        rw [if_neg z1, z3]
        rfl
  · intro c u9 h9 tk9 hP9 F9 N9
    rw [if_neg (by decide)] at hP9
    subst hP9
    k_with "call type:bytes" => (k_dflt (rename News g' _ _ _ => xN; refine wpAny_flat rfl (by show dp + 1 ≤ 900; omega) (by show un + 3 ≤ 9000; omega) (ba_bytes (xN _ (.head _)).1 (by simp only [List.size_toArray, List.length_reverse]; omega) fun t7 k7 => ?_)))
    k_steps
    rename (∀ n, News _ _ _ n → News _ _ _ (n ++ _)) => up
    rename Fr h₀ L _ m => nF
    rename News h₀ L _ _ => nN
    exact fin _ _ _ nF (News.sub (up _ nN) fun x hx => List.mem_append_right _ hx)
end
end
end Mine
end SB01
section SP06
open PySem PySem.W PyProof.Rows PySem.W.X
namespace Mine
theorem ints_inj : ∀ {a b : List UInt8}, a.map (fun c => (c.toNat : Int)) = b.map (fun c => (c.toNat : Int)) → a = b
  | [], [], _ => rfl
  | [], _ :: _, h => by simp at h
  | _ :: _, [], h => by simp at h
  | x :: a, y :: b, h => by
    simp only [List.map_cons, List.cons.injEq] at h
    have e : x = y := UInt8.toNat_inj.mp (Int.ofNat_inj.mp h.1)
    rw [e, ints_inj h.2]
theorem bInts_inj {a b : Array UInt8} (h : KBw.bInts a = KBw.bInts b) : a = b := by
  have h' : a.toList.map (fun c => (c.toNat : Int)) = b.toList.map (fun c => (c.toNat : Int)) := h
  exact Array.toList_inj.mp (ints_inj h')
theorem bInts_list (l : List UInt8) : KBw.bInts l.toArray = l.map (fun c => (c.toNat : Int)) := rfl
section
variable {prog : Program} {w : World} {A : Around} {E : Value → Shared → Prop} {s : Shared} {value slice : PySem.Expr} {t u : Tok} {h₀ : Heap} {L : Addr} {m : PySem.Str → Option Value} {news : List (Addr × Obj)} {Q : Value → Shared → Prop} {l : List UInt8} {k : Int}
theorem by_take (F : Fr h₀ L s.heap m) (N : News h₀ L s.heap news) (h0 : 0 ≤ k) (hz : l.length ≤ 1000)
    (h : ∀ h' t' k', Fr h₀ L h' m → News h₀ L h' news → Q (.bytes (l.take k.toNat).toArray t') { s with heap := h', toks := k' })
    (hs : subscripted slice false (.bytes l.toArray t) (.ref s.heap.objs.size) = operate [.ref s.heap.objs.size, .bytes l.toArray t] (getItem (.bytes l.toArray t) (.ref s.heap.objs.size)) := by with_unfolding_all rfl)
    (ht : ∀ r, letTemporaryGo value (.bytes l.toArray t) r = pure () := by kmk_pure) :
    wpAny (model prog w) A (subscriptTail value slice (.bytes l.toArray t) (.ref s.heap.objs.size)) Q E { s with heap := s.heap.push { cls := .type "slice", data := .fields #[.none, .int k u, .none] } } := by
  refine KBc.slice_K (ks := l.map (fun c => (c.toNat : Int))) F N rfl .none (.int _ _) (by rw [List.length_map]; omega) (fun h' t' k' F' N' e => ?_) hs ht
  have e2 : KBy.picked l.toArray none (some k) = (l.take k.toNat).toArray := by
    refine bInts_inj (e.trans ?_)
    rw [bInts_list]
    simp only [Option.elim, List.drop_zero, List.length_map, Nat.sub_zero]
    rw [List.map_take]
    have : clipAt l.length k = min k.toNat l.length := by
      unfold clipAt
      split <;> omega
    rw [this]
    by_cases q : k.toNat ≤ l.length
    · rw [Nat.min_eq_left q]
    · rw [Nat.min_eq_right (by omega), List.take_of_length_le (by simp), List.take_of_length_le (by simp; omega)]
  rw [e2]
  exact h h' t' k' F' N'
theorem by_drop (F : Fr h₀ L s.heap m) (N : News h₀ L s.heap news) (h0 : 0 ≤ k) (hz : l.length ≤ 1000)
    (h : ∀ h' t' k', Fr h₀ L h' m → News h₀ L h' news → Q (.bytes (l.drop k.toNat).toArray t') { s with heap := h', toks := k' })
    (hs : subscripted slice false (.bytes l.toArray t) (.ref s.heap.objs.size) = operate [.ref s.heap.objs.size, .bytes l.toArray t] (getItem (.bytes l.toArray t) (.ref s.heap.objs.size)) := by with_unfolding_all rfl)
    (ht : ∀ r, letTemporaryGo value (.bytes l.toArray t) r = pure () := by kmk_pure) :
    wpAny (model prog w) A (subscriptTail value slice (.bytes l.toArray t) (.ref s.heap.objs.size)) Q E { s with heap := s.heap.push { cls := .type "slice", data := .fields #[.int k u, .none, .none] } } := by
  refine KBc.slice_K (ks := l.map (fun c => (c.toNat : Int))) F N rfl (.int _ _) .none (by rw [List.length_map]; omega) (fun h' t' k' F' N' e => ?_) hs ht
  have e2 : KBy.picked l.toArray (some k) none = (l.drop k.toNat).toArray := by
    refine bInts_inj (e.trans ?_)
    rw [bInts_list]
    simp only [Option.elim, List.length_map]
    rw [List.map_drop]
    have : clipAt l.length k = min k.toNat l.length := by
      unfold clipAt
      split <;> omega
    rw [this]
    by_cases q : k.toNat ≤ l.length
    · rw [Nat.min_eq_left q, List.take_of_length_le (by simp)]
    · rw [Nat.min_eq_right (by omega), List.drop_of_length_le (by simp), List.drop_of_length_le (by simp; omega)]
      simp
  rw [e2]
  exact h h' t' k' F' N'
end
end Mine
end SP06
section SP07
open PySem PySem.W PyProof.Rows PySem.W.X PySem.MeetsSeq PySem.SeqAt
namespace Mine
theorem ne_lists {h₀ h : Heap} {L : Addr} {news : List (Addr × Obj)} {a b : Nat} {fvs vs : List Value} {fs : List Int} {ws : List Wd} {k1 k2 : Nat} (N : News h₀ L h news) (h1 : (a, listOf fvs.toArray k1) ∈ news) (h2 : (b, listOf vs.toArray k2) ∈ news)
    (hf : IntsAre fvs fs) (hv : Tx vs ws) (hl : 0 < fs.length) (hw : 0 < ws.length) : a ≠ b := by
  intro e
  have g1 := (N _ h1).1
  have g2 := (N _ h2).1
  rw [show (a, listOf fvs.toArray k1).1 = (b, listOf vs.toArray k2).1 from e, g2] at g1
  have e1 : listOf vs.toArray k2 = listOf fvs.toArray k1 := Option.some.inj g1
  have e2 : vs = fvs := by
    have := congrArg (fun o : Obj => o.data) e1
    simp only [W.listOf] at this
    injection this with q _
    simpa using q
  obtain ⟨t, ht⟩ := Tx.get hv hw
  cases hf with
  | nil => simp at hl
  | cons n t' h => rw [e2] at ht; simp at ht
theorem eq_items {vs vs' : List Value} {us : List Wd} (hv : wordsAre vs us) (hv' : Tx vs' us) : vs.length = vs'.length ∧ ∀ j (h1 : j < vs.length) (h2 : j < vs'.length), EqGives vs[j] vs'[j] true := by
  have hv'' : StrsAre vs' (us.map S) := hv'
  clear hv'
  induction hv generalizing vs' with
  | nil => cases hv''; exact ⟨rfl, fun j h1 => by simp at h1⟩
  | @cons v k vs ws hk hr ih =>
    cases hv'' with
    | @cons _ t' vs2 _ h =>
      obtain ⟨e1, e2⟩ := ih h
      refine ⟨by simp [e1], fun j h1 h2 => ?_⟩
      obtain ⟨t, rfl⟩ := hk
      cases j with
      | zero =>
        show EqGives (.str (S k) t) (.str (S k) t') true
        have := SeqRoads2.EqGives.str (S k) (S k) t t'
        rwa [beq_self_eq_true] at this
      | succ j => exact e2 j (by simpa using h1) (by simpa using h2)
section
variable {prog : Program} {w : World} {A : Around} {E : Value → Shared → Prop} {s : Shared} {Q : Value → Shared → Prop}
theorem same_words {a b : Addr} {vs vs' : List Value} {us : List Wd} (hu : A.units < cLine) (ha : s.heap.IsList a vs.toArray) (hb : s.heap.IsList b vs'.toArray) (hv : wordsAre vs us) (hv' : Tx vs' us) (h : Q (.bool false) s) :
    wpAny (model prog w) A (compareOp .NotEq (.ref a) (.ref b)) Q E s := by
  obtain ⟨e1, e2⟩ := eq_items hv hv'
  have r := RcNeAt.lists (e := fun _ => true) ha hb (by simpa using e1) hu (fun j h1 h2 => (by simpa using e2 j (by simpa using h1) (by simpa using h2) : EqGives vs.toArray[j] vs'.toArray[j] true).at A.in1 s)
  have e3 : (!(List.range vs.toArray.size).all fun _ => true) = false := by simp
  rw [e3] at r
  exact r prog w E Q h
end
theorem octs_len (l : List Nat) : (octs l).length = l.length := by unfold octs; simp
theorem octs_flip (l : List Nat) (k : Nat) : ((octs l).take k).reverse ++ (octs l).drop k = octs ((l.take k).reverse ++ l.drop k) := by
  unfold octs; simp [List.map_take, List.map_drop]
theorem line_len {N : Nat} {ws : List Wd} (hg : ∀ x ∈ ws, Good x) (hl : ws.length = 3 ∨ ws.length = 4) (n : Nat) : (lineOf (arrAt N ws n)).length + 1 = 5 * ws.length ∧ arrAt N ws n ≠ [] := by
  have e := arrAt_len N ws n
  have hne : arrAt N ws n ≠ [] := by
    intro q
    rw [q] at e
    simp at e
    omega
  have := lineOf_len (arrAt_good (N := N) hg n) hne
  rw [e] at this
  exact ⟨this, hne⟩
theorem line_step {N : Nat} {ws : List Wd} (hg : ∀ x ∈ ws, Good x) (hN : N = ws.length) (hl : ws.length = 3 ∨ ws.length = 4) {i : Nat} (hi : i ≠ 0) :
    ((octs (lineOf (arrAt N ws (i - 1)))).take (5 * manyOf N i - 1)).reverse ++ (octs (lineOf (arrAt N ws (i - 1)))).drop (5 * manyOf N i - 1) = octs (lineOf (arrAt N ws i)) := by
  obtain ⟨j, rfl⟩ : ∃ j, i = j + 1 := ⟨i - 1, by omega⟩
  have hm := many_le (N := N) (by rw [hN]; exact hl) (j + 1)
  rw [octs_flip, Nat.add_sub_cancel, flip_line (arrAt_good hg j) (by omega) (by rw [arrAt_len]; omega)]
  rfl
theorem many_one {N n : Nat} (hN : N = 3 ∨ N = 4) (h : 1 < manyOf N n) : n ≠ 0 := by
  intro e
  rw [e] at h
  unfold manyOf at h
  simp at h
theorem many_zero {N n : Nat} (hN : N = 3 ∨ N = 4) (h : 1 = manyOf N n) : n = 0 := by
  unfold manyOf at h
  by_cases e : n = 0
  · exact e
  · rw [if_neg e] at h
    rcases hN with rfl | rfl <;> (repeat' split at h) <;> omega
end Mine
end SP07
section SJ01
open PySem PySem.W PyProof.Rows PySem.W.X
namespace Mine
noncomputable section
section
variable {prog : Program} {w : World} {A : Around} {E : Value → Shared → Prop} {s : Shared} {env : Env} {h₀ : Heap} {x : Str} {body : List Stmt} {Q : Flow → Shared → Prop}
theorem kst_tupF {σ : Type} {l : Nat} {vs : List Value} {m₀ : Str → Option Value} (Led : σ → List (Addr × Obj)) (ps : σ → List (Str × Value)) (stored : List Str) (P : Nat → σ → Prop) (c₀ : σ)
    (hh : A.handled = none) (hl : ∀ c, (l, ({ cls := .type "tuple", data := .seq vs.toArray } : Obj)) ∈ Led c) (F : Fr h₀ env.locals s.heap m₀) (N : News h₀ env.locals s.heap (Led c₀)) (hk : ∀ p ∈ ps c₀, m₀ p.1 = some p.2) (hp : P 0 c₀)
    (turn : ∀ (I : Nat) (c : σ) (i : Nat) (v : Value) (u : Str → Option Value) h tk own, vs[i]? = some v → (∀ p ∈ Led c, @Ne Nat p.1 I) → (∃ o, (I, o) ∈ own) → (∀ p ∈ own, @Eq Nat p.1 I ∨ @Eq Nat p.1 l) → P i c →
      Fr h₀ env.locals h (fun y => if y = x then some v else kstB (fun z => if stored.contains z then u z else m₀ z) (ps c) y) → News h₀ env.locals h (Led c ++ own) →
      wpAny (model prog w) A (execs body env) (FreePost h₀ env.locals I own Led ps x stored m₀ (P (i + 1)) { s with heap := h, toks := tk } Q) E { s with heap := h, toks := tk })
    (done : ∀ (c : σ) (u : Str → Option Value) h tk, P vs.length c → Fr h₀ env.locals h (fun y => if y = x then u y else kstB (fun z => if stored.contains z then u z else m₀ z) (ps c) y) → News h₀ env.locals h (Led c) → Q .next { s with heap := h, toks := tk }) :
    wpAny (model prog w) A (pyIter (.ref l)) (fun it s₂ => LoopAtV prog w A h₀ env x body Q E it s₂) E s := by
  have zl := N _ (hl c₀)
  have hls : s.heap.IsTuple l vs.toArray := ⟨_, zl.1, rfl, _, rfl⟩
  have hlI : l ≠ s.heap.objs.size := Nat.ne_of_lt (Heap.lt_size zl.1)
  refine wpAny_pyIter_tuple hls ?_
  have W := Walks.tuple (prog := prog) (w := w) hh s.heap.objs.size l hlI vs.toArray
  rw [List.size_toArray] at W
  have hLI : env.locals ≠ s.heap.objs.size := Nat.ne_of_lt F.ns.lt
  refine loop_walkF Led ps stored P c₀ W (fun hm => (List.mem_cons.mp hm).elim hLI fun hm => zl.2.1 (List.mem_singleton.mp hm).symm) (.head _) ⟨⟨_, Heap.get?_push_size _ rfl, rfl, rfl⟩, hls.at fun o e => Heap.get?_push_of_some _ e⟩
    (fun i h st => by obtain ⟨oI, hoI, _⟩ := st.1; exact ⟨oI, hoI⟩) F N hk hp (fun c i v u h tk own _ hv h1 h2 h3 h4 F9 N9 => ?_) done
  exact turn _ c i v u h tk own (by simpa using hv) h1 h2 (fun p hp => (List.mem_cons.mp (h3 p hp)).elim .inl fun h => .inr (List.mem_singleton.mp h)) h4 F9 N9
end
theorem newTuple_small {l : List Value} (h : l.length ≤ sizeLine) : newTuple l = (do let a ← alloc { cls := .type "tuple", data := .seq l.toArray }; pure (.ref a)) := by
  unfold newTuple newObj
  simp only [List.size_toArray]
  rw [if_neg (by omega)]
  rfl
structure JS where
  p : Str
  t : Tok
  e : Bool
noncomputable def joinF (x : Str) (e : Bool) : List Str → Str
  | [] => x
  | b :: bs => joinF (if e then x ++ b else x ++ ("/" ++ b)) false bs
structure PSeg (m : Str) : Prop where
  pre : KAf.Pre m "/" false
  suf : KAf.Suf m "/" false
  lo : 1 ≤ m.length
  hi : m.length ≤ 20
theorem c_join (w : World) (news) (x : Str) (tx : Tok) (v0 : Value) (ps : List Value) (bs : List Str) (e : Bool) (hps : StrsAre (v0 :: ps) bs) (hb : ∀ b ∈ bs, PSeg b) (hl : Hold (bs.length ≤ 20)) (hx : KAf.Suf x "/" e) (hx1 : 1 ≤ x.length) (hx2 : x.length ≤ 100) :
   Ctr PySem.Challenge.rw_qw0075_02.row.prog w (Mine.frag.heap_1 w.params) 260 2200 140 (Value.str x tx :: v0 :: ps) news (Same news fun v => ∃ t, v = Value.str (joinF x e bs) t) := by
  k_fill
  refine ctr_of fun cx => ?_
  revert hps hb hl hx hx1 hx2
  revert w news x tx v0 ps bs e cx
  refine id ?_
  refine' (let rec cx : Pk9 _ := pk9 (by repeat' first | exact ne_world | exact ne_cx | exact ⟨default⟩ | refine ne_prod ?_ ?_) _; Pk9.use cx ?_)
  unfold CtrX CtrB
  generalize cx.1.2.2.2.2.2.2.2.2.p = p
  generalize cx.1.2.2.2.2.2.2.2.2.loose = loose
  generalize cx.1.2.2.2.2.2.2.2.2.mean = mean
  generalize cx.1.2.2.2.2.2.2.2.2.mg = mg
  generalize cx.1.2.2.2.2.2.2.2.2.mb = mb
  generalize cx.1.2.2.2.2.2.2.2.2.dp = dp
  generalize cx.1.2.2.2.2.2.2.2.2.un = un
  generalize cx.1.2.2.2.2.2.2.2.2.gd = gd
  generalize cx.1.2.2.2.2.2.2.2.2.cn = cn
  generalize cx.1.2.2.2.2.2.2.2.2.cs = cs
  generalize cx.1.2.2.2.2.2.2.2.2.a = a
  generalize cx.1.2.2.2.2.2.2.2.2.ccd = ccd
  generalize cx.1.2.2.2.2.2.2.2.2.cl = cl
  generalize cx.1.2.2.2.2.2.2.2.2.outer = outer
  generalize cx.1.2.2.2.2.2.2.2.2.A₀ = A₀
  generalize cx.1.2.2.2.2.2.2.2.2.base = base
  generalize cx.1.2.2.2.2.2.2.2.2.h₀ = h₀
  generalize cx.1.2.2.2.2.2.2.2.2.L = L
  generalize cx.1.2.2.2.2.2.2.2.2.m = m
  generalize cx.1.2.2.2.2.2.2.2.2.s = s
  generalize cx.1.2.2.2.2.2.2.2.2.Q = Q
  generalize cx.1.2.2.2.2.2.2.2.2.E = E
  generalize cx.1.1 = w
  generalize cx.1.2.1 = news
  generalize cx.1.2.2.1 = x
  generalize cx.1.2.2.2.1 = tx
  generalize cx.1.2.2.2.2.1 = v0
  generalize cx.1.2.2.2.2.2.1 = ps
  generalize cx.1.2.2.2.2.2.2.1 = bs
  generalize cx.1.2.2.2.2.2.2.2.1 = e
  clear cx
  intro hps hb hl hx hx1 hx2 B F X N T hk hd hu hret
  have hps9 : (v0 :: ps).length ≤ sizeLine := by
    have h1 := StrsAre.length hps
    have h2 : bs.length ≤ 20 := hl
    rw [h1]; simp only [sizeLine]; omega
  k_with_none
  k_with "exec Try" => refine wpAny_Try_except ?_
  k_with "pyIter ref" => refine Hold.out ?_
  k_with "call ref" => (
    with_reducible show wpAny _ _ (call (Value.ref 119) _) _ _ _
    k_dflt (
      (refine' Ctr.use ?k1 ?k2 ?k3 ?k4 ?k5 ?kk (c_fspath w _ _ _) ?kd ?ku ?_)
      case k1 => k_asm
      case k2 => k_asm
      case k3 => k_asm
      case k4 => k_asm
      case k5 => k_asm
      case kk => exact rfl
      case kd => ktr_room
      case ku => ktr_units
      intro v9 n9 h9 tk9 hR F9 N9
      obtain ⟨e8, e9⟩ := hR; subst e8 e9
      (try dsimp only)
      (try k_fold)))
  k_with "call ref" => (
    with_reducible show wpAny _ _ (call (Value.ref 133) _) _ _ _
    k_dflt (
      (refine' Ctr.use ?k1 ?k2 ?k3 ?k4 ?k5 ?kk (c_getsep w _ _ _) ?kd ?ku ?_)
      case k1 => k_asm
      case k2 => k_asm
      case k3 => k_asm
      case k4 => k_asm
      case k5 => k_asm
      case kk => exact rfl
      case kd => ktr_room
      case ku => ktr_units
      intro v9 n9 h9 tk9 hR F9 N9
      obtain ⟨⟨ts8, e8⟩, e9⟩ := hR; subst e8 e9
      (try dsimp only)
      (try k_fold)))
  refine wpAny_call ?_
  k_dflt (refine' kp_rest (g₁ := fun D => some [(Str.ofString "a", Value.str x tx), (Str.ofString "p", Value.ref D)]) (binds := fun D => [(Str.ofString "a", Value.str x tx), (Str.ofString "p", Value.ref D)]) ?k1 ?k2 ?k3 ?k4 ?k5 ?kA ?kF ?kK ?k6 ?k7 ?k8 ?kV ?kP ?kG ?kB ?_ ?c2 ?c3 ?c4 ?c5; (case kA => exact rfl); (case kF => exact rfl); (case kK => exact hk); (case k1 => k_asm); (case k2 => k_asm); (case k3 => k_asm); (case k4 => k_asm); (case k5 => k_asm); (case k6 => k_is); (case k7 => k_is); (case k8 => k_room); (case kV => exact rfl); (case kP => (refine Eq.trans (congrArg (peek1 _ _) (show bindArgs _ _ = (newTuple (v0 :: ps) >>= fun t => pure [(Str.ofString "a", Value.str x tx), (Str.ofString "p", t)]) from rfl)) ?_; rw [newTuple_small hps9]; exact rfl)); (case kG => exact fun _ => rfl); (case kB => exact fun _ => locs rfl); (case c5 => decide); (case c2 => exact rfl); (case c3 => exact rfl); (case c4 => exact rfl); k_whole; intro D' g' L' h' l1 FG' F' N' B' X' T'; (try k_lt l1); (try dsimp only); (try k_lift B'); (try k_fold))
  k_steps
  rename Fr _ _ _ _ => lF0
  with_unfolding_all refine' For_invVF lF0 ?k1 ?k2 ?_
  case k1 => exact rfl
  case k2 => exact rfl
  k_steps
  unfold Hold
  rename Fr _ _ _ _ => lF
  rename News _ _ _ _ => lN
  have hl' : bs.length ≤ 20 := hl
  refine kst_tupF (σ := JS) (l := D') (vs := v0 :: ps) (fun c => (D', ({ cls := .type "tuple", data := .seq (v0 :: ps).toArray } : Obj)) :: news) (fun c => [("path", .str c.p c.t)]) []
    (fun i c => joinF c.p c.e (bs.drop i) = joinF x e bs ∧ KAf.Suf c.p "/" c.e ∧ 1 ≤ c.p.length ∧ c.p.length ≤ 100 + 21 * i) ⟨x, tx, e⟩ (by exact rfl) (fun c => .head _) lF lN ?hk ⟨rfl, hx, hx1, by simpa using hx2⟩ ?_ ?_
  case hk => (intro q hq; rw [List.mem_singleton.mp hq]; rfl)
  · clear lF lN
    intro I9 c i9 v9 u9 h9 tk9 own9 hv9 hLI9 hIo9 hIown9 hP9 F9 N9
    obtain ⟨pth, tp, eb⟩ := c
    dsimp only [kstB] at hP9 F9 N9 hLI9
    obtain ⟨hj9, hs9, ha9, hz9⟩ := hP9
    obtain ⟨y, ty, rfl, hy⟩ := StrsAre.item hps i9 v9 hv9
    have hby := hb y (List.mem_of_getElem? hy)
    have hi9 : i9 < bs.length := (List.getElem?_eq_some_iff.mp hy).1
    have hd9 : bs.drop i9 = y :: bs.drop (i9 + 1) := by
      rw [← (List.getElem?_eq_some_iff.mp hy).2]
      exact List.drop_eq_getElem_cons hi9
    rw [hd9] at hj9
    obtain ⟨y1, y2, y3, y4⟩ := hby
    have hp1000 : pth.length ≤ 1000 := by omega
    have hsl : ("/" : Str).length = 1 := rfl
    k_with "call builtin:str.startswith" => (refine KAf.starts_pre y1 ?_)
    k_with "call builtin:str.endswith" => (refine KAf.ends_suf hs9 ?_)
    k_with "truthy str" => ((with_reducible refine tr_any ha9 hp1000 ?_); intro tk8)
    k_with "FreePost" => refine Hold.out ?_
    k_with "binaryOp Add str str" => (k_dflt (refine PyProof.Rows.add_str ?_ (by first | (rw [hsl]; simp only [sizeLine]; omega) | (simp only [Str.length_append, hsl, sizeLine]; omega)); intro t8 tk8))
    k_with "inplaceOp Add str str" => (k_dflt (refine PyProof.Rows.add_str ?_ (by first | (rw [hsl]; simp only [sizeLine]; omega) | (simp only [Str.length_append, hsl, sizeLine]; omega)); intro t8 tk8))
    cases eb
    all_goals (
      k_steps
      unfold Hold
      rename Fr _ _ _ _ => nF
      rename News _ _ _ _ => nN
      refine' free_end (⟨_, _, false⟩ : JS) nF nN (fun q hq => List.mem_append_left _ hq) (fun q hq => List.mem_append_right _ hq) hLI9 ?hk ?hr ⟨hj9, ?hs, ?ha, ?hz⟩
      case hk => (intro q hq; rw [List.mem_singleton.mp hq]; rfl)
      case hr =>
        intro z z1 z2 _
        have z3 : z ≠ "path" := z2 _ (.head _)
        simp [z1, z3]
      case hs => first | exact KAf.suf_app (KAf.suf_app y2) | exact KAf.suf_app y2
      case ha => (simp only [Str.length_append]; omega)
      case hz => (simp only [Str.length_append, hsl]; omega))
  · clear lF lN
    intro c u9 h9 tk9 hP9 F9 N9
    obtain ⟨pth, tp, eb⟩ := c
    dsimp only [kstB] at hP9 F9 N9 ⊢
    have hnil : bs.drop (v0 :: ps).length = [] := List.drop_of_length_le (by rw [StrsAre.length hps]; exact Nat.le_refl _)
    rw [hnil] at hP9
    have hpx : pth = joinF x e bs := hP9.1
    k_with_none
    k_steps
    rename Fr h₀ L _ m => nF
    rename News h₀ L _ _ => nN
    exact hret _ _ _ _ ⟨⟨_, by rw [← hpx]⟩, rfl⟩ nF (News.sub nN fun q hq => .tail _ hq)
end
end Mine
end SJ01
section SJ02
open PySem PySem.W PyProof.Rows PySem.W.X
namespace Mine
noncomputable section
theorem strs_of2 : ∀ {ys : List Value} {ss : List Str}, ys.length = ss.length → (∀ i y, ys[i]? = some y → ∃ t, y = Value.str (ss.getD i "") t) → StrsAre ys ss
  | [], [], _, _ => .nil
  | [], _ :: _, h, _ => by cases h
  | _ :: _, [], h, _ => by cases h
  | y :: ys, z :: ss, h, k => by
    obtain ⟨t, e⟩ := k 0 y rfl
    have e' : y = Value.str z t := e
    subst e'
    exact .cons z t (strs_of2 (Nat.succ.inj h) fun i y hy => k (i + 1) y hy)
theorem c_leafG (w : World) (news) (N n : Nat) (hN : N = 3 ∨ N = 4) (hn : n < 14) (t0 t1 : Tok) :
   Ctr PySem.Challenge.rw_qw0075_02.row.prog w (Mine.frag.heap_1 w.params) 280 2300 869 [Value.int N t0, Value.int n t1] news (Same news fun v => ∃ t, v = Value.str (joinF "/" true ((figsOf N n).map fun f => Txt.mul "a" (f + 1))) t) := by
  k_fill
  refine ctr_of fun cx => ?_
  revert hN hn
  revert w news N n t0 t1 cx
  refine id ?_
  refine' (let rec cx : Pk7 _ := pk7 (by repeat' first | exact ne_world | exact ne_cx | exact ⟨default⟩ | refine ne_prod ?_ ?_) _; Pk7.use cx ?_)
  unfold CtrX CtrB
  generalize cx.1.2.2.2.2.2.2.p = p
  generalize cx.1.2.2.2.2.2.2.loose = loose
  generalize cx.1.2.2.2.2.2.2.mean = mean
  generalize cx.1.2.2.2.2.2.2.mg = mg
  generalize cx.1.2.2.2.2.2.2.mb = mb
  generalize cx.1.2.2.2.2.2.2.dp = dp
  generalize cx.1.2.2.2.2.2.2.un = un
  generalize cx.1.2.2.2.2.2.2.gd = gd
  generalize cx.1.2.2.2.2.2.2.cn = cn
  generalize cx.1.2.2.2.2.2.2.cs = cs
  generalize cx.1.2.2.2.2.2.2.a = a
  generalize cx.1.2.2.2.2.2.2.ccd = ccd
  generalize cx.1.2.2.2.2.2.2.cl = cl
  generalize cx.1.2.2.2.2.2.2.outer = outer
  generalize cx.1.2.2.2.2.2.2.A₀ = A₀
  generalize cx.1.2.2.2.2.2.2.base = base
  generalize cx.1.2.2.2.2.2.2.h₀ = h₀
  generalize cx.1.2.2.2.2.2.2.L = L
  generalize cx.1.2.2.2.2.2.2.m = m
  generalize cx.1.2.2.2.2.2.2.s = s
  generalize cx.1.2.2.2.2.2.2.Q = Q
  generalize cx.1.2.2.2.2.2.2.E = E
  generalize cx.1.1 = w
  generalize cx.1.2.1 = news
  generalize cx.1.2.2.1 = N
  generalize cx.1.2.2.2.1 = n
  generalize cx.1.2.2.2.2.1 = t0
  generalize cx.1.2.2.2.2.2.1 = t1
  clear cx
  intro hN hn B F X N0 T hk hd hu hret
  k_with_none
  k_with "eval ListComp" => (k_here; k_dflt (refine ListComp_H (by assumption) (by with_unfolding_all rfl) (by decide) (by rfl) (by decide) (by rfl) ?_))
  k_with "call ref" => (
    with_reducible show wpAny _ _ (call (Value.ref 864) _) _ _ _
    k_dflt (
      (refine' Ctr.use ?k1 ?k2 ?k3 ?k4 ?k5 ?kk (c_figN w _ N n hN hn _ _) ?kd ?ku ?_)
      case k1 => k_asm
      case k2 => k_asm
      case k3 => k_asm
      case k4 => k_asm
      case k5 => k_asm
      case kk => exact rfl
      case kd => ktr_room
      case ku => ktr_units
      intro v9 n9 h9 tk9 hR F9 N9
      obtain ⟨lf, fvs, kf, e8, hfvs, e9⟩ := hR; subst e8 e9
      (try dsimp only)
      (try k_fold)))
  refine wpAny_call ?_
  k_dflt (refine' code_def0 (used := []) ?k1 ?k2 ?k3 ?k4 ?k5 ?kd ?kA ?kF ?kK ?k6 ?k7 ?k8 ?k9 ?kB ?_ ?c2 ?c3 ?c4 ?c5; (case kA => exact rfl); (case kF => exact rfl); (case kK => first | exact rfl | assumption); (case k1 => k_asm); (case k2 => k_asm); (case k3 => k_asm); (case k4 => (refine News.sub ?_ (fun q hq => hq); k_asm)); (case k5 => k_asm); (case kd => exact fun _ _ _ hu => nomatch hu); (case k6 => k_is); (case k7 => k_is); (case k8 => k_room); (case k9 => first | exact BindsTo.of_eq rfl | exact binds_K (by k_in) rfl (by k_is) rfl rfl rfl | fail "k_enter: no rule for these arguments"); (case c5 => decide); (case kB => exact locs rfl); (case c2 => exact rfl); (case c3 => exact rfl); (case c4 => exact rfl); k_whole; intro g' L' h' FG' F' N' B' X' T'; (try dsimp only); (try k_lift B'); (try k_fold))
  k_steps
  unfold Hold
  rename Fr _ _ _ _ => xF
  rename News _ _ _ _ => xN
  have hfl : (figsOf N n).length ≤ 4 := by have := figs_len (n := n) hN; omega
  refine src_ints (ns := figsOf N n) (fun i y => ∃ t, y = Value.str (((figsOf N n).map fun f => Txt.mul "a" (f + 1)).getD i "") t) (by exact rfl) xF xN (by k_mem) hfvs (by rw [hfvs.length]; simp only [sizeLine]; omega) ?_ ?_
  · clear xF xN
    intro i f t I oI C oC D m₂ ys h tk E' hi hC hx F9 N9 off ne
    have hf0 := figs_bounds hN hn f (List.mem_of_getElem? hi)
    k_with "CompEnd" => refine Hold.out ?_
    k_steps
    unfold Hold
    rename Fr _ _ _ _ => nF
    rename News _ _ _ _ => nN
    refine LCg.CompEnd.intro nF nN _ (fun q hq => hq) off (.inr ⟨_, by k_mem, rfl, _, rfl⟩) ⟨rfl, ?_⟩
    refine ⟨_, congrArg (fun k => Value.str k _) ?_⟩
    rw [List.getD_eq_getElem?_getD, List.getElem?_map, hi]
    rfl
  · clear xF xN
    intro g ys hl hr D h tk F9 N9 off
    k_with_none
    k_with "StarOf" => refine Hold.out ?_
    k_steps
    unfold Hold
    rename Fr _ _ _ _ => qF
    rename News _ _ _ _ => qN
    have hps : StrsAre ys ((figsOf N n).map fun f => Txt.mul "a" (f + 1)) := strs_of2 (by rw [hl, List.length_map]) hr
    refine star_seq (ws := ys) qF qN (by k_mem) rfl rfl (.inl rfl) (by rfl) (by rw [List.size_toArray, hl]; simp only [sizeLine]; omega) ?_
    intro h7 F7 N7
    have hb9 : ∀ b ∈ (figsOf N n).map (fun f => Txt.mul "a" (f + 1)), PSeg b := by
      intro b hb
      obtain ⟨f, hf, rfl⟩ := List.mem_map.mp hb
      have hf0 := figs_bounds hN hn f hf
      have hml : (Txt.mul "a" (f + 1)).length = (f + 1).toNat := by
        show (Txt.mul "a" (f + 1)).cps.size = _
        rw [← Array.length_toList, mul_list, List.length_replicate]
      exact ⟨pre_a hf0.1, suf_a hf0.1, by omega, by omega⟩
    cases ys with
    | nil =>
      exfalso
      rcases hN with rfl | rfl
      · exact absurd hl (by show ¬ (0 = 2); decide)
      · exact absurd hl (by show ¬ (0 = 3); decide)
    | cons v0 ps =>
      k_with_none
      k_with "call ref" => (
        with_reducible show wpAny _ _ (call (Value.ref 140) _) _ _ _
        rw [List.append_nil]
        k_dflt (
          (refine' Ctr.use ?k1 ?k2 ?k3 ?k4 ?k5 ?kk (c_join w _ "/" _ v0 ps _ true hps hb9 (by rw [List.length_map]; exact Nat.le_trans hfl (by decide)) ⟨by decide +kernel, by decide +kernel⟩ (by decide) (by decide)) ?kd ?ku ?_)
          case k1 => k_asm
          case k2 => k_asm
          case k3 => k_asm
          case k4 => k_asm
          case k5 => k_asm
          case kk => exact rfl
          case kd => ktr_room
          case ku => ktr_units
          intro v9 n9 h9 tk9 hR F9 N9
          obtain ⟨⟨tj, e8⟩, e9⟩ := hR; subst e8 e9
          (try dsimp only)
          (try k_fold)))
      k_steps
      rename (∀ n, News _ _ _ n → News _ _ _ (n ++ _)) => up
      rename Fr h₀ L _ m => nF
      rename News h₀ L _ _ => nN
      exact hret _ _ _ _ ⟨⟨_, rfl⟩, rfl⟩ nF (News.sub (up _ nN) fun q hq => List.mem_append_right _ hq)
theorem c_leafN (w : World) (news) (N n : Nat) (hN : N = 3 ∨ N = 4) (hn : n < 14) (t0 t1 : Tok) :
   Ctr PySem.Challenge.rw_qw0075_02.row.prog w (Mine.frag.heap_1 w.params) 280 2300 869 [Value.int N t0, Value.int n t1] news (Same news fun v => ∃ t, v = Value.str (leafOf N n) t) := by
  have C := c_leafG w news N n hN hn t0 t1
  rcases hN with rfl | rfl
  · exact C
  · exact C
end
end Mine
end SJ02
section SL15
open PySem PySem.W PyProof.Rows
namespace Mine
noncomputable section
noncomputable def tkL (l : List Tok) : Nat → Tok := fun i => l.getD i 0
theorem mem_perm {a b c d e f : Addr × Obj} {l : List (Addr × Obj)} : ∀ p ∈ a :: b :: c :: d :: e :: f :: l, p ∈ f :: e :: c :: d :: a :: b :: l := by
  intro p hp
  simp only [List.mem_cons] at hp ⊢
  rcases hp with h | h | h | h | h | h | h <;> simp [h]
section
variable {p : Program} {loose : List Str} {mean : ExcName → Option Value} {mg mb : Str → Option Value} {dp un : Nat} {gd : Option (List Code)} {cn : Str} {cs : Scope} {a : Addr} {ccd : Value} {A₀ : Around} {base h₀ : Heap} {L : Addr} {m : Str → Option Value}

theorem c_split (w : World) (news) (b : List Nat) (ub : Tok) (ws : List (List Nat)) (hall : LexAll .sp b ws) (hws : ws.length ≤ 1000) (hlen : (S b).length < 1000)
    {s : Shared} {Q : Value → Shared → Prop} {E : Value → Shared → Prop}
    (B : Below A₀ base [] h₀) (hF : Fr h₀ L s.heap m) (X : (Mine.frag.heap_1 w.params).In h₀) (N : News h₀ L s.heap news) (T : Top p loose mean mg mb h₀) (hk : cs.kind = .function) (hd : dp + 140 < recursionLimit) (hu : un + 1000 < cLine)
    (fin : ∀ l h' tk' vs n, wordsAre vs ws → Fr h₀ L h' m → News h₀ L h' ((l, listOf vs.toArray n) :: news) → (∀ p ∈ news, p.1 < l) → Q (.ref l) { s with heap := h', toks := tk' }) :
    wpAny (model PySem.Challenge.rw_qw0075_02.row.prog w) (ktrTop dp un gd cn cs L a ccd [] []) (call (.ref 847) [.str (S b) ub]) Q E s := by
  revert hall hws hlen B hF X N T hk hd hu fin
  revert p loose mean mg mb dp un gd cn cs a ccd A₀ base h₀ L m w news b ub ws s Q E
  change ∀ p loose mean mg mb dp un gd cn cs a ccd A₀ base h₀ L m w news b ub ws s Q E, _
  refine' (let rec cy0 : Pk12 _ := pk12 (by repeat' first | exact ne_world | exact ne_cx | exact ne_shared | exact ne_around | exact ⟨default⟩ | refine ne_prod ?_ ?_) _; Pk12.use cy0 ?_)
  generalize cy0.1.1 = p
  generalize cy0.1.2.1 = loose
  generalize cy0.1.2.2.1 = mean
  generalize cy0.1.2.2.2.1 = mg
  generalize cy0.1.2.2.2.2.1 = mb
  generalize cy0.1.2.2.2.2.2.1 = dp
  generalize cy0.1.2.2.2.2.2.2.1 = un
  generalize cy0.1.2.2.2.2.2.2.2.1 = gd
  generalize cy0.1.2.2.2.2.2.2.2.2.1 = cn
  generalize cy0.1.2.2.2.2.2.2.2.2.2.1 = cs
  generalize cy0.1.2.2.2.2.2.2.2.2.2.2.1 = a
  generalize cy0.1.2.2.2.2.2.2.2.2.2.2.2 = ccd
  clear cy0
  refine' (let rec cy0_1 : Pk12 _ := pk12 (by repeat' first | exact ne_world | exact ne_cx | exact ne_shared | exact ne_around | exact ⟨default⟩ | refine ne_prod ?_ ?_) _; Pk12.use cy0_1 ?_)
  generalize cy0_1.1.1 = A₀
  generalize cy0_1.1.2.1 = base
  generalize cy0_1.1.2.2.1 = h₀
  generalize cy0_1.1.2.2.2.1 = L
  generalize cy0_1.1.2.2.2.2.1 = m
  generalize cy0_1.1.2.2.2.2.2.1 = w
  generalize cy0_1.1.2.2.2.2.2.2.1 = news
  generalize cy0_1.1.2.2.2.2.2.2.2.1 = b
  generalize cy0_1.1.2.2.2.2.2.2.2.2.1 = ub
  generalize cy0_1.1.2.2.2.2.2.2.2.2.2.1 = ws
  generalize cy0_1.1.2.2.2.2.2.2.2.2.2.2.1 = s
  generalize cy0_1.1.2.2.2.2.2.2.2.2.2.2.2 = Q
  clear cy0_1
  refine' (let rec cy0_2 : Pk1 _ := pk1 (by repeat' first | exact ne_world | exact ne_cx | exact ne_shared | exact ne_around | exact ⟨default⟩ | refine ne_prod ?_ ?_) _; Pk1.use cy0_2 ?_)
  generalize cy0_2.1 = E
  clear cy0_2
  intro hall hws hlen B hF X N T hk hd hu fin
  revert X
  k_fill
  intro X
  k_with_none
  refine wpAny_call ?_
  k_dflt (
   (refine' code_defS0 ?k1 ?k2 ?k3 ?k4 ?k5 ?kA ?k6 ?k7 ?k8 ?k9 ?kB ?_ ?cK ?c2 ?c3 ?c4 ?c5; (case kA => exact rfl); (case k2 => k_asm); (case k1 => k_asm); (case k3 => k_asm); (case k4 => k_asm); (case k5 => k_asm); (case k6 => k_is); (case k7 => k_is); (case k8 => k_room); (case k9 => first | exact binds_K (by k_in) rfl (by k_is) rfl rfl rfl | exact BindsTo.of_eq rfl | fail "kts_go: no rule for these arguments"); (case kB => exact locs rfl); (case cK => first | exact rfl | assumption); (case c2 => exact rfl); (case c3 => exact rfl); (case c4 => exact rfl); (case c5 => decide); k_whole; intro g' L' h' FG' F' N' B' X' T' D'; (try dsimp only); (try k_lift B'); (try k_fold)))
  k_with "call type:list" => refine Hold.out ?_
  k_with "call type:collections.deque nil nil" => (
    k_dflt (
      (refine' dq_new ?hh ?hd ?hu ?k1 ?k2 ?_)
      case hh => exact rfl
      case hd => (simp only [recursionLimit] at hd; show dp + 1 + 1 + 1 ≤ 900; omega)
      case hu => (simp only [cLine] at hu; show un + 3 + 1 + 3 ≤ 9000; omega)
      case k1 => k_asm
      case k2 => k_asm
      intro q9 h9 F9 N9 l9
      (simp only [AllNe, and_true] at l9)))
  k_with "call type:collections.deque" => (
    k_dflt (
      (refine' dq_new ?hh ?hd ?hu ?k1 ?k2 ?_)
      case hh => exact rfl
      case hd => (simp only [recursionLimit] at hd; show dp + 1 + 1 + 1 ≤ 900; omega)
      case hu => (simp only [cLine] at hu; show un + 3 + 1 + 3 ≤ 9000; omega)
      case k1 => k_asm
      case k2 => k_asm
      intro q9 h9 F9 N9 l9
      (simp only [AllNe, and_true] at l9)))
  k_with "call" => (
    k_dflt (
      (refine' dq_new ?hh ?hd ?hu ?k1 ?k2 ?_)
      case hh => exact rfl
      case hd => (simp only [recursionLimit] at hd; show dp + 1 + 1 + 1 ≤ 900; omega)
      case hu => (simp only [cLine] at hu; show un + 3 + 1 + 3 ≤ 9000; omega)
      case k1 => k_asm
      case k2 => k_asm
      intro q9 h9 F9 N9 l9
      (simp only [AllNe, and_true] at l9)))
  k_with "call ref" => (
    with_reducible show wpAny _ _ (call (Value.ref 700) _) _ _ _
    (first
    | k_dflt (
      (refine' c_sio w b ub ?k1 ?k2 ?k3 ?k4 ?k5 ?kk ?kd ?ku ?_)
      case k1 => k_asm
      case k2 => k_asm
      case k3 => k_asm
      case k4 => k_asm
      case k5 => k_asm
      case kk => exact rfl
      case kd => ktr_room
      case ku => (show un + 3 + 1 + 3 + 200 < cLine; omega)
      intro io9 dio9 t9 nl9 ub9 tp9 h9 tk9 F9 N9 l9 l8
      have l7 := l9
      (try k_lt l9)
      (try k_lt2 l8)
      (try dsimp only)
      (try k_fold))
    | refine Hold.out ?_))
  k_steps
  unfold Hold
  rename News _ _ _ _ => nN
  rename Fr _ _ _ _ => nF
  refine list_lex (dp := dp + 1) (un := un + 3) w news _ _ io9 dio9 _ q9 (tkL [_, _, _, _, _, _, _, _, _, _, _, _, _, _, _, _, _, _, _]) (tkL [0, 0, 0, 0, _, _, _, 0, _, _, _, 0, 0, 0, _, 0, 0, 0, _]) t9 nl9 b ub9 0 .sp 1 _ _ _ tp9 ws hall (.inl rfl) hws ?ok (by assumption) nF (by assumption) (News.sub nN mem_perm) (by assumption) (by assumption) rfl (by omega) (by omega) ?fin
  case ok =>
    exact ⟨fun q hq => Nat.ne_of_lt ((by assumption : ∀ p ∈ news, p.1 < _) q hq), fun q hq => Nat.ne_of_lt (l7 q (.tail _ (.tail _ hq))), by omega, by omega, by omega, by omega, by omega, by omega, by omega, by omega, by omega, hlen⟩
  case fin =>
    intro l g2 h2 tk2 vs n hw hT hF2 hN2 hlt hB2
    k_steps
    rename News _ _ _ _ => nN2
    rename Fr _ _ _ _ => nF2
    exact fin l h2 tk2 vs n hw nF2 nN2 hlt
end
end
end Mine
end SL15
section ST40
open PySem PySem.W PyProof.Rows PySem.Calls PySem.W.X
namespace Mine
noncomputable section
section
variable {prog : Program} {w : World} {A : Around} {s : Shared} {R : Result → Shared → Prop}
theorem call_fullC {name : Str} {params : Arguments} {body : List Stmt} {scope : Scope}
    {dV kV pm cd doc : Value} {a : Addr} {o : Obj} {args : Args} {binds : List (Str × Value)}
    (hroom : A.depth < recursionLimit) (ho : s.heap.get? a = some o) (hdata : o.data = .func { docDef name params body scope pm cd doc with defaults := dV, kwdefaults := kV }) (hlim : s.heap.NoLimit) (hcd : s.heap.CodeRec cd name)
    (hbind : BindsTo s { docDef name params body scope pm cd doc with defaults := dV, kwdefaults := kV } args binds)
    (hloc : ∀ x ∈ binds, scope.names.lookup x.1 = some .local)
    (h : ∀ h₁, Fr s.heap s.heap.objs.size h₁ (fun x => binds.reverse.lookup x) →
      wpC (model prog w) (A.deeper (envOf name scope s.heap.objs.size a cd)) (execs body (envOf name scope s.heap.objs.size a cd))
        (fun f s' => R (.ok (.ret (match f with | .ret v => v | _ => .none))) s') (fun _ _ => False)
        { s with heap := h₁, toks := s.toks + binds.length })
    (hco : scope.isCoroutine = false := by rfl) (hgen : scope.isGenerator = false := by rfl) (hk : scope.kind = .function := by rfl)
    (hcell : ∀ x ∈ scope.names, x.2 ≠ .cell := by decide) :
    codeC (model prog w) A (.call (.ref a) args) R s :=
  codeC_call_def hroom ho hdata hlim hcd rfl hbind hcell hloc (fun h₁ hns hkeep => h h₁ ⟨hns, hkeep, Nat.le_refl _⟩) hco hgen hk
theorem enter_C {M : Model} {f : Value} {pos : List Value} {kw : List (Str × Value)} {c : ClaimW} {cl : Str → Option Addr} {mean : ExcName → Option Value} {args : List WData} {s₁ : Shared}
    (h : codeC M A (.call f ⟨pos, kw⟩) (fun r s' => match r with | .ok (.ret v) => GoodW c cl mean args s₁ (.ok (.ret v)) s' | _ => False) s) : wpC M A (PySem.call f pos kw) (fun v s' => GoodWG c cl mean args s₁ (.ok (.ret v)) s') (fun _ _ => False) s := by
  refine wpC_call (codeC_mono h fun res s' g => ?_)
  cases res with
  | ok fl =>
    cases fl with
    | ret v => exact GoodW.toG g
    | _ => exact g
  | error e => exact g
end
section
variable {prog : Program} {w : World} {A : Around} {s : Shared} {E : Value → Shared → Prop} {env : Env} {h₀ : Heap} {x : Str} {body : List Stmt} {Q : Flow → Shared → Prop}
noncomputable def RngEnd (h₀ : Heap) (L : Addr) (m : Str → Option Value) (news : List (Addr × Obj)) (n : Nat) (s : Shared) (v : Value) (s₁ : Shared) : Prop :=
  ∃ r b t₀ u₀ v₀ hh tk, v = .ref r ∧ s₁ = { s with heap := hh, toks := tk } ∧ IsRange hh r 0 b 1 t₀ u₀ v₀ ∧ Builtin.Range.small 0 b 1 = true ∧ Builtin.Range.rangeSize 0 b 1 = (n : Int) ∧ Fr h₀ L hh m ∧ News h₀ L hh news
theorem for_range_D {σ : Type} {px pos : Pos} {iter : Expr} {m₀ : Str → Option Value} {news : List (Addr × Obj)} (n : Nat) (F : Fr h₀ env.locals s.heap m₀) (N : News h₀ env.locals s.heap news) (ps : σ → List (Str × Value)) (stored : List Str) (P : Nat → σ → Prop) (c₀ : σ)
    (hx : env.kindOf x = some .local) (hp : (env.scope.kind == .class || (env.scope.kind == .module && env.locals != env.globals)) = false) (hh : A.handled = none)
    (h : wpAny (model prog w) A (eval iter env) (RngEnd h₀ env.locals m₀ news n s) E s)
    (hk : ∀ p ∈ ps c₀, m₀ p.1 = some p.2) (hp0 : P 0 c₀)
    (turn : ∀ (I : Nat) (o : Obj) (c : σ) (i : Nat) t (u : Str → Option Value) h tk, i < n → (∀ p ∈ news, @Ne Nat p.1 I) → P i c →
      Fr h₀ env.locals h (fun y => if y = x then some (.int (i : Int) t) else kstB (fun z => if stored.contains z then u z else m₀ z) (ps c) y) → News h₀ env.locals h ((I, o) :: news) →
      wpC (model prog w) A (execs body env) (fun f s₂ => match f with
        | .next => FreeEnd h₀ env.locals I [(I, o)] (fun _ => news) ps x stored m₀ (P (i + 1)) { s with heap := h, toks := tk } s₂
        | .ret v => Q (.ret v) s₂
        | _ => False) (fun _ _ => False) { s with heap := h, toks := tk })
    (done : ∀ (c : σ) (u : Str → Option Value) h tk, P n c → Fr h₀ env.locals h (fun y => if y = x then u y else kstB (fun z => if stored.contains z then u z else m₀ z) (ps c) y) → News h₀ env.locals h news → Q .next { s with heap := h, toks := tk })
    (hs : ∀ v, foldedSetIterable iter env v = pure v := by kmk_pure) : wpC (model prog w) A (exec (.For (.Name x px) iter body [] pos) env) Q E s :=
  for_range_C m₀ news ps stored P c₀ hx hp hh h hk hp0 turn done hs
noncomputable def IfEnd (h₀ : Heap) (L : Addr) (m₀ : Str → Option Value) (news : List (Addr × Obj)) (k : Str) (V : Tok → Value) (s : Shared) (f : Flow) (s' : Shared) : Prop :=
  f = .next ∧ ∃ h tk t, s' = { s with heap := h, toks := tk } ∧ Fr h₀ L h (fun z => if z = k then some (V t) else m₀ z) ∧ News h₀ L h news
theorem if_line {L : Addr} {m₀ : Str → Option Value} {news : List (Addr × Obj)} {st : Stmt} {rest : List Stmt} (F : Fr h₀ L s.heap m₀) (N : News h₀ L s.heap news) (k : Str) (V : Tok → Value)
    (h1 : wpC (model prog w) A (exec st env) (IfEnd h₀ L m₀ news k V s) E s)
    (h2 : ∀ h tk t, Fr h₀ L h (fun z => if z = k then some (V t) else m₀ z) → News h₀ L h news → wpC (model prog w) A (execs rest env) Q E { s with heap := h, toks := tk }) : wpC (model prog w) A (execs (st :: rest) env) Q E s := by
  refine execs_C (wpC_mono h1 (fun f s' q => ?_) fun _ _ e => e)
  obtain ⟨rfl, h, tk, t, rfl, F', N'⟩ := q
  exact h2 h tk t F' N'
theorem figs_pos {N n : Nat} (hN : N = 3 ∨ N = 4) : 0 < (figsOf N n).length := by
  rcases hN with rfl | rfl
  · show 0 < 2; decide
  · show 0 < 3; decide
theorem sum_ones : ∀ (l : List Nat), (l.map fun _ => 1).sum = l.length
  | [] => rfl
  | a :: l => by rw [List.map_cons, List.sum_cons, sum_ones l, List.length_cons]; omega
theorem Fr.same {L : Addr} {h : Heap} {m m' : Str → Option Value} (F : Fr h₀ L h m) (e : ∀ z, m z = m' z) : Fr h₀ L h m' := (funext e : m = m') ▸ F
end
structure Boxed (P : Prop) : Prop where
  out : P
noncomputable def law_split : (P : Prop) ×' (Boxed P → PySem.Challenge.rw_qw0075_02.Holds) := by
  refine' ⟨_, fun hT => law_said fun said => left fun hl => law_of hl said (by rfl) (by rfl) (by rfl) ?walk⟩
  case walk =>
  clear hl said
  k_with_none
  k_with "subscriptTail Name Slice bytes ref" => (k_here; (rename Fr _ _ _ _ => qFz); (rename News _ _ _ _ => qNz); k_dflt (first | refine by_take (s := ⟨_, _, _, _, _⟩) qFz qNz (by omega) (by assumption) ?_ | refine by_drop (s := ⟨_, _, _, _, _⟩) qFz qNz (by omega) (by assumption) ?_); clear qFz qNz; intro h9z t9z k9z F9z N9z)
  k_with "binaryOp Add bytes bytes" => (k_here; k_dflt (refine KBy.add_bytes (by simp only [List.size_toArray, List.length_reverse, List.length_take, List.length_drop]; omega) ?_); intro t9z k9z)
  k_with "eval ListComp" => (k_here; k_dflt (refine ListComp_W (by assumption) (by with_unfolding_all rfl) (by decide) (by rfl) (by decide) (by rfl) ?_))
  k_with "compareOp NotEq ref ref" => (k_here; (rename News _ _ _ _ => rNz); k_dflt (refine' same_words ?hu (News.isList rNz ?m1) (News.isList rNz ?m2) ?w1 ?w2 ?_; (case w1 => assumption); (case w2 => assumption); (case m1 => k_mem); (case m2 => k_mem); (case hu => exact Nat.le_of_ble_eq_true rfl)))
  k_fill
  intro w s₀ s₁ mg mb G Y fa o pm cd doc dV kV ho hd hcd hD hmg hg args vals as hpre hlay hrd hwl hlo
  have KX := kIn_of Y
  have X := (Ground.X G).1
  have V := (Ground.X G).2
  refine Ground.open G ?_
  intro T B D TE TW
  try (refine guard_noD D (by decide +kernel) ?_; clear D)
  wrow_args hpre hlay hrd hwl hlo
  refine enter_C ?_
  have K0 : Below callerA s₁.heap [] s₁.heap := below_caller _
  have he := Dflts.none hD rfl; subst he
  refine call_fullC (by decide) ho hd (Top.nolimit T) hcd (BindsTo.of_eq rfl) (locs rfl) fun h₁ F => ?_
  w_binds F
  have N0 := (News.nil : News _ _ _ []).at F
  clear hd hD hcd ho G Y X V B TE TW hmg
  dsimp only at F N0 ⊢
  (try k_fold)
  rename (¬ (_ : Int) < _) => hcnd
  rename IntsAre _ _ => hI
  rename Heap.IsList s₁.heap _ _ => hL
  rename List Int => ns
  have hn63 : Hold (ns.length ≤ 63) := by
    show ns.length ≤ 63
    omega
  clear hcnd
  rename_i y0_0 _ y0_1 _ _ z0_2 z0_3 z0_4 z0_5 z0_6 y0_7 y0_8 y0_9 y0_10 _
  revert hg KX T y0_0 y0_1 hL y0_7 y0_8 y0_9 hI y0_10 K0 F N0 hn63
  revert w s₀ s₁ mg mb fa cd ns z0_2 z0_3 z0_4 z0_5 z0_6 h₁
  refine id ?_
  refine' (let rec cy0 : Pk12 _ := pk12 (by repeat' first | exact ne_world | exact ne_cx | exact ne_shared | exact ne_around | exact ⟨default⟩ | refine ne_prod ?_ ?_) _; Pk12.use cy0 ?_)
  generalize cy0.1.1 = w
  generalize cy0.1.2.1 = s₀
  generalize cy0.1.2.2.1 = s₁
  generalize cy0.1.2.2.2.1 = mg
  generalize cy0.1.2.2.2.2.1 = mb
  generalize cy0.1.2.2.2.2.2.1 = fa
  generalize cy0.1.2.2.2.2.2.2.1 = cd
  generalize cy0.1.2.2.2.2.2.2.2.1 = ns
  generalize cy0.1.2.2.2.2.2.2.2.2.1 = z0_2
  generalize cy0.1.2.2.2.2.2.2.2.2.2.1 = z0_3
  generalize cy0.1.2.2.2.2.2.2.2.2.2.2.1 = z0_4
  generalize cy0.1.2.2.2.2.2.2.2.2.2.2.2 = z0_5
  clear cy0
  refine id ?_
  refine' (let rec cy0_1 : Pk2 _ := pk2 (by repeat' first | exact ne_world | exact ne_cx | exact ne_shared | exact ne_around | exact ⟨default⟩ | refine ne_prod ?_ ?_) _; Pk2.use cy0_1 ?_)
  generalize cy0_1.1.1 = z0_6
  generalize cy0_1.1.2 = h₁
  clear cy0_1
  intro hg KX T y0_0 y0_1 hL y0_7 y0_8 y0_9 hI y0_10 K0 F N0 hn63
  refine execs_A ?_
  k_with "call ref" => (
    with_reducible show wpAny _ _ (call (Value.ref 852) _) _ _ _
    k_dflt (
      (refine' c_words w _ _ _ _ hI hn63 _ _ _ _ _ _ _ _ _ _ _ _ _ _ _ _ _ _ _ _ _ _ ?k1 ?k2 ?k3 ?k4 ?k5 ?kk ?kd ?ku ?kl ?_)
      case k1 => exact K0
      case k2 => k_asm
      case k3 => k_asm
      case k4 => k_asm
      case k5 => k_asm
      case kk => exact rfl
      case kd => exact (by decide)
      case ku => exact (by decide)
      case kl => exact hL
      intro v9 n9 h9 tk9 hR F9 N9
      obtain ⟨lw, ws9, kw, e8, hws, e9⟩ := hR
      subst e8 e9
      (try dsimp only)
      (try k_fold)))
  k_steps
  have hwl : (wordsOf ns).length = 3 ∨ (wordsOf ns).length = 4 := words_len ns
  have hgood := words_good ns
  have hsmall := words_small ns
  have hw4 : Hold ((wordsOf ns).length ≤ 4) := by
    show (wordsOf ns).length ≤ 4
    omega
  have hw2 : ∀ x ∈ wordsOf ns, x.length = 2 := fun x hx => (hgood x hx).1
  generalize hws0 : wordsOf ns = ws at *
  clear hws0
  rename_i z1_0 y1_1 y1_2
  revert y1_1 y1_2 hws hwl hgood hsmall hw4 hw2
  revert tk9 lw ws9 kw z1_0 ws
  refine id ?_
  refine' (let rec cy1 : Pk6 _ := pk6 (by repeat' first | exact ne_world | exact ne_cx | exact ne_shared | exact ne_around | exact ⟨default⟩ | refine ne_prod ?_ ?_) _; Pk6.use cy1 ?_)
  generalize cy1.1.1 = tk9
  generalize cy1.1.2.1 = lw
  generalize cy1.1.2.2.1 = ws9
  generalize cy1.1.2.2.2.1 = kw
  generalize cy1.1.2.2.2.2.1 = z1_0
  generalize cy1.1.2.2.2.2.2 = ws
  clear cy1
  intro y1_1 y1_2 hws hwl hgood hsmall hw4 hw2
  refine execs_A ?_
  k_with_none
  k_with "subscriptTail Name Slice bytes ref" => (k_here; (rename Fr _ _ _ _ => qFz); (rename News _ _ _ _ => qNz); k_dflt (first | refine by_take (s := ⟨_, _, _, _, _⟩) qFz qNz (by omega) (by assumption) ?_ | refine by_drop (s := ⟨_, _, _, _, _⟩) qFz qNz (by omega) (by assumption) ?_); clear qFz qNz; intro h9z t9z k9z F9z N9z)
  k_with "binaryOp Add bytes bytes" => (k_here; k_dflt (refine KBy.add_bytes (by simp only [List.size_toArray, List.length_reverse, List.length_take, List.length_drop]; omega) ?_); intro t9z k9z)
  k_with "eval ListComp" => (k_here; k_dflt (refine ListComp_W (by assumption) (by with_unfolding_all rfl) (by decide) (by rfl) (by decide) (by rfl) ?_))
  k_with "compareOp NotEq ref ref" => (k_here; (rename News _ _ _ _ => rNz); k_dflt (refine' same_words ?hu (News.isList rNz ?m1) (News.isList rNz ?m2) ?w1 ?w2 ?_; (case w1 => assumption); (case w2 => assumption); (case m1 => k_mem); (case m2 => k_mem); (case hu => exact Nat.le_of_ble_eq_true rfl)))
  k_with "call ref" => (
    with_reducible show wpAny _ _ (call (Value.ref 857) _) _ _ _
    k_dflt (
      (refine' Ctr.use ?k1 ?k2 ?k3 ?k4 ?k5 ?kk (c_line w _ lw ws9 ws kw hws hw4 hw2 hsmall ?hm) ?kd ?ku ?_)
      case k1 => exact K0
      case k2 => k_asm
      case k3 => k_asm
      case k4 => k_asm
      case k5 => k_asm
      case kk => exact rfl
      case kd => exact (by decide)
      case ku => exact (by decide)
      case hm => k_mem
      intro v9 n9 h9 tk9 hR F9 N9
      obtain ⟨⟨tl9, e8⟩, e9⟩ := hR; subst e8 e9
      (try dsimp only)
      (try k_fold)))
  k_steps
  refine execs_A ?_
  k_with_none
  k_with "subscriptTail Name Slice bytes ref" => (k_here; (rename Fr _ _ _ _ => qFz); (rename News _ _ _ _ => qNz); k_dflt (first | refine by_take (s := ⟨_, _, _, _, _⟩) qFz qNz (by omega) (by assumption) ?_ | refine by_drop (s := ⟨_, _, _, _, _⟩) qFz qNz (by omega) (by assumption) ?_); clear qFz qNz; intro h9z t9z k9z F9z N9z)
  k_with "binaryOp Add bytes bytes" => (k_here; k_dflt (refine KBy.add_bytes (by simp only [List.size_toArray, List.length_reverse, List.length_take, List.length_drop]; omega) ?_); intro t9z k9z)
  k_with "eval ListComp" => (k_here; k_dflt (refine ListComp_W (by assumption) (by with_unfolding_all rfl) (by decide) (by rfl) (by decide) (by rfl) ?_))
  k_with "compareOp NotEq ref ref" => (k_here; (rename News _ _ _ _ => rNz); k_dflt (refine' same_words ?hu (News.isList rNz ?m1) (News.isList rNz ?m2) ?w1 ?w2 ?_; (case w1 => assumption); (case w2 => assumption); (case m1 => k_mem); (case m2 => k_mem); (case hu => exact Nat.le_of_ble_eq_true rfl)))
  k_with "call builtin:len" => (k_dflt (rename News _ _ _ _ => qN; refine len_made ws.length (News.isList qN (by k_mem)) (Tx.length hws) (by unfold Hold at hw4; omega) ?_))
  k_with "call ref" => (
    with_reducible show wpAny _ _ (call (Value.ref 869) _) _ _ _
    k_dflt (
      (refine' Ctr.use ?k1 ?k2 ?k3 ?k4 ?k5 ?kk (c_leafN w _ ws.length 0 hwl (by decide) _ _) ?kd ?ku ?_)
      case k1 => exact K0
      case k2 => k_asm
      case k3 => k_asm
      case k4 => k_asm
      case k5 => k_asm
      case kk => exact rfl
      case kd => exact (by decide)
      case ku => exact (by decide)
      intro v9 n9 h9 tk9 hR F9 N9
      obtain ⟨⟨tl8, e8⟩, e9⟩ := hR; subst e8 e9
      (try dsimp only)
      (try k_fold)))
  k_steps
  have hps : Hold (((6 : Int) + ns.sum.fmod 9).toNat ≤ 14) := by
    show ((6 : Int) + ns.sum.fmod 9).toNat ≤ 14
    rw [Int.fmod_eq_emod_of_nonneg _ (by decide)]
    omega
  have hb9 : (6 : Int) + ns.sum.fmod 9 = ((((6 : Int) + ns.sum.fmod 9).toNat : Nat) : Int) := by
    rw [Int.fmod_eq_emod_of_nonneg _ (by decide)]
    omega
  rename Fr s₁.heap _ _ _ => lF
  rename News s₁.heap _ _ _ => lN
  refine execs_C (for_range_D (σ := Nat × Tok × Tok) ((6 : Int) + ns.sum.fmod 9).toNat lF lN (fun c => [("line", .bytes (octs (lineOf (arrAt ws.length ws c.1))).toArray c.2.1), ("leaf", .str (leafOf ws.length c.1) c.2.2)]) ["goal", "shared", "many"] (fun i c => c.1 = i - 1) (0, tl9, tl8) (by rfl) (by rfl) (by exact rfl) ?_ ?_ rfl ?_ ?_)
  · k_with_none
    k_with "RngEnd" => refine Hold.out ?_
    k_steps
    unfold Hold
    rename IsRange _ _ _ _ _ _ _ _ => rgX
    rename Fr s₁.heap _ _ _ => qF
    rename News s₁.heap _ _ _ => qN
    have hn9 : ((6 : Int) + ns.sum.fmod 9).toNat ≤ 14 := hps
    rw [hb9] at rgX
    generalize ((6 : Int) + ns.sum.fmod 9).toNat = n9 at rgX hn9 ⊢
    exact ⟨_, _, _, _, _, _, _, rfl, rfl, rgX, small_one (by decide) (by decide) (by omega) (by omega), by rw [rangeSize_nat]; omega, qF, qN⟩
  · intro p hp
    rcases List.mem_cons.mp hp with rfl | hp
    · rfl
    · rw [List.mem_singleton.mp hp]
      rfl
  · clear lF lN
    intro I9 o9 c i t9 u9 h9 tk9 hi9 hI9 hP9 F9 N9
    obtain ⟨c0, tl, tf⟩ := c
    have hP9 : c0 = i - 1 := hP9
    subst hP9
    have hi : i < 14 := Nat.lt_of_lt_of_le hi9 hps
    dsimp only [kstB] at F9
    rename_i z2_0 z2_1
    clear hi9 hb9 hps hP9 y0_0 y0_1 hL y0_7 y0_8 y0_9 hI y0_10 hn63
    revert hg KX T K0 hws hwl hgood hsmall hw4 hw2 hI9 N9 F9 hi
    revert w s₀ s₁ mg mb fa cd ns z0_4 lw ws9 kw ws tl9 z2_0 tl8 z2_1 I9 o9 i t9 u9 h9 tk9 tl tf
    exact hT.out
  · clear lF lN
    intro c u9 h9 tk9 hP9 F9 N9
    k_with_none
    k_with "subscriptTail Name Slice bytes ref" => (k_here; (rename Fr _ _ _ _ => qFz); (rename News _ _ _ _ => qNz); k_dflt (first | refine by_take (s := ⟨_, _, _, _, _⟩) qFz qNz (by omega) (by assumption) ?_ | refine by_drop (s := ⟨_, _, _, _, _⟩) qFz qNz (by omega) (by assumption) ?_); clear qFz qNz; intro h9z t9z k9z F9z N9z)
    k_with "binaryOp Add bytes bytes" => (k_here; k_dflt (refine KBy.add_bytes (by simp only [List.size_toArray, List.length_reverse, List.length_take, List.length_drop]; omega) ?_); intro t9z k9z)
    k_with "eval ListComp" => (k_here; k_dflt (refine ListComp_W (by assumption) (by with_unfolding_all rfl) (by decide) (by rfl) (by decide) (by rfl) ?_))
    k_with "compareOp NotEq ref ref" => (k_here; (rename News _ _ _ _ => rNz); k_dflt (refine' same_words ?hu (News.isList rNz ?m1) (News.isList rNz ?m2) ?w1 ?w2 ?_; (case w1 => assumption); (case w2 => assumption); (case m1 => k_mem); (case m2 => k_mem); (case hu => exact Nat.le_of_ble_eq_true rfl)))
    dsimp only
    refine execs_A ?_
    k_steps
end
end Mine
end ST40
section ST41
open PySem PySem.W PyProof.Rows PySem.Calls PySem.W.X
namespace Mine
noncomputable section
noncomputable def Pk26 {α1 α2 α3 α4 α5 α6 α7 α8 α9 α10 α11 α12 α13 α14 α15 α16 α17 α18 α19 α20 α21 α22 α23 α24 α25 α26 : Type} (P : α1 → α2 → α3 → α4 → α5 → α6 → α7 → α8 → α9 → α10 → α11 → α12 → α13 → α14 → α15 → α16 → α17 → α18 → α19 → α20 → α21 → α22 → α23 → α24 → α25 → α26 → Prop) : Type := { q : α1 × α2 × α3 × α4 × α5 × α6 × α7 × α8 × α9 × α10 × α11 × α12 × α13 × α14 × α15 × α16 × α17 × α18 × α19 × α20 × α21 × α22 × α23 × α24 × α25 × α26 // P q.1 q.2.1 q.2.2.1 q.2.2.2.1 q.2.2.2.2.1 q.2.2.2.2.2.1 q.2.2.2.2.2.2.1 q.2.2.2.2.2.2.2.1 q.2.2.2.2.2.2.2.2.1 q.2.2.2.2.2.2.2.2.2.1 q.2.2.2.2.2.2.2.2.2.2.1 q.2.2.2.2.2.2.2.2.2.2.2.1 q.2.2.2.2.2.2.2.2.2.2.2.2.1 q.2.2.2.2.2.2.2.2.2.2.2.2.2.1 q.2.2.2.2.2.2.2.2.2.2.2.2.2.2.1 q.2.2.2.2.2.2.2.2.2.2.2.2.2.2.2.1 q.2.2.2.2.2.2.2.2.2.2.2.2.2.2.2.2.1 q.2.2.2.2.2.2.2.2.2.2.2.2.2.2.2.2.2.1 q.2.2.2.2.2.2.2.2.2.2.2.2.2.2.2.2.2.2.1 q.2.2.2.2.2.2.2.2.2.2.2.2.2.2.2.2.2.2.2.1 q.2.2.2.2.2.2.2.2.2.2.2.2.2.2.2.2.2.2.2.2.1 q.2.2.2.2.2.2.2.2.2.2.2.2.2.2.2.2.2.2.2.2.2.1 q.2.2.2.2.2.2.2.2.2.2.2.2.2.2.2.2.2.2.2.2.2.2.1 q.2.2.2.2.2.2.2.2.2.2.2.2.2.2.2.2.2.2.2.2.2.2.2.1 q.2.2.2.2.2.2.2.2.2.2.2.2.2.2.2.2.2.2.2.2.2.2.2.2.1 q.2.2.2.2.2.2.2.2.2.2.2.2.2.2.2.2.2.2.2.2.2.2.2.2.2 → ∀ a : α1 × α2 × α3 × α4 × α5 × α6 × α7 × α8 × α9 × α10 × α11 × α12 × α13 × α14 × α15 × α16 × α17 × α18 × α19 × α20 × α21 × α22 × α23 × α24 × α25 × α26, P a.1 a.2.1 a.2.2.1 a.2.2.2.1 a.2.2.2.2.1 a.2.2.2.2.2.1 a.2.2.2.2.2.2.1 a.2.2.2.2.2.2.2.1 a.2.2.2.2.2.2.2.2.1 a.2.2.2.2.2.2.2.2.2.1 a.2.2.2.2.2.2.2.2.2.2.1 a.2.2.2.2.2.2.2.2.2.2.2.1 a.2.2.2.2.2.2.2.2.2.2.2.2.1 a.2.2.2.2.2.2.2.2.2.2.2.2.2.1 a.2.2.2.2.2.2.2.2.2.2.2.2.2.2.1 a.2.2.2.2.2.2.2.2.2.2.2.2.2.2.2.1 a.2.2.2.2.2.2.2.2.2.2.2.2.2.2.2.2.1 a.2.2.2.2.2.2.2.2.2.2.2.2.2.2.2.2.2.1 a.2.2.2.2.2.2.2.2.2.2.2.2.2.2.2.2.2.2.1 a.2.2.2.2.2.2.2.2.2.2.2.2.2.2.2.2.2.2.2.1 a.2.2.2.2.2.2.2.2.2.2.2.2.2.2.2.2.2.2.2.2.1 a.2.2.2.2.2.2.2.2.2.2.2.2.2.2.2.2.2.2.2.2.2.1 a.2.2.2.2.2.2.2.2.2.2.2.2.2.2.2.2.2.2.2.2.2.2.1 a.2.2.2.2.2.2.2.2.2.2.2.2.2.2.2.2.2.2.2.2.2.2.2.1 a.2.2.2.2.2.2.2.2.2.2.2.2.2.2.2.2.2.2.2.2.2.2.2.2.1 a.2.2.2.2.2.2.2.2.2.2.2.2.2.2.2.2.2.2.2.2.2.2.2.2.2 }
noncomputable def pk26 {α1 α2 α3 α4 α5 α6 α7 α8 α9 α10 α11 α12 α13 α14 α15 α16 α17 α18 α19 α20 α21 α22 α23 α24 α25 α26 : Type} (h : Nonempty (α1 × α2 × α3 × α4 × α5 × α6 × α7 × α8 × α9 × α10 × α11 × α12 × α13 × α14 × α15 × α16 × α17 × α18 × α19 × α20 × α21 × α22 × α23 × α24 × α25 × α26)) (P : α1 → α2 → α3 → α4 → α5 → α6 → α7 → α8 → α9 → α10 → α11 → α12 → α13 → α14 → α15 → α16 → α17 → α18 → α19 → α20 → α21 → α22 → α23 → α24 → α25 → α26 → Prop) : Pk26 P := wit h fun q => P q.1 q.2.1 q.2.2.1 q.2.2.2.1 q.2.2.2.2.1 q.2.2.2.2.2.1 q.2.2.2.2.2.2.1 q.2.2.2.2.2.2.2.1 q.2.2.2.2.2.2.2.2.1 q.2.2.2.2.2.2.2.2.2.1 q.2.2.2.2.2.2.2.2.2.2.1 q.2.2.2.2.2.2.2.2.2.2.2.1 q.2.2.2.2.2.2.2.2.2.2.2.2.1 q.2.2.2.2.2.2.2.2.2.2.2.2.2.1 q.2.2.2.2.2.2.2.2.2.2.2.2.2.2.1 q.2.2.2.2.2.2.2.2.2.2.2.2.2.2.2.1 q.2.2.2.2.2.2.2.2.2.2.2.2.2.2.2.2.1 q.2.2.2.2.2.2.2.2.2.2.2.2.2.2.2.2.2.1 q.2.2.2.2.2.2.2.2.2.2.2.2.2.2.2.2.2.2.1 q.2.2.2.2.2.2.2.2.2.2.2.2.2.2.2.2.2.2.2.1 q.2.2.2.2.2.2.2.2.2.2.2.2.2.2.2.2.2.2.2.2.1 q.2.2.2.2.2.2.2.2.2.2.2.2.2.2.2.2.2.2.2.2.2.1 q.2.2.2.2.2.2.2.2.2.2.2.2.2.2.2.2.2.2.2.2.2.2.1 q.2.2.2.2.2.2.2.2.2.2.2.2.2.2.2.2.2.2.2.2.2.2.2.1 q.2.2.2.2.2.2.2.2.2.2.2.2.2.2.2.2.2.2.2.2.2.2.2.2.1 q.2.2.2.2.2.2.2.2.2.2.2.2.2.2.2.2.2.2.2.2.2.2.2.2.2
theorem Pk26.use {α1 α2 α3 α4 α5 α6 α7 α8 α9 α10 α11 α12 α13 α14 α15 α16 α17 α18 α19 α20 α21 α22 α23 α24 α25 α26 : Type} {P : α1 → α2 → α3 → α4 → α5 → α6 → α7 → α8 → α9 → α10 → α11 → α12 → α13 → α14 → α15 → α16 → α17 → α18 → α19 → α20 → α21 → α22 → α23 → α24 → α25 → α26 → Prop} (c : Pk26 P) (h : P c.1.1 c.1.2.1 c.1.2.2.1 c.1.2.2.2.1 c.1.2.2.2.2.1 c.1.2.2.2.2.2.1 c.1.2.2.2.2.2.2.1 c.1.2.2.2.2.2.2.2.1 c.1.2.2.2.2.2.2.2.2.1 c.1.2.2.2.2.2.2.2.2.2.1 c.1.2.2.2.2.2.2.2.2.2.2.1 c.1.2.2.2.2.2.2.2.2.2.2.2.1 c.1.2.2.2.2.2.2.2.2.2.2.2.2.1 c.1.2.2.2.2.2.2.2.2.2.2.2.2.2.1 c.1.2.2.2.2.2.2.2.2.2.2.2.2.2.2.1 c.1.2.2.2.2.2.2.2.2.2.2.2.2.2.2.2.1 c.1.2.2.2.2.2.2.2.2.2.2.2.2.2.2.2.2.1 c.1.2.2.2.2.2.2.2.2.2.2.2.2.2.2.2.2.2.1 c.1.2.2.2.2.2.2.2.2.2.2.2.2.2.2.2.2.2.2.1 c.1.2.2.2.2.2.2.2.2.2.2.2.2.2.2.2.2.2.2.2.1 c.1.2.2.2.2.2.2.2.2.2.2.2.2.2.2.2.2.2.2.2.2.1 c.1.2.2.2.2.2.2.2.2.2.2.2.2.2.2.2.2.2.2.2.2.2.1 c.1.2.2.2.2.2.2.2.2.2.2.2.2.2.2.2.2.2.2.2.2.2.2.1 c.1.2.2.2.2.2.2.2.2.2.2.2.2.2.2.2.2.2.2.2.2.2.2.2.1 c.1.2.2.2.2.2.2.2.2.2.2.2.2.2.2.2.2.2.2.2.2.2.2.2.2.1 c.1.2.2.2.2.2.2.2.2.2.2.2.2.2.2.2.2.2.2.2.2.2.2.2.2.2) : ∀ a0 a1 a2 a3 a4 a5 a6 a7 a8 a9 a10 a11 a12 a13 a14 a15 a16 a17 a18 a19 a20 a21 a22 a23 a24 a25, P a0 a1 a2 a3 a4 a5 a6 a7 a8 a9 a10 a11 a12 a13 a14 a15 a16 a17 a18 a19 a20 a21 a22 a23 a24 a25 := fun a0 a1 a2 a3 a4 a5 a6 a7 a8 a9 a10 a11 a12 a13 a14 a15 a16 a17 a18 a19 a20 a21 a22 a23 a24 a25 => c.2 h (a0, a1, a2, a3, a4, a5, a6, a7, a8, a9, a10, a11, a12, a13, a14, a15, a16, a17, a18, a19, a20, a21, a22, a23, a24, a25)
noncomputable def turn_split : (P : Prop) ×' (Boxed P → law_split.1) := by
  refine' ⟨_, fun hT => ?walk⟩
  case walk =>
  intro w s₀ s₁ mg mb fa cd ns z0_4 lw ws9 kw ws tl9 z2_0 tl8 z2_1 I9 o9 i t9 u9 h9 tk9 tl tf
  intro hg KX T K0 hws hwl hgood hsmall hw4 hw2 hI9 N9 F9 hi
  revert hg KX T K0 hws hwl hgood hsmall hw4 hw2 hI9 N9 F9 hi
  revert w s₀ s₁ mg mb fa cd ns z0_4 lw ws9 kw ws tl9 z2_0 tl8 z2_1 I9 o9 i t9 u9 h9 tk9 tl tf
  k_fill
  refine id ?_
  refine' (let rec cz0 : Pk26 _ := pk26 (by repeat' first | exact ne_world | exact ne_cx | exact ne_shared | exact ne_around | exact ⟨default⟩ | refine ne_prod ?_ ?_) _; Pk26.use cz0 ?_)
  generalize cz0.1.1 = w
  generalize cz0.1.2.1 = s₀
  generalize cz0.1.2.2.1 = s₁
  generalize cz0.1.2.2.2.1 = mg
  generalize cz0.1.2.2.2.2.1 = mb
  generalize cz0.1.2.2.2.2.2.1 = fa
  generalize cz0.1.2.2.2.2.2.2.1 = cd
  generalize cz0.1.2.2.2.2.2.2.2.1 = ns
  generalize cz0.1.2.2.2.2.2.2.2.2.1 = z0_4
  generalize cz0.1.2.2.2.2.2.2.2.2.2.1 = lw
  generalize cz0.1.2.2.2.2.2.2.2.2.2.2.1 = ws9
  generalize cz0.1.2.2.2.2.2.2.2.2.2.2.2.1 = kw
  generalize cz0.1.2.2.2.2.2.2.2.2.2.2.2.2.1 = ws
  generalize cz0.1.2.2.2.2.2.2.2.2.2.2.2.2.2.1 = tl9
  generalize cz0.1.2.2.2.2.2.2.2.2.2.2.2.2.2.2.1 = z2_0
  generalize cz0.1.2.2.2.2.2.2.2.2.2.2.2.2.2.2.2.1 = tl8
  generalize cz0.1.2.2.2.2.2.2.2.2.2.2.2.2.2.2.2.2.1 = z2_1
  generalize cz0.1.2.2.2.2.2.2.2.2.2.2.2.2.2.2.2.2.2.1 = I9
  generalize cz0.1.2.2.2.2.2.2.2.2.2.2.2.2.2.2.2.2.2.2.1 = o9
  generalize cz0.1.2.2.2.2.2.2.2.2.2.2.2.2.2.2.2.2.2.2.2.1 = i
  generalize cz0.1.2.2.2.2.2.2.2.2.2.2.2.2.2.2.2.2.2.2.2.2.1 = t9
  generalize cz0.1.2.2.2.2.2.2.2.2.2.2.2.2.2.2.2.2.2.2.2.2.2.1 = u9
  generalize cz0.1.2.2.2.2.2.2.2.2.2.2.2.2.2.2.2.2.2.2.2.2.2.2.1 = h9
  generalize cz0.1.2.2.2.2.2.2.2.2.2.2.2.2.2.2.2.2.2.2.2.2.2.2.2.1 = tk9
  generalize cz0.1.2.2.2.2.2.2.2.2.2.2.2.2.2.2.2.2.2.2.2.2.2.2.2.2.1 = tl
  generalize cz0.1.2.2.2.2.2.2.2.2.2.2.2.2.2.2.2.2.2.2.2.2.2.2.2.2.2 = tf
  clear cz0
  intro hg KX T K0 hws hwl hgood hsmall hw4 hw2 hI9 N9 F9 hi
  refine execs_A ?_
  k_with_none
  k_with "subscriptTail Name Slice bytes ref" => (k_here; (rename Fr _ _ _ _ => qFz); (rename News _ _ _ _ => qNz); k_dflt (first | refine by_take (s := ⟨_, _, _, _, _⟩) qFz qNz (by omega) (by assumption) ?_ | refine by_drop (s := ⟨_, _, _, _, _⟩) qFz qNz (by omega) (by assumption) ?_); clear qFz qNz; intro h9z t9z k9z F9z N9z)
  k_with "binaryOp Add bytes bytes" => (k_here; k_dflt (refine KBy.add_bytes (by simp only [List.size_toArray, List.length_reverse, List.length_take, List.length_drop]; omega) ?_); intro t9z k9z)
  k_with "eval ListComp" => (k_here; k_dflt (refine ListComp_W (by assumption) (by with_unfolding_all rfl) (by decide) (by rfl) (by decide) (by rfl) ?_))
  k_with "compareOp NotEq ref ref" => (k_here; (rename News _ _ _ _ => rNz); k_dflt (refine' same_words ?hu (News.isList rNz ?m1) (News.isList rNz ?m2) ?w1 ?w2 ?_; (case w1 => assumption); (case w2 => assumption); (case m1 => k_mem); (case m2 => k_mem); (case hu => exact Nat.le_of_ble_eq_true rfl)))
  k_with "call builtin:len" => (k_dflt (rename News _ _ _ _ => qN; refine len_made ws.length (News.isList qN (by k_mem)) (Tx.length hws) (by unfold Hold at hw4; omega) ?_))
  k_with "call ref" => (
    with_reducible show wpAny _ _ (call (Value.ref 869) _) _ _ _
    k_dflt (
      (refine' Ctr.use ?k1 ?k2 ?k3 ?k4 ?k5 ?kk (c_leafN w _ ws.length i hwl hi _ _) ?kd ?ku ?_)
      case k1 => exact K0
      case k2 => k_asm
      case k3 => k_asm
      case k4 => k_asm
      case k5 => k_asm
      case kk => exact rfl
      case kd => exact (by decide)
      case ku => exact (by decide)
      intro v9 n9 h9 tk9 hR F9 N9
      obtain ⟨⟨tg8, e8⟩, e9⟩ := hR; subst e8 e9
      (try dsimp only)
      (try k_fold)))
  k_steps
  refine execs_A ?_
  k_with_none
  k_with "subscriptTail Name Slice bytes ref" => (k_here; (rename Fr _ _ _ _ => qFz); (rename News _ _ _ _ => qNz); k_dflt (first | refine by_take (s := ⟨_, _, _, _, _⟩) qFz qNz (by omega) (by assumption) ?_ | refine by_drop (s := ⟨_, _, _, _, _⟩) qFz qNz (by omega) (by assumption) ?_); clear qFz qNz; intro h9z t9z k9z F9z N9z)
  k_with "binaryOp Add bytes bytes" => (k_here; k_dflt (refine KBy.add_bytes (by simp only [List.size_toArray, List.length_reverse, List.length_take, List.length_drop]; omega) ?_); intro t9z k9z)
  k_with "eval ListComp" => (k_here; k_dflt (refine ListComp_W (by assumption) (by with_unfolding_all rfl) (by decide) (by rfl) (by decide) (by rfl) ?_))
  k_with "compareOp NotEq ref ref" => (k_here; (rename News _ _ _ _ => rNz); k_dflt (refine' same_words ?hu (News.isList rNz ?m1) (News.isList rNz ?m2) ?w1 ?w2 ?_; (case w1 => assumption); (case w2 => assumption); (case m1 => k_mem); (case m2 => k_mem); (case hu => exact Nat.le_of_ble_eq_true rfl)))
  k_with "call ref" => (
    with_reducible show wpAny _ _ (call (Value.ref 152) _) _ _ _
    k_dflt (
      (refine' Ctr.use ?k1 ?k2 ?k3 ?k4 ?k5 ?kk (c_commonN w _ ws.length i hwl hi _ _ _ _ ?hm) ?kd ?ku ?_)
      case k1 => exact K0
      case k2 => k_asm
      case k3 => k_asm
      case k4 => k_asm
      case k5 => k_asm
      case kk => exact rfl
      case kd => exact (by decide)
      case ku => exact (by decide)
      case hm => k_mem
      intro v9 n9 h9 tk9 hR F9 N9
      obtain ⟨⟨ts8, e8⟩, e9⟩ := hR; subst e8 e9
      (try dsimp only)
      (try k_fold)))
  k_steps
  refine execs_A ?_
  k_with_none
  k_with "subscriptTail Name Slice bytes ref" => (k_here; (rename Fr _ _ _ _ => qFz); (rename News _ _ _ _ => qNz); k_dflt (first | refine by_take (s := ⟨_, _, _, _, _⟩) qFz qNz (by omega) (by assumption) ?_ | refine by_drop (s := ⟨_, _, _, _, _⟩) qFz qNz (by omega) (by assumption) ?_); clear qFz qNz; intro h9z t9z k9z F9z N9z)
  k_with "binaryOp Add bytes bytes" => (k_here; k_dflt (refine KBy.add_bytes (by simp only [List.size_toArray, List.length_reverse, List.length_take, List.length_drop]; omega) ?_); intro t9z k9z)
  k_with "eval ListComp" => (k_here; k_dflt (refine ListComp_W (by assumption) (by with_unfolding_all rfl) (by decide) (by rfl) (by decide) (by rfl) ?_))
  k_with "compareOp NotEq ref ref" => (k_here; (rename News _ _ _ _ => rNz); k_dflt (refine' same_words ?hu (News.isList rNz ?m1) (News.isList rNz ?m2) ?w1 ?w2 ?_; (case w1 => assumption); (case w2 => assumption); (case m1 => k_mem); (case m2 => k_mem); (case hu => exact Nat.le_of_ble_eq_true rfl)))
  k_steps
  refine execs_A ?_
  k_with "exec While" => refine Hold.out ?_
  k_steps
  unfold Hold
  have mI : i ∈ List.range 14 := List.mem_range.mpr hi
  have mN : ws.length ∈ [3, 4] := by rcases hwl with e | e <;> rw [e] <;> decide
  obtain ⟨up1, up2, up3, up4, mk1, mkN⟩ := up_ok _ mN i mI
  have hmk : manyOf ws.length i ≤ 4 := by omega
  clear mkN
  generalize hK : manyOf ws.length i = K at *
  rename Fr s₁.heap _ _ _ => lF
  rename News s₁.heap _ _ _ => lN
  refine' ksw_while (σ := Nat × Tok × Tok) (fun _ => _) (fun c => [("leaf", .str (upOf (leafOf ws.length (i - 1)) c.1) c.2.1), ("many", .int ((c.1 : Int) + 1) c.2.2)]) (fun _ => True) [] (fun c => c.1 ≤ K - 1) (fun c => K - 1 - c.1) (0, tf, _) lF lN trivial ?kk ?kp ?_
  case kk => (intro q hq; rcases List.mem_cons.mp hq with rfl | hq; rfl; rw [List.mem_singleton.mp hq]; rfl)
  case kp => exact Nat.zero_le _
  clear lF lN
  intro c9 u8 h8 tk8 hT8 hP8 F8 N8
  obtain ⟨j, tj, tm⟩ := c9
  have hj : j ≤ K - 1 := hP8
  clear hP8 hT8
  dsimp only [kstB] at F8 N8
  have hlen9 : (upOf (leafOf ws.length (i - 1)) j).length < 1000 := up3 j (List.mem_range.mpr (by omega))
  k_with_none
  k_with "subscriptTail Name Slice bytes ref" => (k_here; (rename Fr _ _ _ _ => qFz); (rename News _ _ _ _ => qNz); k_dflt (first | refine by_take (s := ⟨_, _, _, _, _⟩) qFz qNz (by omega) (by assumption) ?_ | refine by_drop (s := ⟨_, _, _, _, _⟩) qFz qNz (by omega) (by assumption) ?_); clear qFz qNz; intro h9z t9z k9z F9z N9z)
  k_with "binaryOp Add bytes bytes" => (k_here; k_dflt (refine KBy.add_bytes (by simp only [List.size_toArray, List.length_reverse, List.length_take, List.length_drop]; omega) ?_); intro t9z k9z)
  k_with "eval ListComp" => (k_here; k_dflt (refine ListComp_W (by assumption) (by with_unfolding_all rfl) (by decide) (by rfl) (by decide) (by rfl) ?_))
  k_with "compareOp NotEq ref ref" => (k_here; (rename News _ _ _ _ => rNz); k_dflt (refine' same_words ?hu (News.isList rNz ?m1) (News.isList rNz ?m2) ?w1 ?w2 ?_; (case w1 => assumption); (case w2 => assumption); (case m1 => k_mem); (case m2 => k_mem); (case hu => exact Nat.le_of_ble_eq_true rfl)))
  k_with "call ref" => (
    with_reducible show wpAny _ _ (call (Value.ref 147) _) _ _ _
    k_dflt (
      (refine' Ctr.use ?k1 ?k2 ?k3 ?k4 ?k5 ?kk (c_dirname w _ _ _ ?hx) ?kd ?ku ?_)
      case k1 => exact K0
      case k2 => k_asm
      case k3 => k_asm
      case k4 => k_asm
      case k5 => k_asm
      case kk => exact rfl
      case kd => exact (by decide)
      case ku => exact (by decide)
      case hx => exact hlen9
      intro v9 n9 h9 tk9 hR F9 N9
      obtain ⟨⟨td8, e8⟩, e9⟩ := hR; subst e8 e9
      (try dsimp only)
      (try k_fold)))
  rcases Nat.lt_or_eq_of_le hj with hj9 | hj9
  · have hne9 : (upOf (leafOf ws.length (i - 1)) j != sharedOf ws.length i) = true := up2 j (List.mem_range.mpr hj9)
    k_with "KswEnd" => refine Hold.out ?_
    k_steps
    unfold Hold
    rename Fr s₁.heap _ _ _ => nF
    rename News s₁.heap _ _ _ => nN
    refine' ksw_end (j + 1, _, _) nF nN (fun q hq => hq) trivial ?kk ?hr (Nat.succ_le_of_lt hj9) (show K - 1 - (j + 1) < K - 1 - j by omega)
    case hr =>
      intro z h2 h3
      have z1 : z ≠ "leaf" := h2 _ (.head _)
      have z2 : z ≠ "many" := h2 _ (.tail _ (.head _))
      first
        | rfl
        | (simp [z1, z2]; done)
    case kk =>
      intro q hq
      rcases List.mem_cons.mp hq with rfl | hq
      · rfl
      · rw [List.mem_singleton.mp hq]
        show some (Value.int ((j : Int) + 1 + 1) _) = some (Value.int (((j + 1 : Nat) : Int) + 1) _)
        rw [show (((j + 1 : Nat) : Int) + 1) = (j : Int) + 1 + 1 by omega]
  · have hne9 : (upOf (leafOf ws.length (i - 1)) j != sharedOf ws.length i) = false := by
      rw [hj9, up1]
      exact bne_self_eq_false _
    k_steps
    dsimp only
    have hK9 : ((K - 1 : Nat) : Int) + 1 = (K : Int) := by omega
    rename Fr s₁.heap _ _ _ => qF
    rename News s₁.heap _ _ _ => qN
    rw [hj9, hK9] at qF
    k_with_none
    k_with "subscriptTail Name Slice bytes ref" => (k_here; (rename Fr _ _ _ _ => qFz); (rename News _ _ _ _ => qNz); k_dflt (first | refine by_take (s := ⟨_, _, _, _, _⟩) qFz qNz (by omega) (by assumption) ?_ | refine by_drop (s := ⟨_, _, _, _, _⟩) qFz qNz (by omega) (by assumption) ?_); clear qFz qNz; intro h9z t9z k9z F9z N9z)
    k_with "binaryOp Add bytes bytes" => (k_here; k_dflt (refine KBy.add_bytes (by simp only [List.size_toArray, List.length_reverse, List.length_take, List.length_drop]; omega) ?_); intro t9z k9z)
    k_with "eval ListComp" => (k_here; k_dflt (refine ListComp_W (by assumption) (by with_unfolding_all rfl) (by decide) (by rfl) (by decide) (by rfl) ?_))
    k_with "compareOp NotEq ref ref" => (k_here; (rename News _ _ _ _ => rNz); k_dflt (refine' same_words ?hu (News.isList rNz ?m1) (News.isList rNz ?m2) ?w1 ?w2 ?_; (case w1 => assumption); (case w2 => assumption); (case m1 => k_mem); (case m2 => k_mem); (case hu => exact Nat.le_of_ble_eq_true rfl)))
    refine if_line qF qN "line" (fun t => .bytes (octs (lineOf (arrAt ws.length ws i))).toArray t) ?_ ?_
    · rcases Nat.lt_or_eq_of_le mk1 with hK1 | hK1
      · have hK2 : (1 : Int) < (K : Int) := by omega
        refine exec_If_C ?_
        k_steps
        refine execs_C (exec_Assign_C (eval_BinOp_C (eval_Call_C ?_)))
        k_steps
        refine callWith_C (K := Mine.frag.heap_1 w.params) (by k_is) ?_
        have hlz : (octs (lineOf (arrAt ws.length ws (i - 1)))).length ≤ 1000 := by
          have := (line_len (N := ws.length) hgood hwl (i - 1)).1
          rw [octs_len]
          omega
        k_with "And" => refine Hold.out ?_
        k_steps
        unfold Hold
        rename Fr s₁.heap _ _ _ => qF
        rename News s₁.heap _ _ _ => qN
        have hKn : (5 * (K : Int) - 1) = ((5 * K - 1 : Nat) : Int) := by omega
        rw [hKn, Int.toNat_natCast]
        have hlt9 : (List.take (5 * K - 1) (octs (lineOf (arrAt ws.length ws (i - 1))))).length = 5 * K - 1 := by
          have := (line_len (N := ws.length) hgood hwl (i - 1)).1
          have := (many_le hwl i).2
          rw [List.length_take, octs_len]
          omega
        refine ⟨KX.keeps qF.keep, c_swap w _ _ (5 * K - 1) hlt9 (by omega) (by show 5 * K - 1 ≤ 100; omega) _ _ K0 qF KX qN T rfl (by decide) (by decide) ?_⟩
        clear qF qN
        intro t5 h5 tk5 F5 N5
        k_steps
        refine execs_nil_C ?_
        rename Fr s₁.heap _ _ _ => nF
        rename News s₁.heap _ _ _ => nN
        have e5 := line_step (N := ws.length) hgood rfl hwl (many_one hwl (hK ▸ hK1))
        rw [hK] at e5
        rw [hKn, Int.toNat_natCast] at nF
        have e6 : ((List.take (5 * K - 1) (octs (lineOf (arrAt ws.length ws (i - 1))))).reverse.toArray ++ (List.drop (5 * K - 1) (octs (lineOf (arrAt ws.length ws (i - 1))))).toArray) = (octs (lineOf (arrAt ws.length ws i))).toArray := by
          rw [← e5]; simp
        rw [e6] at nF
        exact ⟨rfl, _, _, _, rfl, nF, nN⟩
      · have hK2 : ¬ (1 : Int) < (K : Int) := by omega
        refine exec_If_C ?_
        k_steps
        refine execs_nil_C ?_
        rename Fr s₁.heap _ _ _ => nF
        rename News s₁.heap _ _ _ => nN
        have hi0 : i = 0 := many_zero hwl (hK ▸ hK1)
        subst hi0
        refine ⟨rfl, _, _, tl, rfl, Fr.same nF (fun z => ?_), nN⟩
        by_cases hz : z = "line"
        · subst hz
          rw [if_pos rfl]
          exact rfl
        · exact (if_neg hz).symm
    · clear qF qN
      intro h7 tk7 tL F7 N7
      rename_i ha tka x3 x4 x5 x6 x7 la x9 l1 x11 x12
      clear qN F9 hne9 hK9 hj9 hlen9 hj hmk mk1 up1 up2 hK up3 up4 mI mN
      revert hg KX T K0 hws hwl hgood hsmall hw4 hw2 hI9 l1 hi N7 F7
      revert w s₀ s₁ mg mb fa cd ns z0_4 lw ws9 kw ws tl9 tl8 I9 o9 i t9 u9 ha tka tl tf tg8 la tk9 ts8 K u8 h8 tk8 tj tm h7 tk7 tL
      exact hT.out
end
end Mine
end ST41
section ST42
open PySem PySem.W PyProof.Rows PySem.Calls PySem.W.X
namespace Mine
noncomputable section
noncomputable def Pk37 {α1 α2 α3 α4 α5 α6 α7 α8 α9 α10 α11 α12 α13 α14 α15 α16 α17 α18 α19 α20 α21 α22 α23 α24 α25 α26 α27 α28 α29 α30 α31 α32 α33 α34 α35 α36 α37 : Type} (P : α1 → α2 → α3 → α4 → α5 → α6 → α7 → α8 → α9 → α10 → α11 → α12 → α13 → α14 → α15 → α16 → α17 → α18 → α19 → α20 → α21 → α22 → α23 → α24 → α25 → α26 → α27 → α28 → α29 → α30 → α31 → α32 → α33 → α34 → α35 → α36 → α37 → Prop) : Type := { q : α1 × α2 × α3 × α4 × α5 × α6 × α7 × α8 × α9 × α10 × α11 × α12 × α13 × α14 × α15 × α16 × α17 × α18 × α19 × α20 × α21 × α22 × α23 × α24 × α25 × α26 × α27 × α28 × α29 × α30 × α31 × α32 × α33 × α34 × α35 × α36 × α37 // P q.1 q.2.1 q.2.2.1 q.2.2.2.1 q.2.2.2.2.1 q.2.2.2.2.2.1 q.2.2.2.2.2.2.1 q.2.2.2.2.2.2.2.1 q.2.2.2.2.2.2.2.2.1 q.2.2.2.2.2.2.2.2.2.1 q.2.2.2.2.2.2.2.2.2.2.1 q.2.2.2.2.2.2.2.2.2.2.2.1 q.2.2.2.2.2.2.2.2.2.2.2.2.1 q.2.2.2.2.2.2.2.2.2.2.2.2.2.1 q.2.2.2.2.2.2.2.2.2.2.2.2.2.2.1 q.2.2.2.2.2.2.2.2.2.2.2.2.2.2.2.1 q.2.2.2.2.2.2.2.2.2.2.2.2.2.2.2.2.1 q.2.2.2.2.2.2.2.2.2.2.2.2.2.2.2.2.2.1 q.2.2.2.2.2.2.2.2.2.2.2.2.2.2.2.2.2.2.1 q.2.2.2.2.2.2.2.2.2.2.2.2.2.2.2.2.2.2.2.1 q.2.2.2.2.2.2.2.2.2.2.2.2.2.2.2.2.2.2.2.2.1 q.2.2.2.2.2.2.2.2.2.2.2.2.2.2.2.2.2.2.2.2.2.1 q.2.2.2.2.2.2.2.2.2.2.2.2.2.2.2.2.2.2.2.2.2.2.1 q.2.2.2.2.2.2.2.2.2.2.2.2.2.2.2.2.2.2.2.2.2.2.2.1 q.2.2.2.2.2.2.2.2.2.2.2.2.2.2.2.2.2.2.2.2.2.2.2.2.1 q.2.2.2.2.2.2.2.2.2.2.2.2.2.2.2.2.2.2.2.2.2.2.2.2.2.1 q.2.2.2.2.2.2.2.2.2.2.2.2.2.2.2.2.2.2.2.2.2.2.2.2.2.2.1 q.2.2.2.2.2.2.2.2.2.2.2.2.2.2.2.2.2.2.2.2.2.2.2.2.2.2.2.1 q.2.2.2.2.2.2.2.2.2.2.2.2.2.2.2.2.2.2.2.2.2.2.2.2.2.2.2.2.1 q.2.2.2.2.2.2.2.2.2.2.2.2.2.2.2.2.2.2.2.2.2.2.2.2.2.2.2.2.2.1 q.2.2.2.2.2.2.2.2.2.2.2.2.2.2.2.2.2.2.2.2.2.2.2.2.2.2.2.2.2.2.1 q.2.2.2.2.2.2.2.2.2.2.2.2.2.2.2.2.2.2.2.2.2.2.2.2.2.2.2.2.2.2.2.1 q.2.2.2.2.2.2.2.2.2.2.2.2.2.2.2.2.2.2.2.2.2.2.2.2.2.2.2.2.2.2.2.2.1 q.2.2.2.2.2.2.2.2.2.2.2.2.2.2.2.2.2.2.2.2.2.2.2.2.2.2.2.2.2.2.2.2.2.1 q.2.2.2.2.2.2.2.2.2.2.2.2.2.2.2.2.2.2.2.2.2.2.2.2.2.2.2.2.2.2.2.2.2.2.1 q.2.2.2.2.2.2.2.2.2.2.2.2.2.2.2.2.2.2.2.2.2.2.2.2.2.2.2.2.2.2.2.2.2.2.2.1 q.2.2.2.2.2.2.2.2.2.2.2.2.2.2.2.2.2.2.2.2.2.2.2.2.2.2.2.2.2.2.2.2.2.2.2.2 → ∀ a : α1 × α2 × α3 × α4 × α5 × α6 × α7 × α8 × α9 × α10 × α11 × α12 × α13 × α14 × α15 × α16 × α17 × α18 × α19 × α20 × α21 × α22 × α23 × α24 × α25 × α26 × α27 × α28 × α29 × α30 × α31 × α32 × α33 × α34 × α35 × α36 × α37, P a.1 a.2.1 a.2.2.1 a.2.2.2.1 a.2.2.2.2.1 a.2.2.2.2.2.1 a.2.2.2.2.2.2.1 a.2.2.2.2.2.2.2.1 a.2.2.2.2.2.2.2.2.1 a.2.2.2.2.2.2.2.2.2.1 a.2.2.2.2.2.2.2.2.2.2.1 a.2.2.2.2.2.2.2.2.2.2.2.1 a.2.2.2.2.2.2.2.2.2.2.2.2.1 a.2.2.2.2.2.2.2.2.2.2.2.2.2.1 a.2.2.2.2.2.2.2.2.2.2.2.2.2.2.1 a.2.2.2.2.2.2.2.2.2.2.2.2.2.2.2.1 a.2.2.2.2.2.2.2.2.2.2.2.2.2.2.2.2.1 a.2.2.2.2.2.2.2.2.2.2.2.2.2.2.2.2.2.1 a.2.2.2.2.2.2.2.2.2.2.2.2.2.2.2.2.2.2.1 a.2.2.2.2.2.2.2.2.2.2.2.2.2.2.2.2.2.2.2.1 a.2.2.2.2.2.2.2.2.2.2.2.2.2.2.2.2.2.2.2.2.1 a.2.2.2.2.2.2.2.2.2.2.2.2.2.2.2.2.2.2.2.2.2.1 a.2.2.2.2.2.2.2.2.2.2.2.2.2.2.2.2.2.2.2.2.2.2.1 a.2.2.2.2.2.2.2.2.2.2.2.2.2.2.2.2.2.2.2.2.2.2.2.1 a.2.2.2.2.2.2.2.2.2.2.2.2.2.2.2.2.2.2.2.2.2.2.2.2.1 a.2.2.2.2.2.2.2.2.2.2.2.2.2.2.2.2.2.2.2.2.2.2.2.2.2.1 a.2.2.2.2.2.2.2.2.2.2.2.2.2.2.2.2.2.2.2.2.2.2.2.2.2.2.1 a.2.2.2.2.2.2.2.2.2.2.2.2.2.2.2.2.2.2.2.2.2.2.2.2.2.2.2.1 a.2.2.2.2.2.2.2.2.2.2.2.2.2.2.2.2.2.2.2.2.2.2.2.2.2.2.2.2.1 a.2.2.2.2.2.2.2.2.2.2.2.2.2.2.2.2.2.2.2.2.2.2.2.2.2.2.2.2.2.1 a.2.2.2.2.2.2.2.2.2.2.2.2.2.2.2.2.2.2.2.2.2.2.2.2.2.2.2.2.2.2.1 a.2.2.2.2.2.2.2.2.2.2.2.2.2.2.2.2.2.2.2.2.2.2.2.2.2.2.2.2.2.2.2.1 a.2.2.2.2.2.2.2.2.2.2.2.2.2.2.2.2.2.2.2.2.2.2.2.2.2.2.2.2.2.2.2.2.1 a.2.2.2.2.2.2.2.2.2.2.2.2.2.2.2.2.2.2.2.2.2.2.2.2.2.2.2.2.2.2.2.2.2.1 a.2.2.2.2.2.2.2.2.2.2.2.2.2.2.2.2.2.2.2.2.2.2.2.2.2.2.2.2.2.2.2.2.2.2.1 a.2.2.2.2.2.2.2.2.2.2.2.2.2.2.2.2.2.2.2.2.2.2.2.2.2.2.2.2.2.2.2.2.2.2.2.1 a.2.2.2.2.2.2.2.2.2.2.2.2.2.2.2.2.2.2.2.2.2.2.2.2.2.2.2.2.2.2.2.2.2.2.2.2 }
noncomputable def pk37 {α1 α2 α3 α4 α5 α6 α7 α8 α9 α10 α11 α12 α13 α14 α15 α16 α17 α18 α19 α20 α21 α22 α23 α24 α25 α26 α27 α28 α29 α30 α31 α32 α33 α34 α35 α36 α37 : Type} (h : Nonempty (α1 × α2 × α3 × α4 × α5 × α6 × α7 × α8 × α9 × α10 × α11 × α12 × α13 × α14 × α15 × α16 × α17 × α18 × α19 × α20 × α21 × α22 × α23 × α24 × α25 × α26 × α27 × α28 × α29 × α30 × α31 × α32 × α33 × α34 × α35 × α36 × α37)) (P : α1 → α2 → α3 → α4 → α5 → α6 → α7 → α8 → α9 → α10 → α11 → α12 → α13 → α14 → α15 → α16 → α17 → α18 → α19 → α20 → α21 → α22 → α23 → α24 → α25 → α26 → α27 → α28 → α29 → α30 → α31 → α32 → α33 → α34 → α35 → α36 → α37 → Prop) : Pk37 P := wit h fun q => P q.1 q.2.1 q.2.2.1 q.2.2.2.1 q.2.2.2.2.1 q.2.2.2.2.2.1 q.2.2.2.2.2.2.1 q.2.2.2.2.2.2.2.1 q.2.2.2.2.2.2.2.2.1 q.2.2.2.2.2.2.2.2.2.1 q.2.2.2.2.2.2.2.2.2.2.1 q.2.2.2.2.2.2.2.2.2.2.2.1 q.2.2.2.2.2.2.2.2.2.2.2.2.1 q.2.2.2.2.2.2.2.2.2.2.2.2.2.1 q.2.2.2.2.2.2.2.2.2.2.2.2.2.2.1 q.2.2.2.2.2.2.2.2.2.2.2.2.2.2.2.1 q.2.2.2.2.2.2.2.2.2.2.2.2.2.2.2.2.1 q.2.2.2.2.2.2.2.2.2.2.2.2.2.2.2.2.2.1 q.2.2.2.2.2.2.2.2.2.2.2.2.2.2.2.2.2.2.1 q.2.2.2.2.2.2.2.2.2.2.2.2.2.2.2.2.2.2.2.1 q.2.2.2.2.2.2.2.2.2.2.2.2.2.2.2.2.2.2.2.2.1 q.2.2.2.2.2.2.2.2.2.2.2.2.2.2.2.2.2.2.2.2.2.1 q.2.2.2.2.2.2.2.2.2.2.2.2.2.2.2.2.2.2.2.2.2.2.1 q.2.2.2.2.2.2.2.2.2.2.2.2.2.2.2.2.2.2.2.2.2.2.2.1 q.2.2.2.2.2.2.2.2.2.2.2.2.2.2.2.2.2.2.2.2.2.2.2.2.1 q.2.2.2.2.2.2.2.2.2.2.2.2.2.2.2.2.2.2.2.2.2.2.2.2.2.1 q.2.2.2.2.2.2.2.2.2.2.2.2.2.2.2.2.2.2.2.2.2.2.2.2.2.2.1 q.2.2.2.2.2.2.2.2.2.2.2.2.2.2.2.2.2.2.2.2.2.2.2.2.2.2.2.1 q.2.2.2.2.2.2.2.2.2.2.2.2.2.2.2.2.2.2.2.2.2.2.2.2.2.2.2.2.1 q.2.2.2.2.2.2.2.2.2.2.2.2.2.2.2.2.2.2.2.2.2.2.2.2.2.2.2.2.2.1 q.2.2.2.2.2.2.2.2.2.2.2.2.2.2.2.2.2.2.2.2.2.2.2.2.2.2.2.2.2.2.1 q.2.2.2.2.2.2.2.2.2.2.2.2.2.2.2.2.2.2.2.2.2.2.2.2.2.2.2.2.2.2.2.1 q.2.2.2.2.2.2.2.2.2.2.2.2.2.2.2.2.2.2.2.2.2.2.2.2.2.2.2.2.2.2.2.2.1 q.2.2.2.2.2.2.2.2.2.2.2.2.2.2.2.2.2.2.2.2.2.2.2.2.2.2.2.2.2.2.2.2.2.1 q.2.2.2.2.2.2.2.2.2.2.2.2.2.2.2.2.2.2.2.2.2.2.2.2.2.2.2.2.2.2.2.2.2.2.1 q.2.2.2.2.2.2.2.2.2.2.2.2.2.2.2.2.2.2.2.2.2.2.2.2.2.2.2.2.2.2.2.2.2.2.2.1 q.2.2.2.2.2.2.2.2.2.2.2.2.2.2.2.2.2.2.2.2.2.2.2.2.2.2.2.2.2.2.2.2.2.2.2.2
theorem Pk37.use {α1 α2 α3 α4 α5 α6 α7 α8 α9 α10 α11 α12 α13 α14 α15 α16 α17 α18 α19 α20 α21 α22 α23 α24 α25 α26 α27 α28 α29 α30 α31 α32 α33 α34 α35 α36 α37 : Type} {P : α1 → α2 → α3 → α4 → α5 → α6 → α7 → α8 → α9 → α10 → α11 → α12 → α13 → α14 → α15 → α16 → α17 → α18 → α19 → α20 → α21 → α22 → α23 → α24 → α25 → α26 → α27 → α28 → α29 → α30 → α31 → α32 → α33 → α34 → α35 → α36 → α37 → Prop} (c : Pk37 P) (h : P c.1.1 c.1.2.1 c.1.2.2.1 c.1.2.2.2.1 c.1.2.2.2.2.1 c.1.2.2.2.2.2.1 c.1.2.2.2.2.2.2.1 c.1.2.2.2.2.2.2.2.1 c.1.2.2.2.2.2.2.2.2.1 c.1.2.2.2.2.2.2.2.2.2.1 c.1.2.2.2.2.2.2.2.2.2.2.1 c.1.2.2.2.2.2.2.2.2.2.2.2.1 c.1.2.2.2.2.2.2.2.2.2.2.2.2.1 c.1.2.2.2.2.2.2.2.2.2.2.2.2.2.1 c.1.2.2.2.2.2.2.2.2.2.2.2.2.2.2.1 c.1.2.2.2.2.2.2.2.2.2.2.2.2.2.2.2.1 c.1.2.2.2.2.2.2.2.2.2.2.2.2.2.2.2.2.1 c.1.2.2.2.2.2.2.2.2.2.2.2.2.2.2.2.2.2.1 c.1.2.2.2.2.2.2.2.2.2.2.2.2.2.2.2.2.2.2.1 c.1.2.2.2.2.2.2.2.2.2.2.2.2.2.2.2.2.2.2.2.1 c.1.2.2.2.2.2.2.2.2.2.2.2.2.2.2.2.2.2.2.2.2.1 c.1.2.2.2.2.2.2.2.2.2.2.2.2.2.2.2.2.2.2.2.2.2.1 c.1.2.2.2.2.2.2.2.2.2.2.2.2.2.2.2.2.2.2.2.2.2.2.1 c.1.2.2.2.2.2.2.2.2.2.2.2.2.2.2.2.2.2.2.2.2.2.2.2.1 c.1.2.2.2.2.2.2.2.2.2.2.2.2.2.2.2.2.2.2.2.2.2.2.2.2.1 c.1.2.2.2.2.2.2.2.2.2.2.2.2.2.2.2.2.2.2.2.2.2.2.2.2.2.1 c.1.2.2.2.2.2.2.2.2.2.2.2.2.2.2.2.2.2.2.2.2.2.2.2.2.2.2.1 c.1.2.2.2.2.2.2.2.2.2.2.2.2.2.2.2.2.2.2.2.2.2.2.2.2.2.2.2.1 c.1.2.2.2.2.2.2.2.2.2.2.2.2.2.2.2.2.2.2.2.2.2.2.2.2.2.2.2.2.1 c.1.2.2.2.2.2.2.2.2.2.2.2.2.2.2.2.2.2.2.2.2.2.2.2.2.2.2.2.2.2.1 c.1.2.2.2.2.2.2.2.2.2.2.2.2.2.2.2.2.2.2.2.2.2.2.2.2.2.2.2.2.2.2.1 c.1.2.2.2.2.2.2.2.2.2.2.2.2.2.2.2.2.2.2.2.2.2.2.2.2.2.2.2.2.2.2.2.1 c.1.2.2.2.2.2.2.2.2.2.2.2.2.2.2.2.2.2.2.2.2.2.2.2.2.2.2.2.2.2.2.2.2.1 c.1.2.2.2.2.2.2.2.2.2.2.2.2.2.2.2.2.2.2.2.2.2.2.2.2.2.2.2.2.2.2.2.2.2.1 c.1.2.2.2.2.2.2.2.2.2.2.2.2.2.2.2.2.2.2.2.2.2.2.2.2.2.2.2.2.2.2.2.2.2.2.1 c.1.2.2.2.2.2.2.2.2.2.2.2.2.2.2.2.2.2.2.2.2.2.2.2.2.2.2.2.2.2.2.2.2.2.2.2.1 c.1.2.2.2.2.2.2.2.2.2.2.2.2.2.2.2.2.2.2.2.2.2.2.2.2.2.2.2.2.2.2.2.2.2.2.2.2) : ∀ a0 a1 a2 a3 a4 a5 a6 a7 a8 a9 a10 a11 a12 a13 a14 a15 a16 a17 a18 a19 a20 a21 a22 a23 a24 a25 a26 a27 a28 a29 a30 a31 a32 a33 a34 a35 a36, P a0 a1 a2 a3 a4 a5 a6 a7 a8 a9 a10 a11 a12 a13 a14 a15 a16 a17 a18 a19 a20 a21 a22 a23 a24 a25 a26 a27 a28 a29 a30 a31 a32 a33 a34 a35 a36 := fun a0 a1 a2 a3 a4 a5 a6 a7 a8 a9 a10 a11 a12 a13 a14 a15 a16 a17 a18 a19 a20 a21 a22 a23 a24 a25 a26 a27 a28 a29 a30 a31 a32 a33 a34 a35 a36 => c.2 h (a0, a1, a2, a3, a4, a5, a6, a7, a8, a9, a10, a11, a12, a13, a14, a15, a16, a17, a18, a19, a20, a21, a22, a23, a24, a25, a26, a27, a28, a29, a30, a31, a32, a33, a34, a35, a36)
theorem turn_end : turn_split.1 := by
  intro w s₀ s₁ mg mb fa cd ns z0_4 lw ws9 kw ws tl9 tl8 I9 o9 i t9 u9 ha tka tl tf tg8 la tk9 ts8 K u8 h8 tk8 tj tm h7 tk7 tL
  intro hg KX T K0 hws hwl hgood hsmall hw4 hw2 hI9 hi l1 F7 N7
  revert hg KX T K0 hws hwl hgood hsmall hw4 hw2 hI9 hi l1 F7 N7
  revert w s₀ s₁ mg mb fa cd ns z0_4 lw ws9 kw ws tl9 tl8 I9 o9 i t9 u9 ha tka tl tf tg8 la tk9 ts8 K u8 h8 tk8 tj tm h7 tk7 tL
  k_fill
  refine id ?_
  refine' (let rec cz0 : Pk37 _ := pk37 (by repeat' first | exact ne_world | exact ne_cx | exact ne_shared | exact ne_around | exact ⟨default⟩ | refine ne_prod ?_ ?_) _; Pk37.use cz0 ?_)
  generalize cz0.1.1 = w
  generalize cz0.1.2.1 = s₀
  generalize cz0.1.2.2.1 = s₁
  generalize cz0.1.2.2.2.1 = mg
  generalize cz0.1.2.2.2.2.1 = mb
  generalize cz0.1.2.2.2.2.2.1 = fa
  generalize cz0.1.2.2.2.2.2.2.1 = cd
  generalize cz0.1.2.2.2.2.2.2.2.1 = ns
  generalize cz0.1.2.2.2.2.2.2.2.2.1 = z0_4
  generalize cz0.1.2.2.2.2.2.2.2.2.2.1 = lw
  generalize cz0.1.2.2.2.2.2.2.2.2.2.2.1 = ws9
  generalize cz0.1.2.2.2.2.2.2.2.2.2.2.2.1 = kw
  generalize cz0.1.2.2.2.2.2.2.2.2.2.2.2.2.1 = ws
  generalize cz0.1.2.2.2.2.2.2.2.2.2.2.2.2.2.1 = tl9
  generalize cz0.1.2.2.2.2.2.2.2.2.2.2.2.2.2.2.1 = tl8
  generalize cz0.1.2.2.2.2.2.2.2.2.2.2.2.2.2.2.2.1 = I9
  generalize cz0.1.2.2.2.2.2.2.2.2.2.2.2.2.2.2.2.2.1 = o9
  generalize cz0.1.2.2.2.2.2.2.2.2.2.2.2.2.2.2.2.2.2.1 = i
  generalize cz0.1.2.2.2.2.2.2.2.2.2.2.2.2.2.2.2.2.2.2.1 = t9
  generalize cz0.1.2.2.2.2.2.2.2.2.2.2.2.2.2.2.2.2.2.2.2.1 = u9
  generalize cz0.1.2.2.2.2.2.2.2.2.2.2.2.2.2.2.2.2.2.2.2.2.1 = ha
  generalize cz0.1.2.2.2.2.2.2.2.2.2.2.2.2.2.2.2.2.2.2.2.2.2.1 = tka
  generalize cz0.1.2.2.2.2.2.2.2.2.2.2.2.2.2.2.2.2.2.2.2.2.2.2.1 = tl
  generalize cz0.1.2.2.2.2.2.2.2.2.2.2.2.2.2.2.2.2.2.2.2.2.2.2.2.1 = tf
  generalize cz0.1.2.2.2.2.2.2.2.2.2.2.2.2.2.2.2.2.2.2.2.2.2.2.2.2.1 = tg8
  generalize cz0.1.2.2.2.2.2.2.2.2.2.2.2.2.2.2.2.2.2.2.2.2.2.2.2.2.2.1 = la
  generalize cz0.1.2.2.2.2.2.2.2.2.2.2.2.2.2.2.2.2.2.2.2.2.2.2.2.2.2.2.1 = tk9
  generalize cz0.1.2.2.2.2.2.2.2.2.2.2.2.2.2.2.2.2.2.2.2.2.2.2.2.2.2.2.2.1 = ts8
  generalize cz0.1.2.2.2.2.2.2.2.2.2.2.2.2.2.2.2.2.2.2.2.2.2.2.2.2.2.2.2.2.1 = K
  generalize cz0.1.2.2.2.2.2.2.2.2.2.2.2.2.2.2.2.2.2.2.2.2.2.2.2.2.2.2.2.2.2.1 = u8
  generalize cz0.1.2.2.2.2.2.2.2.2.2.2.2.2.2.2.2.2.2.2.2.2.2.2.2.2.2.2.2.2.2.2.1 = h8
  generalize cz0.1.2.2.2.2.2.2.2.2.2.2.2.2.2.2.2.2.2.2.2.2.2.2.2.2.2.2.2.2.2.2.2.1 = tk8
  generalize cz0.1.2.2.2.2.2.2.2.2.2.2.2.2.2.2.2.2.2.2.2.2.2.2.2.2.2.2.2.2.2.2.2.2.1 = tj
  generalize cz0.1.2.2.2.2.2.2.2.2.2.2.2.2.2.2.2.2.2.2.2.2.2.2.2.2.2.2.2.2.2.2.2.2.2.1 = tm
  generalize cz0.1.2.2.2.2.2.2.2.2.2.2.2.2.2.2.2.2.2.2.2.2.2.2.2.2.2.2.2.2.2.2.2.2.2.2.1 = h7
  generalize cz0.1.2.2.2.2.2.2.2.2.2.2.2.2.2.2.2.2.2.2.2.2.2.2.2.2.2.2.2.2.2.2.2.2.2.2.2.1 = tk7
  generalize cz0.1.2.2.2.2.2.2.2.2.2.2.2.2.2.2.2.2.2.2.2.2.2.2.2.2.2.2.2.2.2.2.2.2.2.2.2.2 = tL
  clear cz0
  intro hg KX T K0 hws hwl hgood hsmall hw4 hw2 hI9 hi l1 F7 N7
  refine execs_A ?_
  k_steps
  refine execs_A ?_
  have hlen := line_len (N := ws.length) hgood hwl i
  have hgoodi := arrAt_good (N := ws.length) hgood i
  have hsmalli := arrAt_small (N := ws.length) hsmall i
  have hleni := arrAt_len ws.length ws i
  generalize harr : arrAt ws.length ws i = arr at *
  k_with_none
  k_with "subscriptTail Name Slice bytes ref" => (k_here; (rename Fr _ _ _ _ => qFz); (rename News _ _ _ _ => qNz); k_dflt (first | refine by_take (s := ⟨_, _, _, _, _⟩) qFz qNz (by omega) (by assumption) ?_ | refine by_drop (s := ⟨_, _, _, _, _⟩) qFz qNz (by omega) (by assumption) ?_); clear qFz qNz; intro h9z t9z k9z F9z N9z)
  k_with "binaryOp Add bytes bytes" => (k_here; k_dflt (refine KBy.add_bytes (by simp only [List.size_toArray, List.length_reverse, List.length_take, List.length_drop]; omega) ?_); intro t9z k9z)
  k_with "eval ListComp" => (k_here; k_dflt (refine ListComp_W (by assumption) (by with_unfolding_all rfl) (by decide) (by rfl) (by decide) (by rfl) ?_))
  k_with "compareOp NotEq ref ref" => (k_here; (rename News _ _ _ _ => rNz); k_dflt (refine' same_words ?hu (News.isList rNz ?m1) (News.isList rNz ?m2) ?w1 ?w2 ?_; (case w1 => assumption); (case w2 => assumption); (case m1 => k_mem); (case m2 => k_mem); (case hu => exact Nat.le_of_ble_eq_true rfl)))
  k_with "CompSrcW" => refine Hold.out ?_
  k_with "call builtin:len" => (k_dflt (rename News _ _ _ _ => qN; refine len_made ws.length (News.isList qN (by k_mem)) (Tx.length hws) (by unfold Hold at hw4; omega) ?_))
  k_with "call ref" => (
    with_reducible show wpAny _ _ (call (Value.ref 864) _) _ _ _
    first | k_dflt (
      (refine' Ctr.use ?k1 ?k2 ?k3 ?k4 ?k5 ?kk (c_figN w _ ws.length i hwl hi _ _) ?kd ?ku ?_)
      case k1 => exact K0
      case k2 => k_asm
      case k3 => k_asm
      case k4 => k_asm
      case k5 => k_asm
      case kk => exact rfl
      case kd => exact (by decide)
      case ku => exact (by decide)
      intro v9 n9 h9 tk9 hR F9 N9
      obtain ⟨lf, fvs, kf, e8, hfvs, e9⟩ := hR; subst e8 e9
      (try dsimp only)
      (try k_fold)) | refine Hold.out ?_)
  k_with "call ref" => (
    with_reducible show wpAny _ _ (call (Value.ref 876) _) _ _ _
    first | k_dflt (
      (refine' Ctr.use ?k1 ?k2 ?k3 ?k4 ?k5 ?kk (c_told w _ lw lf ws9 ws kw fvs (figsOf ws.length i) kf hws hfvs (show ws.length ≤ 4 ∧ (figsOf ws.length i).length ≤ ws.length from ⟨hw4, figs_len hwl⟩) hw2 (figs_bounds hwl hi) ?hne ?hm ?hm2) ?kd ?ku ?_)
      case k1 => exact K0
      case k2 => k_asm
      case k3 => k_asm
      case k4 => k_asm
      case k5 => k_asm
      case kk => exact rfl
      case kd => exact (by decide)
      case ku => exact (by decide)
      case hm => k_mem
      case hm2 => k_mem
      case hne => (rename News _ _ _ _ => rN; exact ne_lists rN (by k_mem) (by k_mem) hfvs hws (figs_pos hwl) (by omega))
      intro v9 n9 h9 tk9 hR F9 N9
      obtain ⟨lt, tvs, kt, e8, htvs, e9⟩ := hR; rw [told_arr hwl hi, harr] at htvs; subst e8 e9
      (try dsimp only)
      (try k_fold)) | refine Hold.out ?_)
  k_steps
  unfold Hold
  rename Fr s₁.heap _ _ _ => xF
  rename News s₁.heap _ _ _ => xN
  have hoz : (octs (lineOf arr)).toArray.size = (lineOf arr).length := by rw [List.size_toArray, octs_len]
  refine src_bytes (by exact rfl) xF xN (by rw [hoz]; simp only [sizeLine]; omega) fun g => rest_W (fun i y => ∃ t, y = Value.str (S [(lineOf arr).getD i 0]) t) ?_ ?_
  · clear xF xN
    intro i2 v I oI C oC D m₂ ys h tk E' hi2 hv hC hx F9 N9 off ne
    obtain ⟨c, u, hc, rfl⟩ := hv
    obtain ⟨e1, e2, e3⟩ := octs_get (lineOf_small hsmalli) hc
    k_with "CompEnd" => refine Hold.out ?_
    k_with "call builtin:chr" => (k_dflt (refine chr_of_range (by omega) (by omega) ?_))
    k_steps
    unfold Hold
    rename Fr s₁.heap _ _ _ => nF
    rename News s₁.heap _ _ _ => nN
    refine LCg.CompEnd.intro nF nN _ (fun q hq => hq) off trivial ⟨rfl, ?_⟩
    rw [e1]
    exact ⟨_, rfl⟩
  · clear xF xN
    intro ys hyl hr D h tk F9 N9 off
    have hstr : StrsAre ys (((lineOf arr).map fun c => [c]).map S) := strs_of (by rw [hyl, hoz]; simp) (fun i2 y hy => by
      obtain ⟨t, e⟩ := hr i2 y hy
      refine ⟨t, e.trans ?_⟩
      congr 1
      have hi2 : i2 < (lineOf arr).length := by rw [← hoz, ← hyl]; exact (List.getElem?_eq_some_iff.mp hy).1
      simp [hi2])
    have hJ : StrsAre ys.toArray.toList (((lineOf arr).map fun c => [c]).map S) := hstr
    have hsum : (((((lineOf arr).map fun c => [c]).map S).map (·.length)).sum + (((lineOf arr).map fun c => [c]).map S).length ≤ 1048576) := by
      have e1 : ((lineOf arr).map fun c => [c]).map S = (lineOf arr).map fun c => S [c] := by simp
      have e2 : (((lineOf arr).map fun c => S [c]).map (·.length)) = (lineOf arr).map fun _ => 1 := by
        rw [List.map_map]
        refine List.map_congr_left fun c _ => ?_
        exact S_len _
      rw [e1, e2, sum_ones, List.length_map]
      omega
    have hlex : LexAll .sp (lineOf arr) arr := lex_line hgoodi (by intro e; rw [e] at hleni; simp at hleni; omega)
    have hlt9 : (S (lineOf arr)).length < 1000 := by rw [S_len]; omega
    have harl : arr.length ≤ 1000 := by omega
    k_with "call builtin:str.join" => (k_dflt (first | (refine PyProof.Rows.join_listW (by is_list) hJ (by decide +kernel) hsum ?_; intro _ _; rw [← (show S [] = Str.ofString "" from by decide +kernel), join_signs]) | refine Hold.out ?_))
    k_with "call ref" => (
      with_reducible show wpAny _ _ (call (Value.ref 847) _) _ _ _
      first | k_dflt (
        (refine' c_split w _ (lineOf arr) _ arr hlex harl hlt9 ?k1 ?k2 ?k3 ?k4 ?k5 ?kk ?kd ?ku ?_)
        case k1 => exact K0
        case k2 => k_asm
        case k3 => k_asm
        case k4 => k_asm
        case k5 => k_asm
        case kk => exact rfl
        case kd => exact (by decide)
        case ku => exact (by decide)
        intro l8 h8 tk8 vs8 n8 hv8 F8 N8 lt8
        (try dsimp only)
        (try k_fold)) | refine Hold.out ?_)
    k_with "FreeEnd" => refine Hold.out ?_
    k_steps
    refine execs_nil_C ?_
    rename Fr s₁.heap _ _ _ => nF
    rename News s₁.heap _ _ _ => nN
    refine' ⟨(⟨i, ?ta, ?tb⟩ : Nat × Tok × Tok), _, _, _, _, rfl, nF, nN, ?hn, ?ho, ?hI, ?hk, ?hr, rfl⟩
    case hk =>
      intro q hq
      rcases List.mem_cons.mp hq with rfl | hq
      · rw [← harr]
        rfl
      · rw [List.mem_singleton.mp hq]
        rfl
    case hn => (intro q hq; rw [List.mem_singleton.mp hq]; k_mem)
    case ho => (intro q hq; rw [List.mem_singleton.mp hq]; k_mem)
    case hI => exact hI9
    case hr =>
      intro z z0 z1 z2
      have z3 : z ≠ "line" := z1 _ (.head _)
      have z4 : z ≠ "leaf" := z1 _ (.tail _ (.head _))
      have z5 : z ≠ "goal" := fun e => by rw [e] at z2; exact absurd z2 (by decide +kernel)
      have z6 : z ≠ "shared" := fun e => by rw [e] at z2; exact absurd z2 (by decide +kernel)
      have z7 : z ≠ "many" := fun e => by rw [e] at z2; exact absurd z2 (by decide +kernel)
      simp [z0, z3, z4, z5, z6, z7]
theorem law_holds : PySem.Challenge.rw_qw0075_02.Holds := law_split.2 ⟨turn_split.2 ⟨turn_end⟩⟩
end
end Mine
end ST42
theorem PySem.Challenge.cw_qw0075_02_holds : PySem.Challenge.rw_qw0075_02.Holds :=
  Mine.law_holds
