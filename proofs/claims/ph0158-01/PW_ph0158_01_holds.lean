import PyProof.Rows.All
import Wide.All
import OpenK.AllK
import Wide.FinOn
import PySem.Challenge.RW_ph0158_01
set_option Elab.async false
set_option maxRecDepth 100000
set_option genInjectivity false
set_option genSizeOf false
set_option genSizeOfSpec false
set_option bootstrap.genMatcherCode false
set_option autoImplicit false
set_option backward.match.sparseCases false
section
open PySem PySem.W PyProof.Rows
namespace Mine
theorem nos1 {α : Type} {a : α} {G : Prop} (h : none = some a) : G := nomatch h
theorem nos2 {α : Type} {a : α} {G : Prop} (h : some a = none) : G := nomatch h
theorem nob1 {G : Prop} (h : false = true) : G := nomatch h
theorem nob2 {G : Prop} (h : true = false) : G := nomatch h
theorem xe0_2  {P0 : Prop} {P1 : Prop} {G : Prop} (h : P0 ∧ P1) (f : P0 → P1 → G) : G := f h.1 h.2
theorem xe1_1 {α0 : Type} {P0 : α0 → Prop} {G : Prop} (h : ∃ x0, P0 x0) (f : ∀ x0, P0 x0 → G) : G := h.elim fun x0 h => f x0 h
theorem xe0_3  {P0 : Prop} {P1 : Prop} {P2 : Prop} {G : Prop} (h : P0 ∧ P1 ∧ P2) (f : P0 → P1 → P2 → G) : G := f h.1 h.2.1 h.2.2
theorem xe1_2 {α0 : Type} {P0 : α0 → Prop} {P1 : α0 → Prop} {G : Prop} (h : ∃ x0, P0 x0 ∧ P1 x0) (f : ∀ x0, P0 x0 → P1 x0 → G) : G := h.elim fun x0 h => f x0 h.1 h.2
theorem xe2_1 {α0 : Type} {α1 : Type} {P0 : α0 → α1 → Prop} {G : Prop} (h : ∃ x0 x1, P0 x0 x1) (f : ∀ x0 x1, P0 x0 x1 → G) : G := h.elim fun x0 h => h.elim fun x1 h => f x0 x1 h
theorem xe0_4  {P0 : Prop} {P1 : Prop} {P2 : Prop} {P3 : Prop} {G : Prop} (h : P0 ∧ P1 ∧ P2 ∧ P3) (f : P0 → P1 → P2 → P3 → G) : G := f h.1 h.2.1 h.2.2.1 h.2.2.2
theorem xe1_3 {α0 : Type} {P0 : α0 → Prop} {P1 : α0 → Prop} {P2 : α0 → Prop} {G : Prop} (h : ∃ x0, P0 x0 ∧ P1 x0 ∧ P2 x0) (f : ∀ x0, P0 x0 → P1 x0 → P2 x0 → G) : G := h.elim fun x0 h => f x0 h.1 h.2.1 h.2.2
theorem xe2_2 {α0 : Type} {α1 : Type} {P0 : α0 → α1 → Prop} {P1 : α0 → α1 → Prop} {G : Prop} (h : ∃ x0 x1, P0 x0 x1 ∧ P1 x0 x1) (f : ∀ x0 x1, P0 x0 x1 → P1 x0 x1 → G) : G := h.elim fun x0 h => h.elim fun x1 h => f x0 x1 h.1 h.2
theorem xe3_1 {α0 : Type} {α1 : Type} {α2 : Type} {P0 : α0 → α1 → α2 → Prop} {G : Prop} (h : ∃ x0 x1 x2, P0 x0 x1 x2) (f : ∀ x0 x1 x2, P0 x0 x1 x2 → G) : G := h.elim fun x0 h => h.elim fun x1 h => h.elim fun x2 h => f x0 x1 x2 h
theorem xe0_5  {P0 : Prop} {P1 : Prop} {P2 : Prop} {P3 : Prop} {P4 : Prop} {G : Prop} (h : P0 ∧ P1 ∧ P2 ∧ P3 ∧ P4) (f : P0 → P1 → P2 → P3 → P4 → G) : G := f h.1 h.2.1 h.2.2.1 h.2.2.2.1 h.2.2.2.2
theorem xe1_4 {α0 : Type} {P0 : α0 → Prop} {P1 : α0 → Prop} {P2 : α0 → Prop} {P3 : α0 → Prop} {G : Prop} (h : ∃ x0, P0 x0 ∧ P1 x0 ∧ P2 x0 ∧ P3 x0) (f : ∀ x0, P0 x0 → P1 x0 → P2 x0 → P3 x0 → G) : G := h.elim fun x0 h => f x0 h.1 h.2.1 h.2.2.1 h.2.2.2
theorem xe2_3 {α0 : Type} {α1 : Type} {P0 : α0 → α1 → Prop} {P1 : α0 → α1 → Prop} {P2 : α0 → α1 → Prop} {G : Prop} (h : ∃ x0 x1, P0 x0 x1 ∧ P1 x0 x1 ∧ P2 x0 x1) (f : ∀ x0 x1, P0 x0 x1 → P1 x0 x1 → P2 x0 x1 → G) : G := h.elim fun x0 h => h.elim fun x1 h => f x0 x1 h.1 h.2.1 h.2.2
theorem xe3_2 {α0 : Type} {α1 : Type} {α2 : Type} {P0 : α0 → α1 → α2 → Prop} {P1 : α0 → α1 → α2 → Prop} {G : Prop} (h : ∃ x0 x1 x2, P0 x0 x1 x2 ∧ P1 x0 x1 x2) (f : ∀ x0 x1 x2, P0 x0 x1 x2 → P1 x0 x1 x2 → G) : G := h.elim fun x0 h => h.elim fun x1 h => h.elim fun x2 h => f x0 x1 x2 h.1 h.2
theorem xe4_1 {α0 : Type} {α1 : Type} {α2 : Type} {α3 : Type} {P0 : α0 → α1 → α2 → α3 → Prop} {G : Prop} (h : ∃ x0 x1 x2 x3, P0 x0 x1 x2 x3) (f : ∀ x0 x1 x2 x3, P0 x0 x1 x2 x3 → G) : G := h.elim fun x0 h => h.elim fun x1 h => h.elim fun x2 h => h.elim fun x3 h => f x0 x1 x2 x3 h
theorem xe1_5 {α0 : Type} {P0 : α0 → Prop} {P1 : α0 → Prop} {P2 : α0 → Prop} {P3 : α0 → Prop} {P4 : α0 → Prop} {G : Prop} (h : ∃ x0, P0 x0 ∧ P1 x0 ∧ P2 x0 ∧ P3 x0 ∧ P4 x0) (f : ∀ x0, P0 x0 → P1 x0 → P2 x0 → P3 x0 → P4 x0 → G) : G := h.elim fun x0 h => f x0 h.1 h.2.1 h.2.2.1 h.2.2.2.1 h.2.2.2.2
theorem xe2_4 {α0 : Type} {α1 : Type} {P0 : α0 → α1 → Prop} {P1 : α0 → α1 → Prop} {P2 : α0 → α1 → Prop} {P3 : α0 → α1 → Prop} {G : Prop} (h : ∃ x0 x1, P0 x0 x1 ∧ P1 x0 x1 ∧ P2 x0 x1 ∧ P3 x0 x1) (f : ∀ x0 x1, P0 x0 x1 → P1 x0 x1 → P2 x0 x1 → P3 x0 x1 → G) : G := h.elim fun x0 h => h.elim fun x1 h => f x0 x1 h.1 h.2.1 h.2.2.1 h.2.2.2
theorem xe4_2 {α0 : Type} {α1 : Type} {α2 : Type} {α3 : Type} {P0 : α0 → α1 → α2 → α3 → Prop} {P1 : α0 → α1 → α2 → α3 → Prop} {G : Prop} (h : ∃ x0 x1 x2 x3, P0 x0 x1 x2 x3 ∧ P1 x0 x1 x2 x3) (f : ∀ x0 x1 x2 x3, P0 x0 x1 x2 x3 → P1 x0 x1 x2 x3 → G) : G := h.elim fun x0 h => h.elim fun x1 h => h.elim fun x2 h => h.elim fun x3 h => f x0 x1 x2 x3 h.1 h.2
theorem xe5_1 {α0 : Type} {α1 : Type} {α2 : Type} {α3 : Type} {α4 : Type} {P0 : α0 → α1 → α2 → α3 → α4 → Prop} {G : Prop} (h : ∃ x0 x1 x2 x3 x4, P0 x0 x1 x2 x3 x4) (f : ∀ x0 x1 x2 x3 x4, P0 x0 x1 x2 x3 x4 → G) : G := h.elim fun x0 h => h.elim fun x1 h => h.elim fun x2 h => h.elim fun x3 h => h.elim fun x4 h => f x0 x1 x2 x3 x4 h
theorem xe0_7  {P0 : Prop} {P1 : Prop} {P2 : Prop} {P3 : Prop} {P4 : Prop} {P5 : Prop} {P6 : Prop} {G : Prop} (h : P0 ∧ P1 ∧ P2 ∧ P3 ∧ P4 ∧ P5 ∧ P6) (f : P0 → P1 → P2 → P3 → P4 → P5 → P6 → G) : G := f h.1 h.2.1 h.2.2.1 h.2.2.2.1 h.2.2.2.2.1 h.2.2.2.2.2.1 h.2.2.2.2.2.2
theorem xe2_5 {α0 : Type} {α1 : Type} {P0 : α0 → α1 → Prop} {P1 : α0 → α1 → Prop} {P2 : α0 → α1 → Prop} {P3 : α0 → α1 → Prop} {P4 : α0 → α1 → Prop} {G : Prop} (h : ∃ x0 x1, P0 x0 x1 ∧ P1 x0 x1 ∧ P2 x0 x1 ∧ P3 x0 x1 ∧ P4 x0 x1) (f : ∀ x0 x1, P0 x0 x1 → P1 x0 x1 → P2 x0 x1 → P3 x0 x1 → P4 x0 x1 → G) : G := h.elim fun x0 h => h.elim fun x1 h => f x0 x1 h.1 h.2.1 h.2.2.1 h.2.2.2.1 h.2.2.2.2
theorem xe3_4 {α0 : Type} {α1 : Type} {α2 : Type} {P0 : α0 → α1 → α2 → Prop} {P1 : α0 → α1 → α2 → Prop} {P2 : α0 → α1 → α2 → Prop} {P3 : α0 → α1 → α2 → Prop} {G : Prop} (h : ∃ x0 x1 x2, P0 x0 x1 x2 ∧ P1 x0 x1 x2 ∧ P2 x0 x1 x2 ∧ P3 x0 x1 x2) (f : ∀ x0 x1 x2, P0 x0 x1 x2 → P1 x0 x1 x2 → P2 x0 x1 x2 → P3 x0 x1 x2 → G) : G := h.elim fun x0 h => h.elim fun x1 h => h.elim fun x2 h => f x0 x1 x2 h.1 h.2.1 h.2.2.1 h.2.2.2
theorem xe4_3 {α0 : Type} {α1 : Type} {α2 : Type} {α3 : Type} {P0 : α0 → α1 → α2 → α3 → Prop} {P1 : α0 → α1 → α2 → α3 → Prop} {P2 : α0 → α1 → α2 → α3 → Prop} {G : Prop} (h : ∃ x0 x1 x2 x3, P0 x0 x1 x2 x3 ∧ P1 x0 x1 x2 x3 ∧ P2 x0 x1 x2 x3) (f : ∀ x0 x1 x2 x3, P0 x0 x1 x2 x3 → P1 x0 x1 x2 x3 → P2 x0 x1 x2 x3 → G) : G := h.elim fun x0 h => h.elim fun x1 h => h.elim fun x2 h => h.elim fun x3 h => f x0 x1 x2 x3 h.1 h.2.1 h.2.2
theorem xe0_8  {P0 : Prop} {P1 : Prop} {P2 : Prop} {P3 : Prop} {P4 : Prop} {P5 : Prop} {P6 : Prop} {P7 : Prop} {G : Prop} (h : P0 ∧ P1 ∧ P2 ∧ P3 ∧ P4 ∧ P5 ∧ P6 ∧ P7) (f : P0 → P1 → P2 → P3 → P4 → P5 → P6 → P7 → G) : G := f h.1 h.2.1 h.2.2.1 h.2.2.2.1 h.2.2.2.2.1 h.2.2.2.2.2.1 h.2.2.2.2.2.2.1 h.2.2.2.2.2.2.2
theorem xe2_6 {α0 : Type} {α1 : Type} {P0 : α0 → α1 → Prop} {P1 : α0 → α1 → Prop} {P2 : α0 → α1 → Prop} {P3 : α0 → α1 → Prop} {P4 : α0 → α1 → Prop} {P5 : α0 → α1 → Prop} {G : Prop} (h : ∃ x0 x1, P0 x0 x1 ∧ P1 x0 x1 ∧ P2 x0 x1 ∧ P3 x0 x1 ∧ P4 x0 x1 ∧ P5 x0 x1) (f : ∀ x0 x1, P0 x0 x1 → P1 x0 x1 → P2 x0 x1 → P3 x0 x1 → P4 x0 x1 → P5 x0 x1 → G) : G := h.elim fun x0 h => h.elim fun x1 h => f x0 x1 h.1 h.2.1 h.2.2.1 h.2.2.2.1 h.2.2.2.2.1 h.2.2.2.2.2
theorem xe3_5 {α0 : Type} {α1 : Type} {α2 : Type} {P0 : α0 → α1 → α2 → Prop} {P1 : α0 → α1 → α2 → Prop} {P2 : α0 → α1 → α2 → Prop} {P3 : α0 → α1 → α2 → Prop} {P4 : α0 → α1 → α2 → Prop} {G : Prop} (h : ∃ x0 x1 x2, P0 x0 x1 x2 ∧ P1 x0 x1 x2 ∧ P2 x0 x1 x2 ∧ P3 x0 x1 x2 ∧ P4 x0 x1 x2) (f : ∀ x0 x1 x2, P0 x0 x1 x2 → P1 x0 x1 x2 → P2 x0 x1 x2 → P3 x0 x1 x2 → P4 x0 x1 x2 → G) : G := h.elim fun x0 h => h.elim fun x1 h => h.elim fun x2 h => f x0 x1 x2 h.1 h.2.1 h.2.2.1 h.2.2.2.1 h.2.2.2.2
theorem xe4_4 {α0 : Type} {α1 : Type} {α2 : Type} {α3 : Type} {P0 : α0 → α1 → α2 → α3 → Prop} {P1 : α0 → α1 → α2 → α3 → Prop} {P2 : α0 → α1 → α2 → α3 → Prop} {P3 : α0 → α1 → α2 → α3 → Prop} {G : Prop} (h : ∃ x0 x1 x2 x3, P0 x0 x1 x2 x3 ∧ P1 x0 x1 x2 x3 ∧ P2 x0 x1 x2 x3 ∧ P3 x0 x1 x2 x3) (f : ∀ x0 x1 x2 x3, P0 x0 x1 x2 x3 → P1 x0 x1 x2 x3 → P2 x0 x1 x2 x3 → P3 x0 x1 x2 x3 → G) : G := h.elim fun x0 h => h.elim fun x1 h => h.elim fun x2 h => h.elim fun x3 h => f x0 x1 x2 x3 h.1 h.2.1 h.2.2.1 h.2.2.2
theorem xe5_3 {α0 : Type} {α1 : Type} {α2 : Type} {α3 : Type} {α4 : Type} {P0 : α0 → α1 → α2 → α3 → α4 → Prop} {P1 : α0 → α1 → α2 → α3 → α4 → Prop} {P2 : α0 → α1 → α2 → α3 → α4 → Prop} {G : Prop} (h : ∃ x0 x1 x2 x3 x4, P0 x0 x1 x2 x3 x4 ∧ P1 x0 x1 x2 x3 x4 ∧ P2 x0 x1 x2 x3 x4) (f : ∀ x0 x1 x2 x3 x4, P0 x0 x1 x2 x3 x4 → P1 x0 x1 x2 x3 x4 → P2 x0 x1 x2 x3 x4 → G) : G := h.elim fun x0 h => h.elim fun x1 h => h.elim fun x2 h => h.elim fun x3 h => h.elim fun x4 h => f x0 x1 x2 x3 x4 h.1 h.2.1 h.2.2
theorem xe7_1 {α0 : Type} {α1 : Type} {α2 : Type} {α3 : Type} {α4 : Type} {α5 : Type} {α6 : Type} {P0 : α0 → α1 → α2 → α3 → α4 → α5 → α6 → Prop} {G : Prop} (h : ∃ x0 x1 x2 x3 x4 x5 x6, P0 x0 x1 x2 x3 x4 x5 x6) (f : ∀ x0 x1 x2 x3 x4 x5 x6, P0 x0 x1 x2 x3 x4 x5 x6 → G) : G := h.elim fun x0 h => h.elim fun x1 h => h.elim fun x2 h => h.elim fun x3 h => h.elim fun x4 h => h.elim fun x5 h => h.elim fun x6 h => f x0 x1 x2 x3 x4 x5 x6 h
theorem bind_el {α β : Type} {o : Option α} {f : α → Option β} {b : β} {G : Prop} (h : o.bind f = some b) (g : ∀ a, o = some a → f a = some b → G) : G :=
  let ⟨a, h1, h2⟩ := Option.bind_eq_some_iff.mp h; g a h1 h2
theorem map_el {α β : Type} {o : Option α} {f : α → β} {b : β} {G : Prop} (h : o.map f = some b) (g : ∀ a, o = some a → f a = b → G) : G :=
  let ⟨a, h1, h2⟩ := Option.map_eq_some_iff.mp h; g a h1 h2
theorem ite_el {α : Type} {p : Prop} [Decidable p] {o : Option α} {a : α} {G : Prop} (h : (if p then o else none) = some a) (g : p → o = some a → G) : G := by
  rw [Option.ite_none_right_eq_some] at h; exact g h.1 h.2
end Mine
end

section
open Lean in
local macro_rules
  | `(tactic| cases $h:ident) => `(tactic| first | exact nos1 $h | exact nos2 $h | exact nob1 $h | exact nob2 $h | (have hh := Option.some.inj $h; subst hh; clear $h) | cases ($h))
local macro_rules
  | `(tactic| omega) => `(tactic| first | assumption | exact Nat.le_trans (by assumption) (by decide) | lia | omega (splitDisjunctions := true))

section
open PySem PySem.W PyProof.Rows
set_option tactic.hygienic false
namespace Mine
structure Gw (h h' : Heap) : Prop where
  size : h.objs.size ≤ h'.objs.size
  dead : ∀ b, b < h.objs.size → h.get? b = none → h'.get? b = none
theorem Gw.refl (h : Heap) : Gw h h := ⟨Nat.le_refl _, fun _ _ e => e⟩
theorem Gw.trans {h h' h'' : Heap} (x : Gw h h') (y : Gw h' h'') : Gw h h'' := ⟨Nat.le_trans x.size y.size, fun b hb e => y.dead b (Nat.lt_of_lt_of_le hb x.size) (x.dead b hb e)⟩
theorem Gw.push (h : Heap) (o : Obj) : Gw h (h.push o) := ⟨by rw [Heap.size_push]; exact Nat.le_succ _, fun b hb e => by
  have hne : b ≠ h.objs.size := Nat.ne_of_lt hb
  have : (h.push o).get? b = h.get? b := by
    unfold Heap.get? Heap.push
    simp only [Array.getElem?_push, hne, if_false]
  rw [this]; exact e⟩
theorem Gw.update (h : Heap) (a : Addr) (f : Obj → Obj) (ha : (h.get? a).isSome) : Gw h (h.update a f) := ⟨by rw [Heap.size_after_update]; exact Nat.le_refl _, fun b _ e => by
  rw [Heap.get?_update_other]
  · exact e
  · rintro rfl; rw [e] at ha; cases ha⟩
theorem runs_gw {M : Model} {Γ : Ctx} {p : Pos} {t : Sem Fin} {fs : List Frame} {s s' : Shared} {e : End} (h : Runs M Γ p t fs s e s') : Gw s.heap s'.heap := by
  induction h with
  | done => exact .refl _
  | raise => exact .refl _
  | yield => exact .refl _
  | update ha _ ih => exact (Gw.update _ _ _ ha).trans ih
  | alloc _ ih => exact (Gw.push _ _).trans ih
  | call _ _ i1 i2 => exact i1.trans i2
  | resumeFresh _ _ _ _ i1 i2 => exact Gw.trans i1 i2
  | resumeSuspended _ _ _ _ i1 i2 => exact Gw.trans i1 i2
  | segRet _ _ i1 i2 => exact i1.trans i2
  | segGen _ _ i1 i2 => exact Gw.trans i1 i2
  | segSuspGen _ _ _ _ i1 i2 => exact Gw.trans i1 i2
  | _ => assumption
theorem wakes_gw {M : Model} {Γ : Ctx} {p : Pos} {g : Nat} {r : Resume} {s s' : Shared} {res : GenResult} (h : Wakes M Γ p g r s res s') : Gw s.heap s'.heap := by
  unfold Wakes at h
  split at h
  · exact h.elim
  · split at h
    · (refine xe2_4 h ?_; (try clear h); intro e₁ s₁ hr _ _ hq5; rcases hq5 with rfl); exact (runs_gw hr : Gw (s.setGen g .running).heap s₁.heap)
    · rw [h.2]; exact .refl _
    · rw [h.2]; exact .refl _
  · (refine xe2_4 h ?_; (try clear h); intro e₁ s₁ hr _ _ hq5; rcases hq5 with rfl); exact (runs_gw hr : Gw (s.setGen g .running).heap s₁.heap)
  · rw [h.2]; exact .refl _
  · rw [h.2]; exact .refl _
theorem wp_gw {α : Type} (M : Model) (Γ : Ctx) (h₀ : Heap) (t : Sem α) : ∀ (Q : α → Pos → Shared → Prop) (E : Value → Pos → Shared → Prop) (p : Pos) (s : Shared), Gw h₀ s.heap → Sem.wp M Γ t Q E p s →
    Sem.wp M Γ t (fun a p' s' => Gw h₀ s'.heap ∧ Q a p' s') (fun e p' s' => Gw h₀ s'.heap ∧ E e p' s') p s := by
  induction t with
  | pure a => exact fun Q E p s hn h => ⟨hn, h⟩
  | raise e => exact fun Q E p s hn h => ⟨hn, h⟩
  | unsupported _ => exact fun Q E p s _ h => h
  | finish _ => exact fun Q E p s _ h => h
  | rule _ k ih => exact fun Q E p s hn h => ih () Q E p s hn h
  | «at» p' k ih => exact fun Q E p s hn h => ih () Q E p' s hn h
  | load a _ k ih => exact fun Q E p s hn ⟨o, ho, h⟩ => ⟨o, ho, ih o Q E p s hn h⟩
  | update a _ f k ih => exact fun Q E p s hn h => ⟨h.1, ih () Q E p _ (hn.trans (Gw.update _ _ _ h.1)) h.2⟩
  | loadIfAlive a k ih => exact fun Q E p s hn h => ih _ Q E p s hn h
  | point _ k ih => exact fun Q E p s hn h => ih () Q E p s hn h
  | register _ _ => exact fun Q E p s _ h => h
  | alloc o k ih => exact fun Q E p s hn h => ih _ Q E p _ (hn.trans (Gw.push _ _)) h
  | fresh k ih => exact fun Q E p s hn h => ih _ Q E p _ hn h
  | ask k ih => exact fun Q E p s hn h => ih _ Q E p s hn h
  | choose src m k ih => exact fun Q E p s hn h => ⟨h.1, ih _ Q E p _ hn h.2⟩
  | os q _ k ih => exact fun Q E p s hn h => ih _ Q E p _ hn h
  | call c hd _ _ k ih => exact fun Q E p s hn ⟨r, s', hr, h⟩ => ⟨r, s', hr, ih r Q E p s' (hn.trans (runs_gw hr)) h⟩
  | handled own k ih => exact fun Q E p s hn h => ih _ Q E p s hn h
  | genState g k ih => exact fun Q E p s hn ⟨st, hs, h⟩ => ⟨st, hs, ih _ Q E p s hn h⟩
  | newGen c k ih => exact fun Q E p s hn h => ih _ Q E p _ hn h
  | resume g r _ k ih => exact fun Q E p s hn ⟨res, s', hw, h⟩ => ⟨res, s', hw, ih res Q E p s' (hn.trans (wakes_gw hw)) h⟩
  | yield _ _ _ _ => exact fun Q E p s _ h => h
  | stack k ih => exact fun Q E p s hn h => ih _ Q E p s hn h
  | fork _ _ => exact fun Q E p s _ h => h
  | thread k ih => exact fun Q E p s hn h => ih _ Q E p s hn h
  | await _ _ _ _ _ => exact fun Q E p s _ h => h
theorem wpAny_gw {α : Type} {M : Model} {A : Around} {s : Shared} {t : Sem α} {Q : α → Shared → Prop} {E : Value → Shared → Prop} (h : wpAny M A t (fun a s' => Gw s.heap s'.heap → Q a s') E s) : wpAny M A t Q E s :=
  fun Γ p hΓ => Sem.wp_mono M Γ t (fun _ _ _ x => x.2 x.1) (fun _ _ _ x => x.2) p s (wp_gw M Γ s.heap t _ _ p s (.refl _) (h Γ p hΓ))
end Mine
end

section
open PySem PySem.W PyProof.Rows
set_option tactic.hygienic false
namespace Mine
inductive D where
  | none
  | bool (b : Bool)
  | int (i : Int)
  | str (s : Str)
  | tup (l : List D)
  | lst (l : List D)
  | lsw (l : List D)
  | dct (l : List (Str × D))
  | inst (l : List (Str × D))
  deriving Inhabited
inductive Slot where
  | fr (d : D)
  | ol (l : List D)
  | od (l : List (Str × D))
  | oi (t : Nat × Nat) (l : List (Str × D))
  deriving Inhabited
noncomputable abbrev Sc := List (Str × Slot)
noncomputable def upd {α : Type} : List (Str × α) → Str → α → List (Str × α)
  | [], x, s => [(x, s)]
  | (y, t) :: r, x, s => if x = y then (y, s) :: r else (y, t) :: upd r x s
noncomputable def lkp {α : Type} : List (Str × α) → Str → Option α
  | [], _ => none
  | (y, t) :: r, x => if x = y then some t else lkp r x
noncomputable def slotD : Slot → D
  | .fr d => d
  | .ol l => .lst l
  | .od l => .dct l
  | .oi _ l => .inst l
noncomputable def frzS (t : Slot) : Slot := .fr (slotD t)
noncomputable def frz1 (x : Str) : Sc → Sc
  | [] => []
  | (y, t) :: r => if x = y then (y, frzS t) :: r else (y, t) :: frz1 x r
noncomputable def frz : List Str → Sc → Sc
  | [], ρ => ρ
  | x :: r, ρ => frz r (frz1 x ρ)
noncomputable def toOwn : D → Slot
  | .lst l => .ol l
  | .dct l => .od l
  | d => .fr d
noncomputable def eqL (f : D → D → Option Bool) : List D → List D → Option Bool
  | [], _ => some true
  | _ :: _, [] => some true
  | x :: xs, y :: ys => match f x y, eqL f xs ys with
    | some a, some b => some (a && b)
    | _, _ => none
noncomputable def eqK (f : D → D → Option Bool) : List (Str × D) → List (Str × D) → Option Bool
  | [], _ => some true
  | (k, v) :: r, ys => match lkp ys k with
    | none => some false
    | some y => match f v y, eqK f r ys with
      | some a, some b => some (a && b)
      | _, _ => none
noncomputable def eqF : D → D → Option Bool
  | .int a, .int b => some (a == b)
  | .str a, .str b => some (a == b)
  | .bool a, .bool b => some (a == b)
  | _, _ => none
noncomputable def eqT : D → D → Option Bool
  | .tup xs, .tup ys => (eqL eqF xs ys).map fun b => b && xs.length == ys.length
  | x, y => eqF x y
noncomputable def eqD : Nat → D → D → Option Bool
  | 0, x, y => eqF x y
  | n + 1, x, y => match x, y with
    | .tup xs, .tup ys => (eqL (eqD n) xs ys).map fun b => b && xs.length == ys.length
    | .lst xs, .lst ys => if xs.length == ys.length then eqL eqF xs ys else some false
    | .dct xs, .dct ys => if xs.length == ys.length then eqK eqT xs ys else some false
    | x, y => eqF x y
theorem sub_prop {γ β : Type} {e : γ} {p : γ → β → Prop} {f : (e : γ) → Option {z : β // p e z}} {x : β} (h : (f e).map Subtype.val = some x) : p e x :=
  map_el h fun y _ h2 => h2 ▸ y.2
noncomputable def intOfP : (d : D) → Option {i : Int // d = .int i}
  | .int i => some ⟨i, rfl⟩
  | _ => none
noncomputable def strOfP : (d : D) → Option {i : Str // d = .str i}
  | .str i => some ⟨i, rfl⟩
  | _ => none
noncomputable def truthD : D → Option Bool
  | .bool b => some b
  | .int i => some (i != 0)
  | .str s => if s.length ≤ 10000000 then some ((s.length : Int) != 0) else none
  | _ => none
noncomputable def okMul (a b : Int) : Bool := decide (Builtin.Int.intBits a ≤ 64) || decide (Builtin.Int.intBits b ≤ 64)
noncomputable def vThree {α : Type} : (l : List α) → Option {z : α × α × α // l = [z.1, z.2.1, z.2.2]}
  | [a, b, c] => some ⟨(a, b, c), rfl⟩
  | _ => none
noncomputable def fmtS (f s : Str) : Option D := if f = Str.ofString "{%s}" ∧ s.length ≤ 1000000 then some (.str (Str.ofString "{" ++ s ++ Str.ofString "}")) else none
noncomputable def fmtT (f : Str) (l : List D) : Option D := (vThree l).bind fun z => (strOfP z.1.1).bind fun a => (intOfP z.1.2.1).bind fun b => (strOfP z.1.2.2).bind fun c =>
  if f = Str.ofString "%s:%d(%s)" ∧ a.1.length ≤ 100000 ∧ c.1.length ≤ 100000 ∧ 0 ≤ b.1 ∧ b.1 < 10000000000
    then some (.str (a.1 ++ Str.ofString ":" ++ Str.ofString (toString b.1) ++ Str.ofString "(" ++ c.1 ++ Str.ofString ")")) else none
noncomputable def binD (op : Operator) : D → D → Option D
  | .int a, .int b => match op with
    | .Add => some (.int (a + b))
    | .Sub => some (.int (a - b))
    | .Mult => if okMul a b then some (.int (a * b)) else none
    | .FloorDiv => if b ≠ 0 ∧ Builtin.divisionGoesByPylong a b = false then some (.int (Int.fdiv a b)) else none
    | .Mod => if b ≠ 0 then some (.int (Int.fmod a b)) else none
    | .Pow => if 0 ≤ b ∧ (Builtin.Int.intBits a : Int) * b ≤ 2 ^ 27 then some (.int (a ^ b.toNat)) else none
    | _ => none
  | .str a, .str b => match op with
    | .Add => if a.length + b.length ≤ sizeLine then some (.str (a ++ b)) else none
    | .Mod => fmtS a b
    | _ => none
  | .str a, .tup l => match op with
    | .Mod => fmtT a l
    | _ => none
  | .str a, .int n => match op with
    | .Mult => if 0 ≤ n ∧ n ≤ 1000 ∧ a.length ≤ 1000 then some (.str (Txt.mul a n)) else none
    | _ => none
  | .lst a, .lst b => match op with
    | .Add => if a.length + b.length ≤ 1000000 then some (.lst (a ++ b)) else none
    | _ => none
  | _, _ => none
noncomputable def cmpD (op : CmpOp) (x y : D) : Option Bool :=
  match op with
  | .Eq => eqD 5 x y
  | .NotEq => (eqD 5 x y).map (!·)
  | .Lt => match x, y with | .int a, .int b => some (decide (a < b)) | _, _ => none
  | .LtE => match x, y with | .int a, .int b => some (decide (a ≤ b)) | _, _ => none
  | .Gt => match x, y with | .int a, .int b => some (decide (b < a)) | _, _ => none
  | .GtE => match x, y with | .int a, .int b => some (decide (b ≤ a)) | _, _ => none
  | .In => match x, y with
    | .str a, .str b => some (Txt.contains b a)
    | .str a, .dct kvs => some (lkp kvs a).isSome
    | _, _ => none
  | .NotIn => match x, y with
    | .str a, .str b => some (!Txt.contains b a)
    | .str a, .dct kvs => some (!(lkp kvs a).isSome)
    | _, _ => none
  | .Is => match x, y with | .bool a, .bool b => some (a == b) | _, _ => none
  | .IsNot => match x, y with | .bool a, .bool b => some (!(a == b)) | _, _ => none
noncomputable def vOneP {α : Type} : (l : List α) → Option {z : α // l = [z]}
  | [a] => some ⟨a, rfl⟩
  | _ => none
noncomputable def vTwoP {α : Type} : (l : List α) → Option {z : α × α // l = [z.1, z.2]}
  | [a, b] => some ⟨(a, b), rfl⟩
  | _ => none
noncomputable def vOne {α : Type} (l : List α) : Option α := (vOneP l).map Subtype.val
noncomputable def vTwo {α : Type} (l : List α) : Option (α × α) := (vTwoP l).map Subtype.val
noncomputable def intOf (d : D) : Option Int := (intOfP d).map Subtype.val
noncomputable def strOf (d : D) : Option Str := (strOfP d).map Subtype.val
noncomputable def instOfP : (d : D) → Option {i : List (Str × D) // d = .inst i}
  | .inst i => some ⟨i, rfl⟩
  | _ => none
noncomputable def instOf (d : D) : Option (List (Str × D)) := (instOfP d).map Subtype.val
noncomputable def dctOfP : (d : D) → Option {i : List (Str × D) // d = .dct i}
  | .dct i => some ⟨i, rfl⟩
  | _ => none
noncomputable def dctOf (d : D) : Option (List (Str × D)) := (dctOfP d).map Subtype.val
noncomputable def lstOfP : (d : D) → Option {i : List D // d = .lst i}
  | .lst i => some ⟨i, rfl⟩
  | _ => none
noncomputable def lstOf (d : D) : Option (List D) := (lstOfP d).map Subtype.val
noncomputable def tupOfP : (d : D) → Option {i : List D // d = .tup i}
  | .tup i => some ⟨i, rfl⟩
  | _ => none
noncomputable def tupOf (d : D) : Option (List D) := (tupOfP d).map Subtype.val
noncomputable def intsOf : List D → Option (List Int)
  | [] => some []
  | d :: r => (intOf d).bind fun i => (intsOf r).map (i :: ·)
noncomputable def strsOf : List D → Option (List Str)
  | [] => some []
  | d :: r => (strOf d).bind fun i => (strsOf r).map (i :: ·)
noncomputable def itemD (l : List D) (i : Int) : Option D :=
  if -(2 ^ 63) ≤ i ∧ i < 2 ^ 63 then (seqIndex? i l.length).bind fun j => l[j]? else none
noncomputable def subD : D → D → Option D
  | .lst l, .int i => itemD l i
  | .tup l, .int i => itemD l i
  | .dct kvs, .str k => lkp kvs k
  | .str s, .int i => if -(2 ^ 63) ≤ i ∧ i < 2 ^ 63 then ((seqIndex? i s.length).bind fun j => s.cps[j]?).map fun c => .str ⟨#[c]⟩ else none
  | _, _ => none
noncomputable def sliceIdx (lo hi st : Option Int) (n : Nat) : List Nat :=
  sliceRange (sliceBounds lo hi st n).1 (sliceBounds lo hi st n).2.1 (sliceBounds lo hi st n).2.2
noncomputable def sliceD : D → Option Int → Option Int → Option Int → Option D
  | .lst l, lo, hi, st => if st ≠ some 0 ∧ l.length ≤ 1000000 then some (.lst ((sliceIdx lo hi st l.length).filterMap (l[·]?))) else none
  | .lsw l, lo, hi, st => if st ≠ some 0 ∧ l.length ≤ 1000000 then some (.lst ((sliceIdx lo hi st l.length).filterMap (l[·]?))) else none
  | .str x, lo, hi, st => if st = none ∧ (Builtin.Str.strSliceIndices lo hi 1 x.length).length ≠ x.length ∧ ((Builtin.Str.strSliceIndices lo hi 1 x.length).filterMap (x.cps[·]?)).length ≤ 1000000 then
      some (.str ⟨((Builtin.Str.strSliceIndices lo hi 1 x.length).filterMap (x.cps[·]?)).toArray⟩) else none
  | .tup l, lo, hi, st => if lo = none ∧ hi = some 2 ∧ st = none then (vThree l).map fun z => .tup [z.1.1, z.1.2.1] else none
  | _, _, _, _ => none
noncomputable def constD : Const → Option D
  | .none => some .none
  | .bool b => some (.bool b)
  | .int i => some (.int i)
  | .str s => some (.str s)
  | _ => none
inductive Fl where
  | next
  | brk
  | ret (d : D)
noncomputable def isVar (names : List (Str × NameKind)) (x : Str) : Bool :=
  match names.lookup x with
  | some .local => true
  | some .cell => true
  | some .free => true
  | _ => false
noncomputable def isGlob (names : List (Str × NameKind)) (x : Str) : Bool :=
  match names.lookup x with
  | some .globalImplicit => true
  | _ => false
structure Cx where
  call : Str → List D → Option D
  names : List (Str × NameKind)
  gen : Bool := false
noncomputable def Cx.inner (c : Cx) (s : Scope) : Cx := { c with names := s.names, gen := false }
noncomputable def genOk (i j : Str) (s : Scope) : Bool := s.kind == .function && !s.isCoroutine && s.names.lookup (".0" : Str) == some .local && s.names.lookup i == some .local && s.names.lookup j == some .local && i != j &&
  i != Str.ofString "__debug__" && j != Str.ofString "__debug__" && s.names.all fun p => p.2 == .local || p.2 == .globalImplicit
noncomputable def compOk (c : Cx) (s : Scope) : Bool := s.kind == .function && s.names.all fun p =>
  p.1 != Str.ofString "__debug__" && p.1 != Str.ofString "__classdict__" && s.names.lookup p.1 == some p.2 &&
  match p.2 with
  | .local => true
  | .free => c.names.lookup p.1 == some .cell || c.names.lookup p.1 == some .free
  | .globalImplicit => true
  | _ => false
noncomputable def dropL (s : Scope) (ρ : Sc) : Sc := ρ.filter fun p => !(s.names.lookup p.1 == some .local)
noncomputable def plainBase : Expr → Bool
  | .Name _ _ => true
  | .Constant _ _ _ => true
  | .Subscript _ _ _ => true
  | _ => false
noncomputable def methFns : List Str := [Str.ofString "Whitespace.__init__", Str.ofString "Whitespace.indent_level", Str.ofString "Whitespace.equal"]
noncomputable def instNames : List Str := [Str.ofString "raw", Str.ofString "n", Str.ofString "nt", Str.ofString "norm", Str.ofString "is_simple"]
noncomputable def swOk (vs : List Expr) : Bool := !vs.all (foldedForSure 8) && !vs.all (constantsAlone 8)
noncomputable def namesOfComp (s : Scope) : List Str := s.names.filterMap fun p => match p.2 with | .free => some p.1 | _ => none
noncomputable def vNameP : (e : Expr) → Option {z : Str // (fun x => ∃ p, e = .Name x p) z}
  | .Name x p => some ⟨x, ⟨p, rfl⟩⟩
  | _ => none
noncomputable def vName (e : Expr) : Option (Str) := (vNameP e).map Subtype.val
noncomputable def vAttrP : (e : Expr) → Option {z : Expr × Str × Pos // (fun z => e = .Attribute z.1 z.2.1 z.2.2) z}
  | .Attribute o m p => some ⟨(o, m, p), rfl⟩
  | _ => none
noncomputable def vAttr (e : Expr) : Option (Expr × Str × Pos) := (vAttrP e).map Subtype.val
noncomputable def vCallP : (e : Expr) → Option {z : Expr × List Expr × Pos // e = .Call z.1 z.2.1 [] z.2.2}
  | .Call f args ks p => if h : ks.isEmpty = true then some ⟨(f, args, p), by rw [List.isEmpty_iff.mp h]⟩ else none
  | _ => none
noncomputable def vCall (e : Expr) : Option (Expr × List Expr × Pos) := (vCallP e).map Subtype.val
noncomputable def vTupleP : (e : Expr) → Option {z : List Expr // (fun l => ∃ k p, e = .Tuple l k p) z}
  | .Tuple l k p => some ⟨l, ⟨k, p, rfl⟩⟩
  | _ => none
noncomputable def vTuple (e : Expr) : Option (List Expr) := (vTupleP e).map Subtype.val
noncomputable def vListP : (e : Expr) → Option {z : List Expr // (fun l => ∃ p, e = .List l p) z}
  | .List l p => some ⟨l, ⟨p, rfl⟩⟩
  | _ => none
noncomputable def vList (e : Expr) : Option (List Expr) := (vListP e).map Subtype.val
noncomputable def vSubP : (e : Expr) → Option {z : Expr × Expr // (fun z => ∃ p, e = .Subscript z.1 z.2 p) z}
  | .Subscript b i p => some ⟨(b, i), ⟨p, rfl⟩⟩
  | _ => none
noncomputable def vSub (e : Expr) : Option (Expr × Expr) := (vSubP e).map Subtype.val
noncomputable def vSliceP : (e : Expr) → Option {z : Option Expr × Option Expr × Option Expr // (fun z => ∃ p, e = .Slice z.1 z.2.1 z.2.2 p) z}
  | .Slice a b c p => some ⟨(a, b, c), ⟨p, rfl⟩⟩
  | _ => none
noncomputable def vSlice (e : Expr) : Option (Option Expr × Option Expr × Option Expr) := (vSliceP e).map Subtype.val
noncomputable def vAddP : (e : Expr) → Option {z : Expr × Expr // ∃ p, e = .BinOp z.1 .Add z.2 p}
  | .BinOp a op b p => if h : op = .Add then some ⟨(a, b), p, by rw [h]⟩ else none
  | _ => none
noncomputable def vAdd (e : Expr) : Option (Expr × Expr) := (vAddP e).map Subtype.val
noncomputable def vGenEP : (e : Expr) → Option {z : Expr × List Comprehension × Scope // (fun z => ∃ p, e = .GeneratorExp z.1 z.2.1 z.2.2 p) z}
  | .GeneratorExp x g s p => some ⟨(x, g, s), ⟨p, rfl⟩⟩
  | _ => none
noncomputable def vGenE (e : Expr) : Option (Expr × List Comprehension × Scope) := (vGenEP e).map Subtype.val
noncomputable def vConstP : (e : Expr) → Option {z : Const // (fun c => ∃ k p, e = .Constant c k p) z}
  | .Constant c k p => some ⟨c, ⟨k, p, rfl⟩⟩
  | _ => none
noncomputable def vConst (e : Expr) : Option (Const) := (vConstP e).map Subtype.val
noncomputable def vMeth (e : Expr) : Option (Expr × Str × Pos × List Expr × Pos) :=
  (vCall e).bind fun x => (vAttr x.1).map fun y => (y.1, y.2.1, y.2.2, x.2.1, x.2.2)
noncomputable def vMulList (a : Expr) (op : Operator) : Option (List Expr) := if op = .Mult then vList a else none
noncomputable def vItems (e : Expr) : Option (Expr × Pos × Pos) := (vMeth e).bind fun (o, m, ap, args, p) =>
  if m = Str.ofString "items" ∧ args.isEmpty = true ∧ (vName o).isSome = true then some (o, ap, p) else none
noncomputable def vTup2N (e : Expr) : Option (Str × Str) := (vTuple e).bind fun l => (vTwo l).bind fun (a, b) => (vName a).bind fun x => (vName b).map fun y => (x, y)
noncomputable def vClause (gs : List Comprehension) : Option (Expr × Expr) := (vOne gs).bind fun g => if g.ifs.isEmpty = true ∧ g.is_async = 0 then some (g.target, g.iter) else none
structure GenV where
  i : Str
  j : Str
  a : Expr
  b : Expr
  sc : Scope
noncomputable def vGen (e : Expr) : Option GenV :=
  (vGenE e).bind fun (elt, gs, sc) => (vAdd elt).bind fun (l, r) => (vName l).bind fun i => (vName r).bind fun j => (vClause gs).bind fun (t, it) => (vTup2N t).bind fun (i', j') =>
  (vCall it).bind fun (z, args, _) => (vName z).bind fun zn => (vTwo args).bind fun (a, b) => if i = i' ∧ j = j' ∧ zn = Str.ofString "zip" then some ⟨i, j, a, b, sc⟩ else none
mutual
noncomputable def reads : Expr → List Str
  | .Name x _ => [x]
  | .BoolOp _ vs _ => readsL vs
  | .BinOp a _ b _ => reads a ++ reads b
  | .UnaryOp _ a _ => reads a
  | .IfExp a b c _ => reads a ++ reads b ++ reads c
  | .List vs _ => readsL vs
  | .Tuple vs _ _ => readsL vs
  | .Compare a _ bs _ => (if (vName a).isSome then [] else reads a) ++ readsN bs
  | .Call f as _ _ => readsF f ++ (if vName f = some (Str.ofString "len") then readsN as else readsL as)
  | .Attribute a _ _ => if (vName a).isSome then [] else reads a
  | .Subscript a i _ => (if (vName a).isSome && (vSlice i).isNone then [] else reads a) ++ reads i
  | .Slice a b c _ => readsO a ++ readsO b ++ readsO c
  | .ListComp _ gens s _ => namesOfComp s ++ readsG gens
  | .GeneratorExp _ gens s _ => namesOfComp s ++ readsG gens
  | _ => []
noncomputable def readsF : Expr → List Str
  | .Attribute o a _ => if a = Str.ofString "append" then [] else reads o
  | _ => []
noncomputable def readsL : List Expr → List Str
  | [] => []
  | e :: r => reads e ++ readsL r
noncomputable def readsN : List Expr → List Str
  | [] => []
  | e :: r => (if (vName e).isSome then [] else reads e) ++ readsN r
noncomputable def readsO : Option Expr → List Str
  | none => []
  | some e => reads e
noncomputable def readsG : List Comprehension → List Str
  | [] => []
  | ⟨_, it, _, _⟩ :: _ => reads it
end
noncomputable def targetReads (e : Expr) : List Str := match vSub e with
  | some (_, i) => reads i
  | none => []
noncomputable def sreads : Stmt → List Str
  | .Assign ts v _ => reads v ++ ts.flatMap targetReads
  | .AugAssign t _ v _ => targetReads t ++ reads v
  | .If t _ _ _ => reads t
  | .For _ it _ _ _ => reads it
  | .Return e _ => readsO e
  | .Expr e _ => reads e
  | .Assert t _ _ => reads t
  | .Delete ts _ => ts.flatMap targetReads
  | _ => []
noncomputable def cnames : List Expr → Option (List Str)
  | [] => some []
  | .Name x _ :: r => (cnames r).map (x :: ·)
  | _ => none
noncomputable def rangeL (a b : Int) : List D := (List.range (b - a).toNat).map fun (i : Nat) => .int (a + (i : Int))
inductive BK where
  | len | sum | max | min | abs | sorted | isi | tuple | str | range | zip
  deriving DecidableEq
noncomputable def bname : BK → Str
  | .len => Str.ofString "len"
  | .sum => Str.ofString "sum"
  | .max => Str.ofString "max"
  | .min => Str.ofString "min"
  | .abs => Str.ofString "abs"
  | .sorted => Str.ofString "sorted"
  | .isi => Str.ofString "isinstance"
  | .tuple => Str.ofString "tuple"
  | .str => Str.ofString "str"
  | .range => Str.ofString "range"
  | .zip => Str.ofString "zip"
noncomputable def bks : List BK := [.len, .sum, .max, .min, .abs, .sorted, .isi, .tuple, .str, .range, .zip]
noncomputable def bk (f : Str) : Option BK := bks.find? fun k => f == bname k
noncomputable def lenD : D → Option D
  | .lst l => if l.length ≤ 1000000 then some (.int l.length) else none
  | .tup l => if l.length ≤ 1000000 then some (.int l.length) else none
  | .str s => if s.length ≤ 10000000 then some (.int s.length) else none
  | _ => none
noncomputable def builtK : BK → List D → Option D
  | .len, ds => (vOne ds).bind lenD
  | .sum, ds => (vOne ds).bind fun x => (lstOf x).bind fun l => (intsOf l).map fun ns => .int ns.sum
  | .max, ds => (vOne ds).bind fun x => (lstOf x).bind fun l => (intsOf l).bind fun ns => match ns with
    | [] => none
    | n :: ns => some (.int (ns.foldl Max.max n))
  | .sorted, ds => (vOne ds).bind fun x => (lstOf x).bind fun l => if l.length ≤ 60 then (intsOf l).map fun ns => .lst ((ns.mergeSort fun a b => decide (a ≤ b)).map .int) else none
  | .tuple, ds => (vOne ds).bind fun x => (lstOf x).bind fun l => if l.length ≤ 1000000 then some (.tup l) else none
  | .abs, ds => (vOne ds).bind fun x => (intOf x).map fun i => .int (if i < 0 then -i else i)
  | .str, ds => (vOne ds).bind fun x => (intOf x).bind fun i => if 0 ≤ i ∧ i < 10000000000 then some (.str (Str.ofString (toString i))) else none
  | .min, ds => (vTwo ds).bind fun (x, y) => (intOf x).bind fun a => (intOf y).map fun b => .int (if b < a then b else a)
  | _, _ => none
inductive MK where
  | startswith | endswith | split | find | join | count | get
  deriving DecidableEq
noncomputable def mname : MK → Str
  | .startswith => Str.ofString "startswith"
  | .endswith => Str.ofString "endswith"
  | .split => Str.ofString "split"
  | .find => Str.ofString "find"
  | .join => Str.ofString "join"
  | .count => Str.ofString "count"
  | .get => Str.ofString "get"
noncomputable def mks : List MK := [.startswith, .endswith, .split, .find, .join, .count, .get]
noncomputable def mk (f : Str) : Option MK := mks.find? fun k => f == mname k
noncomputable def findD (s t : Str) (is : List Int) : Option D := (vTwo is).bind fun (i, j) => if 0 ≤ i ∧ i ≤ s.length ∧ 0 ≤ j ∧ j ≤ s.length then
      some (.int (match Builtin.Str.occurrences s t i.toNat j.toNat 1 with | k :: _ => (k : Int) | [] => -1)) else none
noncomputable def methK : MK → D → List D → Option D
  | .startswith, x, ds => (strOf x).bind fun s => (vOne ds).bind fun y => (strOf y).map fun t => .bool (Txt.startswith s t)
  | .endswith, x, ds => (strOf x).bind fun s => (vOne ds).bind fun y => (strOf y).map fun t => .bool (Txt.endswith s t)
  | .split, x, ds => (strOf x).bind fun s => (vOne ds).bind fun y => (strOf y).bind fun t => if t.length ≠ 0 ∧ s.length ≤ 100000 then some (.lst ((Txt.split s t).map .str)) else none
  | .find, x, ds => (strOf x).bind fun s => ds.head?.bind fun y => (strOf y).bind fun t => (intsOf ds.tail).bind fun is => findD s t is
  | .join, x, ds => (strOf x).bind fun s => (vOne ds).bind fun y => (lstOf y).bind fun l => (strsOf l).bind fun ts => if JoinOk s ts = true ∧ ts.length ≤ 1000000 then some (.str (Txt.join s ts)) else none
  | .count, x, ds => (lstOf x).bind fun l => (vOne ds).bind fun y => (intOf y).bind fun i => (intsOf l).map fun ns => .int (ns.count i)
  | .get, x, ds => (dctOf x).bind fun kvs => (vTwo ds).bind fun (y, d) => (strOf y).map fun k => (lkp kvs k).getD d
noncomputable def classAttr (x a : Str) : Option D :=
  if x = Str.ofString "Whitespace" then
    (if a = Str.ofString "S" then some (.str (Str.ofString " ")) else if a = Str.ofString "T" then some (.str (Str.ofString "\t")) else none)
  else none
noncomputable def globD (x : Str) : Option D := if x = Str.ofString "ELLIPSIS_MARKER" then some (.str (Str.ofString "...")) else none
noncomputable def methName (m : Str) : Option Str :=
  if m = Str.ofString "indent_level" then some (Str.ofString "Whitespace.indent_level")
  else if m = Str.ofString "equal" then some (Str.ofString "Whitespace.equal") else none
noncomputable def addPairs (x y : D) : Option D := (tupOf x).bind fun l => (intsOf l).bind fun is => (vTwo is).bind fun (a, b) => (tupOf y).bind fun l' => (intsOf l').bind fun js => (vTwo js).map fun (c, d) => .tup [.int (a + c), .int (b + d)]
noncomputable def loopD (f : D → Sc → Option (Fl × Sc)) : List D → Sc → Option (Fl × Sc)
  | [], ρ => some (.next, ρ)
  | d :: r, ρ => match f d ρ with
    | some (.next, ρ') => loopD f r ρ'
    | some (.brk, ρ') => some (.next, ρ')
    | some (.ret v, ρ') => some (.ret v, ρ')
    | none => none
noncomputable def gatherD (f : D → Option (List D)) : List D → Option (List D)
  | [] => some []
  | d :: r => match f d, gatherD f r with
    | some a, some b => some (a ++ b)
    | _, _ => none
noncomputable def nameD (c : Cx) (ρ : Sc) (x : Str) : Option D :=
  if isVar c.names x then (lkp ρ x).bind fun s => match s with | .fr d => some d | _ => none
  else if isGlob c.names x then globD x else none
noncomputable def negD (op : UnaryOp) (a : Expr) : Option D := if op = .USub then (vConst a).bind fun k => match k with | .int i => some (.int (-i)) | _ => none else none
noncomputable def attrD (c : Cx) (ρ : Sc) (o : Expr) (a : Str) : Option D := (vName o).bind fun x =>
  if isVar c.names x then (lkp ρ x).bind fun s => (instOf (slotD s)).bind fun as => if instNames.contains a then lkp as a else none
  else if isGlob c.names x then classAttr x a else none
noncomputable def isTupD : D → Option Bool
  | .tup _ => some true
  | .int _ => some false
  | _ => none
noncomputable def repD (ds : List D) (x : D) : Option D := (intOf x).bind fun k => if -1000 ≤ k ∧ k ≤ 1000 ∧ ds.length ≤ 1000 then some (.lst (List.replicate k.toNat ds).flatten) else none
noncomputable def rangeD (ds : List D) : Option (List D) := (intsOf ds).bind fun is => match is with
  | [b] => if -1000000 ≤ b ∧ b ≤ 1000000 then some (rangeL 0 b) else none
  | [a, b] => if 0 ≤ a ∧ 0 ≤ b ∧ b ≤ 1000000 then some (rangeL a b) else none
  | _ => none
noncomputable def iterD : D → Option (List D)
  | .lst l => some l
  | .tup l => some l
  | .str s => some (s.cps.toList.map fun k => .str ⟨#[k]⟩)
  | _ => none
noncomputable def callM (c : Cx) (m : Str) (x : D) (ds : List D) : Option D := match instOf x with
  | some as => (methName m).bind fun f => if (lkp as m).isNone then c.call f (x :: ds) else none
  | none => (mk m).bind fun k => methK k x ds
noncomputable def callN (c : Cx) (eE eP : Expr → Option D) (eL : List Expr → Option (List D)) (f : Str) (args : List Expr) : Option D :=
  match bk f with
  | some k => if k = .isi then (vTwo args).bind fun (a, t) => if vName t = some (Str.ofString "tuple") ∧ isGlob c.names (Str.ofString "tuple") = true then (eE a).bind fun x => (isTupD x).map .bool else none
    else if k = .len then (vOne args).bind fun a => (eP a).bind fun x => lenD x
    else match (vOne args).bind vGen with
      | some g => if k = .tuple ∧ isGlob c.names (Str.ofString "zip") = true ∧ c.gen = true ∧ genOk g.i g.j g.sc = true then (eE g.a).bind fun x => (eE g.b).bind fun y => addPairs x y else none
      | none => (eL args).bind (builtK k)
  | none => if methFns.contains f then none else (eL args).bind (c.call f)
noncomputable def callE (c : Cx) (eE eP : Expr → Option D) (eL : List Expr → Option (List D)) (f : Expr) (args : List Expr) (p : Pos) : Option D :=
  match vName f with
  | some x => if isGlob c.names x then callN c eE eP eL x args else none
  | none => (vAttr f).bind fun (o, m, ap) => if plainBase o = true ∧ (ap.endLine == p.line) = true ∧ args.length < 20 then (eE o).bind fun x => (eL args).bind fun ds => callM c m x ds else none
mutual
noncomputable def evE : Nat → Cx → Sc → Expr → Option D
  | 0, _, _, _ => none
  | n + 1, c, ρ, e => match e with
    | .Constant k _ _ => constD k
    | .Name x _ => nameD c ρ x
    | .BinOp a op b _ => match vMulList a op with
      | some elts => (evL n c ρ elts).bind fun ds => (evE n c ρ b).bind fun x => repD ds x
      | none => (evE n c ρ a).bind fun x => (evE n c ρ b).bind fun y => binD op x y
    | .UnaryOp op a _ => negD op a
    | .BoolOp op vs _ => evB n c ρ op vs
    | .IfExp t a b _ => (evT n c ρ t).bind fun x => evE n c ρ (if x then a else b)
    | .List elts _ => (evL n c ρ elts).bind fun ds => if ds.length ≤ 1000000 then some (.lst ds) else none
    | .Tuple elts _ _ => (evL n c ρ elts).bind fun ds => if ds.length ≤ 1000000 then some (.tup ds) else none
    | .Dict ks vs _ => if ks.isEmpty = true ∧ vs.isEmpty = true then some (.dct []) else none
    | .Compare l ops rs _ => (vOne ops).bind fun op => (vOne rs).bind fun r => (evP n c ρ l).bind fun x => (evP n c ρ r).bind fun y => (cmpD op x y).map .bool
    | .Call f args ks p => if ks.isEmpty = true then callE c (evE n c ρ) (evP n c ρ) (evL n c ρ) f args p else none
    | .Subscript v i _ => match vSlice i with
      | some (lo, hi, st) => (evE n c ρ v).bind fun x => (evO n c ρ lo).bind fun l => (evO n c ρ hi).bind fun h => (evO n c ρ st).bind fun s => sliceD x l h s
      | none => (evP n c ρ v).bind fun x => (evE n c ρ i).bind fun y => subD x y
    | .Attribute o a _ => attrD c ρ o a
    | .ListComp elt gens s _ => match gens with
      | [] => none
      | ⟨t, it, ifs, as⟩ :: rest => if compOk c s = true ∧ as = 0 then (evI n c ρ it).bind fun ds => (gatherD (fun d => evC n (c.inner s) (dropL s ρ) elt t ifs rest d) ds).bind fun out => if out.length ≤ 1000000 then some (.lst out) else none else none
    | _ => none
noncomputable def evC : Nat → Cx → Sc → Expr → Expr → List Expr → List Comprehension → D → Option (List D)
  | 0, _, _, _, _, _, _, _ => none
  | n + 1, c, ρ, elt, t, ifs, rest, d => (vName t).bind fun x => if c.names.lookup x = some .local ∧ (lkp ρ x).isNone = true then
      (evIfs n c (upd ρ x (.fr d)) ifs).bind fun b => if b = true then (match rest with
        | [] => (evE n c (upd ρ x (.fr d)) elt).map fun y => [y]
        | g :: r => (vClause (g :: r)).bind fun (t2, it2) => (evI n c (upd ρ x (.fr d)) it2).bind fun ds => gatherD (fun d2 => evC n c (upd ρ x (.fr d)) elt t2 [] [] d2) ds)
        else some [] else none
noncomputable def evIfs : Nat → Cx → Sc → List Expr → Option Bool
  | 0, _, _, _ => none
  | n + 1, c, ρ, l => match l with
    | [] => some true
    | e :: r => if r.isEmpty = true then evT n c ρ e else none
noncomputable def evP : Nat → Cx → Sc → Expr → Option D
  | 0, _, _, _ => none
  | n + 1, c, ρ, e => match vName e with
    | some x => if isVar c.names x then (lkp ρ x).map slotD else if isGlob c.names x then globD x else none
    | none => evE n c ρ e
noncomputable def evL : Nat → Cx → Sc → List Expr → Option (List D)
  | 0, _, _, _ => none
  | n + 1, c, ρ, l => match l with
    | [] => some []
    | e :: r => (evE n c ρ e).bind fun d => (evL n c ρ r).bind fun ds => some (d :: ds)
noncomputable def evO : Nat → Cx → Sc → Option Expr → Option (Option Int)
  | 0, _, _, _ => none
  | n + 1, c, ρ, x => match x with
    | none => some none
    | some e => (evE n c ρ e).bind fun d => (intOf d).map some
noncomputable def evB : Nat → Cx → Sc → BoolOp → List Expr → Option D
  | 0, _, _, _, _ => none
  | n + 1, c, ρ, op, vs => match vs with
    | [] => none
    | e :: r => if r.isEmpty = true then evE n c ρ e else (evE n c ρ e).bind fun d => (truthD d).bind fun b => if b = (op == .Or) then some d else evB n c ρ op r
noncomputable def evT : Nat → Cx → Sc → Expr → Option Bool
  | 0, _, _, _ => none
  | n + 1, c, ρ, e => match e with
    | .BoolOp op vs _ => evTs n c ρ op vs
    | .Compare l ops rs _ => (vOne ops).bind fun op => (vOne rs).bind fun r => (evP n c ρ l).bind fun x => (evP n c ρ r).bind fun y => cmpD op x y
    | .IfExp .. => none
    | .UnaryOp .. => none
    | e => (evE n c ρ e).bind truthD
noncomputable def evTs : Nat → Cx → Sc → BoolOp → List Expr → Option Bool
  | 0, _, _, _, _ => none
  | n + 1, c, ρ, op, vs => match vs with
    | [] => some (op == .And)
    | e :: r => (evT n c ρ e).bind fun b => if b = (op == .Or) then some b else evTs n c ρ op r
noncomputable def evI : Nat → Cx → Sc → Expr → Option (List D)
  | 0, _, _, _ => none
  | n + 1, c, ρ, e => match (vCall e).bind fun y => (vName y.1).map fun f => (f, y.2.1) with
    | some (f, args) => if f = Str.ofString "range" ∧ isGlob c.names f = true then (evL n c ρ args).bind rangeD else none
    | none => (evE n c ρ e).bind iterD
end
noncomputable def isAlloc : Expr → Bool
  | .List _ _ => true
  | .Dict _ _ _ => true
  | .BinOp _ _ _ _ => true
  | .Subscript _ i _ => (vSlice i).isSome
  | .Call f _ _ _ => match vAttr f with
    | some (_, m, _) => m = Str.ofString "split"
    | none => false
  | _ => false
noncomputable def evS (n : Nat) (c : Cx) (ρ : Sc) (e : Expr) : Option Slot := (evE n c ρ e).map fun d => if isAlloc e then toOwn d else .fr d
noncomputable def evSs (n : Nat) (c : Cx) (ρ : Sc) : List Expr → Option (List Slot)
  | [] => some []
  | e :: r => match evS n c ρ e, evSs n c ρ r with
    | some s, some ss => some (s :: ss)
    | _, _ => none
noncomputable def updAll : Sc → List Str → List Slot → Option Sc
  | ρ, [], [] => some ρ
  | ρ, x :: xs, s :: ss => updAll (upd ρ x s) xs ss
  | _, _, _ => none
noncomputable def setAt (l : List D) (i : Int) (d : D) : Option (List D) :=
  if 0 ≤ i ∧ i < 2 ^ 63 ∧ i < l.length then some (l.set i.toNat d) else none
noncomputable def eraseAt (l : List D) (i : Int) : Option (List D) :=
  if -(2 ^ 63) ≤ i ∧ i < 2 ^ 63 then (seqIndex? i l.length).map fun j => l.eraseIdx j else none
inductive Tv where
  | one (x : Str)
  | three (x y z : Str)
  | tup (ts : List Expr)
  | item (x : Str) (i : Expr)
  | attr (x a : Str)
noncomputable def TvIs (ts : List Expr) : Tv → Prop
    | .one x => ∃ p, ts = [.Name x p]
    | .three x y z => ∃ p1 p2 p3, ts = [.Name x p1, .Name y p2, .Name z p3]
    | .tup l => ∃ k p, ts = [.Tuple l k p]
    | .item x i => ∃ p1 p, ts = [.Subscript (.Name x p1) i p]
    | .attr x a => ∃ p1 p, ts = [.Attribute (.Name x p1) a p]
theorem three_eq {a b c x y z : Expr} (h1 : a = x) (h2 : b = y) (h3 : c = z) : [a, b, c] = [x, y, z] := by rw [h1, h2, h3]
noncomputable def tv1P : (e : Expr) → Option {t : Tv // TvIs [e] t}
  | .Name x p => some ⟨.one x, p, rfl⟩
  | .Tuple ts k p => some ⟨.tup ts, k, p, rfl⟩
  | .Subscript b i p => (vNameP b).map fun x => ⟨.item x.1 i, x.2.elim fun p1 e => ⟨p1, p, congrArg (fun b => [Expr.Subscript b i p]) e⟩⟩
  | .Attribute b a p => (vNameP b).map fun x => ⟨.attr x.1 a, x.2.elim fun p1 e => ⟨p1, p, congrArg (fun b => [Expr.Attribute b a p]) e⟩⟩
  | _ => none
noncomputable def tvP : (ts : List Expr) → Option {t : Tv // TvIs ts t}
  | [e] => tv1P e
  | [a, b, c] => (vNameP a).bind fun x => (vNameP b).bind fun y => (vNameP c).map fun z => ⟨.three x.1 y.1 z.1, x.2.elim fun p1 e1 => y.2.elim fun p2 e2 => z.2.elim fun p3 e3 => ⟨p1, p2, p3, three_eq e1 e2 e3⟩⟩
  | _ => none
noncomputable def tv (ts : List Expr) : Option Tv := (tvP ts).map Subtype.val
noncomputable def olOf : Slot → Option (List D)
  | .ol l => some l
  | _ => none
noncomputable def odOf : Slot → Option (List (Str × D))
  | .od l => some l
  | _ => none
noncomputable def oiOf : Slot → Option ((Nat × Nat) × List (Str × D))
  | .oi t l => some (t, l)
  | _ => none
noncomputable def frInt : Slot → Option Int
  | .fr d => intOf d
  | _ => none
noncomputable def turn (c : Cx) (ρ : Sc) (x : Str) (f : Slot → Option Slot) : Option (Fl × Sc) :=
  if isVar c.names x then (lkp ρ x).bind fun s => (f s).map fun s' => (.next, upd ρ x s') else none
noncomputable def storeItem (y d : D) (s : Slot) : Option Slot := match olOf s with
  | some l => (intOf y).bind fun k => (setAt l k d).map .ol
  | none => (odOf s).bind fun kvs => (strOf y).bind fun k => if kvs.length ≤ 100000 then some (.od (upd kvs k d)) else none
noncomputable def storeAttr (a : Str) (d : D) (s : Slot) : Option Slot := (oiOf s).bind fun (t, as) => if as.length ≤ 100 ∧ instNames.contains a = true then some (.oi t (upd as a d)) else none
noncomputable def augName (op : Operator) (d : D) (s : Slot) : Option Slot := (frInt s).bind fun a => (intOf d).bind fun b =>
  if op = .Add then some (.fr (.int (a + b))) else if op = .Sub then some (.fr (.int (a - b))) else none
noncomputable def augItem (y d : D) (s : Slot) : Option Slot := (odOf s).bind fun kvs => (strOf y).bind fun k => (intOf d).bind fun b => (lkp kvs k).bind fun v => (intOf v).bind fun a =>
  if kvs.length ≤ 100000 then some (.od (upd kvs k (.int (a + b)))) else none
noncomputable def delItem (y : D) (s : Slot) : Option Slot := (olOf s).bind fun l => (intOf y).bind fun k => if l.length ≤ 1000000 then (eraseAt l k).map .ol else none
noncomputable def appItem (d : D) (s : Slot) : Option Slot := (olOf s).bind fun l => if l.length ≤ 100000 then some (.ol (l ++ [d])) else none
noncomputable def exAssign (n : Nat) (c : Cx) (ρ : Sc) (ts : List Expr) (v : Expr) : Option (Fl × Sc) := (tv ts).bind fun t => match t with
  | .one x => if isVar c.names x then (evS n c ρ v).map fun s => (.next, upd ρ x s) else none
  | .three x y z => if isVar c.names x = true ∧ isVar c.names y = true ∧ isVar c.names z = true then (evE n c ρ v).bind fun d => (intOf d).map fun i => (.next, upd (upd (upd ρ x (.fr (.int i))) y (.fr (.int i))) z (.fr (.int i))) else none
  | .tup ts => (cnames ts).bind fun xs => if xs.all (isVar c.names) = true ∧ xs.Nodup then (match vTuple v with
    | some vs => (evSs n c ρ vs).bind fun ss => if xs.length = ss.length ∧ swOk vs = true ∧ vs.length ≤ 1000 then (updAll ρ xs ss).map fun ρ' => (.next, ρ') else none
    | none => (evE n c ρ v).bind fun d => (tupOf d).bind fun ds => if xs.length = ds.length then (updAll ρ xs (ds.map .fr)).map fun ρ' => (.next, ρ') else none) else none
  | .item x i => (evE n c ρ v).bind fun d => (evE n c ρ i).bind fun y => turn c ρ x (storeItem y d)
  | .attr x a => (evE n c ρ v).bind fun d => turn c ρ x (storeAttr a d)
noncomputable def exAug (n : Nat) (c : Cx) (ρ : Sc) (t : Expr) (op : Operator) (v : Expr) : Option (Fl × Sc) := match vName t with
  | some x => (evE n c ρ v).bind fun d => turn c ρ x (augName op d)
  | none => (vSub t).bind fun (b, i) => (vName b).bind fun x => if op = .Add then (evE n c ρ i).bind fun y => (evE n c ρ v).bind fun d => turn c ρ x (augItem y d) else none
noncomputable def exDel (n : Nat) (c : Cx) (ρ : Sc) (ts : List Expr) : Option (Fl × Sc) := (vOne ts).bind fun t => (vSub t).bind fun (b, i) => (vName b).bind fun x => (evE n c ρ i).bind fun y => turn c ρ x (delItem y)
noncomputable def exApp (n : Nat) (c : Cx) (ρ : Sc) (e : Expr) : Option (Fl × Sc) := (vMeth e).bind fun (o, m, ap, args, p) => (vName o).bind fun x => (vOne args).bind fun a =>
  if m = Str.ofString "append" ∧ (ap.endLine == p.line) = true then (evE n c ρ a).bind fun d => turn c ρ x (appItem d) else none
noncomputable def pairTurn (f : Sc → Option (Fl × Sc)) (x y : Str) (d : D) (ρ : Sc) : Option (Fl × Sc) := (tupOf d).bind fun l => (vTwo l).bind fun (k, v) => f (upd (upd ρ x (.fr k)) y (.fr v))
mutual
noncomputable def exS : Nat → Cx → Sc → Stmt → Option (Fl × Sc)
  | 0, _, _, _ => none
  | n + 1, c, ρ₀, st => match frz (sreads st) ρ₀ with
    | ρ => match st with
      | .Assign ts v _ => exAssign n c ρ ts v
      | .AugAssign t op v _ => exAug n c ρ t op v
      | .If t b o _ => (evT n c ρ t).bind fun x => exB n c ρ (if x then b else o)
      | .For t it b o _ => if o.isEmpty = true then (match vItems it with
        | some (z, ap, p) => (vTup2N t).bind fun (x, y) => if (ap.endLine == p.line) = true ∧ isVar c.names x = true ∧ isVar c.names y = true ∧ x ≠ y then
          (evE n c ρ z).bind fun d => (dctOf d).bind fun kvs => loopD (pairTurn (fun ρ' => exB n c ρ' b) x y) (kvs.map fun kv => .tup [.str kv.1, kv.2]) ρ else none
        | none => (vName t).bind fun x => if isVar c.names x then (evI n c ρ it).bind fun ds => loopD (fun d ρ' => exB n c (upd ρ' x (.fr d)) b) ds ρ else none) else none
      | .Return e _ => e.bind fun e => (evE n c ρ e).map fun d => (.ret d, ρ)
      | .Break _ => some (.brk, ρ)
      | .Assert t m _ => if m.isNone = true then (evT n c ρ t).bind fun b => if b = true then some (.next, ρ) else none else none
      | .Delete ts _ => exDel n c ρ ts
      | .Expr e _ => exApp n c ρ e
      | _ => none
noncomputable def exB : Nat → Cx → Sc → List Stmt → Option (Fl × Sc)
  | 0, _, _, _ => none
  | n + 1, c, ρ, l => match l with
    | [] => some (.next, ρ)
    | s :: r => (exS n c ρ s).bind fun (f, ρ') => match f with
      | .next => exB n c ρ' r
      | f => some (f, ρ')
end
structure Fn where
  params : List Str
  body : List Stmt
  names : List (Str × NameKind)
noncomputable def bindD : List Str → List D → Option Sc
  | [], [] => some []
  | x :: xs, d :: ds => (bindD xs ds).map fun r => (x, .fr d) :: r
  | _, _ => none
noncomputable def finD : Option (Fl × Sc) → Option D
  | some (.ret d, _) => some d
  | some (.next, _) => some .none
  | _ => none
noncomputable def clsRes (r : Nat × Nat → Option (Fl × Sc)) (a : Str) : Option D :=
  open Classical in if h : ∃ as, ∀ t, ∃ ρ, r t = some (.next, ρ) ∧ lkp ρ a = some (.oi t as) then some (.inst h.choose) else none
theorem clsRes_ok {r : Nat × Nat → Option (Fl × Sc)} {a : Str} {d : D} (h : clsRes r a = some d) : ∃ as, d = .inst as ∧ ∀ t, ∃ ρ, r t = some (.next, ρ) ∧ lkp ρ a = some (.oi t as) := by
  unfold clsRes at h
  split at h
  · rename_i q; cases h; exact ⟨_, rfl, q.choose_spec⟩
  · cases h
theorem oi_inj {t t' : Nat × Nat} {l l' : List (Str × D)} (h : Slot.oi t l = .oi t' l') : t = t' ∧ l = l' := by cases h; exact ⟨rfl, rfl⟩
theorem clsRes_eq {r : Nat × Nat → Option (Fl × Sc)} {a : Str} {as : List (Str × D)} (h : ∀ t, ∃ ρ, r t = some (.next, ρ) ∧ lkp ρ a = some (.oi t as)) : clsRes r a = some (.inst as) := by
  unfold clsRes
  have q : ∃ as, ∀ t, ∃ ρ, r t = some (.next, ρ) ∧ lkp ρ a = some (.oi t as) := ⟨as, h⟩
  rw [dif_pos q]
  (refine xe1_2 (h (0, 0)) ?_; intro ρ h1 h2)
  (refine xe1_2 (q.choose_spec (0, 0)) ?_; intro ρ' h3 h4)
  rw [h1] at h3; cases h3
  rw [h2] at h4
  rw [← (oi_inj (Option.some.inj h4)).2]
noncomputable def callD (tab : List (Str × Fn)) (fuel : Nat) : Nat → Str → List D → Option D
  | 0, _, _ => none
  | k + 1, f, ds =>
    if f = Str.ofString "Whitespace" then
      (vOne ds).bind fun d => (lkp tab (Str.ofString "Whitespace.__init__")).bind fun g => (vTwo g.params).bind fun (a, b) => clsRes (fun t => exB fuel { call := callD tab fuel k, names := g.names } [(a, .oi t []), (b, .fr d)] g.body) a
    else (lkp tab f).bind fun g => (bindD g.params ds).bind fun ρ => finD (exB fuel { call := callD tab fuel k, names := g.names, gen := f == Str.ofString "add_callers" } ρ g.body)
theorem vName_eq {e : Expr} {x : Str} (h : vName e = some x) : ∃ p, e = .Name x p :=
  sub_prop (f := vNameP) h
theorem vAttr_eq {e o : Expr} {m : Str} {p : Pos} (h : vAttr e = some (o, m, p)) : e = .Attribute o m p :=
  sub_prop (f := vAttrP) h
theorem vCall_eq {e f : Expr} {as : List Expr} {p : Pos} (h : vCall e = some (f, as, p)) : e = .Call f as [] p :=
  sub_prop (f := vCallP) h
theorem vTuple_eq {e : Expr} {l : List Expr} (h : vTuple e = some l) : ∃ k p, e = .Tuple l k p :=
  sub_prop (f := vTupleP) h
theorem vList_eq {e : Expr} {l : List Expr} (h : vList e = some l) : ∃ p, e = .List l p :=
  sub_prop (f := vListP) h
theorem vSub_eq {e b i : Expr} (h : vSub e = some (b, i)) : ∃ p, e = .Subscript b i p :=
  sub_prop (f := vSubP) h
theorem vSlice_eq {e : Expr} {a b c : Option Expr} (h : vSlice e = some (a, b, c)) : ∃ p, e = .Slice a b c p :=
  sub_prop (f := vSliceP) h
theorem vAdd_eq {e a b : Expr} (h : vAdd e = some (a, b)) : ∃ p, e = .BinOp a .Add b p :=
  sub_prop (f := vAddP) h
theorem vGenE_eq {e x : Expr} {g : List Comprehension} {s : Scope} (h : vGenE e = some (x, g, s)) : ∃ p, e = .GeneratorExp x g s p :=
  sub_prop (f := vGenEP) h
theorem vConst_eq {e : Expr} {c : Const} (h : vConst e = some c) : ∃ k p, e = .Constant c k p :=
  sub_prop (f := vConstP) h
theorem vOne_eq {α : Type} {l : List α} {a : α} (h : vOne l = some a) : l = [a] := sub_prop (f := vOneP) h
theorem vTwo_eq {α : Type} {l : List α} {a b : α} (h : vTwo l = some (a, b)) : l = [a, b] := sub_prop (f := vTwoP) h
theorem vMeth_eq {e o : Expr} {m : Str} {ap p : Pos} {as : List Expr} (h : vMeth e = some (o, m, ap, as, p)) : e = .Call (.Attribute o m ap) as [] p := by
  unfold vMeth at h
  refine bind_el h ?_; (try clear h); rintro ⟨f, as', p'⟩ h1 h
  refine map_el h ?_; (try clear h); rintro ⟨o', m', ap'⟩ h2 h
  cases h
  have e2 := vAttr_eq h2
  dsimp only at e2
  rw [vCall_eq h1, e2]
theorem vMulList_eq {a : Expr} {op : Operator} {l : List Expr} (h : vMulList a op = some l) : (∃ p, a = .List l p) ∧ op = .Mult := by
  unfold vMulList at h; split at h
  · exact ⟨vList_eq h, by assumption⟩
  · cases h
theorem vItems_eq {e o : Expr} {ap p : Pos} (h : vItems e = some (o, ap, p)) : (∃ z zp, o = .Name z zp) ∧ e = .Call (.Attribute o (Str.ofString "items") ap) [] [] p := by
  unfold vItems at h
  refine bind_el h ?_; (try clear h); rintro ⟨o', m, ap', as, p'⟩ h1 h
  dsimp only at h
  split at h <;> cases h
  rename_i q
  (refine xe0_3 q ?_; (try clear q); intro hq0; rcases hq0 with rfl; intro q2 q3)
  (refine xe1_1 (Option.isSome_iff_exists.mp q3) ?_; intro z hz)
  have e1 := vMeth_eq h1
  rw [List.isEmpty_iff.mp q2] at e1
  exact ⟨⟨z, vName_eq hz⟩, e1⟩
theorem vTup2N_eq {e : Expr} {x y : Str} (h : vTup2N e = some (x, y)) : ∃ p1 p2 k p, e = .Tuple [.Name x p1, .Name y p2] k p := by
  unfold vTup2N at h
  refine bind_el h ?_; (try clear h); intro l h1 h
  refine bind_el h ?_; (try clear h); rintro ⟨a, b⟩ h2 h
  refine bind_el h ?_; (try clear h); intro x' h3 h
  refine map_el h ?_; (try clear h); intro y' h4 h
  cases h
  (refine xe2_1 (vTuple_eq h1) ?_; intro k p hq2; rcases hq2 with rfl)
  (refine xe1_1 (vName_eq h3) ?_; intro p1 hq1; rcases hq1 with rfl)
  (refine xe1_1 (vName_eq h4) ?_; intro p2 hq1; rcases hq1 with rfl)
  exact ⟨p1, p2, k, p, by rw [vTwo_eq h2]⟩
theorem vClause_eq {gs : List Comprehension} {t it : Expr} (h : vClause gs = some (t, it)) : gs = [⟨t, it, [], 0⟩] := by
  unfold vClause at h
  refine bind_el h ?_; (try clear h); rintro ⟨t', it', ifs, as⟩ h1 h
  dsimp only at h
  split at h <;> cases h
  rename_i q
  rw [vOne_eq h1, List.isEmpty_iff.mp q.1, q.2]
theorem vGen_eq {e : Expr} {g : GenV} (h : vGen e = some g) : ∃ p1 p2 p3 p4 p5 p6 p7 p8 p9 kt,
    e = .GeneratorExp (.BinOp (.Name g.i p1) .Add (.Name g.j p2) p3) [⟨.Tuple [.Name g.i p4, .Name g.j p5] kt p6, .Call (.Name (Str.ofString "zip") p7) [g.a, g.b] [] p8, [], 0⟩] g.sc p9 := by
  unfold vGen at h
  refine bind_el h ?_; (try clear h); rintro ⟨elt, gs, sc⟩ h1 h
  try dsimp only at h
  refine bind_el h ?_; (try clear h); rintro ⟨l, r⟩ h2 h
  try dsimp only at h
  refine bind_el h ?_; (try clear h); intro i h3 h
  try dsimp only at h
  refine bind_el h ?_; (try clear h); intro j h4 h
  try dsimp only at h
  refine bind_el h ?_; (try clear h); rintro ⟨t, it⟩ h5 h
  try dsimp only at h
  refine bind_el h ?_; (try clear h); rintro ⟨i', j'⟩ h6 h
  try dsimp only at h
  refine bind_el h ?_; (try clear h); rintro ⟨z, args, pz⟩ h7 h
  try dsimp only at h
  refine bind_el h ?_; (try clear h); intro zn h8 h
  try dsimp only at h
  refine bind_el h ?_; (try clear h); rintro ⟨a, b⟩ h9 hz
  refine ite_el hz ?_; (try clear hz); intro q hz
  cases hz
  (refine xe0_3 q ?_; (try clear q); intro hq0; rcases hq0 with rfl; intro hq1; rcases hq1 with rfl; intro hq2; rcases hq2 with rfl)
  (refine xe1_1 (vGenE_eq h1) ?_; intro p9 hq1; rcases hq1 with rfl)
  (refine xe1_1 (vAdd_eq h2) ?_; intro p3 hq1; rcases hq1 with rfl)
  (refine xe1_1 (vName_eq h3) ?_; intro p1 hq1; rcases hq1 with rfl)
  (refine xe1_1 (vName_eq h4) ?_; intro p2 hq1; rcases hq1 with rfl)
  (refine xe4_1 (vTup2N_eq h6) ?_; intro p4 p5 kt p6 hq4; rcases hq4 with rfl)
  have e7 := vCall_eq h7
  (refine xe1_1 (vName_eq h8) ?_; intro p7 hq1; rcases hq1 with rfl)
  exact ⟨p1, p2, p3, p4, p5, p6, p7, pz, p9, kt, by rw [vClause_eq h5, e7, vTwo_eq h9]⟩
theorem tv_eq {ts : List Expr} {t : Tv} (h : tv ts = some t) : TvIs ts t := sub_prop (f := tvP) h
theorem bk_eq {f : Str} {k : BK} (h : bk f = some k) : f = bname k := by
  have := List.find?_some h
  simpa using this
theorem mk_eq {f : Str} {k : MK} (h : mk f = some k) : f = mname k := by
  have := List.find?_some h
  simpa using this
theorem lstOf_eq {x : D} {i : List D} (h : lstOf x = some i) : x = .lst i := sub_prop (f := lstOfP) h
theorem intOf_eq {x : D} {i : Int} (h : intOf x = some i) : x = .int i := sub_prop (f := intOfP) h
theorem strOf_eq {x : D} {i : Str} (h : strOf x = some i) : x = .str i := sub_prop (f := strOfP) h
theorem instOf_eq {x : D} {i : List (Str × D)} (h : instOf x = some i) : x = .inst i := sub_prop (f := instOfP) h
theorem dctOf_eq {x : D} {i : List (Str × D)} (h : dctOf x = some i) : x = .dct i := sub_prop (f := dctOfP) h
theorem tupOf_eq {x : D} {i : List D} (h : tupOf x = some i) : x = .tup i := sub_prop (f := tupOfP) h
theorem intsOf_eq : ∀ {l : List D} {is : List Int}, intsOf l = some is → l = is.map .int
  | [], _, h => by cases h; rfl
  | d :: r, is, h => by
    refine bind_el h ?_; (try clear h); intro i h1 h
    refine map_el h ?_; (try clear h); rintro js h2 rfl
    rw [intOf_eq h1, intsOf_eq h2]; rfl
theorem strsOf_eq : ∀ {l : List D} {is : List Str}, strsOf l = some is → l = is.map .str
  | [], _, h => by cases h; rfl
  | d :: r, is, h => by
    refine bind_el h ?_; (try clear h); intro i h1 h
    refine map_el h ?_; (try clear h); rintro js h2 rfl
    rw [strOf_eq h1, strsOf_eq h2]; rfl
theorem olOf_eq {s : Slot} {l : List D} (h : olOf s = some l) : s = .ol l := by unfold olOf at h; split at h <;> cases h; rfl
theorem odOf_eq {s : Slot} {l : List (Str × D)} (h : odOf s = some l) : s = .od l := by unfold odOf at h; split at h <;> cases h; rfl
theorem oiOf_eq {s : Slot} {t : Nat × Nat} {l : List (Str × D)} (h : oiOf s = some (t, l)) : s = .oi t l := by unfold oiOf at h; split at h <;> cases h; rfl
theorem frInt_eq {s : Slot} {i : Int} (h : frInt s = some i) : s = .fr (.int i) := by unfold frInt at h; split at h; rw [intOf_eq h]; cases h
end Mine
end

section
open PySem PySem.W PyProof.Rows
set_option tactic.hygienic false
namespace Mine
noncomputable abbrev FH := Addr → Option Obj
structure InstO (ox od : Obj) (C dx : Addr) (kvs : List (Str × Value)) : Prop where
  cls : ox.cls = .ref C
  dict : ox.dict = some dx
  no : ∀ c, ox.data ≠ .cls c
  isd : ∃ es ep, od.data = .dict es ep ∧ StrKeys es ∧ UniqKeys es ∧ ∀ name, nsFind es name = lkp kvs name
mutual
inductive Rep (prog : Program) (w : World) (C : Addr) (F : FH) : D → Value → Prop
  | none : Rep prog w C F .none .none
  | bool (b : Bool) : Rep prog w C F (.bool b) (.bool b)
  | int (i : Int) (t : Tok) : Rep prog w C F (.int i) (.int i t)
  | str (x : Str) (t : Tok) : Rep prog w C F (.str x) (.str x t)
  | tup {a : Addr} {o : Obj} {vs : List Value} {n : Nat} {ds : List D} : F a = some o → o.cls = .type "tuple" → o.data = .seq vs.toArray n → Reps prog w C F ds vs → Rep prog w C F (.tup ds) (.ref a)
  | lst {a : Addr} {o : Obj} {vs : List Value} {n : Nat} {ds : List D} : F a = some o → o.cls = .type "list" → o.data = .seq vs.toArray n → Reps prog w C F ds vs → o.dict = Option.none → Rep prog w C F (.lst ds) (.ref a)
  | lsw {a : Addr} {o : Obj} {vs : List Value} {n : Nat} {ds : List D} : F a = some o → o.cls = .type "list" → o.data = .seq vs.toArray n → Reps prog w C F ds vs → Rep prog w C F (.lsw ds) (.ref a)
  | dct {a : Addr} {o : Obj} {kvs : List (Str × Value)} {ps : List (Str × D)} : F a = some o → o.IsDictOf (strKind prog w) kvs → (a == sysModules) = false → RepK prog w C F ps kvs → Rep prog w C F (.dct ps) (.ref a)
  | inst {a dx : Addr} {o od : Obj} {kvs : List (Str × Value)} {ps : List (Str × D)} : F a = some o → F dx = some od → InstO o od C dx kvs → RepK prog w C F ps kvs → a ≠ dx → Rep prog w C F (.inst ps) (.ref a)
inductive Reps (prog : Program) (w : World) (C : Addr) (F : FH) : List D → List Value → Prop
  | nil : Reps prog w C F [] []
  | cons {d : D} {v : Value} {ds : List D} {vs : List Value} : Rep prog w C F d v → Reps prog w C F ds vs → Reps prog w C F (d :: ds) (v :: vs)
inductive RepK (prog : Program) (w : World) (C : Addr) (F : FH) : List (Str × D) → List (Str × Value) → Prop
  | nil : RepK prog w C F [] []
  | cons {k : Str} {d : D} {v : Value} {ds : List (Str × D)} {vs : List (Str × Value)} : Rep prog w C F d v → RepK prog w C F ds vs → RepK prog w C F ((k, d) :: ds) ((k, v) :: vs)
end
section
variable {prog : Program} {w : World} {C : Addr} {F F' : FH}
noncomputable def InvR (prog : Program) (w : World) (C : Addr) (F : FH) : D → Value → Prop
  | .none, v => v = .none
  | .bool b, v => v = .bool b
  | .int i, v => ∃ t, v = .int i t
  | .str i, v => ∃ t, v = .str i t
  | .tup ds, v => ∃ a o vs n, v = .ref a ∧ F a = some o ∧ o.cls = .type "tuple" ∧ o.data = .seq (vs : List Value).toArray n ∧ Reps prog w C F ds vs
  | .lst ds, v => ∃ a o vs n, v = .ref a ∧ F a = some o ∧ o.cls = .type "list" ∧ o.data = .seq (vs : List Value).toArray n ∧ Reps prog w C F ds vs ∧ o.dict = Option.none
  | .lsw ds, v => ∃ a o vs n, v = .ref a ∧ F a = some o ∧ o.cls = .type "list" ∧ o.data = .seq (vs : List Value).toArray n ∧ Reps prog w C F ds vs
  | .dct ps, v => ∃ a o kvs, v = .ref a ∧ F a = some o ∧ o.IsDictOf (strKind prog w) kvs ∧ (a == sysModules) = Bool.false ∧ RepK prog w C F ps kvs
  | .inst ps, v => ∃ a dx o od kvs, v = .ref a ∧ F a = some o ∧ F dx = some od ∧ InstO o od C dx kvs ∧ RepK prog w C F ps kvs ∧ a ≠ dx
theorem Rep.inv {d : D} {v : Value} (h : Rep prog w C F d v) : InvR prog w C F d v := by
  cases h with
  | none => exact rfl
  | bool => exact rfl
  | int => exact ⟨_, rfl⟩
  | str => exact ⟨_, rfl⟩
  | tup a b c d => exact ⟨_, _, _, _, rfl, a, b, c, d⟩
  | lst a b c d e => exact ⟨_, _, _, _, rfl, a, b, c, d, e⟩
  | lsw a b c d => exact ⟨_, _, _, _, rfl, a, b, c, d⟩
  | dct a b c d => exact ⟨_, _, _, rfl, a, b, c, d⟩
  | inst a b c d e => exact ⟨_, _, _, _, _, rfl, a, b, c, d, e⟩
noncomputable def InvRs (prog : Program) (w : World) (C : Addr) (F : FH) : List D → List Value → Prop
  | [], vs => vs = []
  | d :: ds, vs => ∃ u us, vs = u :: us ∧ Rep prog w C F d u ∧ Reps prog w C F ds us
theorem Reps.inv {d : List D} {v : List Value} (h : Reps prog w C F d v) : InvRs prog w C F d v := by
  cases h with
  | nil => exact rfl
  | cons a b => exact ⟨_, _, rfl, a, b⟩
noncomputable def InvRk (prog : Program) (w : World) (C : Addr) (F : FH) : List (Str × D) → List (Str × Value) → Prop
  | [], vs => vs = []
  | d :: ds, vs => ∃ u us, vs = (d.1, u) :: us ∧ Rep prog w C F d.2 u ∧ RepK prog w C F ds us
theorem RepK.inv {d : List (Str × D)} {v : List (Str × Value)} (h : RepK prog w C F d v) : InvRk prog w C F d v := by
  cases h with
  | nil => exact rfl
  | cons a b => exact ⟨_, _, rfl, a, b⟩
theorem Rep.int_inv {i : Int} {v : Value} (h : Rep prog w C F (.int i) v) : ∃ t, v = .int i t := h.inv
theorem Rep.str_inv {i : Str} {v : Value} (h : Rep prog w C F (.str i) v) : ∃ t, v = .str i t := h.inv
theorem Rep.bool_inv {i : Bool} {v : Value} (h : Rep prog w C F (.bool i) v) : v = .bool i := h.inv
theorem Rep.tup_inv {ds : List D} {v : Value} (h : Rep prog w C F (.tup ds) v) : ∃ a o vs n, v = .ref a ∧ F a = some o ∧ o.cls = .type "tuple" ∧ o.data = .seq (vs : List Value).toArray n ∧ Reps prog w C F ds vs := h.inv
theorem Rep.lsw_inv {ds : List D} {v : Value} (h : Rep prog w C F (.lsw ds) v) : ∃ a o vs n, v = .ref a ∧ F a = some o ∧ o.cls = .type "list" ∧ o.data = .seq (vs : List Value).toArray n ∧ Reps prog w C F ds vs := h.inv
theorem Rep.lst_inv {ds : List D} {v : Value} (h : Rep prog w C F (.lst ds) v) : ∃ a o vs n, v = .ref a ∧ F a = some o ∧ o.cls = .type "list" ∧ o.data = .seq (vs : List Value).toArray n ∧ Reps prog w C F ds vs ∧ o.dict = Option.none := h.inv
theorem Rep.dct_inv {ps : List (Str × D)} {v : Value} (h : Rep prog w C F (.dct ps) v) : ∃ a o kvs, v = .ref a ∧ F a = some o ∧ o.IsDictOf (strKind prog w) kvs ∧ (a == sysModules) = Bool.false ∧ RepK prog w C F ps kvs := h.inv
theorem Reps.nil_inv {vs : List Value} (h : Reps prog w C F [] vs) : vs = [] := h.inv
theorem Reps.cons_inv {d : D} {ds : List D} {vs : List Value} (h : Reps prog w C F (d :: ds) vs) : ∃ u us, vs = u :: us ∧ Rep prog w C F d u ∧ Reps prog w C F ds us := h.inv
theorem Reps.ind {P : List D → List Value → Prop} (hn : P [] []) (hc : ∀ d v ds vs, Rep prog w C F d v → Reps prog w C F ds vs → P ds vs → P (d :: ds) (v :: vs)) {ds : List D} : ∀ {vs : List Value}, Reps prog w C F ds vs → P ds vs := by
  induction ds with
  | nil => intro vs h; obtain rfl := h.nil_inv; exact hn
  | cons d ds ih => intro vs h; (refine xe2_3 h.cons_inv ?_; intro v vs hq2; rcases hq2 with rfl; intro h1 h2); exact hc _ _ _ _ h1 h2 (ih h2)
theorem RepK.ind {P : List (Str × D) → List (Str × Value) → Prop} (hn : P [] []) (hc : ∀ k d v ds vs, Rep prog w C F d v → RepK prog w C F ds vs → P ds vs → P ((k, d) :: ds) ((k, v) :: vs)) {ds : List (Str × D)} : ∀ {vs : List (Str × Value)}, RepK prog w C F ds vs → P ds vs := by
  induction ds with
  | nil => intro vs h; obtain rfl := (show vs = [] from h.inv); exact hn
  | cons d ds ih => intro vs h; (refine xe2_3 ((show ∃ u us, vs = (d.1, u) :: us ∧ Rep prog w C F d.2 u ∧ RepK prog w C F ds us from h.inv)) ?_; intro v vs hq2; rcases hq2 with rfl; intro h1 h2); exact hc _ _ _ _ _ h1 h2 (ih h2)
theorem Rep.mono (hF : ∀ b o, F b = some o → F' b = some o) {d : D} {v : Value} (h : Rep prog w C F d v) : Rep prog w C F' d v :=
  Rep.rec (motive_1 := fun d v _ => Rep prog w C F' d v) (motive_2 := fun ds vs _ => Reps prog w C F' ds vs) (motive_3 := fun ds vs _ => RepK prog w C F' ds vs)
    .none (fun b => .bool b) (fun i t => .int i t) (fun x t => .str x t) (fun h c e _ r => .tup (hF _ _ h) c e r) (fun h c e _ d r => .lst (hF _ _ h) c e r d) (fun h c e _ r => .lsw (hF _ _ h) c e r)
    (fun h c e _ r => .dct (hF _ _ h) c e r) (fun h k c _ n r => .inst (hF _ _ h) (hF _ _ k) c r n) .nil (fun _ _ a b => .cons a b) .nil (fun _ _ a b => .cons a b) h
theorem Reps.mono (hF : ∀ b o, F b = some o → F' b = some o) {ds : List D} {vs : List Value} (h : Reps prog w C F ds vs) : Reps prog w C F' ds vs :=
  Reps.ind (P := fun ds vs => Reps prog w C F' ds vs) .nil (fun _ _ _ _ a _ b => .cons (a.mono hF) b) h
theorem RepK.mono (hF : ∀ b o, F b = some o → F' b = some o) {ds : List (Str × D)} {vs : List (Str × Value)} (h : RepK prog w C F ds vs) : RepK prog w C F' ds vs :=
  RepK.ind (P := fun ds vs => RepK prog w C F' ds vs) .nil (fun _ _ _ _ _ a _ b => .cons (a.mono hF) b) h
theorem Reps.length {ds : List D} {vs : List Value} (h : Reps prog w C F ds vs) : vs.length = ds.length :=
  Reps.ind (P := fun ds vs => vs.length = ds.length) rfl (fun _ _ _ _ _ _ e => congrArg (· + 1) e) h
theorem RepK.length {ds : List (Str × D)} {vs : List (Str × Value)} (h : RepK prog w C F ds vs) : vs.length = ds.length :=
  RepK.ind (P := fun ds vs => vs.length = ds.length) rfl (fun _ _ _ _ _ _ _ e => congrArg (· + 1) e) h
theorem Reps.get {ds : List D} {vs : List Value} (h : Reps prog w C F ds vs) : ∀ {i : Nat} {d : D}, ds[i]? = some d → ∃ v, vs[i]? = some v ∧ Rep prog w C F d v := fun {i d} =>
  Reps.ind (P := fun ds vs => ∀ (i : Nat) (d : D), ds[i]? = some d → ∃ v, vs[i]? = some v ∧ Rep prog w C F d v) (fun _ _ e => nomatch e)
    (fun _ v _ _ a _ ih i d e => match i with
      | 0 => ⟨v, rfl, (Option.some.inj e) ▸ a⟩
      | i + 1 => ih i d e) h i d
theorem Reps.append {ds es : List D} {vs us : List Value} (h : Reps prog w C F ds vs) (s : Reps prog w C F es us) : Reps prog w C F (ds ++ es) (vs ++ us) :=
  Reps.ind (P := fun ds vs => Reps prog w C F (ds ++ es) (vs ++ us)) s (fun _ _ _ _ a _ b => .cons a b) h
theorem Reps.pick {ds : List D} {vs : List Value} (h : Reps prog w C F ds vs) : ∀ l : List Nat, Reps prog w C F (l.filterMap (ds[·]?)) (l.filterMap (vs[·]?))
  | [] => .nil
  | i :: l => by
    cases e : ds[i]? with
    | none =>
      have e' : vs[i]? = none := by
        rw [List.getElem?_eq_none_iff] at e ⊢; rw [h.length]; exact e
      simp only [List.filterMap_cons, e, e']; exact Reps.pick h l
    | some d =>
      (refine xe1_2 (h.get e) ?_; intro v hv hr)
      simp only [List.filterMap_cons, e, hv]; exact .cons hr (Reps.pick h l)
theorem Reps.set {ds : List D} {vs : List Value} (h : Reps prog w C F ds vs) {d : D} {v : Value} (hd : Rep prog w C F d v) (i : Nat) : Reps prog w C F (ds.set i d) (vs.set i v) :=
  Reps.ind (P := fun ds vs => ∀ i, Reps prog w C F (ds.set i d) (vs.set i v)) (fun _ => .nil) (fun _ _ _ _ a r ih i => match i with
    | 0 => .cons hd r
    | i + 1 => .cons a (ih i)) h i
theorem Reps.erase {ds : List D} {vs : List Value} (h : Reps prog w C F ds vs) (i : Nat) : Reps prog w C F (ds.eraseIdx i) (vs.eraseIdx i) :=
  Reps.ind (P := fun ds vs => ∀ i, Reps prog w C F (ds.eraseIdx i) (vs.eraseIdx i)) (fun _ => .nil) (fun _ _ _ _ a r ih i => match i with
    | 0 => r
    | i + 1 => .cons a (ih i)) h i
theorem RepK.lk {ds : List (Str × D)} {vs : List (Str × Value)} (h : RepK prog w C F ds vs) (k : Str) : match lkp ds k with
    | some d => ∃ v, lkp vs k = some v ∧ Rep prog w C F d v
    | none => lkp vs k = none := by
  refine RepK.ind (P := fun ds vs => match lkp ds k with
    | some d => ∃ v, lkp vs k = some v ∧ Rep prog w C F d v
    | none => lkp vs k = none) rfl (fun k' d v ds vs a _ ih => ?_) h
  unfold lkp
  by_cases e : k = k'
  · rw [if_pos e, if_pos e]; exact ⟨v, rfl, a⟩
  · rw [if_neg e, if_neg e]; exact ih
theorem RepK.upd {ds : List (Str × D)} {vs : List (Str × Value)} (h : RepK prog w C F ds vs) {k : Str} {d : D} {v : Value} (hd : Rep prog w C F d v) : RepK prog w C F (upd ds k d) (upd vs k v) := by
  refine RepK.ind (P := fun ds vs => RepK prog w C F (Mine.upd ds k d) (Mine.upd vs k v)) (.cons hd .nil) (fun k' _ _ _ _ a r ih => ?_) h
  unfold Mine.upd
  by_cases e : k = k'
  · rw [if_pos e, if_pos e]; exact .cons hd r
  · rw [if_neg e, if_neg e]; exact .cons a ih
end
theorem lkp_upd {α : Type} (k x : Str) (v : α) : ∀ l : List (Str × α), lkp (upd l k v) x = if x = k then some v else lkp l x
  | [] => by unfold upd lkp; rfl
  | (y, t) :: r => by
    unfold upd
    by_cases e : k = y
    · rw [if_pos e]; subst e; unfold lkp; by_cases h : x = k
      · rw [if_pos h, if_pos h]
      · rw [if_neg h, if_neg h, if_neg h]
    · rw [if_neg e]; unfold lkp
      by_cases h : x = y
      · rw [if_pos h, if_pos h, if_neg (by subst h; exact fun q => e q.symm)]
      · rw [if_neg h, if_neg h]; exact lkp_upd k x v r
noncomputable def PT : Addr := 44
noncomputable def dumO : Obj := { cls := .none, data := .plain }
noncomputable def tabO (ps : Array Value) : Obj := { cls := .none, data := .fields ps }
structure Ok (B : Heap) (F : FH) (s : Shared) : Prop where
  base : ∀ b o, B.get? b = some o → F b = some o
  sub : ∀ b o, F b = some o → b ≠ PT → s.heap.get? b = some o
  bare : AllBare s.gens
  dum : F PT = some dumO
  bn : B.get? PT = none
  tab : ∃ ps, s.heap.get? PT = some (tabO ps) ∧ TriplesOk ps.toList
theorem Ok.keep {B : Heap} {F : FH} {s : Shared} (h : Ok B F s) : ∀ b o, B.get? b = some o → s.heap.get? b = some o := fun b o e => h.sub b o (h.base b o e) fun q => by rw [q, h.bn] at e; cases e
theorem Ok.lt {B : Heap} {F : FH} {s : Shared} (h : Ok B F s) {b : Addr} {o : Obj} (e : F b = some o) : b < s.heap.objs.size := by
  by_cases q : b = PT
  · (refine xe1_2 h.tab ?_; intro ps hp _); rw [q]; exact Heap.lt_size hp
  · exact Heap.lt_size (h.sub b o e q)
theorem Ok.subT {B : Heap} {F : FH} {s : Shared} (h : Ok B F s) {b : Addr} {o : Obj} (e : F b = some o) {T : String} (hc : o.cls = .type T) : s.heap.get? b = some o :=
  h.sub b o e fun q => by subst q; rw [h.dum] at e; cases e; cases hc
theorem Ok.subC {B : Heap} {F : FH} {s : Shared} (h : Ok B F s) {b : Addr} {o : Obj} (e : F b = some o) {T : Addr} (hc : o.cls = .ref T) : s.heap.get? b = some o :=
  h.sub b o e fun q => by subst q; rw [h.dum] at e; cases e; cases hc
theorem Ok.alive {B : Heap} {F : FH} {s : Shared} (h : Ok B F s) {b : Addr} {o : Obj} (e : F b = some o) : ∃ o', s.heap.get? b = some o' := by
  by_cases q : b = PT
  · (refine xe1_2 h.tab ?_; intro ps hp _); exact ⟨_, by rw [q]; exact hp⟩
  · exact ⟨o, h.sub b o e q⟩
theorem Ok.kf {B : Heap} {F : FH} {s : Shared} (h : Ok B F s) {h' : Heap} (hk : ∀ b o, s.heap.get? b = some o → h'.get? b = some o) (b : Addr) (o : Obj) (e : F b = some o) : h'.get? b = s.heap.get? b := by
  (refine xe1_1 (h.alive e) ?_; intro o' ho)
  rw [ho]; exact hk b o' ho
theorem Ok.next {B : Heap} {F F' : FH} {s s' : Shared} (h : Ok B F s) (hF : ∀ b o, F b = some o → F' b = some o) (hnew : ∀ b o, F' b = some o → F b = some o ∨ s'.heap.get? b = some o) (hk : ∀ b o, F b = some o → s'.heap.get? b = s.heap.get? b) (hb : AllBare s'.gens) : Ok B F' s' where
  base := fun b o e => hF b o (h.base b o e)
  sub := fun b o e hne => by
    rcases hnew b o e with e' | e'
    · rw [hk b o e']; exact h.sub b o e' hne
    · exact e'
  bare := hb
  dum := hF _ _ h.dum
  bn := h.bn
  tab := by (refine xe1_2 h.tab ?_; intro ps hp ht); exact ⟨ps, (hk _ _ h.dum).trans hp, ht⟩
theorem Ok.same {B : Heap} {F : FH} {s s' : Shared} (h : Ok B F s) (hk : ∀ b o, F b = some o → s'.heap.get? b = s.heap.get? b) (hb : AllBare s'.gens) : Ok B F s' := h.next (fun _ _ e => e) (fun _ _ e => .inl e) hk hb
structure Ste (n : Nat) (F : FH) (s : Shared) (F' : FH) (s' : Shared) : Prop where
  ext : ∀ b o, F b = some o → F' b = some o
  old : ∀ b, b < n → F b = none → F' b = none ∧ s'.heap.get? b = s.heap.get? b
  size : s.heap.objs.size ≤ s'.heap.objs.size
  os : s'.os = s.os
theorem Ste.refl (n : Nat) (F : FH) (s : Shared) : Ste n F s F s := ⟨fun _ _ h => h, fun _ _ h => ⟨h, rfl⟩, Nat.le_refl _, rfl⟩
theorem Ste.trans {n : Nat} {F F' F'' : FH} {s s' s'' : Shared} (a : Ste n F s F' s') (b : Ste n F' s' F'' s'') : Ste n F s F'' s'' :=
  ⟨fun x o h => b.ext x o (a.ext x o h), fun x hx h => by
    (refine xe0_2 (a.old x hx h) ?_; intro h1 h2)
    (refine xe0_2 (b.old x hx h1) ?_; intro h3 h4)
    exact ⟨h3, h4.trans h2⟩, Nat.le_trans a.size b.size, b.os.trans a.os⟩
theorem Ste.le {n k : Nat} {F F' : FH} {s s' : Shared} (a : Ste n F s F' s') (h : k ≤ n) : Ste k F s F' s' :=
  ⟨a.ext, fun x hx e => a.old x (Nat.lt_of_lt_of_le hx h) e, a.size, a.os⟩
theorem Ste.of_keep {F : FH} {s s' : Shared} (g : Gw s.heap s'.heap) (hk : ∀ b o, s.heap.get? b = some o → s'.heap.get? b = some o) (os : s'.os = s.os) : Ste s.heap.objs.size F s F s' :=
  ⟨fun _ _ h => h, fun b hb e => ⟨e, by
    cases q : s.heap.get? b with
    | none => exact g.dead b hb q
    | some o => exact hk b o q⟩, g.size, os⟩
theorem Ok.of_keep {B : Heap} {F : FH} {s s' : Shared} (h : Ok B F s) (hk : ∀ b o, s.heap.get? b = some o → s'.heap.get? b = some o) (hg : AllBare s'.gens) : Ok B F s' := h.same (fun b o e => by
  cases q : s.heap.get? b with
  | none =>
    by_cases hb : b = PT
    · (refine xe1_2 h.tab ?_; intro ps hp _); rw [hb, hp] at q; cases q
    · rw [h.sub b o e hb] at q; cases q
  | some o' => exact hk b o' q) hg
theorem Ok.toks {B : Heap} {F : FH} {s : Shared} (h : Ok B F s) (t : Nat) : Ok B F { s with toks := t } := h.same (fun _ _ _ => rfl) h.bare
theorem Ste.toks {n : Nat} {F F' : FH} {s s' : Shared} (h : Ste n F s F' s') (t : Nat) : Ste n F s F' { s' with toks := t } := ⟨h.ext, h.old, h.size, h.os⟩
noncomputable def isV : Option NameKind → Bool
  | some .local => true
  | some .cell => true
  | some .free => true
  | _ => false
theorem Ok.fnone {B : Heap} {F : FH} {s : Shared} (h : Ok B F s) {a : Addr} (e : s.heap.objs.size ≤ a) : F a = none := by
  cases q : F a with
  | none => rfl
  | some o => exact absurd (h.lt q) (Nat.not_lt.mpr e)
structure Frm (env : Env) (F : FH) (h : Heap) (m : Str → Option Value) : Prop where
  kind : env.scope.kind = .function
  glob : env.globals = mainGlobals
  blt : env.builtins = builtinsNs
  ns : ∃ m₀, h.Ns env.locals m₀ ∧ ∀ x, env.kindOf x = some .local → m₀ x = m x
  cell : ∀ x, env.kindOf x = some .cell ∨ env.kindOf x = some .free → ∃ c, env.cells.lookup x = some c ∧ h.IsCell c (m x)
  apart : ∀ x y c, env.cells.lookup x = some c → env.cells.lookup y = some c → x = y
  fl : F env.locals = none
  fc : ∀ x c, env.cells.lookup x = some c → F c = none ∧ c ≠ env.locals ∧ c < h.objs.size
section
variable (prog : Program) (w : World) (C : Addr)
noncomputable def SlotOk (F : FH) (h : Heap) : Slot → Value → Prop
  | .fr d, v => Rep prog w C F d v
  | .ol ds, v => ∃ a vs n, v = .ref a ∧ F a = none ∧ h.get? a = some { cls := .type "list", data := .seq vs.toArray n } ∧ Reps prog w C F ds vs
  | .od ps, v => ∃ a o kvs, v = .ref a ∧ F a = none ∧ h.get? a = some o ∧ o.IsDictOf (strKind prog w) kvs ∧ (a == sysModules) = false ∧ RepK prog w C F ps kvs
  | .oi t ps, v => ∃ a dx o od kvs, v = .ref a ∧ F a = none ∧ F dx = none ∧ a ≠ dx ∧ h.get? a = some o ∧ h.get? dx = some od ∧ InstO o od C dx kvs ∧ RepK prog w C F ps kvs ∧ (a, dx) = t
noncomputable def Owns (h : Heap) : Slot → Value → Addr → Prop
  | .fr _, _, _ => False
  | .oi _ _, v, a => v = .ref a ∨ ∃ x o, v = .ref x ∧ h.get? x = some o ∧ o.dict = some a
  | _, v, a => v = .ref a
theorem SlotOk.step {F F' : FH} {h h' : Heap} {sl : Slot} {v : Value} (x : SlotOk prog w C F h sl v) (hF : ∀ b o, F b = some o → F' b = some o)
    (hh : ∀ b, F b = none → Owns h sl v b → F' b = none ∧ h'.get? b = h.get? b) : SlotOk prog w C F' h' sl v := by
  cases sl with
  | fr d => exact Rep.mono hF x
  | ol ds =>
    (refine xe3_4 x ?_; (try clear x); intro a vs n hq3; rcases hq3 with rfl; intro h1 h2 h3)
    (refine xe0_2 (hh a h1 rfl) ?_; intro g1 g2)
    exact ⟨a, vs, n, rfl, g1, g2.trans h2, h3.mono hF⟩
  | od ps =>
    (refine xe3_5 x ?_; (try clear x); intro a o kvs hq3; rcases hq3 with rfl; intro h1 h2 h3 hqr; refine xe0_2 hqr ?_; (try clear hqr); intro h4 h5)
    (refine xe0_2 (hh a h1 rfl) ?_; intro g1 g2)
    exact ⟨a, o, kvs, rfl, g1, g2.trans h2, h3, h4, h5.mono hF⟩
  | oi t ps =>
    (refine xe5_3 x ?_; (try clear x); intro a dx o od kvs hq5; rcases hq5 with rfl; intro h1 hqr; refine xe0_7 hqr ?_; (try clear hqr); intro h2 h3 h4 h5 h6 h7 h8)
    (refine xe0_2 (hh a h1 (.inl rfl)) ?_; intro g1 g2)
    (refine xe0_2 (hh dx h2 (.inr ⟨a, o, rfl, h4, h6.dict⟩)) ?_; intro g3 g4)
    exact ⟨a, dx, o, od, kvs, rfl, g1, g3, h3, g2.trans h4, g4.trans h5, h6, h7.mono hF, h8⟩
theorem SlotOk.owned {F : FH} {h : Heap} {sl : Slot} {v : Value} (x : SlotOk prog w C F h sl v) {a : Addr} (ho : Owns h sl v a) : F a = none ∧ a < h.objs.size := by
  cases sl with
  | fr d => exact ho.elim
  | ol ds =>
    (refine xe3_4 x ?_; (try clear x); intro b vs n hq3; rcases hq3 with rfl; intro h1 h2 h3)
    cases ho; exact ⟨h1, Heap.lt_size h2⟩
  | od ps =>
    (refine xe3_5 x ?_; (try clear x); intro b o kvs hq3; rcases hq3 with rfl; intro h1 h2 h3 hqr; refine xe0_2 hqr ?_; (try clear hqr); intro h4 h5)
    cases ho; exact ⟨h1, Heap.lt_size h2⟩
  | oi t ps =>
    (refine xe5_3 x ?_; (try clear x); intro b dx o od kvs hq5; rcases hq5 with rfl; intro h1 hqr; refine xe0_7 hqr ?_; (try clear hqr); intro h2 h3 h4 h5 h6 h7 h8)
    rcases ho with ho | ⟨x', o', ho, q, r⟩
    · cases ho; exact ⟨h1, Heap.lt_size h4⟩
    · cases ho; rw [h4] at q; cases q; rw [h6.dict] at r; cases r; exact ⟨h2, Heap.lt_size h5⟩
theorem Owns.step {h h' : Heap} {sl : Slot} {v : Value} {a : Addr} {F : FH} (x : SlotOk prog w C F h sl v) (hh : ∀ b, Owns h sl v b → h'.get? b = h.get? b) (ho : Owns h' sl v a) : Owns h sl v a := by
  cases sl with
  | fr d => exact ho
  | ol ds => exact ho
  | od ds => exact ho
  | oi t ps =>
    rcases ho with ho | ⟨x', o', ho, q, r⟩
    · exact .inl ho
    · (refine xe5_3 x ?_; (try clear x); intro b dx o od kvs hv h1 hqr; refine xe0_7 hqr ?_; (try clear hqr); intro h2 h3 h4 h5 h6 h7 h8)
      subst ho
      rw [hh x' (.inl rfl)] at q
      exact .inr ⟨x', o', rfl, q, r⟩
end
structure StM (prog : Program) (w : World) (C : Addr) (B : Heap) (n : Nat) (ps : List Addr) (env : Env) (F : FH) (s : Shared) (ρ : Sc) (m : Str → Option Value) : Prop where
  ok : Ok B F s
  frm : Frm env F s.heap m
  rel : ∀ x sl, lkp ρ x = some sl → isV (env.kindOf x) = true → ∃ v, m x = some v ∧ SlotOk prog w C F s.heap sl v ∧ ∀ a, Owns s.heap sl v a → n ≤ a ∧ a ≠ env.locals ∧ (∀ y c, env.cells.lookup y = some c → a ≠ c) ∧ a ∉ ps
  disj : ∀ x y sx sy vx vy a, x ≠ y → lkp ρ x = some sx → lkp ρ y = some sy → isV (env.kindOf x) = true → isV (env.kindOf y) = true → m x = some vx → m y = some vy → Owns s.heap sx vx a → Owns s.heap sy vy a → False
  lo : n ≤ env.locals
  loc : ∀ x c, env.kindOf x = some .cell → env.cells.lookup x = some c → n ≤ c
  prot : ∀ p ∈ ps, F p = none ∧ p < s.heap.objs.size ∧ p ≠ env.locals ∧ ∀ y c, env.cells.lookup y = some c → p ≠ c
noncomputable def St (prog : Program) (w : World) (C : Addr) (B : Heap) (n : Nat) (ps : List Addr) (env : Env) (F : FH) (s : Shared) (ρ : Sc) : Prop := ∃ m, StM prog w C B n ps env F s ρ m
structure Stq (n : Nat) (ps : List Addr) (F : FH) (s : Shared) (F' : FH) (s' : Shared) : Prop where
  ste : Ste n F s F' s'
  kp : ∀ p ∈ ps, F p = none → p < s.heap.objs.size → F' p = none ∧ s'.heap.get? p = s.heap.get? p
theorem Stq.refl (n : Nat) (ps : List Addr) (F : FH) (s : Shared) : Stq n ps F s F s := ⟨.refl .., fun _ _ h _ => ⟨h, rfl⟩⟩
theorem Stq.trans {n : Nat} {ps : List Addr} {F F' F'' : FH} {s s' s'' : Shared} (a : Stq n ps F s F' s') (b : Stq n ps F' s' F'' s'') : Stq n ps F s F'' s'' :=
  ⟨a.ste.trans b.ste, fun p hp h hs => by
    (refine xe0_2 (a.kp p hp h hs) ?_; intro h1 h2)
    (refine xe0_2 (b.kp p hp h1 (Nat.lt_of_lt_of_le hs a.ste.size)) ?_; intro h3 h4)
    exact ⟨h3, h4.trans h2⟩⟩
theorem Ste.q {n k : Nat} {ps : List Addr} {F F' : FH} {s s' : Shared} (a : Ste k F s F' s') (h : n ≤ k) (hk : s.heap.objs.size ≤ k) : Stq n ps F s F' s' :=
  ⟨a.le h, fun p _ e hs => a.old p (Nat.lt_of_lt_of_le hs hk) e⟩
theorem Stq.sub {n : Nat} {ps qs : List Addr} {F F' : FH} {s s' : Shared} (a : Stq n qs F s F' s') (h : ∀ p ∈ ps, p ∈ qs) : Stq n ps F s F' s' := ⟨a.ste, fun p hp => a.kp p (h p hp)⟩
section
variable {prog : Program} {w : World} {C : Addr} {B : Heap} {n k : Nat} {ps : List Addr} {env : Env} {F F' : FH} {s s' : Shared} {ρ : Sc} {m : Str → Option Value}
theorem Frm.locals_lt (h : Frm env F s.heap m) : env.locals < s.heap.objs.size := let ⟨_, a, _⟩ := h.ns; a.lt
theorem Frm.step (h : Frm env F s.heap m) (hs : ∀ b, F b = none → b < s.heap.objs.size → F' b = none ∧ s'.heap.get? b = s.heap.get? b) (hz : s.heap.objs.size ≤ s'.heap.objs.size) : Frm env F' s'.heap m where
  kind := h.kind
  glob := h.glob
  blt := h.blt
  ns := by
    (refine xe1_2 h.ns ?_; intro m₀ hn e)
    refine ⟨m₀, hn.at' fun o ho => ?_, e⟩
    rw [(hs _ h.fl hn.lt).2]; exact ho
  cell := fun x hx => by
    (refine xe1_2 (h.cell x hx) ?_; intro c hc hi)
    refine ⟨c, hc, ?_⟩
    (refine xe1_2 (id hi) ?_; intro o ho hd)
    exact ⟨o, ((hs c (h.fc x c hc).1 hi.lt).2).trans ho, hd⟩
  apart := h.apart
  fl := (hs _ h.fl h.locals_lt).1
  fc := fun x c hc => by
    (refine xe0_3 (h.fc x c hc) ?_; intro a b d)
    exact ⟨(hs c a d).1, b, Nat.lt_of_lt_of_le d hz⟩
theorem Frm.step' (h : Frm env F s.heap m) (h1 : F' env.locals = none) (h2 : ∀ x c, env.cells.lookup x = some c → F' c = none) : Frm env F' s.heap m :=
  ⟨h.kind, h.glob, h.blt, h.ns, h.cell, h.apart, h1, fun x c hc => ⟨h2 x c hc, (h.fc x c hc).2⟩⟩
theorem StM.step (h : StM prog w C B n ps env F s ρ m) (t : Ste k F s F' s') (hk : s.heap.objs.size ≤ k) (ok : Ok B F' s') : StM prog w C B n ps env F' s' ρ m where
  ok := ok
  frm := h.frm.step (fun b hb hlt => t.old b (Nat.lt_of_lt_of_le hlt hk) hb) t.size
  rel := fun x sl hx hv => by
    (refine xe1_3 (h.rel x sl hx hv) ?_; intro v hm hs ho)
    have hst : ∀ b, Owns s.heap sl v b → s'.heap.get? b = s.heap.get? b := fun b hb => by
      (refine xe0_2 (hs.owned _ _ _ hb) ?_; intro h1 h2)
      exact (t.old b (Nat.lt_of_lt_of_le h2 hk) h1).2
    refine ⟨v, hm, hs.step _ _ _ t.ext fun b hb hown => t.old b (Nat.lt_of_lt_of_le (hs.owned _ _ _ hown).2 hk) hb, fun a ha => ho a (Owns.step _ _ _ hs hst ha)⟩
  disj := fun x y sx sy vx vy a hxy hx hy kx ky mx my ox oy => by
    (refine xe1_3 (h.rel x sx hx kx) ?_; intro v1 m1 s1 _)
    (refine xe1_3 (h.rel y sy hy ky) ?_; intro v2 m2 s2 _)
    rw [mx] at m1; cases m1; rw [my] at m2; cases m2
    refine h.disj x y sx sy vx vy a hxy hx hy kx ky mx my (Owns.step _ _ _ s1 (fun b hb => ?_) ox) (Owns.step _ _ _ s2 (fun b hb => ?_) oy)
    · exact (t.old b (Nat.lt_of_lt_of_le (s1.owned _ _ _ hb).2 hk) (s1.owned _ _ _ hb).1).2
    · exact (t.old b (Nat.lt_of_lt_of_le (s2.owned _ _ _ hb).2 hk) (s2.owned _ _ _ hb).1).2
  lo := h.lo
  loc := h.loc
  prot := fun p hp => by
    (refine xe0_4 (h.prot p hp) ?_; intro a b c d)
    exact ⟨(t.old p (Nat.lt_of_lt_of_le b hk) a).1, Nat.lt_of_lt_of_le b t.size, c, d⟩
theorem St.step (h : St prog w C B n ps env F s ρ) (t : Ste k F s F' s') (hk : s.heap.objs.size ≤ k) (ok : Ok B F' s') : St prog w C B n ps env F' s' ρ := let ⟨m, x⟩ := h; ⟨m, x.step t hk ok⟩
theorem St.ok (h : St prog w C B n ps env F s ρ) : Ok B F s := let ⟨_, x⟩ := h; x.ok
theorem St.load {M : Model} {A : Around} {E : Value → Shared → Prop} (h : St prog w C B n ps env F s ρ) {x : Str} {sl : Slot} (hx : lkp ρ x = some sl) (hv : isV (env.kindOf x) = true) (hcd : (x == ("__classdict__" : Str)) = false)
    {Q : Value → Shared → Prop} (hQ : ∀ v, SlotOk prog w C F s.heap sl v → Q v s) : wpAny M A (loadName env x) Q E s := by
  (refine xe1_1 h ?_; (try clear h); intro m h)
  (refine xe1_3 (h.rel x sl hx hv) ?_; intro v hm hs _)
  cases hk : env.kindOf x with
  | none => rw [hk] at hv; cases hv
  | some kd =>
    cases kd with
    | «local» =>
      (refine xe1_2 h.frm.ns ?_; intro m₀ hn e)
      exact wpAny_loadName_local h.frm.kind hk hn ((e x hk).trans hm) (hQ v hs)
    | cell =>
      (refine xe1_2 (h.frm.cell x (.inl hk)) ?_; intro c hc hi)
      exact wpAny_loadName_cell h.frm.kind hk hc (hm ▸ hi) (hQ v hs)
    | free =>
      (refine xe1_2 (h.frm.cell x (.inr hk)) ?_; intro c hc hi)
      exact wpAny_loadName_free h.frm.kind hk hc (hm ▸ hi) (hQ v hs) hcd
    | globalImplicit => rw [hk] at hv; cases hv
    | globalExplicit => rw [hk] at hv; cases hv
noncomputable def Fresh (prog : Program) (w : World) (C : Addr) (n : Nat) (ps : List Addr) (env : Env) (F : FH) (s : Shared) (ρ : Sc) (m : Str → Option Value) (sl : Slot) (v : Value) : Prop :=
  SlotOk prog w C F s.heap sl v ∧ ∀ a, Owns s.heap sl v a → n ≤ a ∧ a ≠ env.locals ∧ (∀ y c, env.cells.lookup y = some c → a ≠ c) ∧ a ∉ ps ∧ ∀ y sy vy, lkp ρ y = some sy → isV (env.kindOf y) = true → m y = some vy → ¬ Owns s.heap sy vy a
theorem StM.wrote (h : StM prog w C B n ps env F s ρ m) {x : Str} {sl : Slot} {v : Value} (hf : Fresh prog w C n ps env F s ρ m sl v) {h' : Heap} {tk : Nat} {b : Addr} (hsame : Heap.SameBut b s.heap h')
    (hfb : F b = none) (hbl : b = env.locals ∨ ∃ y, env.cells.lookup y = some b)
    (hns : ∃ m₀, h'.Ns env.locals m₀ ∧ ∀ y, env.kindOf y = some .local → m₀ y = if y = x then some v else m y)
    (hcell : ∀ y, env.kindOf y = some .cell ∨ env.kindOf y = some .free → ∃ c, env.cells.lookup y = some c ∧ h'.IsCell c (if y = x then some v else m y)) :
    StM prog w C B n ps env F { s with heap := h', toks := tk } (upd ρ x sl) (fun y => if y = x then some v else m y) := by
  (refine xe0_2 hf ?_; (try clear hf); intro hs fresh)
  have hF : ∀ a o, F a = some o → a ≠ b := fun a o e q => by subst q; rw [hfb] at e; cases e
  have nb : ∀ a, a ≠ env.locals → (∀ y c, env.cells.lookup y = some c → a ≠ c) → a ≠ b := fun a h1 h2 => by
    rcases hbl with rfl | ⟨y', hy'⟩
    · exact h1
    · exact h2 y' b hy'
  have keepx : ∀ a, Owns s.heap sl v a → h'.get? a = s.heap.get? a := fun a ha => hsame.2 a (nb a (fresh a ha).2.1 (fresh a ha).2.2.1)
  have keepy : ∀ {y : Str} {sy : Slot} {vy : Value}, lkp ρ y = some sy → isV (env.kindOf y) = true → m y = some vy → ∀ a, Owns s.heap sy vy a → h'.get? a = s.heap.get? a := fun {y sy vy} ly ky my a ha => by
    (refine xe1_3 (h.rel y sy ly ky) ?_; intro v0 m0 s0 o0)
    rw [my] at m0; cases m0
    exact hsame.2 a (nb a (o0 a ha).2.1 (o0 a ha).2.2.1)
  refine ⟨h.ok.same (fun a o e => hsame.2 a (hF a o e)) h.ok.bare, ⟨h.frm.kind, h.frm.glob, h.frm.blt, hns, hcell, h.frm.apart, h.frm.fl, fun y c hc => ?_⟩, fun y sy ly ky => ?_, fun y z sy sz vy vz a hyz ly lz ky kz my mz oy oz => ?_, h.lo, h.loc, fun p hp => ?_⟩
  · (refine xe0_3 (h.frm.fc y c hc) ?_; intro p q r)
    refine ⟨p, q, ?_⟩
    show c < h'.objs.size
    rw [hsame.1]; exact r
  · rw [lkp_upd] at ly
    by_cases e : y = x
    · subst e; rw [if_pos rfl] at ly; cases ly
      refine ⟨v, by simp, hs.step _ _ _ (fun _ _ q => q) (fun a ha ho => ⟨ha, keepx a ho⟩), fun a ha => ?_⟩
      have ha' := Owns.step prog w C hs keepx ha
      (refine xe0_5 (fresh a ha') ?_; intro f1 f2 f3 f4 _)
      exact ⟨f1, f2, f3, f4⟩
    · rw [if_neg e] at ly
      (refine xe1_3 (h.rel y sy ly ky) ?_; intro v' m' s1 o1)
      have keep := keepy ly ky m'
      exact ⟨v', by simp [e, m'], s1.step _ _ _ (fun _ _ q => q) (fun a ha ho => ⟨ha, keep a ho⟩), fun a ha => o1 a (Owns.step prog w C s1 keep ha)⟩
  · rw [lkp_upd] at ly lz
    by_cases ey : y = x
    · subst ey
      have ez : ¬ z = y := fun q => hyz q.symm
      rw [if_pos rfl] at ly; rw [if_neg ez] at lz; cases ly
      simp only [if_true] at my; cases my
      simp only [ez, if_false] at mz
      (refine xe1_3 (h.rel z sz lz kz) ?_; intro v2 m2 s2 o2)
      rw [mz] at m2; cases m2
      exact (fresh a (Owns.step prog w C hs keepx oy)).2.2.2.2 z sz vz lz kz mz (Owns.step prog w C s2 (keepy lz kz mz) oz)
    · rw [if_neg ey] at ly
      simp only [ey, if_false] at my
      (refine xe1_3 (h.rel y sy ly ky) ?_; intro v1 m1 s1 o1)
      rw [my] at m1; cases m1
      by_cases ez : z = x
      · subst ez
        rw [if_pos rfl] at lz; cases lz
        simp only [if_true] at mz; cases mz
        exact (fresh a (Owns.step prog w C hs keepx oz)).2.2.2.2 y sy vy ly ky my (Owns.step prog w C s1 (keepy ly ky my) oy)
      · rw [if_neg ez] at lz
        simp only [ez, if_false] at mz
        (refine xe1_3 (h.rel z sz lz kz) ?_; intro v2 m2 s2 o2)
        rw [mz] at m2; cases m2
        exact h.disj y z sy sz vy vz a hyz ly lz ky kz my mz (Owns.step prog w C s1 (keepy ly ky my) oy) (Owns.step prog w C s2 (keepy lz kz mz) oz)
  · (refine xe0_4 (h.prot p hp) ?_; intro q1 q2 q3 q4)
    refine ⟨q1, ?_, q3, q4⟩
    show p < h'.objs.size
    rw [hsame.1]; exact q2
theorem StM.bindF {M : Model} {A : Around} {E : Value → Shared → Prop} (h : StM prog w C B n ps env F s ρ m) {x : Str} {sl : Slot} {v : Value} (hf : Fresh prog w C n ps env F s ρ m sl v) (hx : env.kindOf x = some .local ∨ env.kindOf x = some .cell)
    {Q : Unit → Shared → Prop} (hQ : ∀ s'', StM prog w C B n ps env F s'' (upd ρ x sl) (fun y => if y = x then some v else m y) → Stq n ps F s F s'' → (env.kindOf x = some .local → Ste env.locals F s F s'') →
      (∀ a, a ≠ env.locals → (∀ y c, env.cells.lookup y = some c → a ≠ c) → s''.heap.get? a = s.heap.get? a) → s''.heap.objs.size = s.heap.objs.size → Q () s'') : wpAny M A (storeName env x v) Q E s := by
  rcases hx with hx | hx
  · (refine xe1_2 h.frm.ns ?_; intro m₀ hns e)
    refine wpAny_storeName_local hx hns (fun h' hn' hs' => ?_) (by rw [h.frm.kind]; rfl)
    have hst : Ste env.locals F s F { s with heap := h', toks := s.toks + 1 } := ⟨fun _ _ q => q, fun b hb q => ⟨q, hs'.2 b (Nat.ne_of_lt hb)⟩, by show _ ≤ h'.objs.size; rw [hs'.1]; exact Nat.le_refl _, rfl⟩
    refine hQ _ (h.wrote hf (tk := s.toks + 1) hs' h.frm.fl (.inl rfl) ⟨_, hn', fun y hy => ?_⟩ fun y hy => ?_) ⟨hst.le h.lo, fun p hp q _ => ⟨q, hs'.2 p (h.prot p hp).2.2.1⟩⟩ (fun _ => hst) (fun a ha _ => hs'.2 a ha) hs'.1
    · show (if y = x then some v else m₀ y) = _
      rw [e y hy]
    · (refine xe1_2 (h.frm.cell y hy) ?_; intro c hc hi)
      have hne : y ≠ x := by rintro rfl; rw [hx] at hy; rcases hy with hy | hy <;> cases hy
      refine ⟨c, hc, ?_⟩
      rw [if_neg hne]
      exact hi.sameBut hs' (h.frm.fc y c hc).2.1
  · (refine xe1_2 (h.frm.cell x (.inl hx)) ?_; intro c hc hi)
    refine wpAny_storeName_cell h.frm.kind hx hc hi fun h' hc' hs' => ?_
    have hnc := h.loc x c hx hc
    have hst : Ste c F s F { s with heap := h' } := ⟨fun _ _ q => q, fun b hb q => ⟨q, hs'.2 b (Nat.ne_of_lt hb)⟩, by show _ ≤ h'.objs.size; rw [hs'.1]; exact Nat.le_refl _, rfl⟩
    refine hQ _ (h.wrote hf (tk := s.toks) hs' (h.frm.fc x c hc).1 (.inr ⟨x, hc⟩) ?_ fun y hy => ?_) ⟨hst.le hnc, fun p hp q _ => ⟨q, hs'.2 p ((h.prot p hp).2.2.2 x c hc)⟩⟩ (fun q => by rw [hx] at q; cases q) (fun a _ ha => hs'.2 a (ha x c hc)) hs'.1
    · (refine xe1_2 h.frm.ns ?_; intro m₀ hns e)
      refine ⟨m₀, hns.sameBut hs' (Ne.symm (h.frm.fc x c hc).2.1), fun y hy => ?_⟩
      have hne : y ≠ x := by rintro rfl; rw [hx] at hy; cases hy
      rw [if_neg hne]; exact e y hy
    · (refine xe1_2 (h.frm.cell y hy) ?_; intro c' hc1 hi1)
      refine ⟨c', hc1, ?_⟩
      by_cases e : y = x
      · subst e; rw [if_pos rfl]; rw [hc] at hc1; cases hc1; exact hc'
      · rw [if_neg e]; exact hi1.sameBut hs' fun q => e (h.frm.apart y x c' hc1 (q ▸ hc))
theorem StM.fresh_new (h : StM prog w C B n ps env F s ρ m) (t : Ste s.heap.objs.size F s F' s') {sl : Slot} {v : Value} (hs : SlotOk prog w C F' s'.heap sl v) (fresh : ∀ a, Owns s'.heap sl v a → s.heap.objs.size ≤ a) :
    Fresh prog w C n ps env F' s' ρ m sl v := ⟨hs, fun a ha => by
  have hge := fresh a ha
  have irr : ∀ {b}, b < s.heap.objs.size → a ≠ b := fun hb q => Nat.lt_irrefl _ (Nat.lt_of_lt_of_le hb (q ▸ hge))
  refine ⟨Nat.le_trans (Nat.le_trans h.lo (Nat.le_of_lt h.frm.locals_lt)) hge, irr h.frm.locals_lt, fun z c hc => irr (h.frm.fc z c hc).2.2, fun q => irr (h.prot a q).2.1 rfl, fun y sy vy ly ky my oy => ?_⟩
  (refine xe1_3 (h.rel y sy ly ky) ?_; intro v0 m0 s0 o0)
  rw [my] at m0; cases m0
  exact irr (s0.owned _ _ _ (Owns.step prog w C s0 (fun b hb => (t.old b (s0.owned _ _ _ hb).2 (s0.owned _ _ _ hb).1).2) oy)).2 rfl⟩
theorem St.bind {M : Model} {A : Around} {E : Value → Shared → Prop} (h : St prog w C B n ps env F s ρ) (t : Ste s.heap.objs.size F s F' s') (ok : Ok B F' s') {x : Str} {sl : Slot} {v : Value}
    (hs : SlotOk prog w C F' s'.heap sl v) (fresh : ∀ a, Owns s'.heap sl v a → s.heap.objs.size ≤ a) (hx : env.kindOf x = some .local ∨ env.kindOf x = some .cell)
    {Q : Unit → Shared → Prop} (hQ : ∀ s'', St prog w C B n ps env F' s'' (upd ρ x sl) → Stq n ps F s F' s'' → (env.kindOf x = some .local → Ste env.locals F' s' F' s'') → Q () s'') : wpAny M A (storeName env x v) Q E s' := by
  (refine xe1_1 h ?_; (try clear h); intro m h)
  have hn : n ≤ s.heap.objs.size := Nat.le_trans h.lo (Nat.le_of_lt h.frm.locals_lt)
  exact (h.step t (Nat.le_refl _) ok).bindF (h.fresh_new t hs fresh) hx fun s'' hs'' t1 t2 _ _ => hQ s'' ⟨_, hs''⟩ ((t.q hn (Nat.le_refl _)).trans t1) t2
theorem St.protect (h : St prog w C B n ps env F s ρ) (t : Ste s.heap.objs.size F s F' s') (ok : Ok B F' s') {qs : List Addr} (hq : ∀ p ∈ qs, s.heap.objs.size ≤ p ∧ p < s'.heap.objs.size ∧ F' p = none) :
    St prog w C B n (qs ++ ps) env F' s' ρ := by
  (refine xe1_1 h ?_; (try clear h); intro m h)
  have h1 := h.step t (Nat.le_refl _) ok
  refine ⟨m, h1.ok, h1.frm, fun x sl hx hv => ?_, h1.disj, h1.lo, h1.loc, fun p hp => ?_⟩
  · (refine xe1_3 (h1.rel x sl hx hv) ?_; intro v hm hs ho)
    refine ⟨v, hm, hs, fun a ha => ?_⟩
    (refine xe0_4 (ho a ha) ?_; intro a1 a2 a3 a4)
    refine ⟨a1, a2, a3, fun q => ?_⟩
    rcases List.mem_append.mp q with q | q
    · (refine xe1_3 (h.rel x sl hx hv) ?_; intro v0 m0 s0 o0)
      rw [hm] at m0; cases m0
      have := (s0.owned _ _ _ (Owns.step prog w C s0 (fun b hb => (t.old b (s0.owned _ _ _ hb).2 (s0.owned _ _ _ hb).1).2) ha)).2
      exact Nat.lt_irrefl _ (Nat.lt_of_lt_of_le this (hq a q).1)
    · exact a4 q
  · rcases List.mem_append.mp hp with q | q
    · (refine xe0_3 (hq p q) ?_; intro q1 q2 q3)
      exact ⟨q3, q2, fun e => Nat.lt_irrefl _ (Nat.lt_of_lt_of_le h.frm.locals_lt (e ▸ q1)), fun y c hc e => Nat.lt_irrefl _ (Nat.lt_of_lt_of_le (h.frm.fc y c hc).2.2 (e ▸ q1))⟩
    · exact h1.prot p q
theorem St.sub {qs : List Addr} {ρ' : Sc} (h : St prog w C B n qs env F s ρ) (hp : ∀ p ∈ ps, p ∈ qs) (hr : ∀ y sl, lkp ρ' y = some sl → lkp ρ y = some sl) : St prog w C B n ps env F s ρ' := by
  (refine xe1_1 h ?_; (try clear h); intro m h)
  refine ⟨m, h.ok, h.frm, fun x sl hx hv => ?_, fun x y sx sy vx vy a hxy hx hy kx ky mx my ox oy => h.disj x y sx sy vx vy a hxy (hr _ _ hx) (hr _ _ hy) kx ky mx my ox oy, h.lo, h.loc, fun p q => h.prot p (hp p q)⟩
  (refine xe1_3 (h.rel x sl (hr _ _ hx) hv) ?_; intro v hm hs ho)
  exact ⟨v, hm, hs, fun a ha => let ⟨a1, a2, a3, a4⟩ := ho a ha; ⟨a1, a2, a3, fun q => a4 (hp a q)⟩⟩
theorem St.poke (h : St prog w C B n ps env F s ρ) {p : Addr} (hp : p ∈ ps) {h' : Heap} (hs : ∀ b, b < s.heap.objs.size → b ≠ p → h'.get? b = s.heap.get? b) (hz : s.heap.objs.size ≤ h'.objs.size) (tk : Nat) :
    St prog w C B n ps env F { s with heap := h', toks := tk } ρ := by
  (refine xe1_1 h ?_; (try clear h); intro m h)
  (refine xe0_4 (h.prot p hp) ?_; intro p1 p2 p3 p4)
  have hF : ∀ b o, F b = some o → b ≠ p := fun b o e q => by subst q; rw [p1] at e; cases e
  have keep : ∀ {x sl v}, lkp ρ x = some sl → isV (env.kindOf x) = true → m x = some v → SlotOk prog w C F s.heap sl v → ∀ b, Owns s.heap sl v b → h'.get? b = s.heap.get? b := fun {x sl v} hx hv hm s1 b hb => by
    (refine xe1_3 (h.rel x sl hx hv) ?_; intro v0 m0 s0 o0)
    rw [hm] at m0; cases m0
    exact hs b (s1.owned _ _ _ hb).2 fun q => (o0 b hb).2.2.2 (q ▸ hp)
  refine ⟨m, h.ok.same (fun b o e => hs b (h.ok.lt e) (hF b o e)) h.ok.bare, ?_, fun x sl hx hv => ?_, fun x y sx sy vx vy a hxy hx hy kx ky mx my ox oy => ?_, h.lo, h.loc, fun q hq => ?_⟩
  · refine ⟨h.frm.kind, h.frm.glob, h.frm.blt, ?_, fun y hy => ?_, h.frm.apart, h.frm.fl, fun y c hc => ?_⟩
    · (refine xe1_2 h.frm.ns ?_; intro m₀ hns e)
      exact ⟨m₀, hns.at' fun o ho' => by rw [hs _ hns.lt (Ne.symm p3)]; exact ho', e⟩
    · (refine xe1_2 (h.frm.cell y hy) ?_; intro c hc hi)
      refine ⟨c, hc, ?_⟩
      (refine xe1_2 (id hi) ?_; intro o ho' hd)
      exact ⟨o, (hs c hi.lt (Ne.symm (p4 y c hc))).trans ho', hd⟩
    · (refine xe0_3 (h.frm.fc y c hc) ?_; intro a b r)
      exact ⟨a, b, Nat.lt_of_lt_of_le r hz⟩
  · (refine xe1_3 (h.rel x sl hx hv) ?_; intro v hm s1 ho)
    have k := keep hx hv hm s1
    exact ⟨v, hm, s1.step _ _ _ (fun _ _ q => q) (fun b hb ho => ⟨hb, k b ho⟩), fun a ha => ho a (Owns.step prog w C s1 k ha)⟩
  · (refine xe1_3 (h.rel x sx hx kx) ?_; intro v1 m1 s1 _)
    (refine xe1_3 (h.rel y sy hy ky) ?_; intro v2 m2 s2 _)
    rw [mx] at m1; cases m1; rw [my] at m2; cases m2
    exact h.disj x y sx sy vx vy a hxy hx hy kx ky mx my (Owns.step prog w C s1 (keep hx kx mx s1) ox) (Owns.step prog w C s2 (keep hy ky my s2) oy)
  · (refine xe0_4 (h.prot q hq) ?_; intro q1 q2 q3 q4)
    exact ⟨q1, Nat.lt_of_lt_of_le q2 hz, q3, q4⟩
theorem St.bindP {M : Model} {A : Around} {E : Value → Shared → Prop} {qs : List Addr} (h : St prog w C B n qs env F s ρ) {x : Str} {sl : Slot} {v : Value} (hsub : ∀ p ∈ ps, p ∈ qs)
    (hs : SlotOk prog w C F s.heap sl v) (own : ∀ a, Owns s.heap sl v a → a ∈ qs ∧ a ∉ ps ∧ n ≤ a) (hx : env.kindOf x = some .local ∨ env.kindOf x = some .cell)
    {Q : Unit → Shared → Prop} (hQ : ∀ s'', St prog w C B n ps env F s'' (upd ρ x sl) → Stq n qs F s F s'' → (env.kindOf x = some .local → Ste env.locals F s F s'') →
      (∀ a, a ≠ env.locals → (∀ y c, env.cells.lookup y = some c → a ≠ c) → s''.heap.get? a = s.heap.get? a) → s''.heap.objs.size = s.heap.objs.size → Q () s'') : wpAny M A (storeName env x v) Q E s := by
  (refine xe1_1 h ?_; (try clear h); intro m h0)
  have h1 : StM prog w C B n ps env F s ρ m := by
    refine ⟨h0.ok, h0.frm, fun x sl hx hv => ?_, h0.disj, h0.lo, h0.loc, fun p q => h0.prot p (hsub p q)⟩
    (refine xe1_3 (h0.rel x sl hx hv) ?_; intro v hm hs ho)
    exact ⟨v, hm, hs, fun a ha => let ⟨a1, a2, a3, a4⟩ := ho a ha; ⟨a1, a2, a3, fun q => a4 (hsub a q)⟩⟩
  have hfr : Fresh prog w C n ps env F s ρ m sl v := ⟨hs, fun a ha => by
    (refine xe0_3 (own a ha) ?_; intro o1 o2 o3)
    (refine xe0_4 (h0.prot a o1) ?_; intro p1 p2 p3 p4)
    refine ⟨o3, p3, p4, o2, fun y sy vy ly ky my oy => ?_⟩
    (refine xe1_3 (h0.rel y sy ly ky) ?_; intro v0 m0 s0 o0)
    rw [my] at m0; cases m0
    exact (o0 a oy).2.2.2 o1⟩
  refine h1.bindF hfr hx fun s'' hs'' t1 t2 t3 t4 => hQ s'' ⟨_, hs''⟩ ⟨t1.ste, fun p hp e hlt => ⟨e, ?_⟩⟩ t2 t3 t4
  exact t3 p (h0.prot p hp).2.2.1 (h0.prot p hp).2.2.2
theorem lkp_frz1 (x y : Str) : ∀ l : Sc, lkp (frz1 x l) y = if y = x then (lkp l x).map frzS else lkp l y
  | [] => by unfold frz1 lkp; split <;> rfl
  | (z, t) :: r => by
    unfold frz1
    by_cases e : x = z
    · rw [if_pos e]; subst e
      unfold lkp
      by_cases h : y = x
      · rw [if_pos h, if_pos h, if_pos rfl]; rfl
      · rw [if_neg h, if_neg h]
        simp [h]
    · rw [if_neg e]
      unfold lkp
      by_cases h : y = z
      · have hx : ¬ y = x := fun q => e (q.symm.trans h)
        rw [if_pos h, if_neg hx]
        simp [h]
      · rw [if_neg h, lkp_frz1 x y r]
        by_cases q : y = x
        · rw [if_pos q, if_pos q, if_neg e]
        · rw [if_neg q, if_neg q]
          simp [h]
theorem StM.freeze {x : Str} {sl : Slot} {v : Value} (h : StM prog w C B n ps env F s ρ m) (hx : lkp ρ x = some sl) (hv : isV (env.kindOf x) = true) (hm : m x = some v)
    (hF : ∀ b o, F b = some o → F' b = some o) (hnew : ∀ b, F b = none → ¬ Owns s.heap sl v b → F' b = none) (hsub : ∀ b o, F' b = some o → F b = some o ∨ s.heap.get? b = some o) (hr : Rep prog w C F' (slotD sl) v) :
    StM prog w C B n ps env F' s (frz1 x ρ) m ∧ Stq n ps F s F' s := by
  (refine xe1_3 (h.rel x sl hx hv) ?_; intro v' hm' hs ho)
  rw [hm] at hm'; cases hm'
  have oth : ∀ {y sy vy b}, y ≠ x → lkp ρ y = some sy → isV (env.kindOf y) = true → m y = some vy → Owns s.heap sy vy b → ¬ Owns s.heap sl v b := fun {y sy vy b} hyx ly ky my oy ox => h.disj y x sy sl vy v b hyx ly hx ky hv my hm oy ox
  refine ⟨⟨h.ok.next hF hsub (fun _ _ _ => rfl) h.ok.bare, h.frm.step' ?_ ?_ , fun y sy ly ky => ?_, fun y z sy sz vy vz a hyz ly lz ky kz my mz oy oz => ?_, h.lo, h.loc, fun p hp => ?_⟩, ⟨hF, fun b hb e => ⟨hnew b e fun q => ?_, rfl⟩, Nat.le_refl _, rfl⟩, fun p hp q _ => ⟨hnew p q fun z => (ho p z).2.2.2 hp, rfl⟩⟩
  · exact hnew _ h.frm.fl fun q => (ho _ q).2.1 rfl
  · exact fun y c hc => hnew _ (h.frm.fc y c hc).1 fun q => (ho _ q).2.2.1 y c hc rfl
  · rw [lkp_frz1] at ly
    by_cases e : y = x
    · subst e
      rw [if_pos rfl, hx] at ly; cases ly
      exact ⟨v, hm, hr, fun _ q => q.elim⟩
    · rw [if_neg e] at ly
      (refine xe1_3 (h.rel y sy ly ky) ?_; intro v' m' s1 o1)
      exact ⟨v', m', s1.step _ _ _ hF (fun b hb hown => ⟨hnew b hb (oth e ly ky m' hown), rfl⟩), o1⟩
  · rw [lkp_frz1] at ly lz
    by_cases ey : y = x
    · subst ey; rw [if_pos rfl, hx] at ly; cases ly; exact oy.elim
    · by_cases ez : z = x
      · subst ez; rw [if_pos rfl, hx] at lz; cases lz; exact oz.elim
      · rw [if_neg ey] at ly; rw [if_neg ez] at lz
        exact h.disj y z sy sz vy vz a hyz ly lz ky kz my mz oy oz
  · (refine xe0_4 (h.prot p hp) ?_; intro q1 q2 q3 q4)
    exact ⟨hnew p q1 fun z => (ho p z).2.2.2 hp, q2, q3, q4⟩
  · exact Nat.lt_irrefl _ (Nat.lt_of_lt_of_le hb (ho _ q).1)
theorem StM.freeze1 (h : StM prog w C B n ps env F s ρ m) (x : Str) : ∃ F', StM prog w C B n ps env F' s (frz1 x ρ) m ∧ Stq n ps F s F' s := by
  by_cases hv : isV (env.kindOf x) = true
  · cases hx : lkp ρ x with
    | none =>
      refine ⟨F, ⟨h.ok, h.frm, fun y sy ly ky => ?_, fun y z sy sz vy vz a hyz ly lz ky kz my mz oy oz => ?_, h.lo, h.loc, h.prot⟩, .refl ..⟩
      · rw [lkp_frz1] at ly
        by_cases e : y = x
        · rw [if_pos e, hx] at ly; cases ly
        · rw [if_neg e] at ly; exact h.rel y sy ly ky
      · rw [lkp_frz1] at ly lz
        by_cases ey : y = x
        · rw [if_pos ey, hx] at ly; cases ly
        · by_cases ez : z = x
          · rw [if_pos ez, hx] at lz; cases lz
          · rw [if_neg ey] at ly; rw [if_neg ez] at lz
            exact h.disj y z sy sz vy vz a hyz ly lz ky kz my mz oy oz
    | some sl =>
      (refine xe1_3 (h.rel x sl hx hv) ?_; intro v hm hs ho)
      cases sl with
      | fr d => exact ⟨F, h.freeze hx hv hm (fun _ _ q => q) (fun _ q _ => q) (fun _ _ q => .inl q) hs⟩
      | ol ds =>
        (refine xe3_4 hs ?_; (try clear hs); intro a vs k hq3; rcases hq3 with rfl; intro h1 h2 h3)
        have ext : ∀ b o, F b = some o → (fun b => if b = a then some ({ cls := .type "list", data := .seq vs.toArray k } : Obj) else F b) b = some o := fun b o e => by
          have hne : b ≠ a := by rintro rfl; rw [h1] at e; cases e
          simp only [hne, if_false]; exact e
        refine ⟨_, h.freeze hx hv hm ext (fun b hb hn => ?_) (fun b o e => ?_) (.lst (o := { cls := .type "list", data := .seq vs.toArray k }) (by simp only [if_true]) rfl rfl (h3.mono ext) rfl)⟩
        · have hne : b ≠ a := fun q => hn (by rw [q]; rfl)
          simp only [hne, if_false]; exact hb
        · by_cases q : b = a
          · subst q; simp only [if_true] at e; cases e; exact .inr h2
          · simp only [q, if_false] at e; exact .inl e
      | od ps =>
        (refine xe3_5 hs ?_; (try clear hs); intro a o' kvs hq3; rcases hq3 with rfl; intro h1 h2 h3 hqr; refine xe0_2 hqr ?_; (try clear hqr); intro h4 h5)
        have ext : ∀ b o, F b = some o → (fun b => if b = a then some o' else F b) b = some o := fun b o e => by
          have hne : b ≠ a := by rintro rfl; rw [h1] at e; cases e
          simp only [hne, if_false]; exact e
        refine ⟨_, h.freeze hx hv hm ext (fun b hb hn => ?_) (fun b o e => ?_) (.dct (o := o') (by simp only [if_true]) h3 h4 (h5.mono ext))⟩
        · have hne : b ≠ a := fun q => hn (by rw [q]; rfl)
          simp only [hne, if_false]; exact hb
        · by_cases q : b = a
          · subst q; simp only [if_true] at e; cases e; exact .inr h2
          · simp only [q, if_false] at e; exact .inl e
      | oi t ps =>
        (refine xe5_3 hs ?_; (try clear hs); intro a dx o' od kvs hq5; rcases hq5 with rfl; intro h1 hqr; refine xe0_7 hqr ?_; (try clear hqr); intro h2 h3 h4 h5 h6 h7 h8)
        have ext : ∀ b o, F b = some o → (fun b => if b = a then some o' else if b = dx then some od else F b) b = some o := fun b o e => by
          have hne : b ≠ a := by rintro rfl; rw [h1] at e; cases e
          have hne2 : b ≠ dx := by rintro rfl; rw [h2] at e; cases e
          simp only [hne, hne2, if_false]; exact e
        refine ⟨_, h.freeze hx hv hm ext (fun b hb hn => ?_) (fun b o e => ?_) (.inst (a := a) (dx := dx) (o := o') (od := od) (by simp only [if_true]) (by simp only [Ne.symm h3, if_false, if_true]) h6 (h7.mono ext) h3)⟩
        · have hne : b ≠ a := fun q => hn (.inl (by rw [q]))
          have hne2 : b ≠ dx := fun q => hn (.inr ⟨a, o', rfl, h4, by rw [h6.dict, q]⟩)
          simp only [hne, hne2, if_false]; exact hb
        · by_cases q : b = a
          · subst q; simp only [if_true] at e; cases e; exact .inr h4
          · by_cases q2 : b = dx
            · subst q2; simp only [q, if_false, if_true] at e; cases e; exact .inr h5
            · simp only [q, q2, if_false] at e; exact .inl e
  · refine ⟨F, ⟨h.ok, h.frm, fun y sy ly ky => ?_, fun y z sy sz vy vz a hyz ly lz ky kz my mz oy oz => ?_, h.lo, h.loc, h.prot⟩, .refl ..⟩
    · rw [lkp_frz1] at ly
      by_cases e : y = x
      · subst e; exact absurd ky hv
      · rw [if_neg e] at ly; exact h.rel y sy ly ky
    · rw [lkp_frz1] at ly lz
      by_cases ey : y = x
      · subst ey; exact absurd ky hv
      · by_cases ez : z = x
        · subst ez; exact absurd kz hv
        · rw [if_neg ey] at ly; rw [if_neg ez] at lz
          exact h.disj y z sy sz vy vz a hyz ly lz ky kz my mz oy oz
theorem St.frz : ∀ (xs : List Str) {F : FH} {ρ : Sc}, St prog w C B n ps env F s ρ → ∃ F', St prog w C B n ps env F' s (frz xs ρ) ∧ Stq n ps F s F' s
  | [], F, ρ, h => ⟨F, h, .refl ..⟩
  | x :: r, F, ρ, ⟨m, h⟩ => by
    (refine xe1_2 (h.freeze1 x) ?_; intro F1 h1 t1)
    (refine xe1_2 (St.frz r ⟨m, h1⟩) ?_; intro F2 h2 t2)
    exact ⟨F2, h2, t1.trans t2⟩
theorem StM.mut (h : StM prog w C B n ps env F s ρ m) {x : Str} {sl sl' : Slot} {v : Value} (hx : lkp ρ x = some sl) (hv : isV (env.kindOf x) = true) (hm : m x = some v) {h' : Heap}
    (hsame : ∀ b, b < s.heap.objs.size → ¬ Owns s.heap sl v b → h'.get? b = s.heap.get? b) (hsz : s.heap.objs.size ≤ h'.objs.size) (hs' : SlotOk prog w C F h' sl' v) (hown : ∀ b, Owns h' sl' v b → Owns s.heap sl v b) (tk : Nat) :
    StM prog w C B n ps env F { s with heap := h', toks := tk } (upd ρ x sl') m ∧ Stq n ps F s F { s with heap := h', toks := tk } := by
  (refine xe1_3 (h.rel x sl hx hv) ?_; intro v' hm' hs ho)
  rw [hm] at hm'; cases hm'
  have hF : ∀ b o, F b = some o → ¬ Owns s.heap sl v b := fun b o e q => by rw [(hs.owned _ _ _ q).1] at e; cases e
  have oth : ∀ {y sy vy b}, y ≠ x → lkp ρ y = some sy → isV (env.kindOf y) = true → m y = some vy → Owns s.heap sy vy b → ¬ Owns s.heap sl v b := fun {y sy vy b} hyx ly ky my oy q => h.disj y x sy sl vy v b hyx ly hx ky hv my hm oy q
  have keepy : ∀ {y sy vy}, y ≠ x → lkp ρ y = some sy → isV (env.kindOf y) = true → m y = some vy → SlotOk prog w C F s.heap sy vy → ∀ b, Owns s.heap sy vy b → h'.get? b = s.heap.get? b := fun {y sy vy} hyx ly ky my s1 b hb =>
    hsame b (s1.owned _ _ _ hb).2 (oth hyx ly ky my hb)
  refine ⟨⟨h.ok.same (fun b o e => hsame b (h.ok.lt e) (hF b o e)) h.ok.bare, ?_, fun y sy ly ky => ?_, fun y z sy sz vy vz c hyz ly lz ky kz my mz oy oz => ?_, h.lo, h.loc, fun p hp => ?_⟩, ⟨fun _ _ q => q, fun b hb e => ⟨e, ?_⟩, hsz, rfl⟩, fun p hp e hs => ⟨e, ?_⟩⟩
  · refine ⟨h.frm.kind, h.frm.glob, h.frm.blt, ?_, fun y hy => ?_, h.frm.apart, h.frm.fl, fun y c hc => ?_⟩
    · (refine xe1_2 h.frm.ns ?_; intro m₀ hns e)
      exact ⟨m₀, hns.at' fun o ho' => by rw [hsame _ hns.lt fun q => (ho _ q).2.1 rfl]; exact ho', e⟩
    · (refine xe1_2 (h.frm.cell y hy) ?_; intro c hc hi)
      refine ⟨c, hc, ?_⟩
      (refine xe1_2 (id hi) ?_; intro o ho' hd)
      exact ⟨o, (hsame c hi.lt fun q => (ho _ q).2.2.1 y c hc rfl).trans ho', hd⟩
    · (refine xe0_3 (h.frm.fc y c hc) ?_; intro p q r)
      exact ⟨p, q, Nat.lt_of_lt_of_le r hsz⟩
  · rw [lkp_upd] at ly
    by_cases e : y = x
    · subst e; rw [if_pos rfl] at ly; cases ly
      exact ⟨v, hm, hs', fun b hb => ho b (hown b hb)⟩
    · rw [if_neg e] at ly
      (refine xe1_3 (h.rel y sy ly ky) ?_; intro v' m' s1 o1)
      have keep := keepy e ly ky m' s1
      exact ⟨v', m', s1.step _ _ _ (fun _ _ q => q) (fun b hb ho => ⟨hb, keep b ho⟩), fun b hb => o1 b (Owns.step prog w C s1 keep hb)⟩
  · rw [lkp_upd] at ly lz
    by_cases ey : y = x
    · subst ey
      have ez : ¬ z = y := fun q => hyz q.symm
      rw [if_pos rfl] at ly; rw [if_neg ez] at lz; cases ly
      rw [hm] at my; cases my
      (refine xe1_3 (h.rel z sz lz kz) ?_; intro v2 m2 s2 o2)
      rw [mz] at m2; cases m2
      exact h.disj y z sl sz v vz c hyz hx lz hv kz hm mz (hown c oy) (Owns.step prog w C s2 (keepy ez lz kz mz s2) oz)
    · rw [if_neg ey] at ly
      (refine xe1_3 (h.rel y sy ly ky) ?_; intro v1 m1 s1 o1)
      rw [my] at m1; cases m1
      have oy' := Owns.step prog w C s1 (keepy ey ly ky my s1) oy
      by_cases ez : z = x
      · subst ez
        rw [if_pos rfl] at lz; cases lz
        rw [hm] at mz; cases mz
        exact h.disj y z sy sl vy v c hyz ly hx ky hv my hm oy' (hown c oz)
      · rw [if_neg ez] at lz
        (refine xe1_3 (h.rel z sz lz kz) ?_; intro v2 m2 s2 o2)
        rw [mz] at m2; cases m2
        exact h.disj y z sy sz vy vz c hyz ly lz ky kz my mz oy' (Owns.step prog w C s2 (keepy ez lz kz mz s2) oz)
  · (refine xe0_4 (h.prot p hp) ?_; intro q1 q2 q3 q4)
    exact ⟨q1, Nat.lt_of_lt_of_le q2 hsz, q3, q4⟩
  · exact hsame b (Nat.lt_of_lt_of_le hb (Nat.le_trans h.lo (Nat.le_of_lt h.frm.locals_lt))) fun q => Nat.lt_irrefl _ (Nat.lt_of_lt_of_le hb (ho b q).1)
  · exact hsame p hs fun q => (ho p q).2.2.2 hp
end
end Mine
end

section
open PySem PySem.W PyProof.Rows
set_option tactic.hygienic false
namespace Mine
noncomputable def Room (A : Around) (k : Nat) : Prop := A.handled = none ∧ A.depth + 2 * k ≤ 700 ∧ A.units + 100 * k ≤ 9000
section
variable (prog : Program) (w : World) (C : Addr) (B : Heap)
noncomputable def Ev (A : Around) (F : FH) (s : Shared) (t : Sem Value) (d : D) : Prop :=
  ∀ (E : Value → Shared → Prop) (Q : Value → Shared → Prop), (∀ v F' s', Ste s.heap.objs.size F s F' s' → Ok B F' s' → Rep prog w C F' d v → Q v s') → wpAny (model prog w) A t Q E s
noncomputable def EvS (A : Around) (F : FH) (s : Shared) (t : Sem Value) (sl : Slot) : Prop :=
  ∀ (E : Value → Shared → Prop) (Q : Value → Shared → Prop), (∀ v F' s', Ste s.heap.objs.size F s F' s' → Ok B F' s' → SlotOk prog w C F' s'.heap sl v → (∀ a, Owns s'.heap sl v a → s.heap.objs.size ≤ a) → Q v s') → wpAny (model prog w) A t Q E s
noncomputable def View (F : FH) (h : Heap) (d : D) (v : Value) : Prop := ∃ sl, slotD sl = d ∧ SlotOk prog w C F h sl v
noncomputable def EvV (A : Around) (F : FH) (s : Shared) (t : Sem Value) (d : D) : Prop :=
  ∀ (E : Value → Shared → Prop) (Q : Value → Shared → Prop), (∀ v F' s', Ste s.heap.objs.size F s F' s' → Ok B F' s' → View prog w C F' s'.heap d v → Q v s') → wpAny (model prog w) A t Q E s
end
section
variable {prog : Program} {w : World} {C : Addr} {B : Heap} {A : Around} {F F' : FH} {s s' : Shared} {t : Sem Value} {d : D} {sl : Slot} {n : Nat}
theorem View.of_rep {h : Heap} {v : Value} (r : Rep prog w C F d v) : View prog w C F h d v := ⟨.fr d, rfl, r⟩
theorem Ev.view (h : Ev prog w C B A F s t d) : EvV prog w C B A F s t d := fun E Q hQ => h E Q fun v F' s' a b c => hQ v F' s' a b (.of_rep c)
theorem Ev.slot (h : Ev prog w C B A F s t d) : EvS prog w C B A F s t (.fr d) := fun E Q hQ => h E Q fun v F' s' a b c => hQ v F' s' a b c fun _ o => o.elim
theorem View.step {h h' : Heap} {v : Value} (x : View prog w C F h d v) (hF : ∀ b o, F b = some o → F' b = some o) (hh : ∀ b, b < h.objs.size → F b = none → F' b = none ∧ h'.get? b = h.get? b) : View prog w C F' h' d v := by
  (refine xe1_2 x ?_; (try clear x); intro sl e hs)
  exact ⟨sl, e, hs.step _ _ _ hF fun b hb ho => hh b (hs.owned _ _ _ ho).2 hb⟩
theorem View.ste {v : Value} (x : View prog w C F s.heap d v) (t : Ste s.heap.objs.size F s F' s') : View prog w C F' s'.heap d v :=
  x.step t.ext fun b hb e => t.old b hb e
theorem _root_.PySem.Obj.IsDictOf.cls {prog : Program} {w : World} {o : Obj} {kvs : List (Str × Value)} (h : o.IsDictOf (strKind prog w) kvs) : o.cls = .type "dict" := let ⟨_, _, q, _⟩ := h; q.1
theorem View.lst {v : Value} {ds : List D} (ok : Ok B F s) (x : View prog w C F s.heap (.lst ds) v) : ∃ a vs, v = .ref a ∧ s.heap.IsList a vs.toArray ∧ Reps prog w C F ds vs := by
  (refine xe1_2 x ?_; (try clear x); intro sl e hs)
  cases sl with
  | fr d =>
    cases e
    cases hs with
    | lst h c q r _ => exact ⟨_, _, rfl, ⟨_, ok.subT h c, c, _, q⟩, r⟩
  | ol l =>
    cases e
    (refine xe3_4 hs ?_; (try clear hs); intro a vs n hq3; rcases hq3 with rfl; intro h1 h2 h3)
    exact ⟨a, vs, rfl, ⟨_, h2, rfl, _, rfl⟩, h3⟩
  | od l => cases e
  | oi t l => cases e
theorem View.tup {v : Value} {ds : List D} (ok : Ok B F s) (x : View prog w C F s.heap (.tup ds) v) : ∃ a vs, v = .ref a ∧ IsTup s.heap a vs.toArray ∧ Reps prog w C F ds vs := by
  (refine xe1_2 x ?_; (try clear x); intro sl e hs)
  cases sl with
  | fr d =>
    cases e
    cases hs with
    | tup h c q r => exact ⟨_, _, rfl, ⟨_, ok.subT h c, c, _, q⟩, r⟩
  | ol l => cases e
  | od l => cases e
  | oi t l => cases e
theorem View.dct {v : Value} {ps : List (Str × D)} (ok : Ok B F s) (x : View prog w C F s.heap (.dct ps) v) : ∃ a kvs, v = .ref a ∧ s.heap.DictOf (strKind prog w) a kvs ∧ (a == sysModules) = false ∧ RepK prog w C F ps kvs := by
  (refine xe1_2 x ?_; (try clear x); intro sl e hs)
  cases sl with
  | fr d =>
    cases e
    cases hs with
    | dct h c q r => exact ⟨_, _, rfl, Heap.dictOf_iff.mpr ⟨_, ok.subT h c.cls, c⟩, q, r⟩
  | od l =>
    cases e
    (refine xe3_5 hs ?_; (try clear hs); intro a o kvs hq3; rcases hq3 with rfl; intro h1 h2 h3 hqr; refine xe0_2 hqr ?_; (try clear hqr); intro h4 h5)
    exact ⟨a, kvs, rfl, Heap.dictOf_iff.mpr ⟨_, h2, h3⟩, h4, h5⟩
  | ol l => cases e
  | oi t l => cases e
theorem View.int {h : Heap} {v : Value} {i : Int} (x : View prog w C F h (.int i) v) : ∃ t, v = .int i t := by
  (refine xe1_2 x ?_; (try clear x); intro sl e hs)
  cases sl <;> cases e
  cases hs; exact ⟨_, rfl⟩
theorem View.str {h : Heap} {v : Value} {x : Str} (y : View prog w C F h (.str x) v) : ∃ t, v = .str x t := by
  (refine xe1_2 y ?_; (try clear y); intro sl e hs)
  cases sl <;> cases e
  cases hs; exact ⟨_, rfl⟩
theorem View.bool {h : Heap} {v : Value} {b : Bool} (y : View prog w C F h (.bool b) v) : v = .bool b := by
  (refine xe1_2 y ?_; (try clear y); intro sl e hs)
  cases sl <;> cases e
  cases hs; rfl
theorem Ste.push (_ok : Ok B F s) (o : Obj) (tk : Nat) : Ste s.heap.objs.size F s F { s with heap := s.heap.push o, toks := tk } :=
  ⟨fun _ _ h => h, fun b hb h => ⟨h, by
    show (s.heap.push o).get? b = s.heap.get? b
    have hne : b ≠ s.heap.objs.size := Nat.ne_of_lt hb
    unfold Heap.get? Heap.push
    simp only [Array.getElem?_push, hne, if_false]⟩, by show _ ≤ (s.heap.push o).objs.size; rw [Heap.size_push]; exact Nat.le_succ _, rfl⟩
theorem push_old {h : Heap} {b : Addr} (hb : b < h.objs.size) (o : Obj) : (h.push o).get? b = h.get? b := by
  have hne : b ≠ h.objs.size := Nat.ne_of_lt hb
  unfold Heap.get? Heap.push
  simp only [Array.getElem?_push, hne, if_false]
theorem Ok.push (ok : Ok B F s) (o : Obj) (tk : Nat) : Ok B F { s with heap := s.heap.push o, toks := tk } := ok.same (fun _ _ h => push_old (ok.lt h) o) ok.bare
theorem newOl (ok : Ok B F s) {vs : List Value} {ds : List D} (r : Reps prog w C F ds vs) :
    SlotOk prog w C F (s.heap.push { cls := .type "list", data := .seq vs.toArray }) (.ol ds) (.ref s.heap.objs.size) ∧
    ∀ a, Owns (s.heap.push { cls := .type "list", data := .seq vs.toArray }) (.ol ds) (.ref s.heap.objs.size) a → s.heap.objs.size ≤ a :=
  ⟨⟨_, vs, 0, rfl, ok.fnone (Nat.le_refl _), Heap.get?_push_size _ rfl, r⟩, fun a h => by cases h; exact Nat.le_refl _⟩
noncomputable def FH.add (F : FH) (a : Addr) (o : Obj) : FH := fun b => if b = a then some o else F b
theorem FH.add_ext (h : F n = none) (o : Obj) : ∀ b x, F b = some x → FH.add F n o b = some x := fun b x e => by
  have : b ≠ n := by rintro rfl; rw [h] at e; cases e
  simp only [FH.add, this, if_false]; exact e
theorem FH.add_self (a : Addr) (o : Obj) : FH.add F a o a = some o := by simp [FH.add]
theorem Ste.pushF (ok : Ok B F s) (o : Obj) (tk : Nat) : Ste s.heap.objs.size F s (FH.add F s.heap.objs.size o) { s with heap := s.heap.push o, toks := tk } :=
  ⟨FH.add_ext (ok.fnone (Nat.le_refl _)) o, fun b hb h => ⟨by
    have : b ≠ s.heap.objs.size := Nat.ne_of_lt hb
    simp only [FH.add, this, if_false]; exact h, ((Ste.push ok o tk).old b hb h).2⟩, (Ste.push ok o tk).size, rfl⟩
theorem Ok.pushF (ok : Ok B F s) (o : Obj) (hf : o.isFreed = false) (tk : Nat) : Ok B (FH.add F s.heap.objs.size o) { s with heap := s.heap.push o, toks := tk } :=
  ok.next (FH.add_ext (ok.fnone (Nat.le_refl _)) o) (fun b x h => by
    by_cases e : b = s.heap.objs.size
    · subst e; rw [FH.add_self] at h; cases h; exact .inr (Heap.get?_push_size _ hf)
    · simp only [FH.add, e, if_false] at h; exact .inl h) (fun b x h => push_old (ok.lt h) o) ok.bare
theorem SlotOk.frzE {k : Nat} {v : Value} (t : Ste k F s F' s') (ok : Ok B F' s') (hs : SlotOk prog w C F' s'.heap sl v) (hn : ∀ a, Owns s'.heap sl v a → k ≤ a) :
    ∃ F'', Ste k F s F'' s' ∧ Ok B F'' s' ∧ Rep prog w C F'' (slotD sl) v ∧ ∀ b, ¬ Owns s'.heap sl v b → F' b = none → F'' b = none := by
  have one : ∀ {a : Addr} {o : Obj} {F' : FH}, Ste k F s F' s' → Ok B F' s' → F' a = none → s'.heap.get? a = some o → k ≤ a → Ste k F s (FH.add F' a o) s' ∧ Ok B (FH.add F' a o) s' := fun {a o F'} t ok h1 h2 hge =>
    ⟨⟨fun b o' e => FH.add_ext h1 _ b o' (t.ext b o' e), fun b hb e => by
      (refine xe0_2 (t.old b hb e) ?_; intro p q)
      have : b ≠ a := fun e => Nat.lt_irrefl _ (Nat.lt_of_lt_of_le hb (e ▸ hge))
      exact ⟨by simp only [FH.add, this, if_false]; exact p, q⟩, t.size, t.os⟩, ok.next (FH.add_ext h1 _) (fun b o' e => by
      by_cases q : b = a
      · subst q; rw [FH.add_self] at e; cases e; exact .inr h2
      · simp only [FH.add, q, if_false] at e; exact .inl e) (fun _ _ _ => rfl) ok.bare⟩
  have off : ∀ {a b : Addr} {o : Obj} {F' : FH}, b ≠ a → F' b = none → FH.add F' a o b = none := fun {a b o F'} h e => by simp only [FH.add, h, if_false]; exact e
  cases sl with
  | fr d => exact ⟨F', t, ok, hs, fun _ _ e => e⟩
  | ol ds =>
    (refine xe3_4 hs ?_; (try clear hs); intro a vs j hq3; rcases hq3 with rfl; intro h1 h2 h3)
    (refine xe0_2 (one t ok h1 h2 (hn a rfl)) ?_; intro t2 ok2)
    exact ⟨_, t2, ok2, .lst (FH.add_self a _) rfl rfl (h3.mono (FH.add_ext h1 _)) rfl, fun b hb e => off (fun q => hb (by rw [q]; rfl)) e⟩
  | od ps =>
    (refine xe3_5 hs ?_; (try clear hs); intro a o' kvs hq3; rcases hq3 with rfl; intro h1 h2 h3 hqr; refine xe0_2 hqr ?_; (try clear hqr); intro h4 h5)
    (refine xe0_2 (one t ok h1 h2 (hn a rfl)) ?_; intro t2 ok2)
    exact ⟨_, t2, ok2, .dct (FH.add_self a _) h3 h4 (h5.mono (FH.add_ext h1 _)), fun b hb e => off (fun q => hb (by rw [q]; rfl)) e⟩
  | oi tg ps =>
    (refine xe5_3 hs ?_; (try clear hs); intro a dx o' od kvs hq5; rcases hq5 with rfl; intro h1 hqr; refine xe0_7 hqr ?_; (try clear hqr); intro h2 h3 h4 h5 h6 h7 h8)
    (refine xe0_2 (one t ok h1 h4 (hn a (.inl rfl))) ?_; intro t2 ok2)
    have h2' : FH.add F' a o' dx = none := off (Ne.symm h3) h2
    (refine xe0_2 (one t2 ok2 h2' h5 (hn dx (.inr ⟨a, o', rfl, h4, h6.dict⟩))) ?_; intro t3 ok3)
    exact ⟨_, t3, ok3, .inst (a := a) (dx := dx) (FH.add_ext h2' _ a o' (FH.add_self a _)) (FH.add_self dx _) h6 (h7.mono fun b o e => FH.add_ext h2' _ b o (FH.add_ext h1 _ b o e)) h3,
      fun b hb e => off (fun q => hb (.inr ⟨a, o', rfl, h4, by rw [h6.dict, q]⟩)) (off (fun q => hb (.inl (by rw [q]))) e)⟩
theorem EvS.frz (h : EvS prog w C B A F s t sl) : Ev prog w C B A F s t (slotD sl) := fun E Q hQ => h E Q fun v F' s' st ok hs hn => by
  (refine xe1_4 (SlotOk.frzE st ok hs hn) ?_; intro F'' t2 ok2 r _)
  exact hQ v F'' s' t2 ok2 r
theorem EvS.tok (ok : Ok B F s) {v : Value} {tk : Nat} {Q : Value → Shared → Prop} (r : Rep prog w C F d v)
    (hQ : ∀ v F' s', Ste s.heap.objs.size F s F' s' → Ok B F' s' → SlotOk prog w C F' s'.heap (.fr d) v → (∀ a, Owns s'.heap (.fr d) v a → s.heap.objs.size ≤ a) → Q v s') : Q v { s with toks := tk } :=
  hQ v F _ ((Ste.refl ..).toks tk) (ok.toks tk) r fun _ h => h.elim
end
end Mine
end

section
open PySem PySem.W PyProof.Rows
namespace Mine
section
variable {prog : Program} {w : World} {A : Around} {E : Value → Shared → Prop} {s : Shared} {Q : Value → Shared → Prop}
set_option maxHeartbeats 4000000 in
theorem fmt_str {y : Str} {t u : Tok} (hy : y.length ≤ 1000000) (h : ∀ t' k, Q (.str (Str.ofString "{" ++ y ++ Str.ofString "}") t') { s with toks := k }) :
    wpAny (model prog w) A (binaryOp .Mod (.str (Str.ofString "{%s}") t) (.str y u)) Q E s := by
  refine KPc.mod_str (T := fun y => Str.ofString "{" ++ y ++ Str.ofString "}") (by kpc_eq) hy ?_ h
  k_dflt kpc_run_s
set_option maxHeartbeats 4000000 in
theorem fmt_tup_meets {a c : Str} {n : Int} {ta tb tc t : Tok} {b : Addr} (ha : a.length ≤ 100000) (hc : c.length ≤ 100000) (h0 : 0 ≤ n) (h1 : n < 10000000000) :
    Meets (Builtin.«str.__mod__» ⟨[.str (Str.mk #[37, 115, 58, 37, 100, 40, 37, 115, 41]) t, .ref b], []⟩)
      (fun _ R s => IsTup s.heap b #[.str a ta, .int n tb, .str c tc] ∧ ∀ t' k, R (.ok (.ret (.str (a ++ Str.ofString ":" ++ Str.ofString (toString n) ++ Str.ofString "(" ++ c ++ Str.ofString ")") t'))) { s with toks := k }) := by
  k_dflt kpt_run
end
end Mine
end

section
open PySem PySem.W PyProof.Rows
set_option tactic.hygienic false
namespace Mine
section
variable {prog : Program} {w : World} {C : Addr} {B : Heap} {A : Around} {F F' : FH} {s s' : Shared}
theorem add_lists_raw {E : Value → Shared → Prop} {l b : Addr} {vs ws : List Value} {Q : Value → Shared → Prop} (hl : s.heap.IsList l vs.toArray) (hb : s.heap.IsList b ws.toArray)
    (h : Q (.ref s.heap.objs.size) { s with heap := s.heap.push { cls := .type "list", data := .seq (vs ++ ws).toArray } }) (hsz : vs.length + ws.length ≤ sizeLine) :
    wpAny (model prog w) A (binaryOp .Add (.ref l) (.ref b)) Q E s := by
  obtain ⟨⟨cls, dd, data, sl⟩, ho, hc, n, hd⟩ := id hl
  obtain ⟨⟨cls2, dd2, data2, sl2⟩, ho2, hc2, n2, hd2⟩ := id hb
  simp only at hc hd hc2 hd2
  subst hc hd hc2 hd2
  have e : vs.toArray ++ ws.toArray = (vs ++ ws).toArray := by simp
  refine concat_meets ⟨_, ho, rfl⟩ ⟨_, ho2, rfl⟩ noFill_list_add seq_list_add PySem.F.slot_list_add PySem.F.entry_list_add (PySem.F.args_list_add_2 _ _) (list_addW l b vs.toArray ws.toArray n n2 dd dd2 sl sl2 (by simpa using hsz)) ⟨ho, ho2, ?_⟩
  rw [e]
  exact h
theorem mul_list_raw {E : Value → Shared → Prop} {l : Addr} {items : Array Value} {k : Nat} {x : Int} {u : Tok} {Q : Value → Shared → Prop}
    (hl : s.heap.get? l = some { cls := .type "list", dict := none, data := .seq items k, slots := #[] })
    (hlo : -(2 ^ 63 : Int) ≤ x) (hhi : x < 2 ^ 63) (hsz : items.size * x.toNat ≤ 2 ^ 24)
    (h : Q (.ref s.heap.objs.size) { s with heap := s.heap.push { cls := .type "list", data := .seq (List.foldl (fun x1 x2 => x1 ++ x2) #[] (List.replicate (if items.isEmpty = true then 0 else x.toNat) items)) } }) :
    wpAny (model prog w) A (binaryOp .Mult (.ref l) (.int x u)) Q E s :=
  wpAny_binaryOp_repeat_ref (T := "list") (U := "int") (by decide) ⟨_, hl, rfl⟩ (fun s' => typeIs_int s' x u) noFill_list_mul F.fills_int_mul F.slot_int_rmul repeat_list F.slot_int_index.lookup
    (call_meets F.slot_int_rmul (typeIs_int s x u) F.entry_int_rmul (F.args_int_rmul_2 _ _) (int___rmul___int_list x u l items k)
      ⟨hl, rfl, ⟨_, hl, rfl⟩, call_meets F.slot_list_mul ⟨_, hl, rfl⟩ F.entry_list_mul (F.args_list_mul_2 _ _)
        (AutoListH.list___mul___list_int_3 l items k x u (by simp [Builtin.List.listFitsIndex]; omega) (by omega) (by simp [Builtin.List.listTooLong, sizeLine]; omega))
        ⟨hl, h⟩⟩)
theorem foldl_rep (vs : List Value) : ∀ (k : Nat) (acc : List Value), List.foldl (fun x1 x2 => x1 ++ x2) acc.toArray (List.replicate k vs.toArray) = (acc ++ (List.replicate k vs).flatten).toArray
  | 0, acc => by simp
  | k + 1, acc => by
    rw [List.replicate_succ, List.foldl_cons, List.replicate_succ, List.flatten_cons]
    have : acc.toArray ++ vs.toArray = (acc ++ vs).toArray := by simp
    rw [this, foldl_rep vs k]; simp
theorem Reps.rep {prog : Program} {w : World} {C : Addr} {F : FH} {ds : List D} {vs : List Value} (h : Reps prog w C F ds vs) : ∀ k : Nat, Reps prog w C F (List.replicate k ds).flatten (List.replicate k vs).flatten
  | 0 => .nil
  | k + 1 => by
    rw [List.replicate_succ, List.flatten_cons, List.replicate_succ, List.flatten_cons]
    exact h.append (Reps.rep h k)
theorem rep_ok {ds : List D} {v : Value} {k : Int} {u : Tok} (ok : Ok B F s) (hv : SlotOk prog w C F s.heap (.ol ds) v) (h1 : -1000 ≤ k) (h2 : k ≤ 1000) (h3 : ds.length ≤ 1000) :
    EvS prog w C B A F s (binaryOp .Mult v (.int k u)) (.ol (List.replicate k.toNat ds).flatten) := fun E Q hQ => by
  (refine xe3_4 hv ?_; (try clear hv); intro a vs n hq3; rcases hq3 with rfl; intro g1 g2 g3)
  have hlen := g3.length
  refine mul_list_raw g2 (by omega) (by omega) ?_ ?_
  · rw [List.size_toArray, hlen]
    calc ds.length * k.toNat ≤ 1000 * 1000 := Nat.mul_le_mul h3 (by omega)
      _ ≤ 2 ^ 24 := by decide
  · have e : List.foldl (fun x1 x2 => x1 ++ x2) #[] (List.replicate (if vs.toArray.isEmpty = true then 0 else k.toNat) vs.toArray) = (List.replicate k.toNat vs).flatten.toArray := by
      have := foldl_rep vs (if vs.toArray.isEmpty = true then 0 else k.toNat) []
      simp only [List.nil_append] at this
      rw [this]
      by_cases q : vs.toArray.isEmpty = true
      · have : vs = [] := by simpa using q
        subst this; simp
      · rw [if_neg q]
    rw [e]
    (refine xe0_2 (newOl (s := s) ok (g3.rep k.toNat)) ?_; intro x y)
    exact hQ _ F _ (Ste.push ok _ _) (Ok.push ok _ _) x y
theorem bin_int {op : Operator} {a b : Int} {t u : Tok} {d : D} (hd : binD op (.int a) (.int b) = some d) (ok : Ok B F s) : EvS prog w C B A F s (binaryOp op (.int a t) (.int b u)) (toOwn d) := fun E Q hQ => by
  cases op
  case Add => cases (show some (D.int (a + b)) = some d from hd); exact add_int (EvS.tok ok (.int _ _) hQ)
  case Sub => cases (show some (D.int (a - b)) = some d from hd); exact sub_int (EvS.tok ok (.int _ _) hQ)
  case Mult =>
    refine ite_el hd ?_; clear hd; intro h hd
    cases hd
    unfold okMul at h
    rw [Bool.or_eq_true, decide_eq_true_eq, decide_eq_true_eq] at h
    exact mul_int (EvS.tok ok (.int _ _) hQ) (h.elim (fun h => .of_left h) fun h => .of_right h)
  case Mod =>
    refine ite_el hd ?_; clear hd; intro h hd
    cases hd
    exact mod_int' h (EvS.tok ok (.int _ _) hQ)
  case Pow =>
    refine ite_el hd ?_; clear hd; intro h hd
    cases hd
    exact pow_int h.1 h.2 (EvS.tok ok (.int _ _) hQ)
  case FloorDiv =>
    refine ite_el hd ?_; clear hd; intro h hd
    cases hd
    exact floordiv_int h.1 (EvS.tok ok (.int _ _) hQ) (.inl h.2)
  all_goals exact nos1 hd
theorem bin_str {op : Operator} {a b : Str} {t u : Tok} {d : D} (hd : binD op (.str a) (.str b) = some d) (ok : Ok B F s) : EvS prog w C B A F s (binaryOp op (.str a t) (.str b u)) (toOwn d) := fun E Q hQ => by
  cases op
  case Add =>
    refine ite_el hd ?_; clear hd; intro h hd
    cases hd
    exact add_str (fun t' tk => EvS.tok ok (.str _ _) hQ) h
  case Mod =>
    refine ite_el hd ?_; clear hd; rintro ⟨rfl, h⟩ hd
    cases hd
    exact fmt_str h fun t' k => EvS.tok ok (.str _ _) hQ
  all_goals exact nos1 hd
theorem list3 {α : Type} {a b c x y z : α} (h1 : a = x) (h2 : b = y) (h3 : c = z) : [a, b, c] = [x, y, z] := by rw [h1, h2, h3]
theorem fmtT_inv {f : Str} {l : List D} {d : D} (h : fmtT f l = some d) : ∃ a b c, f = Str.ofString "%s:%d(%s)" ∧ l = [.str a, .int b, .str c] ∧ (a.length ≤ 100000 ∧ c.length ≤ 100000 ∧ 0 ≤ b ∧ b < 10000000000) ∧ some (.str (a ++ Str.ofString ":" ++ Str.ofString (toString b) ++ Str.ofString "(" ++ c ++ Str.ofString ")")) = some d :=
  bind_el h fun z _ h => bind_el h fun a _ h => bind_el h fun b _ h => bind_el h fun c _ h => ite_el h fun q h => ⟨a.1, b.1, c.1, q.1, z.2.trans (list3 a.2 b.2 c.2), q.2, h⟩
theorem rep_sis {a c : Str} {b : Int} {v : Value} (h : Rep prog w C F (.tup [.str a, .int b, .str c]) v) (ok : Ok B F s) : ∃ l ta tb tc, v = .ref l ∧ IsTup s.heap l #[.str a ta, .int b tb, .str c tc] := by
  (refine xe4_4 h.tup_inv ?_; intro l o vs n hq4; rcases hq4 with rfl; intro h1 h2 hqr; refine xe0_2 hqr ?_; (try clear hqr); intro h3 h4)
  (refine xe2_3 h4.cons_inv ?_; intro _ _ hq2; rcases hq2 with rfl; intro r1 h4)
  (refine xe2_3 h4.cons_inv ?_; intro _ _ hq2; rcases hq2 with rfl; intro r2 h4)
  (refine xe2_3 h4.cons_inv ?_; intro _ _ hq2; rcases hq2 with rfl; intro r3 h4)
  obtain rfl := h4.nil_inv
  (refine xe1_1 r1.str_inv ?_; intro ta hq1; rcases hq1 with rfl)
  (refine xe1_1 r2.int_inv ?_; intro tb hq1; rcases hq1 with rfl)
  (refine xe1_1 r3.str_inv ?_; intro tc hq1; rcases hq1 with rfl)
  exact ⟨l, ta, tb, tc, rfl, _, ok.subT h1 h2, h2, _, h3⟩
theorem bin_tup {op : Operator} {a : Str} {l : List D} {t : Tok} {vb : Value} {d : D} (hd : binD op (.str a) (.tup l) = some d) (ok : Ok B F s) (rb : Rep prog w C F (.tup l) vb) : EvS prog w C B A F s (binaryOp op (.str a t) vb) (toOwn d) := by
  cases op
  case Mod =>
    (refine xe3_4 (fmtT_inv hd) ?_; intro a' b' c' hq3; rcases hq3 with rfl; intro hq4; rcases hq4 with rfl; intro q hd)
    cases hd
    (refine xe4_2 (rep_sis rb ok) ?_; intro l ta tb tc hq4; rcases hq4 with rfl; intro ht)
    intro E Q hQ
    refine KPt.bin_left (T := "str") (U := "tuple") (op := .Mod) (by decide) (typeIs_str s _ t) ht.typeIs PySem.F.fills_str_mod KPt.fills_tuple PySem.F.slot_str_mod ?_
    have e : Str.ofString "%s:%d(%s)" = Str.mk #[37, 115, 58, 37, 100, 40, 37, 115, 41] := by decide +kernel
    rw [e]
    exact call_meets PySem.F.slot_str_mod (typeIs_str s _ t) PySem.F.entry_str_mod (PySem.F.args_str_mod_2 _ _) (fmt_tup_meets q.1 q.2.1 q.2.2.1 q.2.2.2) ⟨ht, fun t' k => ⟨(fun e => nomatch e), EvS.tok ok (.str _ _) hQ⟩⟩
  all_goals exact nos1 hd
theorem bin_rep {op : Operator} {a : Str} {n : Int} {t u : Tok} {d : D} (hd : binD op (.str a) (.int n) = some d) (ok : Ok B F s) : EvS prog w C B A F s (binaryOp op (.str a t) (.int n u)) (toOwn d) := fun E Q hQ => by
  cases op
  case Mult =>
    refine ite_el hd ?_; clear hd; rintro ⟨q1, q2, q3⟩ hd
    cases hd
    refine SB.mul ⟨?_, fun h1 _ => ?_, fun _ _ => ?_⟩ fun t' k => EvS.tok ok (.str _ _) hQ
    · rw [Bool.or_eq_false_iff, decide_eq_false_iff_not, decide_eq_false_iff_not]; omega
    · intro hgt
      have : (1000000 : Int) ≤ (2 ^ 63 - 1) / n := by
        rw [Int.le_ediv_iff_mul_le (by omega)]
        omega
      have h3 : (a.length : Int) ≤ 1000 := by omega
      omega
    · unfold Builtin.Str.tooLong
      rw [decide_eq_false_iff_not]
      have h5 : a.length * n.toNat ≤ 1000 * 1000 := Nat.mul_le_mul q3 (by omega)
      have : sizeLine = 16777216 := by decide
      omega
  all_goals exact nos1 hd
theorem bin_lst {op : Operator} {a b : List D} {va vb : Value} {d : D} (hd : binD op (.lst a) (.lst b) = some d) (ok : Ok B F s) (ra : Rep prog w C F (.lst a) va) (rb : Rep prog w C F (.lst b) vb) : EvS prog w C B A F s (binaryOp op va vb) (toOwn d) := fun E Q hQ => by
  cases op
  case Add =>
    refine ite_el hd ?_; clear hd; intro h hd
    cases hd
    (refine xe4_4 ra.lst_inv ?_; intro _ _ _ _ hq4; rcases hq4 with rfl; intro h1 h2 hqr; refine xe0_3 hqr ?_; (try clear hqr); intro h3 h4 h5); (refine xe4_4 rb.lst_inv ?_; intro _ _ _ _ hq4; rcases hq4 with rfl; intro k1 k2 hqr; refine xe0_3 hqr ?_; (try clear hqr); intro k3 k4 k5)
    have e1 := h4.length
    have e2 := k4.length
    have hs : sizeLine = 16777216 := by decide
    refine add_lists_raw ⟨_, ok.subT h1 h2, h2, _, h3⟩ ⟨_, ok.subT k1 k2, k2, _, k3⟩ ?_ (by omega)
    (refine xe0_2 (newOl (s := s) ok (h4.append k4)) ?_; intro x y)
    exact hQ _ F _ (Ste.push ok _ _) (Ok.push ok _ _) x y
  all_goals exact nos1 hd
set_option maxHeartbeats 2000000 in
theorem bin_ok {op : Operator} {x y d : D} {va vb : Value} (hd : binD op x y = some d) (ok : Ok B F s) (ra : Rep prog w C F x va) (rb : Rep prog w C F y vb) :
    EvS prog w C B A F s (binaryOp op va vb) (toOwn d) := by
  cases x with
  | int a => cases y with
    | int b => (refine xe1_1 ra.int_inv ?_; intro t hq1; rcases hq1 with rfl); (refine xe1_1 rb.int_inv ?_; intro u hq1; rcases hq1 with rfl); exact bin_int hd ok
    | _ => exact nos1 hd
  | str a => (refine xe1_1 ra.str_inv ?_; intro t hq1; rcases hq1 with rfl); cases y with
    | str b => (refine xe1_1 rb.str_inv ?_; intro u hq1; rcases hq1 with rfl); exact bin_str hd ok
    | tup l => exact bin_tup hd ok rb
    | int n => (refine xe1_1 rb.int_inv ?_; intro u hq1; rcases hq1 with rfl); exact bin_rep hd ok
    | _ => exact nos1 hd
  | lst a => cases y with
    | lst b => exact bin_lst hd ok ra rb
    | _ => exact nos1 hd
  | _ => exact nos1 hd
end
end Mine
end

end

section
open PySem PySem.W PyProof.Rows
namespace Mine
noncomputable def EqW (prog : Program) (w : World) (A : Around) (s : Shared) (y x : Value) (b : Bool) : Prop :=
  ∀ (E : Value → Shared → Prop) (Q : Bool → Shared → Prop), Q b s → wpAny (model prog w) A (eqBool y x) Q E s
section
variable {prog : Program} {w : World} {C : Addr} {B : Heap} {A : Around} {F F' : FH} {s s' : Shared}
theorem EqW.of_at {y x : Value} {b : Bool} (h : SeqAt.EqAt A s y x b) : EqW prog w A s y x b := fun E Q q => h prog w E Q q
theorem EqW.same (v : Value) : EqW prog w A s v v true := .of_at (SeqAt.EqAt.same v)
theorem EqW.refs {l b : Addr} {k : Bool} (hne : l ≠ b) (h : ∀ (E : Value → Shared → Prop) (Q : Value → Shared → Prop), Q (.bool k) s → wpAny (model prog w) A (richCompare .Eq (.ref l) (.ref b)) Q E s) : EqW prog w A s (.ref l) (.ref b) k := fun E Q hq => by
  unfold eqBool
  refine wpAny_holding ?_
  refine wpAny_ite_split (fun hab => absurd (by have := eq_of_beq hab; injection this) hne) (fun _ => ?_)
  exact wpAny_bind (h E _ (wpAny_truthy_bool hq))
noncomputable def zipAll (e : Nat → Bool) : Nat → List (Value × Value) → Bool
  | _, [] => true
  | i, _ :: r => e i && zipAll e (i + 1) r
theorem tupCmp (neg : Bool) {l b : Addr} {items items2 : Array Value} {e : Nat → Bool} {E : Value → Shared → Prop} {Q : Value → Shared → Prop} (hl : IsTup s.heap l items) (hb : IsTup s.heap b items2) (hu : A.units < cLine)
    (he : ∀ j p, (items.toList.zip items2.toList)[j]? = some p → EqW prog w A.in1 s p.1 p.2 (e j))
    (h : Q (.bool (neg ^^ (zipAll e 0 (items.toList.zip items2.toList) && items.size == items2.size))) s) :
    wpAny (model prog w) A (compareOp (if neg then .NotEq else .Eq) (.ref l) (.ref b)) Q E s := by
  obtain ⟨⟨cls, dd, data, sl⟩, ho, hc, n, hd⟩ := id hl
  obtain ⟨⟨cls2, dd2, data2, sl2⟩, ho2, hc2, n2, hd2⟩ := id hb
  simp only at hc hd hc2 hd2
  subst hc hd hc2 hd2
  obtain ⟨hp, g, d, tk, os⟩ := s
  have f2 := AutoSeq1.sub_tuple_tuple
  have turns : ∀ (i : Nat) (rest : List (Value × Value)) (x y : Value) (hz : (x, y) :: rest = (items.toList.zip items2.toList).drop i), EqW prog w A.in1 ⟨hp, g, d, tk, os⟩ x y (e i) ∧ rest = (items.toList.zip items2.toList).drop (i + 1) := fun i rest x y hz => by
    have hlt : i < (items.toList.zip items2.toList).length := by
      rcases Nat.lt_or_ge i (items.toList.zip items2.toList).length with q | q
      · exact q
      · rw [List.drop_of_length_le q] at hz; cases hz
    rw [List.drop_eq_getElem_cons hlt] at hz
    injection hz with h1 h2
    exact ⟨he i (x, y) (by rw [List.getElem?_eq_getElem hlt, ← h1]), h2⟩
  cases neg with
  | false =>
    refine wpAny_richCompare_same_room (op := .Eq) ⟨_, ho, rfl⟩ ⟨_, ho2, rfl⟩ PySem.F.slot_tuple_eq (wpAny_call_entry PySem.F.slot_tuple_eq ⟨_, ho, rfl⟩ PySem.F.entry_tuple_eq ?_ (PySem.F.args_tuple_eq_2 _ _)) hu
    simp only [Bool.false_xor] at h
    wp_walk using AutoSeq1.wpAny_loadPart' ho, AutoSeq1.wpAny_loadPart' ho2, wpAny_forIn_list _ (fun rest b s' => b.1 = none ∧ s' = ⟨hp, g, d, tk, os⟩ ∧ ∃ i, rest = (items.toList.zip items2.toList).drop i ∧
      zipAll e 0 (items.toList.zip items2.toList) = zipAll e i rest) _
    case turn =>
      rintro ⟨x, y⟩ rest b s' ⟨hb', rfl, i, hz, hR⟩
      obtain ⟨hq, hr⟩ := turns i rest x y hz
      refine wpAny_bind (hq _ _ ?_)
      rw [zipAll] at hR
      cases hy : e i with
      | true =>
        rw [hy, Bool.true_and] at hR
        wp_walk
        exact ⟨rfl, rfl, i + 1, hr, hR⟩
      | false =>
        rw [hy, Bool.false_and] at hR
        rw [hR] at h
        wp_walk
        exact ⟨_, rfl, (fun z => nomatch z), by simpa using h⟩
    case fin =>
      rintro ⟨b1, b2⟩ s' ⟨hb', rfl, i, hz, hR⟩
      simp only at hb'
      subst hb'
      rw [zipAll] at hR
      rw [hR] at h
      wp_walk
      exact ⟨_, rfl, (fun z => nomatch z), by simpa [Builtin.Tuple.tupleCompareSizes] using h⟩
    case h =>
      exact ⟨rfl, rfl, 0, rfl, rfl⟩
  | true =>
    refine wpAny_richCompare_same_room (op := .NotEq) ⟨_, ho, rfl⟩ ⟨_, ho2, rfl⟩ PySem.F.slot_tuple_ne (wpAny_call_entry PySem.F.slot_tuple_ne ⟨_, ho, rfl⟩ PySem.F.entry_tuple_ne ?_ (PySem.F.args_tuple_ne_2 _ _)) hu
    simp only [Bool.true_xor] at h
    wp_walk using AutoSeq1.wpAny_loadPart' ho, AutoSeq1.wpAny_loadPart' ho2, wpAny_forIn_list _ (fun rest b s' => b.1 = none ∧ s' = ⟨hp, g, d, tk, os⟩ ∧ ∃ i, rest = (items.toList.zip items2.toList).drop i ∧
      zipAll e 0 (items.toList.zip items2.toList) = zipAll e i rest) _
    case turn =>
      rintro ⟨x, y⟩ rest b s' ⟨hb', rfl, i, hz, hR⟩
      obtain ⟨hq, hr⟩ := turns i rest x y hz
      refine wpAny_bind (hq _ _ ?_)
      rw [zipAll] at hR
      cases hy : e i with
      | true =>
        rw [hy, Bool.true_and] at hR
        wp_walk
        exact ⟨rfl, rfl, i + 1, hr, hR⟩
      | false =>
        rw [hy, Bool.false_and] at hR
        rw [hR] at h
        wp_walk
        exact ⟨_, rfl, (fun z => nomatch z), by simpa using h⟩
    case fin =>
      rintro ⟨b1, b2⟩ s' ⟨hb', rfl, i, hz, hR⟩
      simp only at hb'
      subst hb'
      rw [zipAll] at hR
      rw [hR] at h
      wp_walk
      exact ⟨_, rfl, (fun z => nomatch z), by simpa [Builtin.Tuple.tupleCompareSizes, bne] using h⟩
    case h =>
      exact ⟨rfl, rfl, 0, rfl, rfl⟩
end
end Mine
end

section
open Lean in
local macro_rules
  | `(tactic| cases $h:ident) => `(tactic| first | exact nos1 $h | exact nos2 $h | exact nob1 $h | exact nob2 $h | (have hh := Option.some.inj $h; subst hh; clear $h) | cases ($h))
local macro_rules
  | `(tactic| omega) => `(tactic| first | assumption | exact Nat.le_trans (by assumption) (by decide) | lia | omega (splitDisjunctions := true))

section
open PySem PySem.W PyProof.Rows
namespace Mine
section
variable {prog : Program} {w : World} {C : Addr} {B : Heap} {A : Around} {F F' : FH} {s s' : Shared}
theorem Pairs.uniq {knd : KeyKind prog w Str} {es : List DictEntry} {k1 k2 : List (Str × Value)} (h1 : PySem.Pairs knd es k1) (h2 : PySem.Pairs knd es k2) : k1 = k2 := by
  induction h1 generalizing k2 with
  | nil => cases h2; rfl
  | cons a e _ ih => cases h2 with
    | cons a' e' h' => rw [ih h']; exact congrArg (· :: _) (Prod.ext (knd.inj _ _ _ a a') (e.symm.trans e'))
theorem dictOf_uniq {o : Obj} {k1 k2 : List (Str × Value)} (h1 : o.IsDictOf (strKind prog w) k1) (h2 : o.IsDictOf (strKind prog w) k2) : k1 = k2 := by
  (refine xe2_5 h1 ?_; (try clear h1); intro es ep _ e1 _ p1 _)
  (refine xe2_5 h2 ?_; (try clear h2); intro es' ep' _ e2 _ p2 _)
  rw [e1] at e2; cases e2
  exact Pairs.uniq p1 p2
theorem dictOf_nodup {o : Obj} {k1 : List (Str × Value)} (h1 : o.IsDictOf (strKind prog w) k1) : (k1.map (·.1)).Nodup := h1.elim fun _ h => h.elim fun _ h => h.2.2.2.2
theorem lkp_mem {α : Type} : ∀ {l : List (Str × α)}, (l.map (·.1)).Nodup → ∀ {k : Str} {v : α}, (k, v) ∈ l → lkp l k = some v
  | (k', v') :: r, hn, k, v, hm => by
    simp only [List.map_cons, List.nodup_cons] at hn
    unfold lkp
    rcases List.mem_cons.mp hm with e | hm
    · cases e; rw [if_pos rfl]
    · have : k ≠ k' := fun e => hn.1 (e ▸ List.mem_map_of_mem hm)
      rw [if_neg this]; exact lkp_mem hn.2 hm
theorem eqF_inv {x y : D} {b : Bool} (h : eqF x y = some b) : (∃ i j, x = .int i ∧ y = .int j ∧ (i == j) = b) ∨ (∃ i j, x = .str i ∧ y = .str j ∧ (i == j) = b) ∨ ∃ i j, x = .bool i ∧ y = .bool j ∧ (i == j) = b := by
  cases x with
  | int i => cases y with
    | int j => exact .inl ⟨i, j, rfl, rfl, Option.some.inj h⟩
    | _ => exact nos1 h
  | str i => cases y with
    | str j => exact .inr (.inl ⟨i, j, rfl, rfl, Option.some.inj h⟩)
    | _ => exact nos1 h
  | bool i => cases y with
    | bool j => exact .inr (.inr ⟨i, j, rfl, rfl, Option.some.inj h⟩)
    | _ => exact nos1 h
  | _ => exact nos1 h
theorem eqL_cons {f : D → D → Option Bool} {x y : D} {xs ys : List D} {b : Bool} (h : eqL f (x :: xs) (y :: ys) = some b) : ∃ p q, f x y = some p ∧ eqL f xs ys = some q ∧ (p && q) = b := by
  replace h : (match f x y, eqL f xs ys with | some a, some b => some (a && b) | _, _ => none) = some b := h
  cases h1 : f x y with
  | none => rw [h1] at h; exact nos1 h
  | some p => cases h2 : eqL f xs ys with
    | none => rw [h1, h2] at h; exact nos1 h
    | some q => rw [h1, h2] at h; exact ⟨p, q, rfl, rfl, Option.some.inj h⟩
theorem eqL_self {f : D → D → Option Bool} (hf : ∀ x y v b, Rep prog w C F x v → Rep prog w C F y v → f x y = some b → b = true) {xs : List D} :
    ∀ {ys : List D} {vs : List Value} {b : Bool}, Reps prog w C F xs vs → Reps prog w C F ys vs → eqL f xs ys = some b → b = true := by
  induction xs with
  | nil => intro ys vs b _ _ h; exact (Option.some.inj h).symm
  | cons x xs ih =>
    intro ys vs b h1 h2 h
    cases ys with
    | nil => exact (Option.some.inj h).symm
    | cons y ys =>
      (refine xe2_3 (eqL_cons h) ?_; intro p q e1 e2 e)
      (refine xe2_3 h1.cons_inv ?_; intro v us hq2; rcases hq2 with rfl; intro a1 a2)
      (refine xe2_3 h2.cons_inv ?_; intro v' us' e3 b1 b2)
      cases e3
      rw [← e, hf _ _ _ _ a1 b1 e1, ih a2 b2 e2]; rfl
theorem eqF_self {x y : D} {v : Value} {b : Bool} (h1 : Rep prog w C F x v) (h2 : Rep prog w C F y v) (h : eqF x y = some b) : b = true := by
  rcases eqF_inv h with ⟨i, j, rfl, rfl, rfl⟩ | ⟨i, j, rfl, rfl, rfl⟩ | ⟨i, j, rfl, rfl, rfl⟩
  · (refine xe1_1 h1.int_inv ?_; intro t hq1; rcases hq1 with rfl); (refine xe1_1 h2.int_inv ?_; intro u e); cases e; exact beq_self_eq_true i
  · (refine xe1_1 h1.str_inv ?_; intro t hq1; rcases hq1 with rfl); (refine xe1_1 h2.str_inv ?_; intro u e); cases e; exact beq_self_eq_true i
  · have e := h1.bool_inv.symm.trans h2.bool_inv; cases e; exact beq_self_eq_true i
theorem eqK_cons {f : D → D → Option Bool} {k : Str} {v : D} {r ys : List (Str × D)} {b : Bool} (h : eqK f ((k, v) :: r) ys = some b) : (lkp ys k = none ∧ b = false) ∨ ∃ y p q, lkp ys k = some y ∧ f v y = some p ∧ eqK f r ys = some q ∧ b = (p && q) := by
  unfold eqK at h
  cases e : lkp ys k with
  | none => rw [e] at h; exact .inl ⟨rfl, (Option.some.inj h).symm⟩
  | some y =>
    rw [e] at h; dsimp only at h
    cases e1 : f v y with
    | none => rw [e1] at h; exact nos1 h
    | some p =>
      cases e2 : eqK f r ys with
      | none => rw [e1, e2] at h; exact nos1 h
      | some q => rw [e1, e2] at h; exact .inr ⟨y, p, q, rfl, e1, rfl, (Option.some.inj h).symm⟩
theorem eqK_self {f : D → D → Option Bool} (hf : ∀ x y v b, Rep prog w C F x v → Rep prog w C F y v → f x y = some b → b = true) {ys : List (Str × D)} {kvs : List (Str × Value)} (hy : RepK prog w C F ys kvs) (hn : (kvs.map (·.1)).Nodup)
    {xs : List (Str × D)} {us : List (Str × Value)} {b : Bool} (r : RepK prog w C F xs us) : (∀ p ∈ us, p ∈ kvs) → eqK f xs ys = some b → b = true :=
  RepK.ind (P := fun xs us => ∀ {b : Bool}, (∀ p ∈ us, p ∈ kvs) → eqK f xs ys = some b → b = true) (fun _ h => (Option.some.inj h).symm) (fun k d v ds vs h1 r1 ih b hs h => by
    have hk := lkp_mem hn (hs _ List.mem_cons_self)
    have hl := hy.lk k
    refine (eqK_cons h).elim (fun e => ?_) fun e => ?_
    · rw [e.1] at hl; exact nos1 (hl.symm.trans hk)
    · refine xe3_4 e ?_; intro y p q e e1 e2 e3
      rw [e] at hl
      refine xe1_2 hl ?_; intro v' e' hr
      rw [← Option.some.inj (hk.symm.trans e')] at hr
      rw [e3, hf _ _ _ _ h1 hr e1, ih (fun p hp => hs p (List.mem_cons_of_mem _ hp)) e2]; rfl) r
theorem eqT_self {x y : D} {v : Value} {b : Bool} (h1 : Rep prog w C F x v) (h2 : Rep prog w C F y v) (h : eqT x y = some b) : b = true := by
  cases x with
  | tup xs => cases y with
    | tup ys =>
      (refine xe4_4 h1.tup_inv ?_; intro _ _ _ _ hq4; rcases hq4 with rfl; intro g1 g2 hqr; refine xe0_2 hqr ?_; (try clear hqr); intro g3 g4)
      (refine xe4_4 h2.tup_inv ?_; intro _ _ _ _ e k1 k2 hqr; refine xe0_2 hqr ?_; (try clear hqr); intro k3 k4)
      cases e
      rw [g1] at k1; cases k1
      rw [g3] at k3; cases k3
      refine map_el h ?_; clear h; rintro c hc rfl
      rw [eqL_self (fun x y v b => eqF_self) g4 k4 hc, g4.length.symm, k4.length.symm]
      exact beq_self_eq_true _
    | _ => exact nos1 h
  | _ => exact eqF_self h1 h2 h
theorem eq_self : ∀ (n : Nat) (x y : D) (v : Value) (b : Bool), Rep prog w C F x v → Rep prog w C F y v → eqD n x y = some b → b = true
  | 0, x, y, v, b, h1, h2, h => eqF_self h1 h2 h
  | n + 1, x, y, v, b, h1, h2, h => by
    cases x with
    | tup xs => cases y with
      | tup ys =>
        (refine xe4_4 h1.tup_inv ?_; intro _ _ _ _ hq4; rcases hq4 with rfl; intro g1 g2 hqr; refine xe0_2 hqr ?_; (try clear hqr); intro g3 g4)
        (refine xe4_4 h2.tup_inv ?_; intro _ _ _ _ e k1 k2 hqr; refine xe0_2 hqr ?_; (try clear hqr); intro k3 k4)
        cases e
        rw [g1] at k1; cases k1
        rw [g3] at k3; cases k3
        refine map_el h ?_; clear h; rintro c hc rfl
        rw [eqL_self (eq_self n) g4 k4 hc, g4.length.symm, k4.length.symm]
        exact beq_self_eq_true _
      | _ => exact nos1 h
    | lst xs => cases y with
      | lst ys =>
        (refine xe4_4 h1.lst_inv ?_; intro _ _ _ _ hq4; rcases hq4 with rfl; intro g1 g2 hqr; refine xe0_3 hqr ?_; (try clear hqr); intro g3 g4 g5)
        (refine xe4_4 h2.lst_inv ?_; intro _ _ _ _ e k1 k2 hqr; refine xe0_3 hqr ?_; (try clear hqr); intro k3 k4 k5)
        cases e
        rw [g1] at k1; cases k1
        rw [g3] at k3; cases k3
        replace h : (if xs.length == ys.length then eqL eqF xs ys else some false) = some b := h
        rw [g4.length.symm, k4.length.symm, if_pos (beq_self_eq_true _)] at h
        exact eqL_self (fun x y v b => eqF_self) g4 k4 h
      | _ => exact nos1 h
    | dct xs => cases y with
      | dct ys =>
        (refine xe3_5 h1.dct_inv ?_; intro _ _ _ hq3; rcases hq3 with rfl; intro g1 g2 g3 g4)
        (refine xe3_5 h2.dct_inv ?_; intro _ _ _ e k1 k2 k3 k4)
        cases e
        rw [g1] at k1; cases k1
        have := dictOf_uniq g2 k2
        subst this
        replace h : (if xs.length == ys.length then eqK eqT xs ys else some false) = some b := h
        rw [g4.length.symm, k4.length.symm, if_pos (beq_self_eq_true _)] at h
        exact eqK_self (fun x y v b => eqT_self) k4 (dictOf_nodup g2) g4 (fun _ h => h) h
      | _ => exact nos1 h
    | _ => exact eqF_self h1 h2 h
theorem eqF_at {x y : D} {v u : Value} {b : Bool} (h1 : Rep prog w C F x v) (h2 : Rep prog w C F y u) (h : eqF x y = some b) : SeqAt.EqAt A s v u b := by
  rcases eqF_inv h with ⟨i, j, rfl, rfl, rfl⟩ | ⟨i, j, rfl, rfl, rfl⟩ | ⟨i, j, rfl, rfl, rfl⟩
  · (refine xe1_1 h1.int_inv ?_; intro t hq1; rcases hq1 with rfl); (refine xe1_1 h2.int_inv ?_; intro u hq1; rcases hq1 with rfl); exact SeqAt.EqAt.int_int _ _ _ _
  · (refine xe1_1 h1.str_inv ?_; intro t hq1; rcases hq1 with rfl); (refine xe1_1 h2.str_inv ?_; intro u hq1; rcases hq1 with rfl); exact SeqAt.EqAt.str_str _ _ _ _
  · obtain rfl := h1.bool_inv; obtain rfl := h2.bool_inv; exact SeqAt.EqAt.bool_bool _ _
theorem zip_shift (x y : D) (xs ys : List D) (f : D → D → Option Bool) (i : Nat) : ∀ (l : List (Value × Value)) (k : Nat), i + 1 ≤ k → zipAll (fun j => match (x :: xs)[j - i]?, (y :: ys)[j - i]? with | some x, some y => (f x y).getD true | _, _ => true) k l =
    zipAll (fun j => match xs[j - (i + 1)]?, ys[j - (i + 1)]? with | some x, some y => (f x y).getD true | _, _ => true) k l := by
  intro l
  induction l with
  | nil => intro k _; rfl
  | cons z r ih =>
    intro k hk
    rw [zipAll, zipAll, ih (k + 1) (by omega)]
    have : k - i = (k - (i + 1)) + 1 := by omega
    rw [this]; simp
theorem eqL_all {f : D → D → Option Bool} {xs : List D} : ∀ {ys : List D} {vs us : List Value} {b : Bool}, Reps prog w C F xs vs → Reps prog w C F ys us → eqL f xs ys = some b → ∀ i : Nat,
    zipAll (fun j => match xs[j - i]?, ys[j - i]? with | some x, some y => (f x y).getD true | _, _ => true) i (vs.zip us) = b ∧
    ∀ (j : Nat) (p : Value × Value), (vs.zip us)[j]? = some p → ∃ x y c, xs[j]? = some x ∧ ys[j]? = some y ∧ f x y = some c ∧ Rep prog w C F x p.1 ∧ Rep prog w C F y p.2 := by
  induction xs with
  | nil =>
    intro ys vs us b h1 _ h i
    obtain rfl := h1.nil_inv
    exact ⟨Option.some.inj h, fun j p hp => by simp at hp⟩
  | cons x xs ih =>
    intro ys vs us b h1 h2 h i
    cases ys with
    | nil =>
      obtain rfl := h2.nil_inv
      rw [List.zip_nil_right]
      exact ⟨Option.some.inj h, fun j p hp => by simp at hp⟩
    | cons y ys =>
      (refine xe2_3 (eqL_cons h) ?_; intro p q e1 e2 hq4; rcases hq4 with rfl)
      (refine xe2_3 h1.cons_inv ?_; intro v vs hq2; rcases hq2 with rfl; intro h1 r1)
      (refine xe2_3 h2.cons_inv ?_; intro u us hq2; rcases hq2 with rfl; intro h2 r2)
      (refine xe0_2 (ih r1 r2 e2 (i + 1)) ?_; intro a1 a2)
      refine ⟨?_, fun j pp hp => ?_⟩
      · rw [List.zip_cons_cons, zipAll]
        simp only [Nat.sub_self, List.getElem?_cons_zero, e1, Option.getD_some]
        rw [← a1]
        exact congrArg (p && ·) (zip_shift x y xs ys f i _ _ (Nat.le_refl _))
      · cases j with
        | zero => cases (show some (v, u) = some pp from hp); exact ⟨x, y, p, rfl, rfl, e1, h1, h2⟩
        | succ j => exact a2 j pp hp
theorem valueAt_lkp : ∀ (l : List (Str × Value)) (k : Str), valueAt l k = lkp l k
  | [], _ => rfl
  | (k', v) :: r, k => by
    have ih := valueAt_lkp r k
    unfold valueAt at ih ⊢
    unfold lkp
    rw [List.find?_cons]
    by_cases e : k = k'
    · subst e; simp
    · have : ¬ k' = k := fun q => e q.symm
      simp only [decide_eq_false this, if_neg e]; exact ih
theorem eqK_hits {f : D → D → Option Bool} {ys : List (Str × D)} {kvs : List (Str × Value)} (hy : RepK prog w C F ys kvs)
    (hf : ∀ x y v u b, Rep prog w C F x v → Rep prog w C F y u → f x y = some b → SeqAt.EqAt A s v u b)
    {xs : List (Str × D)} {us : List (Str × Value)} {b : Bool} (r : RepK prog w C F xs us) : eqK f xs ys = some b → KeqHits A s kvs us b :=
  RepK.ind (P := fun xs us => ∀ {b : Bool}, eqK f xs ys = some b → KeqHits A s kvs us b) (fun h => Option.some.inj h ▸ .nil) (fun k d v ds vs h1 r1 ih b h => by
    have hl := hy.lk k
    refine (eqK_cons h).elim (fun e => ?_) fun e => ?_
    · rw [e.1] at hl
      rw [e.2]
      exact .miss (by rw [valueAt_lkp]; exact hl)
    · refine xe3_4 e ?_; intro y p q e e1 e2 e3
      rw [e] at hl
      refine xe1_2 hl ?_; intro v' e' hr
      rw [e3]
      exact .hit (by rw [valueAt_lkp]; exact e') (hf _ _ _ _ _ h1 hr e1) (ih e2)) r
theorem zipAll_range (e : Nat → Bool) : ∀ (l : List (Value × Value)) (i : Nat), zipAll e i l = (List.range' i l.length).all e
  | [], i => rfl
  | _ :: r, i => by rw [zipAll, zipAll_range e r (i + 1), List.length_cons, List.range'_succ, List.all_cons]
theorem eqT_at {x y : D} {v u : Value} {b : Bool} (hu : A.units + 1 < cLine) (ok : Ok B F s) (h1 : Rep prog w C F x v) (h2 : Rep prog w C F y u) (h : eqT x y = some b) : SeqAt.EqAt A s v u b := by
  have hself := fun (q : v = u) => eqT_self h1 (q ▸ h2) h
  cases x with
  | tup xs => cases y with
    | tup ys =>
      (refine xe4_4 h1.tup_inv ?_; intro l o vs n hq4; rcases hq4 with rfl; intro g1 g2 hqr; refine xe0_2 hqr ?_; (try clear hqr); intro g3 g4)
      (refine xe4_4 h2.tup_inv ?_; intro l' o' us n' hq4; rcases hq4 with rfl; intro k1 k2 hqr; refine xe0_2 hqr ?_; (try clear hqr); intro k3 k4)
      refine map_el h ?_; clear h; rintro c hc rfl
      have e1 := g4.length
      have e2 := k4.length
      by_cases hlb : l = l'
      · subst hlb
        rw [hself rfl]
        exact SeqAt.EqAt.same _
      · refine SeqAt.EqAt.of_refs hlb ?_
        (refine xe0_2 (eqL_all g4 k4 hc 0) ?_; intro a1 a2)
        rw [zipAll_range, ← List.range_eq_range'] at a1
        have hz : (vs.zip us).length = min vs.toArray.size us.toArray.size := by simp
        rw [hz] at a1
        have hs : (xs.length == ys.length) = (vs.toArray.size == us.toArray.size) := by simp [e1, e2]
        rw [← a1, hs]
        refine SeqAt.RcAt.tuples ⟨_, ok.subT g1 g2, g2, _, g3⟩ ⟨_, ok.subT k1 k2, k2, _, k3⟩ (by omega) fun j q1 q2 => ?_
        have q1' : j < vs.length := by simpa using q1
        have q2' : j < us.length := by simpa using q2
        (refine xe3_5 (a2 j (vs[j], us[j]) (by simp [List.getElem?_zip_eq_some, q1', q2'])) ?_; intro x' y' c' p1 p2 p3 p4 p5)
        simp only [Nat.sub_zero, p1, p2, p3, Option.getD_some]
        have := eqF_at (A := A.in1) (s := s) p4 p5 p3
        simpa using this
    | _ => exact nos1 h
  | _ => exact eqF_at h1 h2 h
theorem eqLst {xs ys : List D} {l l' : Addr} {vs us : List Value} {b neg : Bool} {E : Value → Shared → Prop} {Q : Value → Shared → Prop} (hu : A.units + 1 < cLine) (hl : s.heap.IsList l vs.toArray) (hl' : s.heap.IsList l' us.toArray)
    (g4 : Reps prog w C F xs vs) (k4 : Reps prog w C F ys us) (h : (if xs.length == ys.length then eqL eqF xs ys else some false) = some b) (hQ : Q (.bool (neg ^^ b)) s) :
    wpAny (model prog w) A (compareOp (if neg then .NotEq else .Eq) (.ref l) (.ref l')) Q E s := by
  have e1 := g4.length
  have e2 := k4.length
  by_cases hlen : xs.length = ys.length
  · rw [if_pos (by simpa using hlen)] at h
    (refine xe0_2 (eqL_all g4 k4 h 0) ?_; intro a1 a2)
    rw [zipAll_range, ← List.range_eq_range'] at a1
    have hz : (vs.zip us).length = vs.toArray.size := by simp; omega
    rw [hz] at a1
    have he : ∀ j (h1 : j < vs.toArray.size) (h2 : j < us.toArray.size), SeqAt.EqAt A.in1 s vs.toArray[j] us.toArray[j] ((fun j => match xs[j - 0]?, ys[j - 0]? with | some x, some y => (eqF x y).getD true | _, _ => true) j) := fun j q1 q2 => by
      have q1' : j < vs.length := by simpa using q1
      have q2' : j < us.length := by simpa using q2
      (refine xe3_5 (a2 j (vs[j], us[j]) (by simp [List.getElem?_zip_eq_some, q1', q2'])) ?_; intro x' y' c' p1 p2 p3 p4 p5)
      simp only [Nat.sub_zero, p1, p2, p3, Option.getD_some]
      have := eqF_at (A := A.in1) (s := s) p4 p5 p3
      simpa using this
    rw [← a1] at hQ
    cases neg with
    | false => rw [Bool.false_xor] at hQ; exact SeqAt.RcAt.lists hl hl' (by simp; omega) (by omega) he prog w E Q hQ
    | true => rw [Bool.true_xor] at hQ; exact SeqAt.RcNeAt.lists hl hl' (by simp; omega) (by omega) he prog w E Q hQ
  · rw [if_neg (by simpa using hlen)] at h
    cases h
    cases neg with
    | false => exact SeqAt.RcAt.lists_lengths hl hl' (by simp; omega) (by omega) prog w E Q hQ
    | true => exact SeqAt.RcNeAt.lists_lengths hl hl' (by simp; omega) (by omega) prog w E Q hQ
theorem eqDct {xs ys : List (Str × D)} {l l' : Addr} {vs us : List (Str × Value)} {b neg : Bool} {E : Value → Shared → Prop} {Q : Value → Shared → Prop} (hu : A.units + 2 < cLine) (ok : Ok B F s) (hl : s.heap.DictOf (strKind prog w) l vs) (hl' : s.heap.DictOf (strKind prog w) l' us)
    (m1 : (l == sysModules) = false) (m2 : (l' == sysModules) = false)
    (g4 : RepK prog w C F xs vs) (k4 : RepK prog w C F ys us) (h : (if xs.length == ys.length then eqK eqT xs ys else some false) = some b) (hQ : Q (.bool (neg ^^ b)) s) :
    wpAny (model prog w) A (compareOp (if neg then .NotEq else .Eq) (.ref l) (.ref l')) Q E s := by
  have e1 := g4.length
  have e2 := k4.length
  have hits : vs.length = us.length → KeqHits A.in1 s us vs b := fun e => by
    rw [if_pos (by simp; omega)] at h
    exact eqK_hits k4 (fun x y v u b p q r => eqT_at (A := A.in1) (by show A.units + 1 + 1 < cLine; omega) ok p q r) g4 h
  have hb : (vs.length == us.length && b) = b := by
    by_cases hlen : xs.length = ys.length
    · have : (vs.length == us.length) = true := by simp; omega
      rw [this, Bool.true_and]
    · rw [if_neg (by simpa using hlen)] at h; cases h; simp
  cases neg with
  | false => exact keq_eq m1 m2 hl hl' (by omega) hits (by rw [hb]; simpa using hQ)
  | true => exact keq_ne m1 m2 hl hl' (by omega) hits (by rw [hb]; simpa using hQ)
theorem eqW : ∀ (n : Nat) {A : Around} {x y : D} {v u : Value} {b : Bool}, A.units + n + 2 < cLine → Ok B F s → Rep prog w C F x v → Rep prog w C F y u → eqD n x y = some b → EqW prog w A s v u b
  | 0, A, x, y, v, u, b, hu, ok, h1, h2, h => .of_at (eqF_at h1 h2 h)
  | n + 1, A, x, y, v, u, b, hu, ok, h1, h2, h => by
    have hself := fun (q : v = u) => eq_self (n + 1) x y v b h1 (q ▸ h2) h
    cases x with
    | tup xs => cases y with
      | tup ys =>
        (refine xe4_4 h1.tup_inv ?_; intro l o vs m hq4; rcases hq4 with rfl; intro g1 g2 hqr; refine xe0_2 hqr ?_; (try clear hqr); intro g3 g4)
        (refine xe4_4 h2.tup_inv ?_; intro l' o' us m' hq4; rcases hq4 with rfl; intro k1 k2 hqr; refine xe0_2 hqr ?_; (try clear hqr); intro k3 k4)
        refine map_el h ?_; clear h; rintro c hc rfl
        have e1 := g4.length
        have e2 := k4.length
        by_cases hlb : l = l'
        · subst hlb; rw [hself rfl]; exact .same _
        · refine .refs hlb fun E Q hq => ?_
          (refine xe0_2 (eqL_all g4 k4 hc 0) ?_; intro a1 a2)
          refine tupCmp false (e := fun j => match xs[j - 0]?, ys[j - 0]? with | some x, some y => (eqD n x y).getD true | _, _ => true) ⟨_, ok.subT g1 g2, g2, _, g3⟩ ⟨_, ok.subT k1 k2, k2, _, k3⟩ (by omega) (fun j p hp => ?_) ?_
          · (refine xe3_5 (a2 j p (by simpa using hp)) ?_; intro x' y' c' p1 p2 p3 p4 p5)
            simp only [Nat.sub_zero, p1, p2, p3, Option.getD_some]
            exact eqW n (by show A.units + 1 + n + 2 < cLine; omega) ok p4 p5 p3
          · have hs : (xs.length == ys.length) = (vs.toArray.size == us.toArray.size) := by simp [e1, e2]
            rw [hs] at hq
            simp only [Nat.sub_zero] at a1 ⊢
            simpa [a1] using hq
      | _ => exact nos1 h
    | lst xs => cases y with
      | lst ys =>
        (refine xe4_4 h1.lst_inv ?_; intro l o vs m hq4; rcases hq4 with rfl; intro g1 g2 hqr; refine xe0_3 hqr ?_; (try clear hqr); intro g3 g4 g5)
        (refine xe4_4 h2.lst_inv ?_; intro l' o' us m' hq4; rcases hq4 with rfl; intro k1 k2 hqr; refine xe0_3 hqr ?_; (try clear hqr); intro k3 k4 k5)
        by_cases hlb : l = l'
        · subst hlb; rw [hself rfl]; exact .same _
        · exact .refs hlb fun E Q hq => eqLst (neg := false) (by omega) ⟨_, ok.subT g1 g2, g2, _, g3⟩ ⟨_, ok.subT k1 k2, k2, _, k3⟩ g4 k4 h (by simpa using hq)
      | _ => exact nos1 h
    | dct xs => cases y with
      | dct ys =>
        (refine xe3_5 h1.dct_inv ?_; intro l o vs hq3; rcases hq3 with rfl; intro g1 g2 g3 g4)
        (refine xe3_5 h2.dct_inv ?_; intro l' o' us hq3; rcases hq3 with rfl; intro k1 k2 k3 k4)
        by_cases hlb : l = l'
        · subst hlb; rw [hself rfl]; exact .same _
        · exact .refs hlb fun E Q hq => eqDct (neg := false) (by omega) ok (Heap.dictOf_iff.mpr ⟨_, ok.subT g1 g2.cls, g2⟩) (Heap.dictOf_iff.mpr ⟨_, ok.subT k1 k2.cls, k2⟩) g3 k3 g4 k4 h (by simpa using hq)
      | _ => exact nos1 h
    | _ => exact .of_at (eqF_at h1 h2 h)
theorem eqF_cmp (neg : Bool) {x y : D} {v u : Value} {b : Bool} {E : Value → Shared → Prop} {Q : Value → Shared → Prop} (h1 : View prog w C F s.heap x v) (h2 : View prog w C F s.heap y u) (h : eqF x y = some b) (hQ : Q (.bool (neg ^^ b)) s) :
    wpAny (model prog w) A (compareOp (if neg then .NotEq else .Eq) v u) Q E s := by
  rcases eqF_inv h with ⟨i, j, rfl, rfl, rfl⟩ | ⟨i, j, rfl, rfl, rfl⟩ | ⟨i, j, rfl, rfl, rfl⟩
  · (refine xe1_1 h1.int ?_; intro t hq1; rcases hq1 with rfl); (refine xe1_1 h2.int ?_; intro t' hq1; rcases hq1 with rfl)
    cases neg with
    | false => exact SeqAt.RcAt.int_int _ _ _ _ prog w E Q (by simpa using hQ)
    | true => exact SeqAt.RcNeAt.int_int _ _ _ _ prog w E Q (by simpa [bne] using hQ)
  · (refine xe1_1 h1.str ?_; intro t hq1; rcases hq1 with rfl); (refine xe1_1 h2.str ?_; intro t' hq1; rcases hq1 with rfl)
    cases neg with
    | false => exact SeqAt.RcAt.str_str _ _ _ _ prog w E Q (by simpa using hQ)
    | true => exact SeqAt.RcNeAt.str_str _ _ _ _ prog w E Q (by simpa [bne] using hQ)
  · obtain rfl := h1.bool; obtain rfl := h2.bool
    cases neg with
    | false => exact SeqAt.RcAt.bool_bool _ _ prog w E Q (by simpa using hQ)
    | true => exact SeqAt.RcNeAt.bool_bool _ _ prog w E Q (by simpa [bne] using hQ)
theorem eq_cmp (neg : Bool) {x y : D} {v u : Value} {b : Bool} {E : Value → Shared → Prop} {Q : Value → Shared → Prop} (hu : A.units + 10 < cLine) (ok : Ok B F s) (h1 : View prog w C F s.heap x v) (h2 : View prog w C F s.heap y u) (h : eqD 5 x y = some b) (hQ : Q (.bool (neg ^^ b)) s) :
    wpAny (model prog w) A (compareOp (if neg then .NotEq else .Eq) v u) Q E s := by
  cases x with
  | tup xs => cases y with
    | tup ys =>
      (refine xe2_3 (h1.tup ok) ?_; intro l vs hq2; rcases hq2 with rfl; intro ht g4)
      (refine xe2_3 (h2.tup ok) ?_; intro l' us hq2; rcases hq2 with rfl; intro ht' k4)
      refine map_el h ?_; clear h; rintro c hc rfl
      have e1 := g4.length
      have e2 := k4.length
      (refine xe0_2 (eqL_all g4 k4 hc 0) ?_; intro a1 a2)
      refine tupCmp neg (e := fun j => match xs[j - 0]?, ys[j - 0]? with | some x, some y => (eqD 4 x y).getD true | _, _ => true) ht ht' (by omega) (fun j p hp => ?_) ?_
      · (refine xe3_5 (a2 j p (by simpa using hp)) ?_; intro x' y' c' p1 p2 p3 p4 p5)
        simp only [Nat.sub_zero, p1, p2, p3, Option.getD_some]
        exact eqW 4 (by show A.units + 1 + 4 + 2 < cLine; omega) ok p4 p5 p3
      · have hs : (xs.length == ys.length) = (vs.toArray.size == us.toArray.size) := by simp [e1, e2]
        rw [hs] at hQ
        simp only [Nat.sub_zero] at a1 ⊢
        simpa [a1] using hQ
    | _ => exact nos1 h
  | lst xs => cases y with
    | lst ys =>
      (refine xe2_3 (h1.lst ok) ?_; intro l vs hq2; rcases hq2 with rfl; intro ht g4)
      (refine xe2_3 (h2.lst ok) ?_; intro l' us hq2; rcases hq2 with rfl; intro ht' k4)
      exact eqLst (by omega) ht ht' g4 k4 h hQ
    | _ => exact nos1 h
  | dct xs => cases y with
    | dct ys =>
      (refine xe2_4 (h1.dct ok) ?_; intro l vs hq2; rcases hq2 with rfl; intro ht m1 g4)
      (refine xe2_4 (h2.dct ok) ?_; intro l' us hq2; rcases hq2 with rfl; intro ht' m2 k4)
      exact eqDct (by omega) ok ht ht' m1 m2 g4 k4 h hQ
    | _ => exact nos1 h
  | _ => exact eqF_cmp neg h1 h2 h hQ
theorem DictOf.lk {a : Addr} {kvs : List (Str × Value)} (h : s.heap.DictOf (strKind prog w) a kvs) : s.heap.MapOf (strKind prog w) a (fun k => lkp kvs k) := by
  have := h.mapOf
  have e : valueAt kvs = fun k => lkp kvs k := funext fun k => valueAt_lkp kvs k
  rwa [e] at this
theorem int2_inv {g : Int → Int → Bool} {x y : D} {b : Bool} (h : (match x, y with | .int a, .int b => some (g a b) | _, _ => none) = some b) : ∃ i j, x = .int i ∧ y = .int j ∧ g i j = b := by
  cases x with
  | int i => cases y with
    | int j => exact ⟨i, j, rfl, rfl, Option.some.inj h⟩
    | _ => exact nos1 h
  | _ => exact nos1 h
theorem cmp_ok {op : CmpOp} {x y : D} {v u : Value} {b : Bool} {E : Value → Shared → Prop} {Q : Value → Shared → Prop} (hu : A.units + 10 < cLine) (ok : Ok B F s) (h1 : View prog w C F s.heap x v) (h2 : View prog w C F s.heap y u)
    (h : cmpD op x y = some b) (hQ : ∀ tk, Q (.bool b) { s with toks := tk }) : wpAny (model prog w) A (compareOp op v u) Q E s := by
  cases op with
  | Eq => exact eq_cmp false hu ok h1 h2 h (by simpa using hQ s.toks)
  | NotEq =>
    simp only [cmpD, Option.map_eq_some_iff] at h
    (refine xe1_2 h ?_; (try clear h); intro c hc hq2; rcases hq2 with rfl)
    exact eq_cmp true hu ok h1 h2 hc (by simpa using hQ s.toks)
  | Lt =>
    (refine xe2_3 (int2_inv (g := fun a b => decide (a < b)) h) ?_; intro i j hq2; rcases hq2 with rfl; intro hq3; rcases hq3 with rfl; intro hq4; rcases hq4 with rfl)
    (refine xe1_1 h1.int ?_; intro t hq1; rcases hq1 with rfl); (refine xe1_1 h2.int ?_; intro t' hq1; rcases hq1 with rfl)
    exact lt_int (hQ s.toks)
  | LtE =>
    (refine xe2_3 (int2_inv (g := fun a b => decide (a ≤ b)) h) ?_; intro i j hq2; rcases hq2 with rfl; intro hq3; rcases hq3 with rfl; intro hq4; rcases hq4 with rfl)
    (refine xe1_1 h1.int ?_; intro t hq1; rcases hq1 with rfl); (refine xe1_1 h2.int ?_; intro t' hq1; rcases hq1 with rfl)
    exact le_int (hQ s.toks)
  | Gt =>
    (refine xe2_3 (int2_inv (g := fun a b => decide (b < a)) h) ?_; intro i j hq2; rcases hq2 with rfl; intro hq3; rcases hq3 with rfl; intro hq4; rcases hq4 with rfl)
    (refine xe1_1 h1.int ?_; intro t hq1; rcases hq1 with rfl); (refine xe1_1 h2.int ?_; intro t' hq1; rcases hq1 with rfl)
    exact gt_int (hQ s.toks)
  | GtE =>
    (refine xe2_3 (int2_inv (g := fun a b => decide (b ≤ a)) h) ?_; intro i j hq2; rcases hq2 with rfl; intro hq3; rcases hq3 with rfl; intro hq4; rcases hq4 with rfl)
    (refine xe1_1 h1.int ?_; intro t hq1; rcases hq1 with rfl); (refine xe1_1 h2.int ?_; intro t' hq1; rcases hq1 with rfl)
    exact ge_int (hQ s.toks)
  | In =>
    simp only [cmpD] at h
    split at h
    · cases h
      (refine xe1_1 h1.str ?_; intro t hq1; rcases hq1 with rfl); (refine xe1_1 h2.str ?_; intro t' hq1; rcases hq1 with rfl)
      exact PyProof.Rows.in_str (hQ s.toks)
    · rename_i k kvs
      cases h
      (refine xe1_1 h1.str ?_; intro t hq1; rcases hq1 with rfl)
      (refine xe2_4 (h2.dct ok) ?_; intro l vs hq2; rcases hq2 with rfl; intro ht m1 g4)
      refine wpAny_in_of (strKind_is prog w k t) m1 (DictOf.lk ht) ?_
      have := g4.lk k
      have e : (lkp vs k).isSome = (lkp kvs k).isSome := by
        split at this
        · rename_i d q; (refine xe1_2 this ?_; (try clear this); intro v' e' _); rw [e', q]; rfl
        · rename_i q; rw [this, q]; rfl
      show Q (.bool (lkp vs k).isSome) _
      rw [e]; exact hQ _
    · cases h
  | NotIn =>
    simp only [cmpD] at h
    split at h
    · cases h
      (refine xe1_1 h1.str ?_; intro t hq1; rcases hq1 with rfl); (refine xe1_1 h2.str ?_; intro t' hq1; rcases hq1 with rfl)
      exact PyProof.Rows.notIn_str (hQ s.toks)
    · rename_i k kvs
      cases h
      (refine xe1_1 h1.str ?_; intro t hq1; rcases hq1 with rfl)
      (refine xe2_4 (h2.dct ok) ?_; intro l vs hq2; rcases hq2 with rfl; intro ht m1 g4)
      refine wpAny_notIn_of (strKind_is prog w k t) m1 (DictOf.lk ht) ?_
      have := g4.lk k
      have e : (lkp vs k).isSome = (lkp kvs k).isSome := by
        split at this
        · rename_i d q; (refine xe1_2 this ?_; (try clear this); intro v' e' _); rw [e', q]; rfl
        · rename_i q; rw [this, q]; rfl
      show Q (.bool (!(lkp vs k).isSome)) _
      rw [e]; exact hQ _
    · cases h
  | Is =>
    simp only [cmpD] at h
    split at h
    · rename_i a c
      cases h
      obtain rfl := h1.bool; obtain rfl := h2.bool
      refine wpAny_is_plain rfl ?_
      have e : (Value.bool a == Value.bool c) = (a == c) := by cases a <;> cases c <;> rfl
      rw [e]; exact hQ s.toks
    · cases h
  | IsNot =>
    simp only [cmpD] at h
    split at h
    · rename_i a c
      cases h
      obtain rfl := h1.bool; obtain rfl := h2.bool
      refine wpAny_isNot_plain rfl ?_
      have e : (Value.bool a == Value.bool c) = (a == c) := by cases a <;> cases c <;> rfl
      rw [e]; exact hQ s.toks
    · cases h
end
end Mine
end

section
open PySem PySem.W PyProof.Rows
set_option tactic.hygienic false
namespace Mine
section
variable {prog : Program} {w : World} {C : Addr} {B : Heap} {A : Around} {F F' : FH} {s s' : Shared}
theorem subscripted_plain {slice : Expr} (h : ∀ a b c p, slice = .Slice a b c p → False) (o i : Value) : subscripted slice false o i = operate [o, i] (getItem o i) := by
  cases slice <;> first | rfl | exact (h _ _ _ _ rfl).elim
theorem seqIndex_lt {i : Int} {n j : Nat} (h : seqIndex? i n = some j) : j < n ∧ (0 ≤ i → i.toNat = j ∧ i < n) ∧ (i < 0 → (i + n).toNat = j ∧ -(n : Int) ≤ i) := by
  unfold seqIndex? at h
  by_cases hi : i < 0
  · simp only [hi, if_true, Bool.and_eq_true, decide_eq_true_eq] at h
    split at h
    · cases h; omega
    · cases h
  · simp only [hi, if_false, Bool.and_eq_true, decide_eq_true_eq] at h
    split at h
    · cases h; omega
    · cases h
set_option maxHeartbeats 2000000 in
theorem item_ok {x y d : D} {v u : Value} {value slice : Expr} (hs : ∀ a b c p, slice = .Slice a b c p → False) (h : subD x y = some d) (ok : Ok B F s) (hv : View prog w C F s.heap x v) (hu : Rep prog w C F y u) :
    Ev prog w C B A F s (subscriptTail value slice v u) d := fun E Q hQ => by
  have done : ∀ {v' : Value} (tk : Nat), Rep prog w C F d v' → Q v' { s with toks := tk } := fun tk r => hQ _ F _ ((Ste.refl ..).toks tk) (ok.toks tk) r
  cases x with
  | lst l => cases y with
    | int i =>
      (refine xe1_1 hu.int_inv ?_; intro t hq1; rcases hq1 with rfl)
      (refine xe2_3 (hv.lst ok) ?_; intro a vs hq2; rcases hq2 with rfl; intro hl g)
      refine ite_el h ?_; clear h; intro hi h
      refine bind_el h ?_; clear h; intro j hj hd
      (refine xe1_2 (g.get hd) ?_; intro v' hv' hr)
      have hlen := g.length
      (refine xe0_3 (seqIndex_lt hj) ?_; intro q1 q2 q3)
      refine tail_any hl.typeIs slot_list_getitem.lookup ?_ (subscripted_plain hs _ _)
      by_cases h0 : 0 ≤ i
      · refine wpAny_getItem_list hl h0 hi.2 ?_ (done s.toks hr)
        rw [(q2 h0).1]; simpa using hv'
      · have h0' : i < 0 := by omega
        (refine xe0_2 (q3 h0') ?_; intro e1 e2)
        refine wpAny_getItem_list_neg hl h0' (by simp; omega) hi.1 ?_ (done s.toks hr)
        have : (i + (vs.toArray.size : Int)).toNat = j := by simp; omega
        rw [this]; simpa using hv'
    | _ => exact nos1 h
  | tup l => cases y with
    | int i =>
      (refine xe1_1 hu.int_inv ?_; intro t hq1; rcases hq1 with rfl)
      (refine xe2_3 (hv.tup ok) ?_; intro a vs hq2; rcases hq2 with rfl; intro hl g)
      refine ite_el h ?_; clear h; intro hi h
      refine bind_el h ?_; clear h; intro j hj hd
      (refine xe1_2 (g.get hd) ?_; intro v' hv' hr)
      have hlen := g.length
      refine tail_any hl.typeIs slot_tuple_getitem.lookup ?_ (subscripted_plain hs _ _)
      exact getItem_tuple hl hi.1 hi.2 (j := j) (by simp [hlen]; exact hj) (by simpa using hv') (done s.toks hr)
    | _ => exact nos1 h
  | dct kvs => cases y with
    | str k =>
      (refine xe1_1 hu.str_inv ?_; intro t hq1; rcases hq1 with rfl)
      (refine xe2_4 (hv.dct ok) ?_; intro a vs hq2; rcases hq2 with rfl; intro hl m1 g)
      have := g.lk k
      rw [show lkp kvs k = some d from h] at this
      (refine xe1_2 this ?_; (try clear this); intro v' hv' hr)
      exact tail_any (DictOf.lk hl).typeIs slot_dict_getitem.lookup (wpAny_getItem_of (strKind_is prog w k t) (DictOf.lk hl) hv' (done _ hr)) (subscripted_plain hs _ _)
    | _ => exact nos1 h
  | str x => cases y with
    | int i =>
      (refine xe1_1 hu.int_inv ?_; intro u hq1; rcases hq1 with rfl)
      (refine xe1_1 hv.str ?_; intro t hq1; rcases hq1 with rfl)
      refine ite_el h ?_; clear h; intro hi h
      refine map_el h ?_; clear h; rintro c hc rfl
      refine tail_any (typeIs_str s _ t) PySem.F.slot_str_getitem.lookup ?_ (subscripted_plain hs _ _)
      refine getItem_str ?_ hc (done _ (.str _ _))
      rw [Bool.or_eq_false_iff, decide_eq_false_iff_not, decide_eq_false_iff_not]; omega
    | _ => exact nos1 h
  | _ => exact nos1 h
theorem slicePick_list (vs : List Value) (lo hi st : Option Int) : slicePick vs.toArray lo hi st = ((sliceIdx lo hi st vs.length).filterMap (vs[·]?)).toArray := by
  unfold slicePick sliceIdx
  simp
theorem tup2_raw {E : Value → Shared → Prop} {t sl : Addr} {a b c : Value} {u : Tok} {Q : Value → Shared → Prop} (ht : IsTup s.heap t [a, b, c].toArray) (hs : s.heap.IsSliceOf sl .none (.int 2 u) .none)
    (h : Q (.ref s.heap.objs.size) { s with heap := s.heap.push { cls := .type "tuple", data := .seq [a, b].toArray } }) : wpAny (model prog w) A (getItem (.ref t) (.ref sl)) Q E s := by
  (refine xe1_3 (id hs) ?_; intro os hos hcs hds)
  have hTs : s.TypeIs (.ref sl) "slice" := ⟨os, hos, hcs⟩
  unfold getItem
  try with_reducible refine wpAny_holding ?_
  first | refine wpAny_bind (wpAny_pure ?_) | skip
  refine wpAny_bind (wpAny_sequenceKey ht.typeIs (by decide) ?_)
  refine wpAny_bind (wpAny_callSpecial?_slot (name := Str.ofString "__getitem__") ht.typeIs slot_tuple_getitem
    (wpAny_call_entry slot_tuple_getitem ht.typeIs PyProof.Rows.entry_tuple_getitem ?_ (args_tuple_getitem _ _)))
  show wpAny _ _ (Builtin.Tuple.tupleItemsOf (.ref t) >>= _) _ _ s
  refine wpAny_bind (tupleItemsOf_ ht ?_)
  refine wpAny_bind (wpAny_typeOf hTs ?_)
  rw [if_pos (by decide)]
  refine wpAny_bind ?_
  unfold Builtin.Slice.sliceApplied Builtin.Slice.sliceFields
  refine wpAny_bind (wpAny_bind (wpAny_field hos hds (x := .none) rfl (wpAny_bind (wpAny_field hos hds (x := .int 2 u) rfl (wpAny_bind (wpAny_field hos hds (x := .none) rfl (wpAny_pure ?_)))))))
  refine wpAny_bind (slicePart_none ?_)
  show wpAny _ _ (if ((1 : Int) == 0) = true then _ else _) _ _ s
  rw [if_neg (by decide)]
  refine wpAny_bind (slicePart_none (wpAny_bind (slicePart_int (wpAny_bind (wpAny_pure ?_)))))
  show wpAny _ _ (pure ((0 : Int), (1 : Int), 2)) _ _ s
  refine wpAny_pure ?_
  show wpAny _ _ (if ((0 : Int) == 0 && (1 : Int) == 1 && 2 == 3) = true then _ else _) _ _ s
  rw [if_neg (by decide)]
  exact wpAny_bind (m := Builtin.Tuple.tupleExact _) (wpAny_newObj_type (wpAny_pure ⟨_, rfl, wpAny_pure h⟩) (by show 2 ≤ sizeLine; decide))
theorem slice_ok {x d : D} {lo hi st : Option Int} {v vl vu vs : Value} {sl : Addr} {value : Expr} {a b c : Option Expr} {p : Pos} (h : sliceD x lo hi st = some d) (ok : Ok B F s) (hv : Rep prog w C F x v)
    (hs : s.heap.IsSliceOf sl vl vu vs) (pl : IsPart vl lo) (pu : IsPart vu hi) (ps : IsPart vs st) : EvS prog w C B A F s (subscriptTail value (.Slice a b c p) v (.ref sl)) (toOwn d) := fun E Q hQ => by
  have ops : ∀ o : Value, ∃ l, subscripted (.Slice a b c p) false o (.ref sl) = operate l (getItem o (.ref sl)) := fun o => by
    cases c with
    | none => exact ⟨_, rfl⟩
    | some e => exact ⟨_, rfl⟩
  (refine xe1_1 (ops v) ?_; intro l hops)
  cases x with
  | lst l =>
    (refine xe4_4 hv.lst_inv ?_; intro _ _ _ _ hq4; rcases hq4 with rfl; intro g1 g2 hqr; refine xe0_3 hqr ?_; (try clear hqr); intro g3 g4 g5)
    refine ite_el h ?_; clear h; intro q h
    cases h
    have hlen := g4.length
    have hsz : sizeLine = 16777216 := by decide
    have hl : s.heap.IsList _ _ := ⟨_, ok.subT g1 g2, g2, _, g3⟩
    refine tail_any hl.typeIs slot_list_getitem.lookup ?_ hops
    refine wpAny_getItem_list_slice hl hs pl pu ps q.1 ?_ (by simp; omega)
    rw [slicePick_list, hlen]
    obtain ⟨y, z⟩ := newOl (s := s) ok (g4.pick (sliceIdx _ _ _ _))
    exact hQ _ F _ (Ste.push ok _ _) (Ok.push ok _ _) y z
  | lsw l =>
    (refine xe4_4 hv.lsw_inv ?_; intro _ _ _ _ hq4; rcases hq4 with rfl; intro g1 g2 hqr; refine xe0_2 hqr ?_; (try clear hqr); intro g3 g4)
    refine ite_el h ?_; clear h; intro q h
    cases h
    have hlen := g4.length
    have hsz : sizeLine = 16777216 := by decide
    have hl : s.heap.IsList _ _ := ⟨_, ok.subT g1 g2, g2, _, g3⟩
    refine tail_any hl.typeIs slot_list_getitem.lookup ?_ hops
    refine wpAny_getItem_list_slice hl hs pl pu ps q.1 ?_ (by simp; omega)
    rw [slicePick_list, hlen]
    obtain ⟨y, z⟩ := newOl (s := s) ok (g4.pick (sliceIdx _ _ _ _))
    exact hQ _ F _ (Ste.push ok _ _) (Ok.push ok _ _) y z
  | str x =>
    (refine xe1_1 hv.str_inv ?_; intro t hq1; rcases hq1 with rfl)
    refine ite_el h ?_; clear h; rintro ⟨rfl, q⟩ h
    cases h
    cases ps
    refine tail_any (typeIs_str s _ t) PySem.F.slot_str_getitem.lookup ?_ hops
    have hlo : ∃ l' : Option (Int × Tok), vl = partValue l' ∧ l'.map (·.1) = lo := by
      cases pl with
      | none => exact ⟨none, rfl, rfl⟩
      | int i t => exact ⟨some (i, t), rfl, rfl⟩
    have hhi : ∃ l' : Option (Int × Tok), vu = partValue l' ∧ l'.map (·.1) = hi := by
      cases pu with
      | none => exact ⟨none, rfl, rfl⟩
      | int i t => exact ⟨some (i, t), rfl, rfl⟩
    (refine xe1_2 hlo ?_; (try clear hlo); intro l1 hq1; rcases hq1 with rfl; intro hq2; rcases hq2 with rfl)
    (refine xe1_2 hhi ?_; (try clear hhi); intro l2 hq1; rcases hq1 with rfl; intro hq2; rcases hq2 with rfl)
    refine wpAny_getItem_str_slice (l := l1) (u := l2) (st := none) hs (by decide) ?_
    unfold sliceMade slicePicked
    rw [if_neg (by simp; exact fun q' => q.1 q')]
    refine ⟨?_, EvS.tok ok (.str _ _) hQ⟩
    have hsz : sizeLine = 16777216 := by decide
    have := q.2
    show (List.toArray _).size ≤ sizeLine
    rw [List.size_toArray]
    simp only [Option.map_none, Option.getD_none] at this ⊢
    omega
  | tup l =>
    refine ite_el h ?_; clear h; rintro ⟨rfl, rfl, rfl⟩ h
    refine map_el h ?_; clear h; rintro ⟨⟨d1, d2, d3⟩, e⟩ _ rfl
    dsimp only at e
    subst e
    (refine xe4_4 hv.tup_inv ?_; intro _ _ _ _ hq4; rcases hq4 with rfl; intro g1 g2 hqr; refine xe0_2 hqr ?_; (try clear hqr); intro g3 g4)
    (refine xe2_3 g4.cons_inv ?_; intro v1 _ hq2; rcases hq2 with rfl; intro r1 g4)
    (refine xe2_3 g4.cons_inv ?_; intro v2 _ hq2; rcases hq2 with rfl; intro r2 g4)
    (refine xe2_3 g4.cons_inv ?_; intro v3 _ hq2; rcases hq2 with rfl; intro r3 g4)
    obtain rfl := g4.nil_inv
    cases pl; cases ps
    cases pu with | int _ u =>
    have ht : IsTup s.heap _ _ := ⟨_, ok.subT g1 g2, g2, _, g3⟩
    refine tail_any ht.typeIs slot_tuple_getitem.lookup ?_ hops
    refine tup2_raw ht hs ?_
    have ext := FH.add_ext (ok.fnone (Nat.le_refl s.heap.objs.size)) ({ cls := .type "tuple", data := .seq [v1, v2].toArray } : Obj)
    exact hQ _ _ _ (Ste.pushF ok _ _) (Ok.pushF ok _ rfl _) (.tup (FH.add_self _ _) rfl rfl (.cons (r1.mono ext) (.cons (r2.mono ext) .nil))) fun _ o => o.elim
  | _ => exact nos1 h
end
end Mine
end

section
open PySem PySem.W PyProof.Rows
set_option tactic.hygienic false
namespace Mine
theorem sorted_perm_eq : ∀ {l l' : List Int}, l.Perm l' → l.Pairwise (· ≤ ·) → l'.Pairwise (· ≤ ·) → l = l'
  | [], l', p, _, _ => by rw [List.nil_perm.mp p]
  | a :: l, [], p, _, _ => by have := p.length_eq; simp at this
  | a :: l, b :: l', p, h1, h2 => by
    rw [List.pairwise_cons] at h1 h2
    have ha : a ∈ b :: l' := p.subset List.mem_cons_self
    have hb : b ∈ a :: l := p.symm.subset List.mem_cons_self
    have e : a = b := by
      rcases List.mem_cons.mp ha with q | q
      · exact q
      · rcases List.mem_cons.mp hb with r | r
        · exact r.symm
        · exact Int.le_antisymm (h1.1 b r) (h2.1 a q)
    subst e
    rw [sorted_perm_eq (List.Perm.cons_inv p) h1.2 h2.2]
noncomputable def bval : BK → Value
  | .len => .builtin "len"
  | .sum => .builtin "sum"
  | .max => .builtin "max"
  | .min => .builtin "min"
  | .abs => .builtin "abs"
  | .sorted => .builtin "sorted"
  | .isi => .builtin "isinstance"
  | .tuple => .type "tuple"
  | .str => .type "str"
  | .range => .type "range"
  | .zip => .type "zip"
section
variable {prog : Program} {w : World} {C : Addr} {B : Heap} {A : Around} {F F' : FH} {s s' : Shared}
theorem ints_are : ∀ {ns : List Int} {vs : List Value}, Reps prog w C F (ns.map .int) vs → IntsAre vs ns
  | [], _, h => by obtain rfl := h.nil_inv; exact .nil
  | n :: ns, _, h => by
    (refine xe2_3 h.cons_inv ?_; intro _ _ hq2; rcases hq2 with rfl; intro r rs); (refine xe1_1 r.int_inv ?_; intro t hq1; rcases hq1 with rfl); exact .cons n t (ints_are rs)
theorem intsOf_are {l : List D} {ns : List Int} {vs : List Value} (h : intsOf l = some ns) (r : Reps prog w C F l vs) : IntsAre vs ns := by
  rw [intsOf_eq h] at r; exact ints_are r
theorem strs_are : ∀ {ts : List Str} {vs : List Value}, Reps prog w C F (ts.map .str) vs → ∃ l' : List (Str × Tok), vs = strValues l' ∧ l'.map (·.1) = ts
  | [], _, h => by obtain rfl := h.nil_inv; exact ⟨[], rfl, rfl⟩
  | n :: ns, _, h => by
    (refine xe2_3 h.cons_inv ?_; intro _ _ hq2; rcases hq2 with rfl; intro r rs); (refine xe1_1 r.str_inv ?_; intro t hq1; rcases hq1 with rfl)
    (refine xe1_2 (strs_are rs) ?_; intro l' hq1; rcases hq1 with rfl; intro e)
    exact ⟨(n, t) :: l', rfl, by rw [← e]; rfl⟩
theorem strsOf_are {l : List D} {ts : List Str} {vs : List Value} (h : strsOf l = some ts) (r : Reps prog w C F l vs) : ∃ l' : List (Str × Tok), vs = strValues l' ∧ l'.map (·.1) = ts := by
  rw [strsOf_eq h] at r; exact strs_are r
theorem ints_reps {vs : List Value} {ns : List Int} (h : IntsAre vs ns) : Reps prog w C F (ns.map .int) vs := by
  induction h with
  | nil => exact .nil
  | cons n t _ ih => exact .cons (.int n t) ih
theorem Ev.kept (ok : Ok B F s) {d : D} {v : Value} (r : Rep prog w C F d v) {h' : Heap} {tk : Nat} {Q : Value → Shared → Prop} (hk : ∀ b o, s.heap.get? b = some o → h'.get? b = some o) (g : Gw s.heap h')
    (hQ : ∀ v F' s', Ste s.heap.objs.size F s F' s' → Ok B F' s' → Rep prog w C F' d v → Q v s') : Q v { s with heap := h', toks := tk } :=
  hQ v F _ (Ste.of_keep g hk rfl) (ok.of_keep hk ok.bare) r
theorem len_ok {x d : D} {v : Value} (h : lenD x = some d) (ok : Ok B F s) (hv : View prog w C F s.heap x v) : Ev prog w C B A F s (call (.builtin "len") [v]) d := fun E Q hQ => by
  have done : ∀ {v' : Value} (tk : Nat), Rep prog w C F d v' → Q v' { s with toks := tk } := fun tk r => hQ _ F _ ((Ste.refl ..).toks tk) (ok.toks tk) r
  have hline : sizeLine = 16777216 := sizeLine_eq
  unfold lenD at h
  split at h <;> (try (rw [Option.ite_none_right_eq_some] at h; (refine xe0_2 h ?_; (try clear h); intro q h))) <;> cases h
  · (refine xe2_3 (hv.lst ok) ?_; intro a vs hq2; rcases hq2 with rfl; intro hl g)
    refine Calls.call_len_list hl (by have := g.length; rw [List.size_toArray]; omega) ?_
    rw [List.size_toArray, g.length]; exact done _ (.int _ _)
  · (refine xe2_3 (hv.tup ok) ?_; intro a vs hq2; rcases hq2 with rfl; intro hl g)
    refine len_tuple hl (by have := g.length; rw [List.size_toArray]; omega) ?_
    rw [List.size_toArray, g.length]; exact done _ (.int _ _)
  · (refine xe1_1 hv.str ?_; intro t hq1; rcases hq1 with rfl)
    exact PyProof.Rows.len_str (by omega) (done _ (.int _ _))
theorem sum_raw {E : Value → Shared → Prop} {Q : Value → Shared → Prop} {l : Addr} {vs : List Value} {ns : List Int} (hh : A.handled = none) (hl : s.heap.IsList l vs.toArray) (hi : IntsAre vs ns)
    (h : ∀ h' tk t', (∀ b o, s.heap.get? b = some o → h'.get? b = some o) → Q (.int ns.sum t') { s with heap := h', toks := tk }) : wpAny (model prog w) A (call (.builtin "sum") [.ref l]) Q E s := by
  (refine xe1_1 hi.allInts.items ?_; intro xs hx)
  refine sum_intListG hh (hx ▸ hl) fun h' tk t' hk => ?_
  have e1 : ns = xs.toList.map (·.1) := by
    rw [← nums_intItems, ← hx]
    exact (show numsOf vs.toArray.toList = ns from hi.numsOf).symm
  have e2 : preSum (numAt xs) xs.size = ns.sum := by
    rw [preSum_eq, List.take_of_length_le (by simp), e1]
  rw [e2]
  exact h h' tk t' hk
theorem foldl_max : ∀ (ns : List Int) (n : Int), n ≤ ns.foldl max n ∧ (∀ a ∈ ns, a ≤ ns.foldl max n) ∧ (ns.foldl max n = n ∨ ns.foldl max n ∈ ns)
  | [], n => ⟨Int.le_refl _, fun _ h => (nomatch h), .inl rfl⟩
  | a :: r, n => by
    (refine xe0_3 (foldl_max r (max n a)) ?_; intro h1 h2 h3)
    refine ⟨by rw [List.foldl_cons]; omega, fun b hb => ?_, ?_⟩
    · rw [List.foldl_cons]
      rcases List.mem_cons.mp hb with rfl | hb
      · omega
      · exact h2 b hb
    · rw [List.foldl_cons]
      rcases h3 with h3 | h3
      · rw [h3]
        by_cases q : n ≤ a
        · exact .inr (by rw [Int.max_eq_right q]; exact List.mem_cons_self)
        · exact .inl (Int.max_eq_left (by omega))
      · exact .inr (List.mem_cons_of_mem _ h3)
theorem max_raw {E : Value → Shared → Prop} {Q : Value → Shared → Prop} {l : Addr} {vs : List Value} {n : Int} {ns : List Int} (hh : A.handled = none) (hl : s.heap.IsList l vs.toArray) (hi : IntsAre vs (n :: ns))
    (h : ∀ h' tk t', (∀ b o, s.heap.get? b = some o → h'.get? b = some o) → Q (.int (ns.foldl max n) t') { s with heap := h', toks := tk }) : wpAny (model prog w) A (call (.builtin "max") [.ref l]) Q E s := by
  (refine xe1_1 hi.allInts.items ?_; intro xs e)
  have hns : n :: ns = xs.toList.map (·.1) := by
    rw [← nums_intItems, ← e]
    exact (show numsOf vs.toArray.toList = n :: ns from hi.numsOf).symm
  have hsz : xs.size = ns.length + 1 := by
    have := congrArg List.length hns
    simp only [List.length_cons, List.length_map, Array.length_toList] at this
    omega
  rw [e] at hl
  refine max_intList hh hl (by omega) fun v h' tk hv hk => ?_
  (refine xe1_1 (intItems_at hv) ?_; intro t hq1; rcases hq1 with rfl)
  (refine xe0_2 (argBest_gt (numAt xs) (xs.size - 1)) ?_; intro h1 h2)
  generalize hk' : argBest (fun i j => decide (numAt xs i > numAt xs j)) (xs.size - 1) = k at h1 h2 hv ⊢
  have hM : numAt xs k ∈ n :: ns := by
    rw [hns, numAt_eq]
    exact PySem.getD_mem (by rw [List.length_map, Array.length_toList]; omega)
  have hA : ∀ a ∈ n :: ns, a ≤ numAt xs k := fun a ha => by
    rw [hns] at ha
    (refine xe1_2 (mem_getD ha) ?_; intro j hj hq2; rcases hq2 with rfl)
    rw [List.length_map, Array.length_toList] at hj
    rw [← numAt_eq]; exact h2 j (by omega)
  (refine xe0_3 (foldl_max ns n) ?_; intro f1 f2 f3)
  have : numAt xs k = ns.foldl max n := by
    apply Int.le_antisymm
    · rcases List.mem_cons.mp hM with q | q
      · rw [q]; exact f1
      · exact f2 _ q
    · rcases f3 with q | q
      · rw [q]; exact hA _ List.mem_cons_self
      · exact hA _ (List.mem_cons_of_mem _ q)
  rw [this]
  exact h h' tk t hk
theorem Ev.pushed (ok : Ok B F s) {h₁ : Heap} {o : Obj} (ho : o.isFreed = false) {d : D} {tk : Nat} {Q : Value → Shared → Prop} (hk : ∀ b o, s.heap.get? b = some o → h₁.get? b = some o) (g : Gw s.heap h₁)
    (r : ∀ F', F' h₁.objs.size = some o → (∀ b x, F b = some x → F' b = some x) → Rep prog w C F' d (.ref h₁.objs.size))
    (hQ : ∀ v F' s', Ste s.heap.objs.size F s F' s' → Ok B F' s' → Rep prog w C F' d v → Q v s') : Q (.ref h₁.objs.size) { s with heap := h₁.push o, toks := tk } := by
  have t1 := Ste.of_keep (F := F) (s' := { s with heap := h₁, toks := tk }) g hk rfl
  have ok1 : Ok B F { s with heap := h₁, toks := tk } := ok.of_keep hk ok.bare
  have ext := FH.add_ext (ok1.fnone (Nat.le_refl _)) o
  exact hQ _ _ _ (t1.trans ((Ste.pushF ok1 o tk).le t1.size)) (ok1.pushF o ho tk) (r _ (FH.add_self _ _) ext)
theorem built_list {k : BK} {l : List D} {d : D} {v : Value} (hh : A.handled = none) (ok : Ok B F s) (r : Rep prog w C F (.lst l) v)
    (h : (k = .sum ∧ ∃ ns, intsOf l = some ns ∧ d = .int ns.sum) ∨ (k = .max ∧ ∃ n ns, intsOf l = some (n :: ns) ∧ d = .int (ns.foldl Max.max n)) ∨
      (k = .sorted ∧ l.length ≤ 60 ∧ ∃ ns, intsOf l = some ns ∧ d = .lst ((ns.mergeSort fun a b => decide (a ≤ b)).map .int)) ∨ (k = .tuple ∧ l.length ≤ 1000000 ∧ d = .tup l)) :
    Ev prog w C B A F s (call (bval k) [v]) d := by
  intro E Q hQ
  (refine xe4_4 r.lst_inv ?_; intro _ _ vs' _ hq4; rcases hq4 with rfl; intro h1 h2 hqr; refine xe0_3 hqr ?_; (try clear hqr); intro h3 h4 h5)
  have hl : s.heap.IsList _ _ := ⟨_, ok.subT h1 h2, h2, _, h3⟩
  have hlen := h4.length
  rcases h with ⟨rfl, ns, hn, rfl⟩ | ⟨rfl, n, ns, hn, rfl⟩ | ⟨rfl, q, ns, hn, rfl⟩ | ⟨rfl, q, rfl⟩
  · exact wpAny_gw (sum_raw hh hl (intsOf_are hn h4) fun h' tk t' hk g => Ev.kept ok (.int _ _) hk g hQ)
  · exact wpAny_gw (max_raw hh hl (intsOf_are hn h4) fun h' tk t' hk g => Ev.kept ok (.int _ _) hk g hQ)
  · refine wpAny_gw (sorted_ints hl (intsOf_are hn h4) (by omega) fun out ns' a1 a2 a3 g => ?_)
    obtain ⟨e, he⟩ := sortedAll_at s.heap _ out
    have hs := sorted_perm_eq (a2.trans (List.mergeSort_perm ns fun a b => decide (a ≤ b)).symm) a3 (by
      have := List.pairwise_mergeSort (le := fun a b : Int => decide (a ≤ b)) (fun a b c h1 h2 => by simp at *; omega) (fun a b => by simp; omega) ns
      exact this.imp fun h => by simpa using h)
    subst hs
    have ext := FH.add_ext (F := F) (n := s.heap.objs.size + 1) (ok.fnone (Nat.le_succ _)) (seqObj "list" out.toList.toArray e)
    have hg := Ste.of_keep (F := F) (s' := { s with heap := sortedAll s.heap _ out }) g (fun _ _ => sortedAll_old) rfl
    refine hQ _ (FH.add F (s.heap.objs.size + 1) (seqObj "list" out.toList.toArray e)) _ ⟨ext, fun b hb hF => ?_, hg.size, rfl⟩ (ok.next ext (fun b o x => ?_) (ok.kf fun _ _ => sortedAll_old) ok.bare)
      (.lst (FH.add_self _ _) rfl rfl (ints_reps a1) rfl)
    · have : b ≠ s.heap.objs.size + 1 := Nat.ne_of_lt (Nat.lt_succ_of_lt hb)
      exact ⟨by simp only [FH.add, this, if_false]; exact hF, (hg.old b hb hF).2⟩
    · by_cases q : b = s.heap.objs.size + 1
      · subst q; rw [FH.add_self] at x; cases x; exact .inr he
      · simp only [FH.add, q, if_false] at x; exact .inl x
  · have hsz : sizeLine = 16777216 := sizeLine_eq
    refine wpAny_gw (call_tuple_list hl (fun h' hk g => ?_) (by rw [List.size_toArray]; omega))
    replace g : Gw s.heap (h'.push { cls := .type "tuple", data := .seq vs'.toArray }) := g
    refine Ev.pushed ok rfl hk ⟨?_, fun b hb e => ?_⟩ (fun F' hF ext => .tup hF rfl rfl (h4.mono ext)) hQ
    · exact Nat.le_of_not_lt fun q => by
        have := g.size
        rw [Heap.size_push] at this
        have hz : s.heap.objs.size = h'.objs.size + 1 := by omega
        cases e : s.heap.get? h'.objs.size with
        | none =>
          have := g.dead _ (by omega) e
          rw [Heap.get?_push_size _ rfl] at this
          cases this
        | some o => exact absurd (Heap.lt_size (hk _ _ e)) (Nat.lt_irrefl _)
    · have := g.dead b hb e
      cases q : h'.get? b with
      | none => rfl
      | some o =>
        rw [Heap.get?_push_of_some _ q] at this
        cases this
theorem built_int {k : BK} {i : Int} {d : D} {v : Value} (ok : Ok B F s) (r : Rep prog w C F (.int i) v)
    (h : (k = .abs ∧ d = .int (if i < 0 then -i else i)) ∨ (k = .str ∧ (0 ≤ i ∧ i < 10000000000) ∧ d = .str (Str.ofString (toString i)))) : Ev prog w C B A F s (call (bval k) [v]) d := by
  intro E Q hQ
  have done : ∀ {v' : Value} (tk : Nat), Rep prog w C F d v' → Q v' { s with toks := tk } := fun tk r => hQ _ F _ ((Ste.refl ..).toks tk) (ok.toks tk) r
  (refine xe1_1 r.int_inv ?_; intro t hq1; rcases hq1 with rfl)
  rcases h with ⟨rfl, rfl⟩ | ⟨rfl, q, rfl⟩
  · exact call_abs_int fun u tk => done _ (.int _ _)
  · refine P.str_of_int ?_ (done _ (.str _ _))
    have : i.natAbs.log2 < 34 := by
      by_cases z : i.natAbs = 0
      · rw [z]; decide
      · exact (Nat.log2_lt z).mpr (by have : (2 : Nat) ^ 34 = 17179869184 := by decide
                                      omega)
    omega
theorem one_reps {x : D} {vs : List Value} (h : Reps prog w C F [x] vs) : ∃ v, vs = [v] ∧ Rep prog w C F x v := by
  (refine xe2_3 h.cons_inv ?_; intro _ _ hq2; rcases hq2 with rfl; intro r rs); obtain rfl := rs.nil_inv; exact ⟨_, rfl, r⟩
theorem built_ok {k : BK} {ds : List D} {d : D} {vs : List Value} (h : builtK k ds = some d) (hh : A.handled = none) (ok : Ok B F s) (hv : Reps prog w C F ds vs) :
    Ev prog w C B A F s (call (bval k) vs) d := by
  cases k <;> first | exact absurd (show (none : Option D) = some d from h) (fun q => nomatch q) | ((refine xe1_2 (Option.bind_eq_some_iff.mp h) ?_; intro x e h))
  case min =>
    obtain ⟨x, y⟩ := x
    refine bind_el h ?_; (try clear h); intro a h1 h
    refine map_el h ?_; (try clear h); rintro b h2 rfl
    obtain rfl := vTwo_eq e; obtain rfl := intOf_eq h1; obtain rfl := intOf_eq h2
    (refine xe2_3 hv.cons_inv ?_; intro _ _ hq2; rcases hq2 with rfl; intro r rs); (refine xe2_3 rs.cons_inv ?_; intro _ _ hq2; rcases hq2 with rfl; intro r2 rs); obtain rfl := rs.nil_inv
    (refine xe1_1 r.int_inv ?_; intro t hq1; rcases hq1 with rfl); (refine xe1_1 r2.int_inv ?_; intro u hq1; rcases hq1 with rfl)
    intro E Q hQ
    refine wpAny_gw (min_two_ints hh fun h' tk hk g => ?_)
    by_cases c : b < a
    · simp only [if_pos c] at *; exact Ev.kept ok (.int _ _) hk g hQ
    · simp only [if_neg c] at *; exact Ev.kept ok (.int _ _) hk g hQ
  all_goals
    obtain rfl := vOne_eq e
    (refine xe1_2 (one_reps hv) ?_; intro v hq1; rcases hq1 with rfl; intro r)
  case len => exact len_ok h ok (.of_rep r)
  case sum =>
    refine bind_el h ?_; (try clear h); intro l h1 h
    refine map_el h ?_; (try clear h); rintro ns h2 rfl
    obtain rfl := lstOf_eq h1
    exact built_list hh ok r (.inl ⟨rfl, ns, h2, rfl⟩)
  case max =>
    refine bind_el h ?_; (try clear h); intro l h1 h
    refine bind_el h ?_; (try clear h); intro ns h2 h
    obtain rfl := lstOf_eq h1
    cases ns with
    | nil => cases h
    | cons n ns => exact built_list hh ok r (.inr (.inl ⟨rfl, n, ns, h2, (Option.some.inj h).symm⟩))
  case abs =>
    refine map_el h ?_; (try clear h); rintro i h1 rfl
    obtain rfl := intOf_eq h1
    exact built_int ok r (.inl ⟨rfl, rfl⟩)
  case sorted =>
    refine bind_el h ?_; (try clear h); intro l h1 h
    refine ite_el h ?_; (try clear h); intro q hz
    refine map_el hz ?_; (try clear hz); intro ns h2 h3
    obtain rfl := lstOf_eq h1
    exact built_list hh ok r (.inr (.inr (.inl ⟨rfl, q, ns, h2, h3.symm⟩)))
  case tuple =>
    refine bind_el h ?_; (try clear h); intro l h1 h
    refine ite_el h ?_; (try clear h); intro q hz
    obtain rfl := lstOf_eq h1
    exact built_list hh ok r (.inr (.inr (.inr ⟨rfl, q, (Option.some.inj hz).symm⟩)))
  case str =>
    refine bind_el h ?_; (try clear h); intro i h1 h
    refine ite_el h ?_; (try clear h); intro q hz
    obtain rfl := intOf_eq h1
    exact built_int ok r (.inr ⟨rfl, q, (Option.some.inj hz).symm⟩)
end
end Mine
end

section
open PySem PySem.W PyProof.Rows
set_option tactic.hygienic false
open PySem.Builtin PySem.Builtin.Str
namespace Mine
section
variable {prog : Program} {w : World} {C : Addr} {B : Heap} {A : Around} {F F' : FH} {s s' : Shared}
theorem split_raw {E : Value → Shared → Prop} {Q : Value → Shared → Prop} {x y : PySem.Str} {t u : Tok} (hy : (y.length == 0) = false) (hsz : x.length + 2 ≤ sizeLine)
    (h : ∀ (l : List (PySem.Str × Tok)) (k : Nat), l.map (·.1) = Txt.split x y → Q (.ref s.heap.objs.size) { s with heap := s.heap.push { cls := .type "list", data := .seq (strValues l).toArray }, toks := k }) :
    wpAny (model prog w) A (call (.builtin "str.split") [.str x t, .str y u]) Q E s := by
  have hn : (partsBetween x (occurrences x y 0 x.length (x.length + 1)) y.length).length ≤ sizeLine := by
    have e1 := StrLaws.occ_length_le x y 0 x.length (x.length + 1)
    rw [length_partsBetween]; omega
  by_cases h1 : (decide (x.length < y.length) || decide (strKind x < strKind y)) = true
  · exact call_meets PySem.F.slot_str_split (typeIs_str _ _ _) PySem.F.entry_str_split (PySem.F.args_str_split_2 _ _) (meets_str_split_cannot_occur x y t u h1) (h [(x, t)] s.toks (if_pos h1).symm)
  · have h1' : (decide (x.length < y.length) || decide (strKind x < strKind y)) = false := by simpa using h1
    by_cases hf : (occurrences x y 0 x.length (x.length + 1)).isEmpty = true
    · exact call_meets PySem.F.slot_str_split (typeIs_str _ _ _) PySem.F.entry_str_split (PySem.F.args_str_split_2 _ _) (meets_str_split_not_found x y t u h1' hy hf) (h [(x, t)] s.toks ((if_neg h1).trans (if_pos hf)).symm)
    · have hf' : (occurrences x y 0 x.length (x.length + 1)).isEmpty = false := by simpa using hf
      refine call_meets PySem.F.slot_str_split (typeIs_str _ _ _) PySem.F.entry_str_split (PySem.F.args_str_split_2 _ _) (meets_str_split_sep x y t u h1' hy hf' (by omega) hn) ?_
      have := h (numbered s.toks (partsBetween x (occurrences x y 0 x.length (x.length + 1)) y.length)) (s.toks + (partsBetween x (occurrences x y 0 x.length (x.length + 1)) y.length).length)
        ((numbered_texts _ _).trans ((if_neg h1).trans (if_neg hf)).symm)
      rw [← strsFrom_eq] at this
      exact this
theorem gives_find4 (x y : PySem.Str) (i j : Nat) (hj : j ≤ x.length) (t u v v' : Tok) :
    Gives («str.find» ⟨[.str x t, .str y u, .int (i : Int) v, .int (j : Int) v'], []⟩) (.int (match occurrences x y i j 1 with | k :: _ => (k : Int) | [] => -1)) := by
  have e1 : (max (0 : Int) (if (i : Int) < 0 then (i : Int) + (x.length : Int) else (i : Int))).toNat = i := by
    rw [if_neg (by omega)]; omega
  have e2 : min (max (0 : Int) (if (j : Int) < 0 then (j : Int) + (x.length : Int) else (j : Int))).toNat x.length = j := by
    rw [if_neg (by omega)]; omega
  show Gives (match occurrences x y (max (0 : Int) (if (i : Int) < 0 then (i : Int) + (x.length : Int) else (i : Int))).toNat (min (max (0 : Int) (if (j : Int) < 0 then (j : Int) + (x.length : Int) else (j : Int))).toNat x.length) 1 with
    | k :: _ => retInt k | [] => (do rule "str.find.not-found"; retInt (-1))) _
  rw [e1, e2]
  cases occurrences x y i j 1 with
  | nil => exact .rule (.of_eq rfl)
  | cons k _ => exact .of_eq rfl
theorem strs_reps : ∀ (l : List (PySem.Str × Tok)), Reps prog w C F (l.map fun p => D.str p.1) (strValues l)
  | [] => .nil
  | (x, t) :: r => .cons (.str x t) (strs_reps r)
noncomputable def methT : MK → String
  | .count => "list"
  | .get => "dict"
  | _ => "str"
noncomputable def methId : MK → String
  | .startswith => "str.startswith"
  | .endswith => "str.endswith"
  | .split => "str.split"
  | .find => "str.find"
  | .join => "str.join"
  | .count => "list.count"
  | .get => "dict.get"
theorem methId_ok (m : MK) : PlainAttrs (methT m) ∧ PySem.Slot (methT m) (mname m) (methId m) ∧ typeOf (.builtin (methId m)) = pure (.type "method_descriptor") := by
  cases m
  · exact ⟨PySem.F.plainAttrs_str, PySem.F.slot_str_startswith, PySem.F.type_str_startswith⟩
  · exact ⟨PySem.F.plainAttrs_str, PySem.F.slot_str_endswith, PySem.F.type_str_endswith⟩
  · exact ⟨PySem.F.plainAttrs_str, PySem.F.slot_str_split, PySem.F.type_str_split⟩
  · exact ⟨PySem.F.plainAttrs_str, PySem.F.slot_str_find, PySem.F.type_str_find⟩
  · exact ⟨PySem.F.plainAttrs_str, PySem.F.slot_str_join, PySem.F.type_str_join⟩
  · exact ⟨PySem.F.plainAttrs_list, PySem.F.slot_list_count, PySem.F.type_list_count⟩
  · exact ⟨PySem.F.plainAttrs_dict, PySem.F.slot_dict_get, PySem.F.type_dict_get⟩
noncomputable def isOf (T : String) : D → Bool
  | .str _ => T == "str"
  | .lst _ => T == "list"
  | .dct _ => T == "dict"
  | _ => false
theorem methK_of {m : MK} {x d : D} {ds : List D} (h : methK m x ds = some d) : isOf (methT m) x = true := by
  cases m <;> ((refine xe1_2 (Option.bind_eq_some_iff.mp h) ?_; intro y e h)) <;> first | (obtain rfl := strOf_eq e; exact beq_self_eq_true _) | (obtain rfl := lstOf_eq e; exact beq_self_eq_true _) | (obtain rfl := dctOf_eq e; exact beq_self_eq_true _)
theorem isOf_type {T : String} {x : D} {v : Value} (h : isOf T x = true) (ok : Ok B F s) (hv : Rep prog w C F x v) : s.TypeIs v T ∧ ∀ a, v = .ref a → ∃ ob, s.heap.get? a = some ob ∧ ob.dict = none := by
  unfold isOf at h
  split at h <;> (try cases h) <;> (obtain rfl := eq_of_beq h)
  · (refine xe1_1 hv.str_inv ?_; intro t hq1; rcases hq1 with rfl); exact ⟨typeIs_str s _ t, fun a e => nomatch e⟩
  · (refine xe4_4 hv.lst_inv ?_; intro _ _ _ _ hq4; rcases hq4 with rfl; intro g1 g2 hqr; refine xe0_3 hqr ?_; (try clear hqr); intro g3 g4 g5); exact ⟨⟨_, ok.subT g1 g2, g2⟩, fun a e => by cases e; exact ⟨_, ok.subT g1 g2, g5⟩⟩
  · (refine xe3_5 hv.dct_inv ?_; intro _ _ _ hq3; rcases hq3 with rfl; intro g1 g2 g3 g4)
    (refine xe2_2 g2 ?_; (try clear g2); intro es ep hx _)
    exact ⟨⟨_, ok.subT g1 hx.1, hx.1⟩, fun a e => by cases e; exact ⟨_, ok.subT g1 hx.1, hx.2.1⟩⟩
theorem meth_str1 {m : MK} {x y : PySem.Str} {d : D} {v u : Value} (ok : Ok B F s) (hv : Rep prog w C F (.str x) v) (hu : Rep prog w C F (.str y) u)
    (h : (m = .startswith ∧ d = .bool (Txt.startswith x y)) ∨ (m = .endswith ∧ d = .bool (Txt.endswith x y))) : EvS prog w C B A F s (call (.builtin (methId m)) [v, u]) (.fr d) := by
  intro E Q hQ
  (refine xe1_1 hv.str_inv ?_; intro t hq1; rcases hq1 with rfl); (refine xe1_1 hu.str_inv ?_; intro t2 hq1; rcases hq1 with rfl)
  rcases h with ⟨rfl, rfl⟩ | ⟨rfl, rfl⟩
  · exact SC.startswith (EvS.tok (tk := s.toks) ok (.bool _) hQ)
  · exact SC.endswith (EvS.tok (tk := s.toks) ok (.bool _) hQ)
theorem meth_split {x y : PySem.Str} {v u : Value} (ok : Ok B F s) (hv : Rep prog w C F (.str x) v) (hu : Rep prog w C F (.str y) u) (q1 : y.length ≠ 0) (q2 : x.length ≤ 100000) :
    EvS prog w C B A F s (call (.builtin "str.split") [v, u]) (.ol ((Txt.split x y).map .str)) := by
  intro E Q hQ
  (refine xe1_1 hv.str_inv ?_; intro t hq1; rcases hq1 with rfl); (refine xe1_1 hu.str_inv ?_; intro t2 hq1; rcases hq1 with rfl)
  have hsz : sizeLine = 16777216 := sizeLine_eq
  refine split_raw (by simpa using q1) (by omega) fun l k hl => ?_
  have hr := strs_reps (prog := prog) (w := w) (C := C) (F := F) l
  have e : (l.map fun p => D.str p.1) = (Txt.split x y).map .str := by rw [← hl, List.map_map]; rfl
  rw [e] at hr
  (refine xe0_2 (newOl (s := s) ok hr) ?_; intro y z)
  exact hQ _ F _ (Ste.push ok _ _) (Ok.push ok _ _) y z
theorem meth_find {x y : PySem.Str} {is : List Int} {d : D} {v u : Value} {vs : List Value} (ok : Ok B F s) (hv : Rep prog w C F (.str x) v) (hu : Rep prog w C F (.str y) u) (hs : Reps prog w C F (is.map .int) vs) (h : findD x y is = some d) :
    EvS prog w C B A F s (call (.builtin "str.find") (v :: u :: vs)) (.fr d) := by
  refine bind_el h ?_; (try clear h); rintro ⟨i, j⟩ e h
  refine ite_el h ?_; (try clear h); rintro ⟨q1, q2, q3, q4⟩ hz
  obtain rfl := vTwo_eq e; cases hz
  (refine xe1_1 hv.str_inv ?_; intro t hq1; rcases hq1 with rfl); (refine xe1_1 hu.str_inv ?_; intro t2 hq1; rcases hq1 with rfl); (refine xe2_3 hs.cons_inv ?_; intro _ _ hq2; rcases hq2 with rfl; intro r2 rs); (refine xe2_3 rs.cons_inv ?_; intro _ _ hq2; rcases hq2 with rfl; intro r3 rs); obtain rfl := rs.nil_inv
  (refine xe1_1 r2.int_inv ?_; intro v1 hq1; rcases hq1 with rfl); (refine xe1_1 r3.int_inv ?_; intro v2 hq1; rcases hq1 with rfl)
  intro E Q hQ
  (refine xe1_1 (Int.eq_ofNat_of_zero_le q1) ?_; intro i' hq1; rcases hq1 with rfl)
  (refine xe1_1 (Int.eq_ofNat_of_zero_le q3) ?_; intro j' hq1; rcases hq1 with rfl)
  exact call_gives PySem.F.slot_str_find (typeIs_str _ _ _) PySem.F.entry_str_find (PySem.F.args_str_find_4 _ _ _ _) (gives_find4 x y i' j' (by omega) t t2 v1 v2) (EvS.tok ok (.int _ _) hQ)
theorem meth_get {kvs : List (PySem.Str × D)} {k : PySem.Str} {dd : D} {v u u2 : Value} (ok : Ok B F s) (hv : Rep prog w C F (.dct kvs) v) (hu : Rep prog w C F (.str k) u) (hu2 : Rep prog w C F dd u2) :
    EvS prog w C B A F s (call (.builtin "dict.get") [v, u, u2]) (.fr ((lkp kvs k).getD dd)) := by
  intro E Q hQ
  (refine xe3_5 hv.dct_inv ?_; intro _ _ _ hq3; rcases hq3 with rfl; intro g1 g2 g3 g4); (refine xe1_1 hu.str_inv ?_; intro t hq1; rcases hq1 with rfl)
  have hD := Heap.dictOf_iff.mpr ⟨_, ok.subT g1 g2.cls, g2⟩
  have hm := DictOf.lk hD
  refine call_meetsIn PySem.F.slot_dict_get hm.typeIs PySem.F.entry_dict_get (PySem.F.args_dict_get_3 _ _ _) (meets_dict_get_default (strKind prog w) _ (strKind_is prog w k t) g3 _) ⟨_, hm, ?_⟩
  have := g4.lk k
  cases q : lkp kvs k with
  | some d' =>
    rw [q] at this hQ
    (refine xe1_2 this ?_; (try clear this); intro v' e' hr)
    rw [e']
    exact EvS.tok ok hr hQ
  | none =>
    rw [q] at this hQ
    rw [this]
    exact EvS.tok ok hu2 hQ
theorem meth_ok {m : MK} {x d : D} {ds : List D} {v : Value} {vs : List Value} (h : methK m x ds = some d) (ok : Ok B F s) (hv : Rep prog w C F x v) (hs : Reps prog w C F ds vs) :
    EvS prog w C B A F s (call (.builtin (methId m)) (v :: vs)) (if m = .split then toOwn d else .fr d) := by
  cases m <;> (refine bind_el h ?_; (try clear h); intro a ha h)
  case find =>
    refine bind_el h ?_; (try clear h); intro y e h
    refine bind_el h ?_; (try clear h); intro b hb h
    refine bind_el h ?_; (try clear h); intro is hi hz
    rw [if_neg (by decide)]
    cases ds with
    | nil => cases e
    | cons d0 ds =>
      cases e
      have e2 := intsOf_eq hi
      obtain rfl := strOf_eq ha; obtain rfl := strOf_eq hb
      (refine xe2_3 hs.cons_inv ?_; intro _ _ hq2; rcases hq2 with rfl; intro r rs)
      rw [show ds = is.map .int from e2] at rs
      exact meth_find ok hv r rs hz
  case get =>
    refine bind_el h ?_; (try clear h); rintro ⟨y, dd⟩ e h
    refine map_el h ?_; (try clear h); rintro k hk rfl
    obtain rfl := dctOf_eq ha; obtain rfl := vTwo_eq e; obtain rfl := strOf_eq hk
    (refine xe2_3 hs.cons_inv ?_; intro _ _ hq2; rcases hq2 with rfl; intro r rs); (refine xe2_3 rs.cons_inv ?_; intro _ _ hq2; rcases hq2 with rfl; intro r2 rs); obtain rfl := rs.nil_inv
    rw [if_neg (by decide)]
    exact meth_get ok hv r r2
  all_goals
    refine bind_el h ?_; (try clear h); intro y e hy
    obtain rfl := vOne_eq e
    (refine xe1_2 (one_reps hs) ?_; intro u hq1; rcases hq1 with rfl; intro r)
  case startswith =>
    refine map_el hy ?_; (try clear hy); rintro b hb rfl
    obtain rfl := strOf_eq ha; obtain rfl := strOf_eq hb
    rw [if_neg (by decide)]
    exact meth_str1 ok hv r (.inl ⟨rfl, rfl⟩)
  case endswith =>
    refine map_el hy ?_; (try clear hy); rintro b hb rfl
    obtain rfl := strOf_eq ha; obtain rfl := strOf_eq hb
    rw [if_neg (by decide)]
    exact meth_str1 ok hv r (.inr ⟨rfl, rfl⟩)
  case split =>
    refine bind_el hy ?_; (try clear hy); intro b hb hy
    refine ite_el hy ?_; (try clear hy); intro q hz
    obtain rfl := strOf_eq ha; obtain rfl := strOf_eq hb; cases hz
    exact meth_split ok hv r q.1 q.2
  case join =>
    refine bind_el hy ?_; (try clear hy); intro l hl hy
    refine bind_el hy ?_; (try clear hy); intro ts ht hy
    refine ite_el hy ?_; (try clear hy); intro q hz
    obtain rfl := strOf_eq ha; obtain rfl := lstOf_eq hl; cases hz
    (refine xe1_1 hv.str_inv ?_; intro t hq1; rcases hq1 with rfl); (refine xe4_4 r.lst_inv ?_; intro _ _ _ _ hq4; rcases hq4 with rfl; intro g1 g2 hqr; refine xe0_3 hqr ?_; (try clear hqr); intro g3 g4 g5)
    (refine xe1_2 (strsOf_are ht g4) ?_; intro l' hq1; rcases hq1 with rfl; intro hq2; rcases hq2 with rfl)
    rw [if_neg (by decide)]
    intro E Q hQ
    exact SC.join ⟨_, ok.subT g1 g2, g2, _, g3⟩ rfl q.1 fun t' k => EvS.tok ok (.str _ _) hQ
  case count =>
    refine bind_el hy ?_; (try clear hy); intro i hi hy
    refine map_el hy ?_; (try clear hy); rintro ns hns rfl
    obtain rfl := lstOf_eq ha; obtain rfl := intOf_eq hi
    (refine xe4_4 hv.lst_inv ?_; intro _ _ _ _ hq4; rcases hq4 with rfl; intro g1 g2 hqr; refine xe0_3 hqr ?_; (try clear hqr); intro g3 g4 g5); (refine xe1_1 r.int_inv ?_; intro t hq1; rcases hq1 with rfl)
    rw [if_neg (by decide)]
    intro E Q hQ
    exact count_list_ints ⟨_, ok.subT g1 g2, g2, _, g3⟩ (intsOf_are hns g4) (EvS.tok ok (.int _ _) hQ)
end
end Mine
end

section
open PySem PySem.W PyProof.Rows
set_option tactic.hygienic false
namespace Mine
noncomputable def fnNamesOk (g : Fn) : Bool := g.names.all (fun p =>
    p.1 != Str.ofString "__debug__" && p.1 != Str.ofString "__classdict__" && g.names.lookup p.1 == some p.2 &&
    match p.2 with | .local => true | .cell => true | .globalImplicit => true | _ => false)
  && g.params.all (isVar g.names) && decide g.params.Nodup
structure FnOk (h : Heap) (a : Addr) (g : Fn) (gen : Bool) : Prop where
  ex : ∃ o fd, h.get? a = some o ∧ o.data = .func fd ∧ fd.body = .stmts g.body ∧ fd.globals = mainGlobals ∧ fd.builtins = builtinsNs ∧ fd.closure = [] ∧ fd.scope.names = g.names ∧
    fd.scope.kind = .function ∧ fd.scope.isGenerator = false ∧ fd.scope.isCoroutine = false ∧ h.CodeRec fd.code fd.qualname ∧ (gen = true → fd.code = .ref 48) ∧
    ∀ vals : List Value, vals.length = g.params.length → bindArgs fd ⟨vals, []⟩ = pure (g.params.zip vals)
  names : fnNamesOk g = true
structure ClsOk (prog : Program) (w : World) (B : Heap) (C : Addr) (fv : Str → Option Addr) : Prop where
  ex : ∃ N mN, ClsAt B C N mN ∧ mN "__getattribute__" = none ∧ mN "__getattr__" = none ∧ mN "__setattr__" = none ∧ (∀ a, instNames.contains a = true → mN a = none) ∧
    (∃ a of, fv (Str.ofString "Whitespace.__init__") = some a ∧ mN "__init__" = some (.ref a) ∧ B.get? a = some of ∧ of.cls = .type "function") ∧ ∀ m f, methName m = some f → ∃ a of fd, fv f = some a ∧ mN m = some (.ref a) ∧ B.get? a = some of ∧ of.cls = .type "function" ∧ of.data = .func fd
  attr : ∀ a d, classAttr (Str.ofString "Whitespace") a = some d → ∀ (A : Around) (E : Value → Shared → Prop) (Q : Value → Shared → Prop) (s : Shared) (expr : Bool), (∀ b o, B.get? b = some o → s.heap.get? b = some o) →
    (∀ v tk, (∀ F, Rep prog w C F d v) → Q v { s with toks := tk }) → wpAny (model prog w) A (getAttr (.ref C) a expr) Q E s
structure Base (prog : Program) (w : World) (B : Heap) (C : Addr) (tab : List (Str × Fn)) (fv : Str → Option Addr) (mg mb : Str → Option Value) : Prop where
  g : B.Ns mainGlobals mg
  b : B.Ns builtinsNs mb
  lim : B.NoLimit
  blt : ∀ k : BK, mg (bname k) = none ∧ mb (bname k) = some (bval k)
  mark : ∃ t, mg (Str.ofString "ELLIPSIS_MARKER") = some (.str (Str.ofString "...") t)
  cls : ClsOk prog w B C fv
  clsn : mg (Str.ofString "Whitespace") = some (.ref C)
  clsf : fv (Str.ofString "Whitespace") = some C
  fn : ∀ f g, lkp tab f = some g → f ≠ Str.ofString "Whitespace" ∧ ∃ a, fv f = some a ∧ FnOk B a g (f == Str.ofString "add_callers")
  glob : ∀ f a, fv f = some a → methFns.contains f = false → mg f = some (.ref a)
  code : CodeHd B 48 PT
  bmod : ∃ bm ob, BMod B mainGlobals mg bm ob
theorem Base.gs {prog : Program} {w : World} {B : Heap} {C : Addr} {tab : List (Str × Fn)} {fv : Str → Option Addr} {mg mb : Str → Option Value} {F : FH} {s : Shared} (b : Base prog w B C tab fv mg mb) (ok : Ok B F s) : s.heap.Ns mainGlobals mg := b.g.keeps ok.keep
theorem Base.bs {prog : Program} {w : World} {B : Heap} {C : Addr} {tab : List (Str × Fn)} {fv : Str → Option Addr} {mg mb : Str → Option Value} {F : FH} {s : Shared} (b : Base prog w B C tab fv mg mb) (ok : Ok B F s) : s.heap.Ns builtinsNs mb := b.b.keeps ok.keep
theorem Ok.subI {B : Heap} {F : FH} {s : Shared} (h : Ok B F s) {b : Addr} {o od : Obj} {C : Addr} {kvs : List (Str × Value)} (e : F b = some od) (i : InstO o od C b kvs) : s.heap.get? b = some od :=
  h.sub b od e fun q => by subst q; rw [h.dum] at e; cases e; (refine xe2_2 i.isd ?_; intro es ep hd _); cases hd
theorem InstO.ns1 {o od : Obj} {C dx : Addr} {kvs : List (Str × Value)} {h : Heap} (i : InstO o od C dx kvs) (e : h.get? dx = some od) : h.Ns1 dx (lkp kvs) :=
  let ⟨es, ep, a, b, c, d⟩ := i.isd; ⟨od, es, ep, e, a, b, c, d⟩
theorem InstO.inst {o od : Obj} {C a dx : Addr} {kvs : List (Str × Value)} {h : Heap} (i : InstO o od C dx kvs) (e0 : h.get? a = some o) (e : h.get? dx = some od) (ne : a ≠ dx) : h.Inst a C (lkp kvs) :=
  ⟨o, e0, i.cls, i.no, .inr ⟨dx, i.dict, Ne.symm ne, i.ns1 e⟩⟩
theorem objLk {a : Str} (h : instNames.contains a = true) : typeLookup (.type "object") a = pure none := by
  have h' : a ∈ instNames := by simpa using h
  simp only [instNames, List.mem_cons, List.not_mem_nil, or_false] at h'
  rcases h' with rfl | rfl | rfl | rfl | rfl <;> (rw [typeLookup_type, builtinLookup_eq_fast]; kernel_rfl)
theorem methLk {m f : Str} (h : methName m = some f) : typeLookup (.type "object") m = pure none := by
  unfold methName at h
  split at h
  · rename_i e; subst e; rw [typeLookup_type, builtinLookup_eq_fast]; kernel_rfl
  · split at h
    · rename_i e; subst e; rw [typeLookup_type, builtinLookup_eq_fast]; kernel_rfl
    · cases h
theorem lkp_within {α : Type} : ∀ (l : List (Str × α)) (y : Str), lkp l y ≠ none → y ∈ l.map (·.1)
  | [], _, h => absurd rfl h
  | (k, v) :: r, y, h => by
    unfold lkp at h
    by_cases e : y = k
    · rw [e]; simp
    · rw [if_neg e] at h
      exact List.mem_cons_of_mem _ (lkp_within r y h)
section
variable {prog : Program} {w : World} {C : Addr} {B : Heap} {A : Around} {F F' : FH} {s s' : Shared} {fv : Str → Option Addr}
theorem Rep.handed {d : D} {v : Value} (r : Rep prog w C F d v) : handedOut v = pure v := by cases r <;> rfl
theorem inst_attr (cl : ClsOk prog w B C fv) (ok : Ok B F s) {o od : Obj} {a dx : Addr} {kvs : List (Str × Value)} (i : InstO o od C dx kvs) (e0 : s.heap.get? a = some o) (e : s.heap.get? dx = some od) (ne : a ≠ dx)
    {name : Str} {v : Value} {expr : Bool} {E : Value → Shared → Prop} {Q : Value → Shared → Prop} (hk : lkp kvs name = some v) (hn : instNames.contains name = true) (hh : handedOut v = pure v) (hQ : Q v { s with toks := s.toks + 1 }) :
    wpAny (model prog w) A (getAttr (.ref a) name expr) Q E s := by
  (refine xe2_6 cl.ex ?_; intro N mN X h1 _ _ h4 _)
  have X' := X.keeps ok.keep
  (refine xe7_1 X'.obj ?_; intro nm q bs sn sub col dd hqr; refine xe5_1 hqr ?_; (try clear hqr); intro k0 k1 k2 k3 k5 hC)
  obtain ⟨h, g, d, t, os⟩ := s
  exact load_attr hC X'.ns h1 (h4 _ hn) (objLk hn) (i.inst e0 e ne) hk hh hQ
theorem inst_set (cl : ClsOk prog w B C fv) (ok : Ok B F s) {o od : Obj} {a dx : Addr} {kvs : List (Str × Value)} (i : InstO o od C dx kvs) (e0 : s.heap.get? a = some o) (e : s.heap.get? dx = some od) (ne : a ≠ dx) (haC : a ≠ C)
    {name : Str} {v : Value} {E : Value → Shared → Prop} {Q : Unit → Shared → Prop} (hn : instNames.contains name = true) (hsz : kvs.length ≤ 100)
    (hQ : ∀ h' tk o' od', h'.get? a = some o' → h'.get? dx = some od' → InstO o' od' C dx (upd kvs name v) → (∀ b, b < s.heap.objs.size → b ≠ a → b ≠ dx → h'.get? b = s.heap.get? b) → s.heap.objs.size ≤ h'.objs.size → Q () { s with heap := h', toks := tk }) :
    wpAny (model prog w) A (setAttr (.ref a) name v) Q E s := by
  (refine xe2_6 cl.ex ?_; intro N mN X _ _ h3 h4 _)
  have X' := X.keeps ok.keep
  (refine xe7_1 X'.obj ?_; intro nm q bs sn sub col dd hqr; refine xe5_1 hqr ?_; (try clear hqr); intro k0 k1 k2 k3 k5 hC)
  refine wpAny_gw ?_
  obtain ⟨h, g, d, t, os⟩ := s
  refine store_attr (ns := (List.map Prod.fst kvs : List Str)) (hw := lkp_within kvs) (hsz := by simp [sizeLine_eq]; omega) PySem.F.store_object hC X'.ns h3 (h4 _ hn) (objLk hn) haC (i.inst e0 e ne) (fun h' tk' I' hk hsame gw => ?_)
  (refine xe1_4 I' ?_; (try clear I'); intro o' hx' hc' hnc' hd')
  (refine xe1_5 (hsame o e0) ?_; intro o₁ hx₁ _ _ _ hd₁)
  dsimp only at hx₁ gw
  rw [hx'] at hx₁; cases hx₁
  have hdo := hd₁ dx i.dict
  rcases hd' with ⟨q, _⟩ | ⟨d', q1, _, q3⟩
  · rw [hdo] at q; cases q
  · rw [hdo] at q1; cases q1
    (refine xe3_5 q3 ?_; (try clear q3); intro od' es ep z1 z2 z3 z4 z5)
    refine hQ h' tk' o' od' hx' z1 ⟨hc', hdo, hnc', es, ep, z2, z3, z4, fun y => by rw [z5 y, lkp_upd]⟩ (fun b hb n1 n2 => ?_) gw.size
    cases eb : h.get? b with
    | none => exact gw.dead b hb eb
    | some ob => exact hk b ob n1 (fun o₀ d' h0 hd0 => by rw [e0] at h0; cases h0; rw [i.dict] at hd0; cases hd0; exact n2) eb
theorem inst_method (cl : ClsOk prog w B C fv) (ok : Ok B F s) {o od : Obj} {a dx : Addr} {kvs : List (Str × Value)} (i : InstO o od C dx kvs) (e0 : s.heap.get? a = some o) (e : s.heap.get? dx = some od) (ne : a ≠ dx)
    {m f : Str} (hm : methName m = some f) (hk : lkp kvs m = none) {pl : Sem Bool} {E : Value → Shared → Prop} {Q : Value × List Value → Shared → Prop}
    (hQ : ∀ fa of fd, fv f = some fa → B.get? fa = some of → of.data = .func fd → Q (.ref fa, [.ref a]) s) : wpAny (model prog w) A (getMethod (.ref a) m pl) Q E s := by
  (refine xe2_6 cl.ex ?_; intro N mN X h1 h2 _ _ hqr; refine xe0_2 hqr ?_; (try clear hqr); intro _ h6)
  have X' := X.keeps ok.keep
  (refine xe7_1 X'.obj ?_; intro nm q bs sn sub col dd hqr; refine xe5_1 hqr ?_; (try clear hqr); intro k0 k1 k2 k3 k5 hC)
  (refine xe3_5 (h6 m f hm) ?_; intro fa of fd hfa hmN hob hc hdat)
  have ho := ok.keep _ _ hob
  obtain ⟨h, g, d, t, os⟩ := s
  exact method_of hC X'.ns h1 h2 hmN ho hc (methLk hm) (i.inst e0 e ne) hk (hQ fa of fd hfa hob hdat)
end
end Mine
end

section
open PySem PySem.W PyProof.Rows
set_option tactic.hygienic false
namespace Mine
noncomputable def PC : Addr := 48
structure EnvOk (c : Cx) (env : Env) : Prop where
  kind : ∀ x, c.names.lookup x = env.kindOf x ∨ (c.names.lookup x = some .free ∧ env.kindOf x = some .cell)
  gen : c.gen = true → env.code = .ref PC
  ok : ∀ x, c.names.lookup x ≠ none → (x == ("__debug__" : Str)) = false ∧ (x == ("__classdict__" : Str)) = false
theorem EnvOk.var {c : Cx} {env : Env} (h : EnvOk c env) {x : Str} (e : isVar c.names x = true) : isV (env.kindOf x) = true ∧ (x == ("__debug__" : Str)) = false ∧ (x == ("__classdict__" : Str)) = false := by
  have hne : c.names.lookup x ≠ none := fun q => by unfold isVar at e; rw [q] at e; cases e
  refine ⟨?_, h.ok x hne⟩
  rcases h.kind x with q | ⟨q, r⟩
  · unfold isVar at e; rw [q] at e
    cases hk : env.kindOf x with
    | none => rw [hk] at e; cases e
    | some k => rw [hk] at e; cases k <;> first | rfl | cases e
  · rw [r]; rfl
theorem EnvOk.glob {c : Cx} {env : Env} (h : EnvOk c env) {x : Str} (e : isGlob c.names x = true) : env.kindOf x = some .globalImplicit ∧ (x == ("__debug__" : Str)) = false := by
  have hne : c.names.lookup x ≠ none := fun q => by unfold isGlob at e; rw [q] at e; cases e
  refine ⟨?_, (h.ok x hne).1⟩
  rcases h.kind x with q | ⟨q, r⟩
  · unfold isGlob at e; rw [q] at e
    cases hk : env.kindOf x with
    | none => rw [hk] at e; cases e
    | some k => rw [hk] at e; cases k <;> first | rfl | cases e
  · unfold isGlob at e; rw [q] at e; cases e
theorem EnvOk.loc {c : Cx} {env : Env} (h : EnvOk c env) {x : Str} (e : c.names.lookup x = some .local) : env.kindOf x = some .local := by
  rcases h.kind x with q | ⟨q, r⟩
  · rw [← q]; exact e
  · rw [e] at q; cases q
noncomputable def asSlot (x : Expr) (d : D) : Slot := if isAlloc x then toOwn d else .fr d
theorem slotD_toOwn (d : D) : slotD (toOwn d) = d := by cases d <;> rfl
theorem slotD_asSlot (x : Expr) (d : D) : slotD (asSlot x d) = d := by unfold asSlot; split; exact slotD_toOwn d; rfl
noncomputable def plainT (es : List Expr) (env : Env) : List (Bool × Sem Value) := es.map fun e => (false, eval e env)
theorem not_starred {n : Nat} {c : Cx} {ρ : Sc} {e : Expr} {d : D} (h : evE n c ρ e = some d) : ∀ x p, e ≠ .Starred x p := by
  rintro x p rfl
  cases n with
  | zero => exact nos1 h
  | succ n => exact nos1 h
theorem star_cons {e : Expr} {r : List Expr} {env : Env} (hs : ∀ x p, e ≠ .Starred x p) : starEach (e :: r) env = (false, eval e env) :: starEach r env := by cases e <;> first | rfl | exact absurd rfl (hs _ _)
theorem trees_eq {c : Cx} {ρ : Sc} (env : Env) (pos : Pos) : ∀ {es : List Expr} {n : Nat} {ds : List D}, evL n c ρ es = some ds → backTo pos (starEach es env) = plainT es env
  | [], _, _, _ => rfl
  | e :: r, 0, _, h => by exact nos1 h
  | e :: r, n + 1, ds, h => by
    unfold evL at h
    refine bind_el h ?_; (try clear h); intro d1 h1 h
    refine bind_el h ?_; (try clear h); intro d2 h2 h
    have hs := not_starred h1
    have ih := trees_eq env pos (es := r) h2
    rw [star_cons hs]
    show (false, if false = true then _ else eval e env) :: backTo pos (starEach r env) = _
    rw [ih]; rfl
section
variable {M : Model} {A : Around} {E : Value → Shared → Prop} {s : Shared} {env : Env}
theorem evalArgs_T {f : Value} : ∀ {es : List Expr} {Q : Args → Shared → Prop}, wpAny M A (spliced (plainT es env)) (fun vs s' => Q ⟨vs, []⟩ s') E s → wpAny M A (evalArgs f true (plainT es env) []) Q E s
  | [], Q, h => by
    unfold evalArgs
    show wpAny M A (spliced [] >>= _) Q E s
    refine wpAny_bind (wpAny_mono h (fun vs s' h' => ?_) fun _ _ x => x)
    refine wpAny_bind (wpAny_pure ?_)
    refine wpAny_holding ?_
    exact wpAny_bind (wpAny_pure (wpAny_bind (wpAny_pure (wpAny_pure h'))))
  | e :: r, Q, h => Calls.evalArgs_plain h
theorem plainT_any (es : List Expr) : (plainT es env).any (·.1) = false := by
  induction es with
  | nil => rfl
  | cons e r ih => show (false || (plainT r env).any (·.1)) = false; rw [ih]; rfl
theorem callWith_C {pos : Pos} {C : Addr} {nm q : Str} {N : Addr} {bs : List Value} {sn : List Str} {sub : List Value} {ab : Bool} {col : Option Bool} {dd : Option Addr} {k0 k1 k2 k3 k5 : Option Value} {newId : String} {es : List Expr} {Q : Value → Shared → Prop}
    (h : wpAny M A (spliced (plainT es env)) (fun vs s₁ => s₁.heap.get? C = some (excClassObj nm q C N bs [.type "object"] true sn sub ab col dd k0 k1 k2 k3 k5 newId) ∧ wpAny M A (call (.ref C) vs) Q E s₁) E s) :
    wpAny M A (callWith pos (.ref C) [] (plainT es env) []) Q E s := by
  have hst : ((plainT es env).any (fun x => x.fst) || ([] : List (Option Str × Sem Value)).any fun x => x.fst.isNone) = false := by
    rw [plainT_any]; rfl
  unfold callWith
  refine wpAny_bind (wpAny_holding (evalArgs_T (wpAny_mono h (fun vs s₁ h₁ => ?_) fun _ _ x => x)))
  (refine xe0_2 h₁ ?_; (try clear h₁); intro hC h₁)
  obtain ⟨hh, g, d, t, os⟩ := s₁
  have f1 := tc_lookup
  have hT : (⟨hh, g, d, t, os⟩ : Shared).TypeIs (.ref C) "type" := ⟨_, hC, rfl⟩
  refine wpAny_bind (wpAny_standAt ?_)
  show wpAny _ _ (keeperOf (.ref C) >>= _) _ _ _
  unfold keeperOf specialOf
  repeat (any_goals (first | assumption | with_reducible refine wpAny_loadPart_at hC ?_ | with_reducible refine wpAny_load' hC ?_ | wp_step))
  rw [if_pos (by rfl), hst]
  show wpAny _ _ (call (.ref C) vs [] >>= fun r => do holding [r] point; pure r) _ _ _
  exact wpAny_bind (wpAny_mono h₁ (fun r s' hr => wpAny_bind (wpAny_holding (wpAny_point (wpAny_pure hr)))) fun _ _ x => x)
theorem Call_attr {o : Expr} {name : Str} {apos pos : Pos} {args : List Expr} {Q : Value → Shared → Prop}
    (hbase : attributeBase o name env (eval o env) = eval o env) (hlen : args.length < 20) (hline : (apos.endLine == pos.line) = true) (htrees : backTo pos (starEach args env) = plainT args env)
    (h : wpAny M A (eval o env) (fun ov s₁ => ∀ pl, wpAny M A (getMethod ov name pl) (fun p s₂ => wpAny M A (callWith pos p.1 p.2 (plainT args env) []) Q E s₂) E s₁) E s) :
    wpAny M A (eval (.Call (.Attribute o name apos) args [] pos) env) Q E s := by
  rw [arm_eval_Call, hbase, htrees]
  refine wpAny_bind (wpAny_mono h (fun ov s₁ h₁ => wpAny_bind (wpAny_standAt ?_)) fun _ _ e => e)
  have hform : methodCallForm (args.length + ([] : List Keyword).length) (plainT args env) (backToKw pos (keywordEach [] env)) = true := by
    unfold methodCallForm
    have e1 : (plainT args env).all (fun x => !x.1) = true := by
      have := plainT_any (env := env) args
      rw [List.any_eq_false] at this
      rw [List.all_eq_true]
      intro x hx; simpa using this x hx
    rw [e1]
    have : args.length < 30 := by omega
    simp [backToKw, show keywordEach [] env = [] from rfl, this]
  have hpos : methodCallPos true o env apos pos = pure pos := by unfold methodCallPos; simp [hline]
  unfold methodCall
  rw [hform]
  unfold calleeOf
  rw [if_pos rfl]
  refine wpAny_bind (wpAny_holding (wpAny_mono (h₁ _) (fun p s₂ h₂ => ?_) fun _ _ e => e))
  obtain ⟨f, first⟩ := p
  exact wpAny_bind (wpAny_of_eq hpos h₂)
end
end Mine
end

section
open PySem PySem.W PyProof.Rows
set_option tactic.hygienic false
namespace Mine
noncomputable def CallOk (prog : Program) (w : World) (C : Addr) (B : Heap) (fv : Str → Option Addr) (k : Nat) (f : Str → List D → Option D) : Prop :=
  ∀ x ds d, f x ds = some d → ∃ a, fv x = some a ∧ (a = C ∨ ∃ o fd, B.get? a = some o ∧ o.data = .func fd) ∧
    ∀ (A : Around) (F : FH) (s : Shared) (vs : List Value), Room A k → Ok B F s → Reps prog w C F ds vs → Ev prog w C B A F s (PySem.call (.ref a) vs) d
noncomputable def SArgs (prog : Program) (w : World) (C : Addr) (B : Heap) (A : Around) (F : FH) (s : Shared) (env : Env) (es : List Expr) (ds : List D) : Prop :=
  ∀ (E : Value → Shared → Prop) (Q : List Value → Shared → Prop), (∀ vs F' s', Ste s.heap.objs.size F s F' s' → Ok B F' s' → Reps prog w C F' ds vs → Q vs s') → wpAny (model prog w) A (spliced (plainT es env)) Q E s
noncomputable def IterOk (prog : Program) (w : World) (C : Addr) (A : Around) (F : FH) (s : Shared) (I : Addr) (ds : List D) : Prop :=
  F I = none ∧ I < s.heap.objs.size ∧ ∃ (fp : List Addr) (P : Nat → Value → Prop) (W : Nat → Heap → Prop), Walks prog w A I fp [I] ds.length P W ∧ W 0 s.heap ∧ (∀ b ∈ fp, b = I ∨ ∃ o, F b = some o ∧ b ≠ PT) ∧
    ∀ i v d, P i v → ds[i]? = some d → Rep prog w C F d v
noncomputable def ifsTree (ifs : List Expr) (env : Env) : Sem Bool := forIn ifs true fun c r => if r = true then do let ok ← isTrue c env (eval c env); pure (ForInStep.yield ok) else pure (ForInStep.yield r)
noncomputable def compTail (elt : Expr) (gens : List Comprehension) (scope : Scope) (pos : Pos) (dep : Nat) (it acc : Value) (env : Env) (t : Expr) (ifs : List Expr) (v : Value) : Sem Fin :=
  letOwnedTupleGo t it v >>= fun _ => assign t env v >>= fun _ => ifsTree ifs env >>= fun ok =>
  if ok = true then
    match gens[dep + 1]? with
    | some g' =>
      eval g'.iter env >>= fun x => standAt g'.iter.pos >>= fun _ =>
      if (g'.is_async != 0) = true then
        foldedIterable g'.iter x >>= fun x => holding [x] (if (g'.is_async != 0) = true then asyncIter x else pyIter x) >>= fun y => runOwn (Code.compStart (elt.ListComp gens scope pos) (dep + 1) y acc env) env >>= fun _ => again (.compLoop (.ListComp elt gens scope pos) dep it acc env)
      else
        foldedSetIterable g'.iter env x >>= fun x => holding [x] (if (g'.is_async != 0) = true then asyncIter x else pyIter x) >>= fun y => runOwn (Code.compStart (elt.ListComp gens scope pos) (dep + 1) y acc env) env >>= fun _ => again (.compLoop (.ListComp elt gens scope pos) dep it acc env)
    | none => (eval elt env >>= fun x => call (.builtin "list.append") [acc, x] >>= fun _ => pure ()) >>= fun _ => again (.compLoop (.ListComp elt gens scope pos) dep it acc env)
  else again (.compLoop (.ListComp elt gens scope pos) dep it acc env)
theorem compTurn_LC (elt : Expr) (gens : List Comprehension) (scope : Scope) (pos : Pos) (dep : Nat) (it acc : Value) (env : Env) {t iter : Expr} {ifs : List Expr} (hg : gens[dep]? = some ⟨t, iter, ifs, 0⟩) :
    compTurn (.ListComp elt gens scope pos) dep it acc env = (standAt iter.pos >>= fun _ => pyNext it >>= fun r => match r with | none => pure (.done .next) | some v => compTail elt gens scope pos dep it acc env t ifs v) := by
  unfold compTurn
  simp only [hg]
  rfl
structure Snd (prog : Program) (w : World) (C : Addr) (B : Heap) (fv : Str → Option Addr) (n : Nat) : Prop where
  e : ∀ {c : Cx} {env : Env} {lo : Nat} {ps : List Addr} {ρ : Sc} {F : FH} {s : Shared} {A : Around} {k : Nat} {x : Expr} {d : D}, EnvOk c env → CallOk prog w C B fv k c.call → Room A k → St prog w C B lo ps env F s ρ →
    evE n c ρ x = some d → EvS prog w C B A F s (eval x env) (asSlot x d)
  p : ∀ {c : Cx} {env : Env} {lo : Nat} {ps : List Addr} {ρ : Sc} {F : FH} {s : Shared} {A : Around} {k : Nat} {x : Expr} {d : D}, EnvOk c env → CallOk prog w C B fv k c.call → Room A k → St prog w C B lo ps env F s ρ →
    evP n c ρ x = some d → EvV prog w C B A F s (eval x env) d
  l : ∀ {c : Cx} {env : Env} {lo : Nat} {ps : List Addr} {ρ : Sc} {F : FH} {s : Shared} {A : Around} {k : Nat} {es : List Expr} {ds : List D}, EnvOk c env → CallOk prog w C B fv k c.call → Room A k → St prog w C B lo ps env F s ρ →
    evL n c ρ es = some ds → SArgs prog w C B A F s env es ds
  o : ∀ {c : Cx} {env : Env} {lo : Nat} {ps : List Addr} {ρ : Sc} {F : FH} {s : Shared} {A : Around} {k : Nat} {x : Option Expr} {i : Option Int}, EnvOk c env → CallOk prog w C B fv k c.call → Room A k → St prog w C B lo ps env F s ρ →
    evO n c ρ x = some i → ∀ (E : Value → Shared → Prop) (Q : Value → Shared → Prop), (∀ v F' s', Ste s.heap.objs.size F s F' s' → Ok B F' s' → IsPart v i → Q v s') → wpAny (model prog w) A (evalPart x env) Q E s
  b : ∀ {c : Cx} {env : Env} {lo : Nat} {ps : List Addr} {ρ : Sc} {F : FH} {s : Shared} {A : Around} {k : Nat} {pos : Pos} {op : BoolOp} {vs : List Expr} {d : D}, EnvOk c env → CallOk prog w C B fv k c.call → Room A k → St prog w C B lo ps env F s ρ →
    evB n c ρ op vs = some d → Ev prog w C B A F s (boolOp pos op (evalEach vs env)) d
  t : ∀ {c : Cx} {env : Env} {lo : Nat} {ps : List Addr} {ρ : Sc} {F : FH} {s : Shared} {A : Around} {k : Nat} {x : Expr} {b : Bool}, EnvOk c env → CallOk prog w C B fv k c.call → Room A k → St prog w C B lo ps env F s ρ →
    evT n c ρ x = some b → ∀ (E : Value → Shared → Prop) (Q : Bool → Shared → Prop), (∀ F' s', Ste s.heap.objs.size F s F' s' → Ok B F' s' → Q b s') → wpAny (model prog w) A (isTrue x env (eval x env)) Q E s
  ts : ∀ {c : Cx} {env : Env} {lo : Nat} {ps : List Addr} {ρ : Sc} {F : FH} {s : Shared} {A : Around} {k : Nat} {op : BoolOp} {vs : List Expr} {b : Bool}, EnvOk c env → CallOk prog w C B fv k c.call → Room A k → St prog w C B lo ps env F s ρ →
    evTs n c ρ op vs = some b → ∀ (E : Value → Shared → Prop) (Q : Bool → Shared → Prop), (∀ F' s', Ste s.heap.objs.size F s F' s' → Ok B F' s' → Q b s') → wpAny (model prog w) A (allTrue op vs env) Q E s
  i : ∀ {c : Cx} {env : Env} {lo : Nat} {ps : List Addr} {ρ : Sc} {F : FH} {s : Shared} {A : Around} {k : Nat} {x : Expr} {ds : List D}, EnvOk c env → CallOk prog w C B fv k c.call → Room A k → St prog w C B lo ps env F s ρ →
    evI n c ρ x = some ds → ∀ (E : Value → Shared → Prop) (Q : Value → Shared → Prop), (∀ I F' s', Ste s.heap.objs.size F s F' s' → Ok B F' s' → s.heap.objs.size ≤ I → IterOk prog w C A F' s' I ds → Q (.ref I) s') →
      wpAny (model prog w) A (eval x env) (fun v s₁ => wpAny (model prog w) A (pyIter v) Q E s₁) E s
  q : ∀ {c : Cx} {env : Env} {lo : Nat} {ps : List Addr} {ρ : Sc} {F : FH} {s : Shared} {A : Around} {k : Nat} {ifs : List Expr} {b : Bool}, EnvOk c env → CallOk prog w C B fv k c.call → Room A k → St prog w C B lo ps env F s ρ →
    evIfs n c ρ ifs = some b → ∀ (E : Value → Shared → Prop) (Q : Bool → Shared → Prop), (∀ F' s', Ste s.heap.objs.size F s F' s' → Ok B F' s' → Q b s') → wpAny (model prog w) A (ifsTree ifs env) Q E s
  c : ∀ {c : Cx} {env : Env} {lo : Nat} {ps : List Addr} {ρ : Sc} {F : FH} {s : Shared} {A : Around} {k : Nat} {elt t iter : Expr} {ifs : List Expr} {rest gens : List Comprehension} {scope : Scope} {pos : Pos} {dep : Nat} {it : Value} {L : Addr} {d : D} {out outs : List D} {vs : List Value} {k0 : Nat} {v : Value},
    EnvOk c env → CallOk prog w C B fv k c.call → Room A k → St prog w C B lo (L :: ps) env F s ρ → evC n c ρ elt t ifs rest d = some out → gens[dep]? = some ⟨t, iter, ifs, 0⟩ → gens.drop (dep + 1) = rest → L ∉ ps →
    k0 ≤ env.locals → k0 ≤ L → s.heap.PlainList L vs.toArray → Reps prog w C F outs vs → (outs ++ out).length ≤ 1000000 → Rep prog w C F d v → ∀ (E : Value → Shared → Prop) (Q : Fin → Shared → Prop),
    (∀ F' s' vs', Stq k0 ps F s F' s' → St prog w C B lo (L :: ps) env F' s' ρ → s'.heap.PlainList L vs'.toArray → Reps prog w C F' (outs ++ out) vs' → Q (.again (.compLoop (.ListComp elt gens scope pos) dep it (.ref L) env)) s') →
      wpAny (model prog w) A (compTail elt gens scope pos dep it (.ref L) env t ifs v) Q E s
theorem Ste.seq {F F' F'' : FH} {s s' s'' : Shared} (a : Ste s.heap.objs.size F s F' s') (b : Ste s'.heap.objs.size F' s' F'' s'') : Ste s.heap.objs.size F s F'' s'' := a.trans (b.le a.size)
section
variable {prog : Program} {w : World} {C : Addr} {B : Heap} {A : Around} {F F' : FH} {s s' : Shared} {fv : Str → Option Addr} {tab : List (Str × Fn)} {mg mb : Str → Option Value} {env : Env} {k : Nat}
theorem EvS.ev {t : Sem Value} {x : Expr} {d : D} (h : EvS prog w C B A F s t (asSlot x d)) : Ev prog w C B A F s t d := by
  have := h.frz; rwa [slotD_asSlot] at this
theorem user_call (base : Base prog w B C tab fv mg mb) {f : Str → List D → Option D} (hc : CallOk prog w C B fv k f) (hr : Room A k) {x : Str} {es : List Expr} {ds : List D} {d : D} {pos : Pos} (h : f x ds = some d)
    (ha : SArgs prog w C B A F s env es ds) : ∃ a, fv x = some a ∧ Ev prog w C B A F s (callWith pos (.ref a) [] (plainT es env) []) d := by
  (refine xe1_3 (hc x ds d h) ?_; intro a hf hk hcall)
  refine ⟨a, hf, fun E Q hQ => ?_⟩
  rcases hk with rfl | ⟨o, fd, ho, hd⟩
  · (refine xe2_2 base.cls.ex ?_; intro N mN X _)
    (refine xe7_1 X.obj ?_; intro nm q bs sn sub col dd hqr; refine xe5_1 hqr ?_; (try clear hqr); intro k0 k1 k2 k3 k5 hC)
    exact callWith_C (ha E _ fun vs F1 s1 t1 ok1 r1 => ⟨ok1.keep _ _ hC, hcall A F1 s1 vs hr ok1 r1 E Q fun v F2 s2 t2 ok2 r2 => hQ v F2 s2 (t1.seq t2) ok2 r2⟩)
  · exact Calls.callWith_function (evalArgs_T (ha E _ fun vs F1 s1 t1 ok1 r1 => ⟨⟨ok1.keep _ _ ho, hd⟩, hcall A F1 s1 vs hr ok1 r1 E Q fun v F2 s2 t2 ok2 r2 => hQ v F2 s2 (t1.seq t2) ok2 r2⟩))
theorem user_meth {f : Str → List D → Option D} (hc : CallOk prog w C B fv k f) (hr : Room A k) {x : Str} {es : List Expr} {ds : List D} {d d0 : D} {v0 : Value} {pos : Pos} (h : f x (d0 :: ds) = some d) (r0 : Rep prog w C F d0 v0)
    (ha : SArgs prog w C B A F s env es ds) {a : Addr} {o : Obj} {fd : FuncData} (hf : fv x = some a) (ho : B.get? a = some o) (hd : o.data = .func fd) : Ev prog w C B A F s (callWith pos (.ref a) [v0] (plainT es env) []) d := by
  (refine xe1_3 (hc x _ d h) ?_; intro a' hf' hk hcall)
  rw [hf] at hf'; cases hf'
  exact fun E Q hQ => Calls.callWith_function (evalArgs_T (ha E _ fun vs F1 s1 t1 ok1 r1 => ⟨⟨ok1.keep _ _ ho, hd⟩, hcall A F1 s1 (v0 :: vs) hr ok1 (.cons (r0.mono t1.ext) r1) E Q fun v F2 s2 t2 ok2 r2 => hQ v F2 s2 (t1.seq t2) ok2 r2⟩))
theorem name_var {lo : Nat} {ps : List Addr} {ρ : Sc} {c : Cx} (he : EnvOk c env) (st : St prog w C B lo ps env F s ρ) {x : Str} {pos : Pos} {sl : Slot} (hv : isVar c.names x = true) (hx : lkp ρ x = some sl)
    {E : Value → Shared → Prop} {Q : Value → Shared → Prop} (hQ : ∀ v, SlotOk prog w C F s.heap sl v → Q v s) : wpAny (model prog w) A (eval (.Name x pos) env) Q E s := by
  (refine xe0_3 (he.var hv) ?_; intro h1 h2 h3)
  exact wpAny_Name (st.load hx h1 h3 hQ) h2
theorem name_glob {lo : Nat} {ps : List Addr} {ρ : Sc} {c : Cx} (base : Base prog w B C tab fv mg mb) (he : EnvOk c env) (st : St prog w C B lo ps env F s ρ) {x : Str} {pos : Pos} {v : Value} (hv : isGlob c.names x = true)
    (hx : mg x = some v ∨ (mg x = none ∧ mb x = some v)) {E : Value → Shared → Prop} {Q : Value → Shared → Prop} (hQ : Q v s) : wpAny (model prog w) A (eval (.Name x pos) env) Q E s := by
  (refine xe0_2 (he.glob hv) ?_; intro h1 h2)
  (refine xe1_1 st ?_; (try clear st); intro m st)
  have g := base.gs st.ok
  have b := base.bs st.ok
  refine Calls.Name_function_global st.frm.kind h1 ?_ h2
  rcases hx with hx | ⟨hx, hy⟩
  · exact Calls.loadGlobal_global (by rw [st.frm.glob]; exact g) hx hQ
  · exact Calls.loadGlobal_builtin (by rw [st.frm.glob]; exact g) hx (by rw [st.frm.blt]; exact b) hy hQ
end
end Mine
end

section
open PySem PySem.W PyProof.Rows
set_option tactic.hygienic false
namespace Mine
section
variable {prog : Program} {w : World} {C : Addr} {B : Heap} {A : Around} {F F' : FH} {s s' : Shared} {fv : Str → Option Addr} {tab : List (Str × Fn)} {mg mb : Str → Option Value} {env : Env} {k n lo : Nat} {ps : List Addr} {ρ : Sc} {c : Cx}
theorem s_const (ok : Ok B F s) {c0 : Const} {j : Nat} {pos : Pos} {d : D} (h : constD c0 = some d) : EvS prog w C B A F s (eval (.Constant c0 j pos) env) (.fr d) := by
  intro E Q hQ
  unfold constD at h
  split at h <;> cases h
  · exact wpAny_Constant_none (EvS.tok (tk := s.toks) ok .none hQ)
  · exact wpAny_Constant_bool (EvS.tok (tk := s.toks) ok (.bool _) hQ)
  · exact wpAny_Constant_int (EvS.tok ok (.int _ _) hQ)
  · exact wpAny_Constant_str (EvS.tok ok (.str _ _) hQ)
theorem s_list (ih : Snd prog w C B fv n) (he : EnvOk c env) (hc : CallOk prog w C B fv k c.call) (hr : Room A k) (st : St prog w C B lo ps env F s ρ) {elts : List Expr} {pos : Pos} {ds : List D} (h : evL n c ρ elts = some ds) (hl : ds.length ≤ 1000000) :
    EvS prog w C B A F s (eval (.List elts pos) env) (.ol ds) := by
  intro E Q hQ
  refine List_ ?_
  rw [trees_eq env pos h]
  refine ih.l he hc hr st h E _ fun vs F1 s1 t1 ok1 r1 => ?_
  (refine xe0_2 (newOl ok1 r1) ?_; intro q1 q2)
  exact wpAny_newObj_type (hQ _ F1 _ (t1.seq (Ste.push ok1 _ s1.toks)) (ok1.push _ s1.toks) q1 fun a ha => Nat.le_trans t1.size (q2 a ha)) (by show vs.toArray.size ≤ sizeLine; rw [List.size_toArray, r1.length, sizeLine_eq]; omega)
theorem s_tuple (ih : Snd prog w C B fv n) (he : EnvOk c env) (hc : CallOk prog w C B fv k c.call) (hr : Room A k) (st : St prog w C B lo ps env F s ρ) {elts : List Expr} {j : Nat} {pos : Pos} {ds : List D} (h : evL n c ρ elts = some ds) (hl : ds.length ≤ 1000000) :
    EvS prog w C B A F s (eval (.Tuple elts j pos) env) (.fr (.tup ds)) := by
  refine Ev.slot fun E Q hQ => ?_
  refine Tuple_ ?_
  rw [trees_eq env pos h]
  refine ih.l he hc hr st h E _ fun vs F1 s1 t1 ok1 r1 => ?_
  refine wpAny_newObj_type (hQ _ _ _ (t1.seq (Ste.pushF ok1 _ s1.toks)) (ok1.pushF _ rfl s1.toks) (.tup (FH.add_self _ _) rfl rfl (r1.mono (FH.add_ext (ok1.fnone (Nat.le_refl _)) _)))) (by show vs.toArray.size ≤ sizeLine; rw [List.size_toArray, r1.length, sizeLine_eq]; omega)
theorem s_dict (base : Base prog w B C tab fv mg mb) (ok : Ok B F s) {pos : Pos} : EvS prog w C B A F s (eval (.Dict [] [] pos) env) (.od []) := by
  intro E Q hQ
  refine wpAny_Dict_empty (hQ _ F _ (Ste.push ok _ s.toks) (ok.push _ s.toks) ?_ fun a ha => by cases ha; exact Nat.le_refl _)
  (refine xe1_2 (Heap.dictOf_iff.mp (Heap.DictOf.new (knd := strKind prog w) s.heap)) ?_; intro o ho hd)
  refine ⟨_, o, [], rfl, ok.fnone (Nat.le_refl _), ho, hd, ?_, .nil⟩
  have h1 := modules_low (base.lim.keeps ok.keep)
  exact beq_false_of_ne (Nat.ne_of_gt h1)
theorem s_binop (ih : Snd prog w C B fv n) (he : EnvOk c env) (hc : CallOk prog w C B fv k c.call) (hr : Room A k) (st : St prog w C B lo ps env F s ρ) {a b : Expr} {op : Operator} {pos : Pos} {x y d : D}
    (h1 : evE n c ρ a = some x) (h2 : evE n c ρ b = some y) (h : binD op x y = some d) : EvS prog w C B A F s (eval (.BinOp a op b pos) env) (toOwn d) := by
  intro E Q hQ
  refine wpAny_BinOp ((ih.e he hc hr st h1).ev E _ fun v1 F1 s1 t1 ok1 r1 => ?_)
  refine (ih.e he hc hr (st.step t1 (Nat.le_refl _) ok1) h2).ev E _ fun v2 F2 s2 t2 ok2 r2 => ?_
  exact bin_ok h ok2 (r1.mono t2.ext) r2 E _ fun v F3 s3 t3 ok3 r3 hn => hQ v F3 s3 ((t1.seq t2).seq t3) ok3 r3 fun a ha => Nat.le_trans (t1.seq t2).size (hn a ha)
theorem s_listmul (ih : Snd prog w C B fv n) (he : EnvOk c env) (hc : CallOk prog w C B fv k c.call) (hr : Room A k) (st : St prog w C B lo ps env F s ρ) {elts : List Expr} {p1 pos : Pos} {b : Expr} {ds : List D} {i : Int}
    (h1 : evL n c ρ elts = some ds) (h2 : evE n c ρ b = some (.int i)) (hlo : -1000 ≤ i) (hhi : i ≤ 1000) (hl : ds.length ≤ 1000) : EvS prog w C B A F s (eval (.BinOp (.List elts p1) .Mult b pos) env) (.ol (List.replicate i.toNat ds).flatten) := by
  intro E Q hQ
  refine wpAny_BinOp (s_list ih he hc hr st h1 (by omega) E _ fun v1 F1 s1 t1 ok1 r1 hn1 => ?_)
  refine (ih.e he hc hr (st.step t1 (Nat.le_refl _) ok1) h2).ev E _ fun v2 F2 s2 t2 ok2 r2 => ?_
  cases r2
  have r1' := SlotOk.step prog w C r1 t2.ext fun b hb ho => t2.old b (r1.owned _ _ _ ho).2 hb
  exact rep_ok ok2 r1' hlo hhi hl E _ fun v F3 s3 t3 ok3 r3 hn => hQ v F3 s3 ((t1.seq t2).seq t3) ok3 r3 fun a ha => Nat.le_trans (t1.seq t2).size (hn a ha)
theorem s_neg (ok : Ok B F s) {i : Int} {j : Nat} {p pos : Pos} : EvS prog w C B A F s (eval (.UnaryOp .USub (.Constant (.int i) j p) pos) env) (.fr (.int (-i))) := by
  intro E Q hQ
  exact wpAny_UnaryOp (wpAny_Constant_int (PyProof.Rows.neg_int (EvS.tok ok (.int _ _) hQ)))
theorem s_ifexp (ih : Snd prog w C B fv n) (he : EnvOk c env) (hc : CallOk prog w C B fv k c.call) (hr : Room A k) (st : St prog w C B lo ps env F s ρ) {t a b : Expr} {pos : Pos} {x : Bool} {d : D}
    (h1 : evT n c ρ t = some x) (h2 : evE n c ρ (if x then a else b) = some d) : EvS prog w C B A F s (eval (.IfExp t a b pos) env) (.fr d) := by
  refine Ev.slot fun E Q hQ => ?_
  refine wpAny_IfExp (ih.t he hc hr st h1 E _ fun F1 s1 t1 ok1 => ?_)
  have st1 := st.step t1 (Nat.le_refl _) ok1
  cases x
  · exact (ih.e he hc hr st1 h2).ev E _ fun v F2 s2 t2 ok2 r2 => hQ v F2 s2 (t1.seq t2) ok2 r2
  · exact (ih.e he hc hr st1 h2).ev E _ fun v F2 s2 t2 ok2 r2 => hQ v F2 s2 (t1.seq t2) ok2 r2
theorem not_setP {r : Expr} {y : D} (h : evP n c ρ r = some y) (op : CmpOp) : behindInMarks op r = false := by
  cases r <;> try rfl
  cases n with
  | zero => exact nos1 h
  | succ m =>
    unfold evP at h
    cases m with
    | zero => exact nos1 h
    | succ m => exact nos1 h
theorem room_c (hr : Room A k) : A.units + 10 < cLine := by
  have h := hr.2.2
  show A.units + 10 < 9900
  omega
theorem s_cmp (ih : Snd prog w C B fv n) (he : EnvOk c env) (hc : CallOk prog w C B fv k c.call) (hr : Room A k) (st : St prog w C B lo ps env F s ρ) {l r : Expr} {op : CmpOp} {pos : Pos} {x y : D} {b : Bool}
    (h1 : evP n c ρ l = some x) (h2 : evP n c ρ r = some y) (h : cmpD op x y = some b) : EvS prog w C B A F s (eval (.Compare l [op] [r] pos) env) (.fr (.bool b)) := by
  intro E Q hQ
  refine wpAny_Compare1 (ih.p he hc hr st h1 E _ fun v1 F1 s1 t1 ok1 r1 => ?_) (not_setP h2 op)
  refine ih.p he hc hr (st.step t1 (Nat.le_refl _) ok1) h2 E _ fun v2 F2 s2 t2 ok2 r2 => ?_
  refine cmp_ok (room_c hr) ok2 (r1.ste t2) r2 h fun tk => ?_
  exact hQ _ F2 _ ((t1.seq t2).toks tk) (ok2.toks tk) (.bool _) fun _ o => o.elim
end
end Mine
end

section
open PySem PySem.W PyProof.Rows
set_option tactic.hygienic false
namespace Mine
theorem bval_form (k : BK) : (∃ id, bval k = .builtin id) ∨ ∃ T, bval k = .type T := by
  cases k <;> first | exact .inl ⟨_, rfl⟩ | exact .inr ⟨_, rfl⟩
section
variable {prog : Program} {w : World} {C : Addr} {B : Heap} {A : Around} {F F' : FH} {s s' : Shared} {fv : Str → Option Addr} {tab : List (Str × Fn)} {mg mb : Str → Option Value} {env : Env} {k n lo : Nat} {ps : List Addr} {ρ : Sc} {c : Cx}
theorem isi_tuple {a : Addr} {o : Obj} {E : Value → Shared → Prop} {Q : Value → Shared → Prop} (ho : s.heap.get? a = some o) (hc : o.cls = .type "tuple") (h : Q (.bool true) s) : wpAny (model prog w) A (call (.builtin "isinstance") [.ref a, .type "tuple"]) Q E s :=
  call_isinstance (isinstance_true (Tx := "tuple") PySem.F.isi_meta_tuple PySem.F.isi_self_tuple) ⟨⟨o, ho, hc⟩, h⟩
theorem callWith_b {pos : Pos} {v : Value} {es : List Expr} {E : Value → Shared → Prop} {Q : Value → Shared → Prop} {M : Model} (hv : (∃ id, v = .builtin id) ∨ ∃ T, v = .type T)
    (h : wpAny M A (spliced (plainT es env)) (fun vs s₁ => wpAny M A (call v vs) Q E s₁) E s) : wpAny M A (callWith pos v [] (plainT es env) []) Q E s := by
  rcases hv with ⟨id, rfl⟩ | ⟨T, rfl⟩
  · exact Calls.callWith_builtin (plainT_any es) (evalArgs_T h)
  · exact PyProof.Rows.callWith_type (plainT_any es) (evalArgs_T h)
theorem s_built (base : Base prog w B C tab fv mg mb) (he : EnvOk c env) (hr : Room A k) (st : St prog w C B lo ps env F s ρ) {f : Str} {kd : BK} {p pos : Pos} {es : List Expr} {ds : List D} {d : D} (hg : isGlob c.names f = true)
    (hk : bk f = some kd) (h : builtK kd ds = some d) (ht : backTo pos (starEach es env) = plainT es env) (ha : SArgs prog w C B A F s env es ds) : EvS prog w C B A F s (eval (.Call (.Name f p) es [] pos) env) (.fr d) := by
  refine Ev.slot fun E Q hQ => ?_
  have hb := base.blt kd
  rw [← bk_eq hk] at hb
  refine wpAny_Call_NameR (name_glob base he st hg (.inr hb) ?_)
  rw [ht]
  refine callWith_b (bval_form kd) (ha E _ fun vs F1 s1 t1 ok1 r1 => ?_)
  exact built_ok h hr.1 ok1 r1 E Q fun v F2 s2 t2 ok2 r2 => hQ v F2 s2 (t1.seq t2) ok2 r2
theorem s_len (base : Base prog w B C tab fv mg mb) (ih : Snd prog w C B fv n) (he : EnvOk c env) (hc : CallOk prog w C B fv k c.call) (hr : Room A k) (st : St prog w C B lo ps env F s ρ) {a : Expr} {p pos : Pos} {x d : D} (hg : isGlob c.names (Str.ofString "len") = true)
    (h1 : evP n c ρ a = some x) (h : lenD x = some d) (hs : ∀ y q, a ≠ .Starred y q) : EvS prog w C B A F s (eval (.Call (.Name (Str.ofString "len") p) [a] [] pos) env) (.fr d) := by
  refine Ev.slot fun E Q hQ => ?_
  refine wpAny_Call_NameR (name_glob base he st hg (.inr (base.blt .len)) ?_)
  have ht : backTo pos (starEach [a] env) = plainT [a] env := by rw [star_cons hs]; rfl
  rw [ht]
  refine callWith_b (.inl ⟨_, rfl⟩) (Calls.spliced_cons (ih.p he hc hr st h1 E _ fun v F1 s1 t1 ok1 r1 => Calls.spliced_nil ?_))
  exact len_ok h ok1 r1 E Q fun v F2 s2 t2 ok2 r2 => hQ v F2 s2 (t1.seq t2) ok2 r2
theorem s_isi (base : Base prog w B C tab fv mg mb) (ih : Snd prog w C B fv n) (he : EnvOk c env) (hc : CallOk prog w C B fv k c.call) (hr : Room A k) (st : St prog w C B lo ps env F s ρ) {a : Expr} {p p2 pos : Pos} {x : D} {b : Bool} (hg : isGlob c.names (Str.ofString "isinstance") = true) (hg2 : isGlob c.names (Str.ofString "tuple") = true)
    (h1 : evE n c ρ a = some x) (h : (∃ l, x = .tup l ∧ b = true) ∨ ∃ i, x = .int i ∧ b = false) : EvS prog w C B A F s (eval (.Call (.Name (Str.ofString "isinstance") p) [a, .Name (Str.ofString "tuple") p2] [] pos) env) (.fr (.bool b)) := by
  refine Ev.slot fun E Q hQ => ?_
  refine wpAny_Call_NameR (name_glob base he st hg (.inr (base.blt .isi)) ?_)
  have ht : backTo pos (starEach [a, .Name (Str.ofString "tuple") p2] env) = plainT [a, .Name (Str.ofString "tuple") p2] env := by
    rw [star_cons (not_starred h1)]; rfl
  rw [ht]
  refine callWith_b (.inl ⟨_, rfl⟩) (Calls.spliced_cons ((ih.e he hc hr st h1).ev E _ fun v F1 s1 t1 ok1 r1 => Calls.spliced_cons ?_))
  refine name_glob base he (st.step t1 (Nat.le_refl _) ok1) hg2 (.inr (base.blt .tuple)) (Calls.spliced_nil ?_)
  rcases h with ⟨l, rfl, rfl⟩ | ⟨i, rfl, rfl⟩
  · cases r1 with
    | tup h1 h2 h3 h4 => exact isi_tuple (ok1.subT h1 h2) h2 (hQ _ F1 s1 t1 ok1 (.bool _))
  · cases r1
    exact IsiPair.int_tuple (hQ _ F1 _ (t1.toks _) (ok1.toks _) (.bool _))
theorem s_user (base : Base prog w B C tab fv mg mb) (ih : Snd prog w C B fv n) (he : EnvOk c env) (hc : CallOk prog w C B fv k c.call) (hr : Room A k) (st : St prog w C B lo ps env F s ρ) {f : Str} {p pos : Pos} {es : List Expr} {ds : List D} {d : D} (hg : isGlob c.names f = true)
    (hm : methFns.contains f = false) (h1 : evL n c ρ es = some ds) (h : c.call f ds = some d) : EvS prog w C B A F s (eval (.Call (.Name f p) es [] pos) env) (.fr d) := by
  refine Ev.slot fun E Q hQ => ?_
  (refine xe1_2 (user_call (pos := pos) base hc hr h (ih.l he hc hr st h1)) ?_; intro a ha hcall)
  refine wpAny_Call_NameR (name_glob base he st hg (.inl (base.glob f a ha hm)) ?_)
  rw [trees_eq env pos h1]
  exact hcall E Q hQ
theorem base_plain {o : Expr} {m : Str} (h : plainBase o = true) : attributeBase o m env (eval o env) = eval o env := by
  cases o <;> first | rfl | cases h
theorem s_method (ih : Snd prog w C B fv n) (he : EnvOk c env) (hc : CallOk prog w C B fv k c.call) (hr : Room A k) (st : St prog w C B lo ps env F s ρ) {o : Expr} {m : Str} {kd : MK} {ap pos : Pos} {es : List Expr} {x d : D} {ds : List D}
    (hb : plainBase o = true) (hl : (ap.endLine == pos.line) = true) (hn : es.length < 20) (h1 : evE n c ρ o = some x) (h2 : evL n c ρ es = some ds) (hk : mk m = some kd) (h : methK kd x ds = some d) :
    EvS prog w C B A F s (eval (.Call (.Attribute o m ap) es [] pos) env) (if kd = .split then toOwn d else .fr d) := by
  intro E Q hQ
  refine Call_attr (base_plain hb) hn hl (trees_eq env pos h2) ((ih.e he hc hr st h1).ev E _ fun v F1 s1 t1 ok1 r1 pl => ?_)
  (refine xe0_3 (methId_ok kd) ?_; intro q1 q2 q3)
  rw [← mk_eq hk] at q2
  (refine xe0_2 (isOf_type (methK_of h) ok1 r1) ?_; intro q4 q5)
  refine getMethod_builtin q4 q1 q2 q3 q5 ?_
  refine Calls.callWith_builtin (plainT_any es) (evalArgs_T (ih.l he hc hr (st.step t1 (Nat.le_refl _) ok1) h2 E _ fun vs F2 s2 t2 ok2 r2 => ?_))
  exact meth_ok h ok2 (r1.mono t2.ext) r2 E Q fun v F3 s3 t3 ok3 r3 hn => hQ v F3 s3 ((t1.seq t2).seq t3) ok3 r3 fun a ha => Nat.le_trans (t1.seq t2).size (hn a ha)
theorem s_imeth (base : Base prog w B C tab fv mg mb) (ih : Snd prog w C B fv n) (he : EnvOk c env) (hc : CallOk prog w C B fv k c.call) (hr : Room A k) (st : St prog w C B lo ps env F s ρ) {o : Expr} {m f : Str} {ap pos : Pos} {es : List Expr} {as : List (Str × D)} {d : D} {ds : List D}
    (hb : plainBase o = true) (hl : (ap.endLine == pos.line) = true) (hn : es.length < 20) (h1 : evE n c ρ o = some (.inst as)) (h2 : evL n c ρ es = some ds) (hm : methName m = some f) (hk : lkp as m = none) (h : c.call f (.inst as :: ds) = some d) :
    EvS prog w C B A F s (eval (.Call (.Attribute o m ap) es [] pos) env) (.fr d) := by
  refine Ev.slot fun E Q hQ => ?_
  refine Call_attr (base_plain hb) hn hl (trees_eq env pos h2) ((ih.e he hc hr st h1).ev E _ fun v F1 s1 t1 ok1 r1 pl => ?_)
  have r1' := r1
  cases r1 with
  | inst g1 g2 g3 g4 g5 =>
    have hk' := g4.lk m
    rw [hk] at hk'
    refine inst_method base.cls ok1 g3 (ok1.subC g1 g3.cls) (ok1.subI g2 g3) g5 hm hk' fun fa of fd hfa hob hd => ?_
    exact user_meth hc hr h r1' (ih.l he hc hr (st.step t1 (Nat.le_refl _) ok1) h2) hfa hob hd E Q fun v F2 s2 t2 ok2 r2 => hQ v F2 s2 (t1.seq t2) ok2 r2
theorem s_slice (ih : Snd prog w C B fv n) (he : EnvOk c env) (hc : CallOk prog w C B fv k c.call) (hr : Room A k) (st : St prog w C B lo ps env F s ρ) {v : Expr} {a b st' : Option Expr} {p pos : Pos} {x d : D} {l u t : Option Int}
    (h1 : evE n c ρ v = some x) (h2 : evO n c ρ a = some l) (h3 : evO n c ρ b = some u) (h4 : evO n c ρ st' = some t) (h : sliceD x l u t = some d) : EvS prog w C B A F s (eval (.Subscript v (.Slice a b st' p) pos) env) (toOwn d) := by
  intro E Q hQ
  refine Subscript_ ((ih.e he hc hr st h1).ev E _ fun v1 F1 s1 t1 ok1 r1 => ?_)
  refine wpAny_Slice ?_
  have st1 := st.step t1 (Nat.le_refl _) ok1
  refine ih.o he hc hr st1 h2 E _ fun v2 F2 s2 t2 ok2 r2 => ?_
  have st2 := st1.step t2 (Nat.le_refl _) ok2
  refine ih.o he hc hr st2 h3 E _ fun v3 F3 s3 t3 ok3 r3 => ?_
  have st3 := st2.step t3 (Nat.le_refl _) ok3
  refine ih.o he hc hr st3 h4 E _ fun v4 F4 s4 t4 ok4 r4 => ?_
  have t5 := Ste.push ok4 { cls := .type "slice", data := .fields #[v2, v3, v4] } s4.toks
  have ok5 := ok4.push { cls := .type "slice", data := .fields #[v2, v3, v4] } s4.toks
  refine slice_ok h ok5 (r1.mono ((t2.seq t3).seq t4).ext) ?_ r2 r3 r4 E _ fun v F6 s6 t6 ok6 r6 hn => hQ v F6 s6 (((((t1.seq t2).seq t3).seq t4).seq t5).seq t6) ok6 r6 fun a ha => Nat.le_trans ((((t1.seq t2).seq t3).seq t4).seq t5).size (hn a ha)
  exact ⟨_, Heap.get?_push_size _ rfl, rfl, rfl⟩
theorem not_slice {x : Expr} {y : D} (h : evE n c ρ x = some y) : ∀ a b c p, x ≠ .Slice a b c p := by
  rintro a b c p rfl
  cases n with
  | zero => exact nos1 h
  | succ n => exact nos1 h
theorem s_item (ih : Snd prog w C B fv n) (he : EnvOk c env) (hc : CallOk prog w C B fv k c.call) (hr : Room A k) (st : St prog w C B lo ps env F s ρ) {v i : Expr} {pos : Pos} {x y d : D}
    (h1 : evP n c ρ v = some x) (h2 : evE n c ρ i = some y) (h : subD x y = some d) : EvS prog w C B A F s (eval (.Subscript v i pos) env) (.fr d) := by
  refine Ev.slot fun E Q hQ => ?_
  refine Subscript_ (ih.p he hc hr st h1 E _ fun v1 F1 s1 t1 ok1 r1 => ?_)
  refine (ih.e he hc hr (st.step t1 (Nat.le_refl _) ok1) h2).ev E _ fun v2 F2 s2 t2 ok2 r2 => ?_
  exact item_ok (fun a b c p e => not_slice h2 a b c p e) h ok2 (r1.ste t2) r2 E _ fun v F3 s3 t3 ok3 r3 => hQ v F3 s3 ((t1.seq t2).seq t3) ok3 r3
theorem s_attr (base : Base prog w B C tab fv mg mb) (he : EnvOk c env) (st : St prog w C B lo ps env F s ρ) {x a : Str} {p pos : Pos} {sl : Slot} {as : List (Str × D)} {d : D} (hv : isVar c.names x = true) (hx : lkp ρ x = some sl) (hs : slotD sl = .inst as)
    (hn : instNames.contains a = true) (h : lkp as a = some d) : EvS prog w C B A F s (eval (.Attribute (.Name x p) a pos) env) (.fr d) := by
  refine Ev.slot fun E Q hQ => ?_
  refine Attribute_Name_ (name_var he st hv hx fun v hsl => ?_)
  have ok := st.ok
  cases sl with
  | fr d' =>
    cases hs
    cases hsl with
    | inst g1 g2 g3 g4 g5 =>
      have := g4.lk a
      rw [h] at this
      (refine xe1_2 this ?_; (try clear this); intro u hu hr)
      exact inst_attr base.cls ok g3 (ok.subC g1 g3.cls) (ok.subI g2 g3) g5 hu hn hr.handed (hQ _ F _ ((Ste.refl ..).toks _) (ok.toks _) hr)
  | oi t l =>
    cases hs
    (refine xe5_3 hsl ?_; (try clear hsl); intro a' dx o od kvs hq5; rcases hq5 with rfl; intro g1 hqr; refine xe0_7 hqr ?_; (try clear hqr); intro g2 g3 g4 g5 g6 g7 g8)
    have := g7.lk a
    rw [h] at this
    (refine xe1_2 this ?_; (try clear this); intro u hu hr)
    exact inst_attr base.cls ok g6 g4 g5 g3 hu hn hr.handed (hQ _ F _ ((Ste.refl ..).toks _) (ok.toks _) hr)
  | ol l => cases hs
  | od l => cases hs
theorem s_cattr (base : Base prog w B C tab fv mg mb) (he : EnvOk c env) (st : St prog w C B lo ps env F s ρ) {x a : Str} {p pos : Pos} {d : D} (hv : isGlob c.names x = true) (h : classAttr x a = some d) : EvS prog w C B A F s (eval (.Attribute (.Name x p) a pos) env) (.fr d) := by
  refine Ev.slot fun E Q hQ => ?_
  have e : x = Str.ofString "Whitespace" := by
    unfold classAttr at h
    split at h
    · assumption
    · cases h
  subst e
  have ok := st.ok
  refine Attribute_Name_ (name_glob base he st hv (.inl base.clsn) ?_)
  exact base.cls.attr a d h _ _ _ _ _ ok.keep fun v tk hr => hQ _ F _ ((Ste.refl ..).toks _) (ok.toks _) (hr F)
end
end Mine
end

section
open PySem PySem.W PyProof.Rows
namespace Mine
section
variable {prog : Program} {w : World} {C : Addr} {B : Heap} {A : Around} {F F' : FH} {s s' : Shared} {fv : Str → Option Addr} {tab : List (Str × Fn)} {mg mb : Str → Option Value} {env : Env} {k n lo : Nat} {ps : List Addr} {ρ : Sc} {c : Cx}
theorem truth_ok (ok : Ok B F s) {d : D} {v : Value} {b : Bool} (h : truthD d = some b) (r : Rep prog w C F d v) {E : Value → Shared → Prop} {Q : Bool → Shared → Prop}
    (hQ : ∀ F' s', Ste s.heap.objs.size F s F' s' → Ok B F' s' → Q b s') : wpAny (model prog w) A (truthy v) Q E s := by
  unfold truthD at h
  split at h
  · cases h; cases r; exact wpAny_truthy_bool (hQ F s (.refl ..) ok)
  · cases h; cases r; exact PyProof.Rows.truthy_int (hQ F s (.refl ..) ok)
  · split at h
    · rename_i hl
      cases h; cases r
      exact PySem.P.truthy_str (by omega) (hQ F _ ((Ste.refl ..).toks _) (ok.toks _))
    · cases h
  · cases h
theorem globD_ok (base : Base prog w B C tab fv mg mb) (he : EnvOk c env) (st : St prog w C B lo ps env F s ρ) {x : Str} {p : Pos} {d : D} (hg : isGlob c.names x = true) (h : globD x = some d) : Ev prog w C B A F s (eval (.Name x p) env) d := by
  intro E Q hQ
  unfold globD at h
  refine ite_el h ?_; (try clear h); rintro rfl h
  cases h
  (refine xe1_1 base.mark ?_; intro t ht)
  exact name_glob base he st hg (.inl ht) (hQ _ F s (.refl ..) st.ok (.str _ _))
theorem s_name (base : Base prog w B C tab fv mg mb) (he : EnvOk c env) (st : St prog w C B lo ps env F s ρ) {x : Str} {p : Pos} {d : D} (h : nameD c ρ x = some d) : EvS prog w C B A F s (eval (.Name x p) env) (.fr d) := by
  refine Ev.slot ?_
  unfold nameD at h
  split at h
  · rename_i hv
    refine bind_el h ?_; (try clear h); intro sl hx h
    intro E Q hQ
    cases sl <;> cases h
    exact name_var he st hv hx fun v hs => hQ v F s (.refl ..) st.ok hs
  · split at h
    · rename_i hg
      exact globD_ok base he st hg h
    · cases h
theorem s_evP (base : Base prog w B C tab fv mg mb) (ih : Snd prog w C B fv n) (he : EnvOk c env) (hc : CallOk prog w C B fv k c.call) (hr : Room A k) (st : St prog w C B lo ps env F s ρ) {x : Expr} {d : D} (h : evP (n + 1) c ρ x = some d) :
    EvV prog w C B A F s (eval x env) d := by
  unfold evP at h
  split at h
  · rename_i x' hx'
    (refine xe1_1 (vName_eq hx') ?_; intro p hq1; rcases hq1 with rfl)
    split at h
    · rename_i hv
      refine map_el h ?_; (try clear h); rintro sl hx rfl
      intro E Q hQ
      exact name_var he st hv hx fun v hs => hQ v F s (.refl ..) st.ok ⟨sl, rfl, hs⟩
    · split at h
      · rename_i hg
        exact (globD_ok base he st hg h).view
      · cases h
  · exact (ih.e he hc hr st h).ev.view
theorem s_evL (ih : Snd prog w C B fv n) (he : EnvOk c env) (hc : CallOk prog w C B fv k c.call) (hr : Room A k) (st : St prog w C B lo ps env F s ρ) {es : List Expr} {ds : List D} (h : evL (n + 1) c ρ es = some ds) :
    SArgs prog w C B A F s env es ds := by
  intro E Q hQ
  unfold evL at h
  cases es with
  | nil => cases h; exact Calls.spliced_nil (hQ [] F s (.refl ..) st.ok .nil)
  | cons e r =>
    refine bind_el h ?_; (try clear h); intro d1 h1 h
    refine bind_el h ?_; (try clear h); intro d2 h2 h
    cases h
    refine Calls.spliced_cons ((ih.e he hc hr st h1).ev E _ fun v F1 s1 t1 ok1 r1 => ?_)
    exact ih.l he hc hr (st.step t1 (Nat.le_refl _) ok1) h2 E _ fun vs F2 s2 t2 ok2 r2 => hQ (v :: vs) F2 s2 (t1.seq t2) ok2 (.cons (r1.mono t2.ext) r2)
theorem s_evO (ih : Snd prog w C B fv n) (he : EnvOk c env) (hc : CallOk prog w C B fv k c.call) (hr : Room A k) (st : St prog w C B lo ps env F s ρ) {x : Option Expr} {i : Option Int} (h : evO (n + 1) c ρ x = some i) (E : Value → Shared → Prop) (Q : Value → Shared → Prop)
    (hQ : ∀ v F' s', Ste s.heap.objs.size F s F' s' → Ok B F' s' → IsPart v i → Q v s') : wpAny (model prog w) A (evalPart x env) Q E s := by
  unfold evO at h
  cases x with
  | none => cases h; exact wpAny_pure (hQ .none F s (.refl ..) st.ok (by first | exact .none | rfl | trivial))
  | some e =>
    refine bind_el h ?_; (try clear h); intro d1 h1 h
    refine map_el h ?_; (try clear h); rintro i' h2 rfl
    obtain rfl := intOf_eq h2
    refine (ih.e he hc hr st h1).ev E Q fun v F1 s1 t1 ok1 r1 => ?_
    cases r1
    exact hQ _ F1 s1 t1 ok1 (by first | exact .int _ _ | rfl | trivial)
theorem boolOp_cons {M : Model} {pos : Pos} {op : BoolOp} {x y : Sem Value} {rest : List (Sem Value)} {E : Value → Shared → Prop} {Q : Value → Shared → Prop}
    (h : wpAny M A x (fun v s₁ => wpAny M A (truthy v) (fun t s₂ => match op, t with | .And, false | .Or, true => Q v s₂ | _, _ => wpAny M A (boolOp pos op (y :: rest)) Q E s₂) E s₁) E s) : wpAny M A (boolOp pos op (x :: y :: rest)) Q E s := by
  rw [boolOp]
  case x_2 => exact fun q => nomatch q
  refine wpAny_bind (wpAny_mono h (fun v s₁ h₁ => wpAny_bind (wpAny_standAt (wpAny_bind (wpAny_holding (wpAny_mono h₁ (fun t s₂ h₂ => ?_) fun _ _ x => x))))) fun _ _ x => x)
  cases op <;> cases t <;> first | exact wpAny_pure h₂ | exact h₂
theorem s_evB (ih : Snd prog w C B fv n) (he : EnvOk c env) (hc : CallOk prog w C B fv k c.call) (hr : Room A k) (st : St prog w C B lo ps env F s ρ) {pos : Pos} {op : BoolOp} {vs : List Expr} {d : D} (h : evB (n + 1) c ρ op vs = some d) :
    Ev prog w C B A F s (boolOp pos op (evalEach vs env)) d := by
  intro E Q hQ
  unfold evB at h
  cases vs with
  | nil => cases h
  | cons e r =>
    dsimp only at h
    cases r with
    | nil => exact (ih.e he hc hr st h).ev E Q hQ
    | cons e2 r =>
      rw [if_neg (fun q => by cases q)] at h
      refine bind_el h ?_; (try clear h); intro d1 h1 h
      refine bind_el h ?_; (try clear h); intro b hb h
      refine boolOp_cons ((ih.e he hc hr st h1).ev E _ fun v F1 s1 t1 ok1 r1 => truth_ok ok1 hb r1 fun F2 s2 t2 ok2 => ?_)
      have st2 := st.step (t1.seq t2) (Nat.le_refl _) ok2
      have go : (b = (op == .Or) → d1 = d → Q v s2) := fun _ e => by subst e; exact hQ v F2 s2 (t1.seq t2) ok2 (r1.mono t2.ext)
      have go2 : evB n c ρ op (e2 :: r) = some d → wpAny (model prog w) A (boolOp pos op (evalEach (e2 :: r) env)) Q E s2 := fun h => ih.b he hc hr st2 h E Q fun v F3 s3 t3 ok3 r3 => hQ v F3 s3 ((t1.seq t2).seq t3) ok3 r3
      cases op <;> cases b
      · exact go rfl (Option.some.inj h)
      · exact go2 h
      · exact go2 h
      · exact go rfl (Option.some.inj h)
theorem s_evTs (ih : Snd prog w C B fv n) (he : EnvOk c env) (hc : CallOk prog w C B fv k c.call) (hr : Room A k) (st : St prog w C B lo ps env F s ρ) {op : BoolOp} {vs : List Expr} {b : Bool} (h : evTs (n + 1) c ρ op vs = some b) (E : Value → Shared → Prop) (Q : Bool → Shared → Prop)
    (hQ : ∀ F' s', Ste s.heap.objs.size F s F' s' → Ok B F' s' → Q b s') : wpAny (model prog w) A (allTrue op vs env) Q E s := by
  unfold evTs at h
  cases vs with
  | nil =>
    cases op <;> cases h
    · exact wpAny_allTrue_And_nil (hQ F s (.refl ..) st.ok)
    · exact wpAny_allTrue_Or_nil (hQ F s (.refl ..) st.ok)
  | cons e r =>
    refine bind_el h ?_; (try clear h); intro b' h1 h
    have go2 : ∀ {F1 : FH} {s1 : Shared}, Ste s.heap.objs.size F s F1 s1 → Ok B F1 s1 → evTs n c ρ op r = some b → wpAny (model prog w) A (allTrue op r env) Q E s1 := fun t1 ok1 h => ih.ts he hc hr (st.step t1 (Nat.le_refl _) ok1) h E Q fun F2 s2 t2 ok2 => hQ F2 s2 (t1.seq t2) ok2
    cases op
    · refine wpAny_allTrue_And_cons (ih.t he hc hr st h1 E _ fun F1 s1 t1 ok1 => ?_)
      cases b'
      · cases Option.some.inj h; exact hQ F1 s1 t1 ok1
      · exact go2 t1 ok1 h
    · refine wpAny_allTrue_Or_cons (ih.t he hc hr st h1 E _ fun F1 s1 t1 ok1 => ?_)
      cases b'
      · exact go2 t1 ok1 h
      · cases Option.some.inj h; exact hQ F1 s1 t1 ok1
theorem evT_gen (ih : Snd prog w C B fv n) (he : EnvOk c env) (hc : CallOk prog w C B fv k c.call) (hr : Room A k) (st : St prog w C B lo ps env F s ρ) {x : Expr} {b : Bool} (h : (evE n c ρ x).bind truthD = some b) (E : Value → Shared → Prop) (Q : Bool → Shared → Prop)
    (hQ : ∀ F' s', Ste s.heap.objs.size F s F' s' → Ok B F' s' → Q b s') (e : isTrue x env (eval x env) = (do let v ← eval x env; standAt x.pos; holding [v] (truthy v))) : wpAny (model prog w) A (isTrue x env (eval x env)) Q E s := by
  refine bind_el h ?_; clear h; intro d hd h
  exact wpAny_isTrue_value ((ih.e he hc hr st hd).ev E _ fun v F1 s1 t1 ok1 r1 => truth_ok ok1 h r1 fun F2 s2 t2 ok2 => hQ F2 s2 (t1.seq t2) ok2) e
theorem s_evT (ih : Snd prog w C B fv n) (he : EnvOk c env) (hc : CallOk prog w C B fv k c.call) (hr : Room A k) (st : St prog w C B lo ps env F s ρ) {x : Expr} {b : Bool} (h : evT (n + 1) c ρ x = some b) (E : Value → Shared → Prop) (Q : Bool → Shared → Prop)
    (hQ : ∀ F' s', Ste s.heap.objs.size F s F' s' → Ok B F' s' → Q b s') : wpAny (model prog w) A (isTrue x env (eval x env)) Q E s := by
  cases x with
  | BoolOp op vs p => exact wpAny_isTrue_BoolOp (ih.ts he hc hr st h E Q hQ)
  | Compare l ops rs p =>
    refine bind_el h ?_; (try clear h); intro op h1 h
    refine bind_el h ?_; (try clear h); intro r h2 h
    refine bind_el h ?_; (try clear h); intro x h3 h
    refine bind_el h ?_; (try clear h); intro y h4 hz
    obtain rfl := vOne_eq h1; obtain rfl := vOne_eq h2
    refine wpAny_isTrue_Compare1 (ih.p he hc hr st h3 E _ fun v1 F1 s1 t1 ok1 r1 => ?_) (not_setP h4 _)
    refine ih.p he hc hr (st.step t1 (Nat.le_refl _) ok1) h4 E _ fun v2 F2 s2 t2 ok2 r2 => ?_
    refine cmp_ok (room_c hr) ok2 (r1.ste t2) r2 hz fun tk => ?_
    exact wpAny_truthy_bool (hQ F2 _ ((t1.seq t2).toks tk) (ok2.toks tk))
  | IfExp => exact nos1 h
  | UnaryOp => exact nos1 h
  | _ => exact evT_gen ih he hc hr st h E Q hQ rfl
theorem s_evIfs (ih : Snd prog w C B fv n) (he : EnvOk c env) (hc : CallOk prog w C B fv k c.call) (hr : Room A k) (st : St prog w C B lo ps env F s ρ) {ifs : List Expr} {b : Bool} (h : evIfs (n + 1) c ρ ifs = some b) (E : Value → Shared → Prop) (Q : Bool → Shared → Prop)
    (hQ : ∀ F' s', Ste s.heap.objs.size F s F' s' → Ok B F' s' → Q b s') : wpAny (model prog w) A (ifsTree ifs env) Q E s := by
  unfold evIfs at h
  rcases ifs with _ | ⟨e, _ | ⟨e2, r⟩⟩
  · cases h; unfold ifsTree; rw [List.forIn_nil]; exact wpAny_pure (hQ F s (.refl ..) st.ok)
  · replace h : evT n c ρ e = some b := h
    unfold ifsTree
    rw [List.forIn_cons, if_pos rfl]
    refine wpAny_bind (wpAny_bind (ih.t he hc hr st h E _ fun F1 s1 t1 ok1 => wpAny_pure ?_))
    show wpAny _ _ (forIn [] b _) _ _ _
    rw [List.forIn_nil]; exact wpAny_pure (hQ F1 s1 t1 ok1)
  · cases h
end
end Mine
end

section
open PySem PySem.W PyProof.Rows
namespace Mine
section
variable {prog : Program} {w : World} {C : Addr} {B : Heap} {A : Around} {F F' : FH} {s s' : Shared} {fv : Str → Option Addr} {tab : List (Str × Fn)} {mg mb : Str → Option Value} {env : Env} {k n lo : Nat} {ps : List Addr} {ρ : Sc} {c : Cx}
theorem rangeL_len (a b : Int) : (rangeL a b).length = (b - a).toNat := by simp [rangeL]
theorem rangeL_get {a b : Int} {i : Nat} {d : D} (h : (rangeL a b)[i]? = some d) : d = .int (a + (i : Int)) := by
  simp only [rangeL, List.getElem?_map, Option.map_eq_some_iff] at h
  (refine xe1_2 h ?_; (try clear h); intro j hj hq2; rcases hq2 with rfl)
  have := List.getElem?_eq_some_iff.mp hj
  obtain ⟨h1, h2⟩ := this
  simp at h2
  rw [h2]
theorem iter_range (hh : A.handled = none) (ok : Ok B F s) {a b : Int} {r : Addr} {t u v : Tok} (hr : IsRange s.heap r a b 1 t u v) {E : Value → Shared → Prop} {Q : Value → Shared → Prop}
    (hQ : ∀ I F' s', Ste s.heap.objs.size F s F' s' → Ok B F' s' → s.heap.objs.size ≤ I → IterOk prog w C A F' s' I (rangeL a b) → Q (.ref I) s') : wpAny (model prog w) A (pyIter (.ref r)) Q E s := by
  have hsz : Builtin.Range.rangeSize a b 1 = ((b - a).toNat : Int) := by rw [PySem.rangeSize_one]; split <;> omega
  have e1 : a + ((0 : Nat) : Int) * 1 = a := by simp
  have e2 : (((b - a).toNat : Nat) : Int) - ((0 : Nat) : Int) = Builtin.Range.rangeSize a b 1 := by rw [hsz]; simp
  have get : ∀ (i : Nat) (v : Value) (d : D), (∃ t, v = .int (a + (i : Int) * 1) t) → (rangeL a b)[i]? = some d → Rep prog w C F d v := by
    rintro i v d ⟨t, rfl⟩ hd
    rw [rangeL_get hd, Int.mul_one]; exact .int _ _
  cases hs : Builtin.Range.small a b 1 with
  | true =>
    refine PySem.wpAny_pyIter_range hr hs (hQ _ F _ (Ste.push ok _ s.toks) (ok.push _ s.toks) (Nat.le_refl _) ⟨ok.fnone (Nat.le_refl _), by show _ < (s.heap.push _).objs.size; rw [Heap.size_push]; exact Nat.lt_succ_self _, [s.heap.objs.size], _, _, by rw [rangeL_len]; exact Walks.range hh _ a 1 _, ?_, fun b hb => .inl (List.mem_singleton.mp hb), get⟩)
    show IsRangeIter _ _ _ _ _
    rw [e1, e2]; exact Heap.get?_push_size _ rfl
  | false =>
    refine wpAny_pyIter_longrange hr hs (hQ _ F _ (Ste.push ok _ s.toks) (ok.push _ s.toks) (Nat.le_refl _) ⟨ok.fnone (Nat.le_refl _), by show _ < (s.heap.push _).objs.size; rw [Heap.size_push]; exact Nat.lt_succ_self _, [s.heap.objs.size], _, _, by rw [rangeL_len]; exact Walks.longrange hh _ a 1 _, ?_, fun b hb => .inl (List.mem_singleton.mp hb), get⟩)
    show IsLongIter _ _ _ _ _
    rw [e1, e2]; exact Heap.get?_push_size _ rfl
theorem iter_str (hh : A.handled = none) (ok : Ok B F s) {x : Str} {t : Tok} {E : Value → Shared → Prop} {Q : Value → Shared → Prop}
    (hQ : ∀ I F' s', Ste s.heap.objs.size F s F' s' → Ok B F' s' → s.heap.objs.size ≤ I → IterOk prog w C A F' s' I (x.cps.toList.map fun k => .str ⟨#[k]⟩) → Q (.ref I) s') : wpAny (model prog w) A (pyIter (.str x t)) Q E s := by
  have hlen : (x.cps.toList.map fun k => D.str ⟨#[k]⟩).length = x.cps.size := by simp
  have get : ∀ (i : Nat) (v : Value) (d : D), SignAt x i v → (x.cps.toList.map fun k => D.str ⟨#[k]⟩)[i]? = some d → Rep prog w C F d v := by
    rintro i v d ⟨c, u, hc, rfl⟩ hd
    rw [List.getElem?_map, Array.getElem?_toList, hc] at hd
    cases hd
    exact .str _ _
  cases ha : x.cps.all (· < 128) with
  | true =>
    refine wpAny_pyIter_ascii ha (hQ _ F _ (Ste.push ok _ s.toks) (ok.push _ s.toks) (Nat.le_refl _) ⟨ok.fnone (Nat.le_refl _), by show _ < (s.heap.push _).objs.size; rw [Heap.size_push]; exact Nat.lt_succ_self _, [s.heap.objs.size], _, _, by rw [hlen]; exact Walks.strAscii hh _ x t, ?_, fun b hb => .inl (List.mem_singleton.mp hb), get⟩)
    exact ⟨_, Heap.get?_push_size _ rfl, rfl, rfl⟩
  | false =>
    refine wpAny_pyIter_wide ha (hQ _ F _ (Ste.push ok _ s.toks) (ok.push _ s.toks) (Nat.le_refl _) ⟨ok.fnone (Nat.le_refl _), by show _ < (s.heap.push _).objs.size; rw [Heap.size_push]; exact Nat.lt_succ_self _, [s.heap.objs.size], _, _, by rw [hlen]; exact Walks.strWide hh _ x t, ?_, fun b hb => .inl (List.mem_singleton.mp hb), get⟩)
    exact ⟨_, Heap.get?_push_size _ rfl, rfl, rfl⟩
theorem iter_seq (hh : A.handled = none) (ok : Ok B F s) {l : List D} {v : Value} (r : Rep prog w C F (.lst l) v ∨ Rep prog w C F (.tup l) v) {E : Value → Shared → Prop} {Q : Value → Shared → Prop}
    (hQ : ∀ I F' s', Ste s.heap.objs.size F s F' s' → Ok B F' s' → s.heap.objs.size ≤ I → IterOk prog w C A F' s' I l → Q (.ref I) s') : wpAny (model prog w) A (pyIter v) Q E s := by
  rcases r with r | r
  · (refine xe4_4 r.lst_inv ?_; intro a o vs m hq4; rcases hq4 with rfl; intro h1 h2 hqr; refine xe0_3 hqr ?_; (try clear hqr); intro h3 h4 h5)
    have hl : s.heap.IsList a vs.toArray := ⟨o, ok.subT h1 h2, h2, _, h3⟩
    have hne : a ≠ s.heap.objs.size := Nat.ne_of_lt (Heap.lt_size (ok.subT h1 h2))
    have hlen : l.length = vs.toArray.size := by rw [List.size_toArray, h4.length]
    refine PySem.wpAny_pyIter_list hl (hQ _ F _ (Ste.push ok _ s.toks) (ok.push _ s.toks) (Nat.le_refl _) ⟨ok.fnone (Nat.le_refl _), by show _ < (s.heap.push _).objs.size; rw [Heap.size_push]; exact Nat.lt_succ_self _, [s.heap.objs.size, a], _, _, by rw [hlen]; exact Walks.list hh _ a hne _, ?_, fun b hb => ?_, fun i v d hi hd => ?_⟩)
    · exact ⟨⟨_, Heap.get?_push_size _ rfl, rfl, rfl⟩, hl.push _⟩
    · rcases List.mem_cons.mp hb with e | hb
      · exact .inl e
      · rw [List.mem_singleton.mp hb]; exact .inr ⟨o, h1, fun q => by subst q; rw [ok.dum] at h1; cases h1; cases h2⟩
    · (refine xe1_2 (h4.get hd) ?_; intro u hu hr)
      have : vs[i]? = some v := by simpa using hi
      rw [hu] at this; cases this; exact hr
  · (refine xe4_4 r.tup_inv ?_; intro a o vs m hq4; rcases hq4 with rfl; intro h1 h2 hqr; refine xe0_2 hqr ?_; (try clear hqr); intro h3 h4)
    have hl : s.heap.IsTuple a vs.toArray := ⟨o, ok.subT h1 h2, h2, _, h3⟩
    have hne : a ≠ s.heap.objs.size := Nat.ne_of_lt (Heap.lt_size (ok.subT h1 h2))
    have hlen : l.length = vs.toArray.size := by rw [List.size_toArray, h4.length]
    refine PySem.wpAny_pyIter_tuple hl (hQ _ F _ (Ste.push ok _ s.toks) (ok.push _ s.toks) (Nat.le_refl _) ⟨ok.fnone (Nat.le_refl _), by show _ < (s.heap.push _).objs.size; rw [Heap.size_push]; exact Nat.lt_succ_self _, [s.heap.objs.size, a], _, _, by rw [hlen]; exact Walks.tuple hh _ a hne _, ?_, fun b hb => ?_, fun i v d hi hd => ?_⟩)
    · exact ⟨⟨_, Heap.get?_push_size _ rfl, rfl, rfl⟩, ⟨o, Heap.get?_push_of_some _ (ok.subT h1 h2), h2, _, h3⟩⟩
    · rcases List.mem_cons.mp hb with e | hb
      · exact .inl e
      · rw [List.mem_singleton.mp hb]; exact .inr ⟨o, h1, fun q => by subst q; rw [ok.dum] at h1; cases h1; cases h2⟩
    · (refine xe1_2 (h4.get hd) ?_; intro u hu hr)
      have : vs[i]? = some v := by simpa using hi
      rw [hu] at this; cases this; exact hr
theorem s_evI (base : Base prog w B C tab fv mg mb) (ih : Snd prog w C B fv n) (he : EnvOk c env) (hc : CallOk prog w C B fv k c.call) (hr : Room A k) (st : St prog w C B lo ps env F s ρ) {x : Expr} {ds : List D} (h : evI (n + 1) c ρ x = some ds) (E : Value → Shared → Prop) (Q : Value → Shared → Prop)
    (hQ : ∀ I F' s', Ste s.heap.objs.size F s F' s' → Ok B F' s' → s.heap.objs.size ≤ I → IterOk prog w C A F' s' I ds → Q (.ref I) s') : wpAny (model prog w) A (eval x env) (fun v s₁ => wpAny (model prog w) A (pyIter v) Q E s₁) E s := by
  unfold evI at h
  split at h
  · rename_i f args hv
    refine bind_el hv ?_; (try clear hv); rintro ⟨g, as', pos⟩ h1 h2
    refine map_el h2 ?_; (try clear h2); intro f' h3 h4
    cases h4
    obtain rfl := vCall_eq h1
    (refine xe1_1 (vName_eq h3) ?_; intro p hp)
    cases hp
    refine ite_el h ?_; (try clear h); rintro ⟨rfl, hg⟩ hz
    refine bind_el hz ?_; (try clear hz); intro l hb hz
    refine bind_el hz ?_; (try clear hz); intro is hi hz
    have hglob : mg (Str.ofString "range") = none ∧ mb (Str.ofString "range") = some (.type "range") := base.blt .range
    refine wpAny_Call_NameR (name_glob base he st hg (.inr hglob) ?_)
    rw [trees_eq env pos hb]
    refine callWith_b (.inr ⟨_, rfl⟩) (ih.l he hc hr st hb E _ fun vs F1 s1 t1 ok1 r1 => ?_)
    split at hz
    · rename_i b
      refine ite_el hz ?_; (try clear hz); rintro _ hz
      cases hz
      obtain rfl := intsOf_eq hi
      (refine xe2_3 r1.cons_inv ?_; intro _ _ hq2; rcases hq2 with rfl; intro q1 q2); obtain rfl := q2.nil_inv; (refine xe1_1 q1.int_inv ?_; intro tb hq1; rcases hq1 with rfl)
      refine PySem.call_range_1 ?_
      have t2 := Ste.push ok1 { cls := .type "range", data := .fields #[.int 0 s1.toks, .int b tb, .int 1 (s1.toks + 1)] } (s1.toks + 1 + 1)
      have ok2 := ok1.push { cls := .type "range", data := .fields #[.int 0 s1.toks, .int b tb, .int 1 (s1.toks + 1)] } (s1.toks + 1 + 1)
      exact iter_range hr.1 ok2 (PySem.IsRange.new ..) fun I F3 s3 t3 ok3 hI hit => hQ I F3 s3 ((t1.seq t2).seq t3) ok3 (Nat.le_trans (t1.seq t2).size hI) hit
    · rename_i a b
      refine ite_el hz ?_; (try clear hz); rintro _ hz
      cases hz
      obtain rfl := intsOf_eq hi
      (refine xe2_3 r1.cons_inv ?_; intro _ _ hq2; rcases hq2 with rfl; intro q1 q2); (refine xe2_3 q2.cons_inv ?_; intro _ _ hq2; rcases hq2 with rfl; intro q3 q4); obtain rfl := q4.nil_inv; (refine xe1_1 q1.int_inv ?_; intro ta hq1; rcases hq1 with rfl); (refine xe1_1 q3.int_inv ?_; intro tb hq1; rcases hq1 with rfl)
      refine PySem.call_range_2 ?_
      have t2 := Ste.push ok1 { cls := .type "range", data := .fields #[.int a ta, .int b tb, .int 1 s1.toks] } (s1.toks + 1)
      have ok2 := ok1.push { cls := .type "range", data := .fields #[.int a ta, .int b tb, .int 1 s1.toks] } (s1.toks + 1)
      exact iter_range hr.1 ok2 (PySem.IsRange.new ..) fun I F3 s3 t3 ok3 hI hit => hQ I F3 s3 ((t1.seq t2).seq t3) ok3 (Nat.le_trans (t1.seq t2).size hI) hit
    · cases hz
  · refine bind_el h ?_; (try clear h); intro y hl hz
    refine (ih.e he hc hr st hl).ev E _ fun v F1 s1 t1 ok1 r1 => ?_
    have go : ∀ I F2 s2, Ste s1.heap.objs.size F1 s1 F2 s2 → Ok B F2 s2 → s1.heap.objs.size ≤ I → IterOk prog w C A F2 s2 I ds → Q (.ref I) s2 := fun I F2 s2 t2 ok2 hI hit => hQ I F2 s2 (t1.seq t2) ok2 (Nat.le_trans t1.size hI) hit
    unfold iterD at hz
    split at hz <;> cases hz
    · exact iter_seq hr.1 ok1 (.inl r1) go
    · exact iter_seq hr.1 ok1 (.inr r1) go
    · cases r1
      exact iter_str hr.1 ok1 go
structure IterAt (prog : Program) (w : World) (C : Addr) (A : Around) (I : Addr) (fp : List Addr) (P : Nat → Value → Prop) (W : Nat → Heap → Prop) (ds : List D) (F : FH) (s : Shared) (i : Nat) : Prop where
  own : F I = none
  lt : I < s.heap.objs.size
  walks : Walks prog w A I fp [I] ds.length P W
  here : W i s.heap
  foot : ∀ b ∈ fp, b = I ∨ ∃ o, F b = some o ∧ b ≠ PT
  rep : ∀ i v d, P i v → ds[i]? = some d → Rep prog w C F d v
theorem IterAt.step {I : Addr} {fp : List Addr} {P : Nat → Value → Prop} {W : Nat → Heap → Prop} {ds : List D} {i : Nat} (x : IterAt prog w C A I fp P W ds F s i) (ok : Ok B F s) (ok' : Ok B F' s') (hF : ∀ b o, F b = some o → F' b = some o) (hI : F' I = none ∧ s'.heap.get? I = s.heap.get? I)
    (hz : s.heap.objs.size ≤ s'.heap.objs.size) : IterAt prog w C A I fp P W ds F' s' i where
  own := hI.1
  lt := Nat.lt_of_lt_of_le x.lt hz
  walks := x.walks
  here := x.walks.frame _ _ _ x.here fun b hb o e => by
    rcases x.foot b hb with rfl | ⟨o', ho', hne⟩
    · rw [hI.2]; exact e
    · have h1 := ok.sub _ _ ho' hne
      rw [e] at h1; cases h1
      exact ok'.sub _ _ (hF _ _ ho') hne
  foot := fun b hb => (x.foot b hb).imp id fun ⟨o, ho, hne⟩ => ⟨o, hF _ _ ho, hne⟩
  rep := fun i v d h1 h2 => (x.rep i v d h1 h2).mono hF
theorem IterAt.next {I : Addr} {fp : List Addr} {P : Nat → Value → Prop} {W : Nat → Heap → Prop} {ds : List D} {i : Nat} (x : IterAt prog w C A I fp P W ds F s i) {d : D} (hd : ds[i]? = some d) {E : Value → Shared → Prop} {Q : Option Value → Shared → Prop}
    (hQ : ∀ v h' tk, Rep prog w C F d v → (∀ b, b < s.heap.objs.size → b ≠ I → h'.get? b = s.heap.get? b) → s.heap.objs.size ≤ h'.objs.size → IterAt prog w C A I fp P W ds F { s with heap := h', toks := tk } (i + 1) → Q (some v) { s with heap := h', toks := tk }) :
    wpAny (model prog w) A (pyNext (.ref I)) Q E s := by
  have hi : i < ds.length := (List.getElem?_eq_some_iff.mp hd).1
  refine wpAny_gw (x.walks.item i s _ E hi x.here fun v h' tk hP hW hk gw => ?_)
  refine hQ v h' tk (x.rep i v d hP hd) (fun b hb hne => ?_) gw.size ⟨x.own, Nat.lt_of_lt_of_le x.lt gw.size, x.walks, hW, x.foot, x.rep⟩
  cases e : s.heap.get? b with
  | none => exact gw.dead b hb e
  | some o => exact hk b o (fun q => hne (List.mem_singleton.mp q)) e
theorem IterAt.done {I : Addr} {fp : List Addr} {P : Nat → Value → Prop} {W : Nat → Heap → Prop} {ds : List D} (x : IterAt prog w C A I fp P W ds F s ds.length) {E : Value → Shared → Prop} {Q : Option Value → Shared → Prop}
    (hQ : ∀ h' tk, (∀ b, b < s.heap.objs.size → b ≠ I → h'.get? b = s.heap.get? b) → s.heap.objs.size ≤ h'.objs.size → Q none { s with heap := h', toks := tk }) :
    wpAny (model prog w) A (pyNext (.ref I)) Q E s := by
  refine wpAny_gw (x.walks.done s _ E x.here fun h' tk hk gw => ?_)
  refine hQ h' tk (fun b hb hne => ?_) gw.size
  cases e : s.heap.get? b with
  | none => exact gw.dead b hb e
  | some o => exact hk b o (fun q => hne (List.mem_singleton.mp q)) e
end
end Mine
end

section
open PySem PySem.W PyProof.Rows
namespace Mine
section
variable {prog : Program} {w : World} {C : Addr} {B : Heap} {A : Around} {F F' : FH} {s s' : Shared} {fv : Str → Option Addr} {tab : List (Str × Fn)} {mg mb : Str → Option Value} {env : Env} {k n lo : Nat} {ps : List Addr} {ρ : Sc} {c : Cx}
theorem codeAny_compStart {R : Result → Shared → Prop} {elt t iter : Expr} {ifs : List Expr} {gens : List Comprehension} {scope : Scope} {pos : Pos} {dep : Nat} {it acc : Value} (hg : gens[dep]? = some ⟨t, iter, ifs, 0⟩)
    (h0 : codeAny (model prog w) A (.compLoop (.ListComp elt gens scope pos) dep it acc env) R s)
    (h : ∀ E, wpAny (model prog w) A (pyIter it) (fun it' s' => codeAny (model prog w) A (.compLoop (.ListComp elt gens scope pos) dep it' acc env) R s') E s) :
    codeAny (model prog w) A (.compStart (.ListComp elt gens scope pos) dep it acc env) R s := by
  refine codeAny_of_tree ?_
  show wpAny _ _ ((compStart (.ListComp elt gens scope pos) dep it acc env).onRaise (fun x => do noteFrame x env; standAt theWindowsPlace)) _ _ s
  refine wpAny_notedAt ?_
  unfold compStart
  have e1 : clausesOf (.ListComp elt gens scope pos) = gens := rfl
  rw [e1, hg]
  show wpAny _ _ (ask >>= _) _ _ s
  refine wpAny_bind (wpAny_askSetting (wpAny_ite ?_))
  split
  · first
      | exact wpAny_bind (wpAny_pure (wpAny_pure (And.intro rfl h0)))
      | exact wpAny_pure (And.intro rfl h0)
  · first
      | exact wpAny_bind (wpAny_rule (wpAny_bind (wpAny_standAt (wpAny_bind (wpAny_mono (h _) (fun it' s' h' => wpAny_pure (And.intro rfl h')) fun _ _ x => x)))))
      | (refine wpAny_bind (wpAny_rule ?_); show wpAny _ _ (standAt iter.pos >>= _) _ _ s; exact wpAny_bind (wpAny_standAt (wpAny_bind (wpAny_mono (h _) (fun it' s' h' => wpAny_pure (And.intro rfl h')) fun _ _ x => x))))
theorem Stq.poke {k0 : Nat} {p : Addr} (ok : Ok B F s) {h' : Heap} {tk : Nat} (hs : ∀ b, b < s.heap.objs.size → b ≠ p → h'.get? b = s.heap.get? b) (hz : s.heap.objs.size ≤ h'.objs.size) (hk : k0 ≤ p) (hk2 : k0 ≤ s.heap.objs.size) (hp : p ∉ ps) :
    Stq k0 ps F s F { s with heap := h', toks := tk } :=
  ⟨⟨fun _ _ q => q, fun b hb e => ⟨e, hs b (Nat.lt_of_lt_of_le hb hk2) fun q => Nat.lt_irrefl _ (Nat.lt_of_lt_of_le hb (q ▸ hk))⟩, hz, rfl⟩, fun q hq e hlt => ⟨e, hs q hlt fun z => hp (z ▸ hq)⟩⟩
theorem gather_drop {f : D → Option (List D)} {ds out : List D} {i : Nat} {d : D} (hd : ds[i]? = some d) (h : gatherD f (ds.drop i) = some out) : ∃ o1 o2, f d = some o1 ∧ gatherD f (ds.drop (i + 1)) = some o2 ∧ out = o1 ++ o2 := by
  have hlt := (List.getElem?_eq_some_iff.mp hd).1
  rw [List.drop_eq_getElem_cons hlt, (List.getElem?_eq_some_iff.mp hd).2] at h
  unfold gatherD at h
  cases e1 : f d with
  | none => rw [e1] at h; exact nos1 h
  | some a =>
    cases e2 : gatherD f (ds.drop (i + 1)) with
    | none => rw [e1, e2] at h; exact nos1 h
    | some b => rw [e1, e2] at h; exact ⟨a, b, rfl, rfl, (Option.some.inj h).symm⟩
theorem Heap.PlainList.same {h h' : Heap} {a : Addr} {items : Array Value} (x : h.PlainList a items) (e : h'.get? a = h.get? a) : h'.PlainList a items := let ⟨m, q⟩ := x; ⟨m, e.trans q⟩
theorem Heap.PlainList.lt {h : Heap} {a : Addr} {items : Array Value} (x : h.PlainList a items) : a < h.objs.size := let ⟨_, q⟩ := x; Heap.lt_size q
theorem St.prt (st : St prog w C B lo ps env F s ρ) {p : Addr} (hp : p ∈ ps) : F p = none ∧ p < s.heap.objs.size := let ⟨_, z⟩ := st; ⟨(z.prot p hp).1, (z.prot p hp).2.1⟩
theorem comp_loop (ih : Snd prog w C B fv n) (he : EnvOk c env) (hc : CallOk prog w C B fv k c.call) (hr : Room A k) {elt t iter : Expr} {ifs : List Expr} {rest gens : List Comprehension} {scope : Scope} {pos : Pos} {dep : Nat} {I L : Addr} {k0 : Nat} {ds out outs : List D} {vs : List Value}
    (hg : gens[dep]? = some ⟨t, iter, ifs, 0⟩) (hrest : gens.drop (dep + 1) = rest) (hL : L ∉ ps) (hI : I ∉ ps) (hne : I ≠ L) (k1 : k0 ≤ env.locals) (k2 : k0 ≤ L) (k3 : k0 ≤ I)
    (it : IterOk prog w C A F s I ds) (st : St prog w C B lo (L :: I :: ps) env F s ρ) (hl : s.heap.PlainList L vs.toArray) (hv : Reps prog w C F outs vs) (h : gatherD (fun d => evC n c ρ elt t ifs rest d) ds = some out) (hsz : (outs ++ out).length ≤ 1000000)
    {R : Result → Shared → Prop} (hR : ∀ F' s' vs', Stq k0 ps F s F' s' → St prog w C B lo (L :: I :: ps) env F' s' ρ → s'.heap.PlainList L vs'.toArray → Reps prog w C F' (outs ++ out) vs' → R (.ok .next) s') :
    codeAny (model prog w) A (.compLoop (.ListComp elt gens scope pos) dep (.ref I) (.ref L) env) R s := by
  obtain ⟨i1, i2, fp, P, W, i3, i4, i5, i6⟩ := it
  refine codeAny_loop rfl (fun m s₁ => ∃ F₁ i o1 o2 us, i ≤ ds.length ∧ m = ds.length - i ∧ IterAt prog w C A I fp P W ds F₁ s₁ i ∧ St prog w C B lo (L :: I :: ps) env F₁ s₁ ρ ∧ Stq k0 ps F s F₁ s₁ ∧ s₁.heap.PlainList L us.toArray ∧ Reps prog w C F₁ o1 us ∧
      gatherD (fun d => evC n c ρ elt t ifs rest d) (ds.drop i) = some o2 ∧ o1 ++ o2 = outs ++ out) ?_ ds.length ⟨F, 0, outs, out, vs, Nat.zero_le _, rfl, ⟨i1, i2, i3, i4, i5, i6⟩, st, .refl .., hl, hv, by simpa using h, rfl⟩
  intro m s₁ hv2
  refine xe5_3 hv2 ?_; clear hv2; intro F₁ i o1 o2 us hi hm hv2
  refine xe0_7 hv2 ?_; clear hv2; intro hit st₁ tq hl₁ hv₁ hgt hcat
  show wpAny _ _ ((compTurn (.ListComp elt gens scope pos) dep (.ref I) (.ref L) env).onRaise (fun x => do noteFrame x env; theTreesLotGoes x)) _ _ s₁
  refine wpAny_noted ?_
  rw [compTurn_LC _ _ _ _ _ _ _ _ hg]
  refine wpAny_bind (wpAny_standAt (wpAny_bind ?_))
  have hks : k0 ≤ s₁.heap.objs.size := Nat.le_of_lt (Nat.lt_of_le_of_lt k2 (Heap.PlainList.lt hl₁))
  refine (Nat.lt_or_ge i ds.length).elim (fun hlt => ?_) fun hge => ?_
  · have hd : ds[i]? = some ds[i] := List.getElem?_eq_getElem hlt
    refine xe2_3 (gather_drop hd hgt) ?_; intro p1 p2 hf hgt2 ho2
    rw [ho2, ← List.append_assoc] at hcat
    refine hit.next hd fun v h' tk hrep hs hz hit2 => ?_
    have st₂ := st₁.poke (p := I) (List.mem_cons_of_mem _ List.mem_cons_self) hs hz tk
    refine ih.c he hc hr st₂ hf hg hrest (fun q => (List.mem_cons.mp q).elim (fun q => hne q.symm) hL) k1 k2 (Heap.PlainList.same hl₁ (hs L (Heap.PlainList.lt hl₁) (Ne.symm hne))) hv₁ (by rw [← hcat, List.length_append] at hsz; exact Nat.le_trans (Nat.le_add_right _ _) hsz) hrep _ _ fun F₃ s₃ ws t3 st₃ hl₃ hv₃ => ?_
    exact ⟨rfl, ds.length - (i + 1), hm ▸ Nat.sub_succ_lt_self _ _ hlt, F₃, i + 1, o1 ++ p1, p2, ws, hlt, rfl, hit2.step st₂.ok st₃.ok t3.ste.ext (t3.kp I List.mem_cons_self hit2.own hit2.lt) t3.ste.size, st₃, (tq.trans (.poke st₁.ok hs hz k3 hks hI)).trans (t3.sub fun p hp => List.mem_cons_of_mem _ hp), hl₃, hv₃, hgt2, hcat⟩
  · rw [List.drop_eq_nil_of_le hge] at hgt
    have hit := Nat.le_antisymm hi hge ▸ hit
    refine hit.done fun h' tk hs hz => wpAny_pure ?_
    rw [← Option.some.inj hgt, List.append_nil] at hcat
    exact hR F₁ _ us (tq.trans (.poke st₁.ok hs hz k3 hks hI)) (st₁.poke (List.mem_cons_of_mem _ List.mem_cons_self) hs hz tk) (Heap.PlainList.same hl₁ (hs L (Heap.PlainList.lt hl₁) (Ne.symm hne))) (hcat ▸ hv₁)
theorem fold_set {x : Expr} {ds : List D} (h : evI n c ρ x = some ds) (v : Value) : foldedSetIterable x env v = pure v := by
  cases x <;> try rfl
  cases n with
  | zero => exact nos1 h
  | succ m =>
    unfold evI at h
    cases m with
    | zero => exact nos1 h
    | succ m => exact nos1 h
end
end Mine
end

section
open PySem PySem.W PyProof.Rows
namespace Mine
section
variable {prog : Program} {w : World} {C : Addr} {B : Heap} {A : Around} {F F' : FH} {s s' : Shared} {fv : Str → Option Addr} {tab : List (Str × Fn)} {mg mb : Str → Option Value} {env : Env} {k n lo : Nat} {ps : List Addr} {ρ : Sc} {c : Cx}
theorem get_of_drop {α : Type} {l r : List α} {x : α} {i : Nat} (h : l.drop i = x :: r) : l[i]? = some x ∧ l.drop (i + 1) = r := by
  have hlt : i < l.length := by
    have := congrArg List.length h
    simp at this; omega
  rw [List.drop_eq_getElem_cons hlt] at h
  (refine xe0_2 (List.cons.inj h) ?_; intro h1 h2)
  exact ⟨by rw [List.getElem?_eq_getElem hlt, h1], h2⟩
theorem none_of_drop {α : Type} {l : List α} {i : Nat} (h : l.drop i = []) : l[i]? = none := by
  have := congrArg List.length h
  simp at this
  exact List.getElem?_eq_none (by omega)
theorem swap_mem {a b p : Addr} {l : List Addr} (h : p ∈ a :: b :: l) : p ∈ b :: a :: l := by
  simp only [List.mem_cons] at h ⊢
  exact or_left_comm.mp h
theorem skip_mem {a b p : Addr} {l : List Addr} (h : p ∈ a :: l) : p ∈ a :: b :: l := by
  simp only [List.mem_cons] at h ⊢
  exact h.imp_right .inr
theorem s_evC (ih : Snd prog w C B fv n) {elt t iter : Expr} {ifs : List Expr} {rest gens : List Comprehension} {scope : Scope} {pos : Pos} {dep : Nat} {it : Value} {L : Addr} {d : D} {out outs : List D} {vs : List Value} {k0 : Nat} {v : Value}
    (he : EnvOk c env) (hc : CallOk prog w C B fv k c.call) (hr : Room A k) (st : St prog w C B lo (L :: ps) env F s ρ) (h : evC (n + 1) c ρ elt t ifs rest d = some out) (hg : gens[dep]? = some ⟨t, iter, ifs, 0⟩) (hrest : gens.drop (dep + 1) = rest) (hL : L ∉ ps)
    (k1 : k0 ≤ env.locals) (k2 : k0 ≤ L) (hl : s.heap.PlainList L vs.toArray) (hv : Reps prog w C F outs vs) (hsz : (outs ++ out).length ≤ 1000000) (hrep : Rep prog w C F d v) (E : Value → Shared → Prop) (Q : Fin → Shared → Prop)
    (hQ : ∀ F' s' vs', Stq k0 ps F s F' s' → St prog w C B lo (L :: ps) env F' s' ρ → s'.heap.PlainList L vs'.toArray → Reps prog w C F' (outs ++ out) vs' → Q (.again (.compLoop (.ListComp elt gens scope pos) dep it (.ref L) env)) s') :
    wpAny (model prog w) A (compTail elt gens scope pos dep it (.ref L) env t ifs v) Q E s := by
  unfold evC at h
  refine bind_el h ?_; (try clear h); intro x hvx h
  refine ite_el h ?_; (try clear h); rintro ⟨hxl, hxn⟩ h
  refine bind_el h ?_; (try clear h); intro b hif h
  (refine xe1_1 (vName_eq hvx) ?_; intro p hq1; rcases hq1 with rfl)
  · · skip
      have hkx := he.loc hxl
      have hfresh : lkp ρ x = none := by simpa using hxn
      have hwk : ∀ (sl : Slot) (y : Str) (sl' : Slot), lkp ρ y = some sl' → lkp (upd ρ x sl) y = some sl' := fun sl y sl' hy => by
        rw [lkp_upd]
        have : ¬ y = x := fun q => by rw [q, hfresh] at hy; cases hy
        rw [if_neg this]; exact hy
      unfold compTail
      refine wpAny_bind (wpAny_of_eq (a := ()) rfl (wpAny_bind (PySem.wpAny_assign_Name (St.bind st (.refl ..) st.ok (sl := .fr d) hrep (fun _ q => q.elim) (.inl hkx) fun s1 st1 tq1 tl1 => wpAny_bind ?_))))
      have t1 : Stq k0 ps F s F s1 := ⟨(tl1 hkx).le k1, (tq1.sub fun p hp => List.mem_cons_of_mem _ hp).kp⟩
      have hl1 : s1.heap.PlainList L vs.toArray := Heap.PlainList.same hl (tq1.kp L List.mem_cons_self (st.prt List.mem_cons_self).1 (Heap.PlainList.lt hl)).2
      cases b with
      | true =>
        rw [if_pos rfl] at h
        refine ih.q he hc hr st1 hif _ _ fun F2 s2 t2 ok2 => ?_
        have st2 := st1.step t2 (Nat.le_refl _) ok2
        have hk1 : k0 ≤ s1.heap.objs.size := Nat.le_of_lt (Nat.lt_of_le_of_lt k2 (Heap.PlainList.lt hl1))
        have tq2 := t1.trans (t2.q (ps := ps) hk1 (Nat.le_refl _))
        have hl2 : s2.heap.PlainList L vs.toArray := Heap.PlainList.same hl1 (t2.old L (Heap.PlainList.lt hl1) (st1.prt List.mem_cons_self).1).2
        have hk2 : k0 ≤ s2.heap.objs.size := Nat.le_trans hk1 t2.size
        rw [if_pos rfl]
        split at h
        · -- the last clause: one more item
          rw [Option.map_eq_some_iff] at h
          (refine xe1_2 h ?_; (try clear h); intro y hy hq2; rcases hq2 with rfl)
          rw [none_of_drop hrest]
          refine wpAny_bind (wpAny_bind ((ih.e he hc hr st2 hy).ev _ _ fun u F3 s3 t3 ok3 r3 => wpAny_bind ?_))
          have st3 := st2.step t3 (Nat.le_refl _) ok3
          have hl3 : s3.heap.PlainList L vs.toArray := Heap.PlainList.same hl2 (t3.old L (Heap.PlainList.lt hl2) (st2.prt List.mem_cons_self).1).2
          have hv3 := (hv.mono ((t2.seq t3).ext)).append (.cons r3 .nil)
          have hvl : vs.toArray.size ≤ sizeLine := by
            rw [List.size_toArray, hv.length, sizeLine_eq]
            simp only [List.length_append] at hsz; omega
          have hz3 : k0 ≤ s3.heap.objs.size := Nat.le_trans hk2 t3.size
          have tq3 := tq2.trans (t3.q (ps := ps) hk2 (Nat.le_refl _))
          refine wpAny_list_append_plain hl3 (fun h4 hl4 hs4 => wpAny_pure (wpAny_pure ?_)) hvl
          have hpk := st3.poke (p := L) (h' := h4) List.mem_cons_self (fun b _ hb => hs4.2 b hb) (by rw [hs4.1]; exact Nat.le_refl _) s3.toks
          exact hQ F3 _ (vs ++ [u]) (tq3.trans (.poke ok3 (fun b _ hb => hs4.2 b hb) (by rw [hs4.1]; exact Nat.le_refl _) k2 hz3 hL)) (hpk.sub (fun _ q => q) (hwk _)) (by rw [List.push_toArray] at hl4; exact hl4) hv3
        · -- one more clause
          rename_i g gr
          refine bind_el h ?_; (try clear h); rintro ⟨t2e, it2⟩ hcl h
          refine bind_el h ?_; (try clear h); intro ds hds hz
          rw [vClause_eq hcl] at hrest
          (refine xe0_2 (get_of_drop hrest) ?_; intro hg2 hr2)
          · rw [hg2]
            dsimp only
            simp only [show ((0 : Int) != 0) = false from rfl, Bool.false_eq_true, if_false]
            refine wpAny_bind (wpAny_mono (ih.i he hc hr st2 hds E (fun y s' => wpAny (model prog w) A (runOwn (Code.compStart (elt.ListComp gens scope pos) (dep + 1) y (Value.ref L) env) env >>= fun _ => again (.compLoop (elt.ListComp gens scope pos) dep it (Value.ref L) env)) Q E s') fun I F3 s3 t3 ok3 hI hit => ?_) (fun x s' hx => wpAny_bind (wpAny_standAt (wpAny_bind (wpAny_of_eq (fold_set hds x) (wpAny_bind (wpAny_holding hx)))))) fun _ _ x => x)
            · have hp3 : St prog w C B lo ([I] ++ (L :: ps)) env F3 s3 _ := st2.protect t3 ok3 (qs := [I]) fun p hp => by
                rw [List.mem_singleton.mp hp]; exact ⟨hI, hit.2.1, hit.1⟩
              have hp3' : St prog w C B lo (L :: I :: ps) env F3 s3 (upd ρ x (.fr d)) := hp3.sub (fun p hp => swap_mem hp) (fun _ _ q => q)
              have hIps : I ∉ ps := fun q => Nat.lt_irrefl _ (Nat.lt_of_lt_of_le (st2.prt (List.mem_cons_of_mem _ q)).2 hI)
              have hIL : I ≠ L := fun q => Nat.lt_irrefl _ (Nat.lt_of_lt_of_le (q ▸ Heap.PlainList.lt hl2) hI)
              have hl3 : s3.heap.PlainList L vs.toArray := Heap.PlainList.same hl2 (t3.old L (Heap.PlainList.lt hl2) (st2.prt List.mem_cons_self).1).2
              have tq3 := tq2.trans (t3.q (ps := ps) hk2 (Nat.le_refl _))
              have hv3 := hv.mono ((t2.seq t3).ext)
              refine wpAny_bind (wpAny_runOwn ?_)
              have loop := comp_loop (pos := pos) (scope := scope) ih he hc hr hg2 hr2 hL hIps hIL k1 k2 (Nat.le_trans hk2 hI) hit hp3' hl3 hv3 hz hsz (R := fun r s' => match r with | .ok f => wpAny (model prog w) A (again (.compLoop (.ListComp elt gens scope pos) dep it (.ref L) env)) Q E s' | .error e => PySem.cameBackBy (model prog w) A env E e s')
                fun F4 s4 ws t4 st4 hl4 hv4 => wpAny_pure (hQ F4 s4 ws (tq3.trans t4) (st4.sub (fun p hp => skip_mem hp) (hwk _)) hl4 hv4)
              refine codeAny_compStart hg2 loop fun E' => ?_
              obtain ⟨_, _, _, _, _, W, q1, _⟩ := hit
              exact W.self 0 _ _ _ q1 loop
      | false =>
        rw [if_neg (by simp)] at h
        cases h
        refine ih.q he hc hr st1 hif _ _ fun F2 s2 t2 ok2 => ?_
        have st2 := st1.step t2 (Nat.le_refl _) ok2
        have hk1 : k0 ≤ s1.heap.objs.size := Nat.le_of_lt (Nat.lt_of_le_of_lt k2 (Heap.PlainList.lt hl1))
        have hl2 : s2.heap.PlainList L vs.toArray := Heap.PlainList.same hl1 (t2.old L (Heap.PlainList.lt hl1) (st1.prt List.mem_cons_self).1).2
        rw [if_neg (by simp)]
        refine wpAny_pure (hQ F2 s2 vs (t1.trans (t2.q (ps := ps) hk1 (Nat.le_refl _))) (st2.sub (fun _ q => q) (hwk _)) hl2 ?_)
        rw [List.append_nil]; exact hv.mono t2.ext
end
end Mine
end

section
open PySem PySem.W PyProof.Rows
set_option tactic.hygienic false
namespace Mine
theorem clos_loop (env : Env) (f : Str × NameKind → List (Str × Addr) → Sem (ForInStep (List (Str × Addr))))
    (hf : ∀ name kind cs, f (name, kind) cs = if (kind == .free) = true then (cellOf env name >>= fun a => pure (.yield ((name, a) :: cs))) else pure (.yield cs)) :
    ∀ (names : List (Str × NameKind)) (acc : List (Str × Addr)), (∀ p ∈ names, p.2 = .free → ∃ a, env.cells.lookup p.1 = some a) → (∀ x a, acc.lookup x = some a → env.cells.lookup x = some a) →
      ∃ cl, forIn names acc f = pure cl ∧ (∀ x a, cl.lookup x = some a → env.cells.lookup x = some a) ∧ ∀ x, ((∃ p ∈ names, p.1 = x ∧ p.2 = .free) ∨ (acc.lookup x).isSome) → (cl.lookup x).isSome
  | [], acc, _, ha => ⟨acc, by rw [List.forIn_nil], ha, fun x h => by
      rcases h with ⟨p, hp, _⟩ | h
      · cases hp
      · exact h⟩
  | (name, kind) :: r, acc, hn, ha => by
    have hr : ∀ p ∈ r, p.2 = .free → ∃ a, env.cells.lookup p.1 = some a := fun p hp => hn p (List.mem_cons_of_mem _ hp)
    cases hk : kind == NameKind.free with
    | true =>
      have hk' : kind = .free := by cases kind <;> first | rfl | cases hk
      (refine xe1_1 (hn (name, kind) List.mem_cons_self hk') ?_; intro a hc)
      have ha' : ∀ x b, ((name, a) :: acc).lookup x = some b → env.cells.lookup x = some b := fun x b h => by
        rw [List.lookup_cons] at h
        cases hx : x == name with
        | true => rw [hx] at h; cases h; rw [beq_iff_eq.mp hx]; exact hc
        | false => rw [hx] at h; exact ha x b h
      (refine xe1_3 (clos_loop env f hf r ((name, a) :: acc) hr ha') ?_; intro cl h1 h2 h3)
      refine ⟨cl, ?_, h2, fun x h => h3 x ?_⟩
      · rw [List.forIn_cons, hf, if_pos hk]
        have : cellOf env name = pure a := by
          unfold cellOf
          have hc' : List.lookup name env.cells = some a := hc
          rw [hc']
        rw [this]
        exact h1
      · rcases h with ⟨p, hp, e1, e2⟩ | h
        · rcases List.mem_cons.mp hp with rfl | hp
          · right; rw [List.lookup_cons]; simp [← e1]
          · exact .inl ⟨p, hp, e1, e2⟩
        · right; rw [List.lookup_cons]; cases x == name <;> simp [h]
    | false =>
      (refine xe1_3 (clos_loop env f hf r acc hr ha) ?_; intro cl h1 h2 h3)
      refine ⟨cl, ?_, h2, fun x h => h3 x ?_⟩
      · rw [List.forIn_cons, hf, if_neg (by rw [hk]; simp)]
        exact h1
      · rcases h with ⟨p, hp, e1, e2⟩ | h
        · rcases List.mem_cons.mp hp with rfl | hp
          · have e2' : kind = .free := e2
            rw [e2'] at hk; cases hk
          · exact .inl ⟨p, hp, e1, e2⟩
        · exact .inr h
theorem clos_ok {scope : Scope} {env : Env} (hn : ∀ p ∈ scope.names, p.2 = .free → ∃ a, env.cells.lookup p.1 = some a) :
    ∃ cl, closureFor scope env = pure cl ∧ (∀ x a, cl.lookup x = some a → env.cells.lookup x = some a) ∧ ∀ x, (∃ p ∈ scope.names, p.1 = x ∧ p.2 = .free) → (cl.lookup x).isSome := by
  (refine xe1_3 (clos_loop env (fun p cs => if (p.2 == .free) = true then (cellOf env p.1 >>= fun a => pure (.yield ((p.1, a) :: cs))) else pure (.yield cs)) (fun _ _ _ => rfl) scope.names [] hn (fun x a h => by cases h)) ?_; intro cl h1 h2 h3)
  refine ⟨cl, ?_, h2, fun x h => h3 x (.inl h)⟩
  unfold closureFor
  have e : (forIn scope.names [] fun (x : Str × NameKind) (r : List (Str × Addr)) => match x with
      | (name, kind) => if (kind == NameKind.free) = true then do let a ← cellOf env name; pure (ForInStep.yield ((name, a) :: r)) else pure (ForInStep.yield r)) = (pure cl : Sem _) := h1
  first
    | (show (forIn scope.names [] _ >>= fun r => pure r) = pure cl; rw [e]; rfl)
    | (rw [e]; rfl)
theorem lookup_relab (P : Str → NameKind → Bool) : ∀ (l : List (Str × NameKind)) (x : Str), (l.map fun (n, k) => if P n k = true then (n, NameKind.cell) else (n, k)).lookup x = (l.lookup x).map fun k => if P x k = true then .cell else k
  | [], _ => rfl
  | (n, k) :: r, x => by
    have ih := lookup_relab P r x
    show List.lookup x ((if P n k = true then (n, NameKind.cell) else (n, k)) :: r.map _) = _
    cases hx : x == n with
    | true =>
      have e := beq_iff_eq.mp hx
      cases hP : P n k with
      | true => rw [if_pos rfl, List.lookup_cons, hx, List.lookup_cons, hx, e, Option.map_some, hP]; rfl
      | false => rw [if_neg (by simp), List.lookup_cons, hx, List.lookup_cons, hx, e, Option.map_some, hP]; rfl
    | false =>
      cases hP : P n k with
      | true => rw [if_pos rfl, List.lookup_cons, hx, List.lookup_cons, hx]; exact ih
      | false => rw [if_neg (by simp), List.lookup_cons, hx, List.lookup_cons, hx]; exact ih
theorem lkp_drop (s : Scope) (x : Str) : ∀ ρ : Sc, lkp (dropL s ρ) x = if s.names.lookup x = some .local then none else lkp ρ x
  | [] => by
    show (none : Option Slot) = if _ then none else none
    split <;> rfl
  | (y, t) :: r => by
    have ih := lkp_drop s x r
    unfold dropL at ih ⊢
    rw [List.filter_cons]
    by_cases hy : s.names.lookup y = some .local
    · have : (!(s.names.lookup y == some NameKind.local)) = false := by rw [hy]; rfl
      rw [this, if_neg (by simp), ih]
      by_cases hx : s.names.lookup x = some .local
      · rw [if_pos hx, if_pos hx]
      · rw [if_neg hx, if_neg hx]
        have : ¬ x = y := fun e => hx (e ▸ hy)
        rw [lkp, if_neg this]
    · have : (!(s.names.lookup y == some NameKind.local)) = true := by
        cases h : s.names.lookup y == some NameKind.local with
        | false => rfl
        | true => exact absurd (beq_iff_eq.mp h) hy
      rw [this, if_pos rfl, lkp, ih]
      by_cases hxy : x = y
      · subst hxy; rw [if_pos rfl, if_neg hy, lkp, if_pos rfl]
      · rw [if_neg hxy, lkp, if_neg hxy]
theorem compOk_spec {c : Cx} {s : Scope} (h : compOk c s = true) : s.kind = .function ∧ ∀ p ∈ s.names, (p.1 == ("__debug__" : Str)) = false ∧ (p.1 == ("__classdict__" : Str)) = false ∧ s.names.lookup p.1 = some p.2 ∧
    (p.2 = .local ∨ (p.2 = .free ∧ (c.names.lookup p.1 = some .cell ∨ c.names.lookup p.1 = some .free)) ∨ p.2 = .globalImplicit) := by
  unfold compOk at h
  rw [Bool.and_eq_true] at h
  (refine xe0_2 h ?_; (try clear h); intro h1 h2)
  refine ⟨by cases hk : s.kind <;> first | rfl | (rw [hk] at h1; cases h1), fun p hp => ?_⟩
  have h3 := List.all_eq_true.mp h2 p hp
  simp only [Bool.and_eq_true, bne_iff_ne, beq_iff_eq] at h3
  (refine xe0_2 h3 ?_; (try clear h3); intro hq0; refine xe0_2 hq0 ?_; (try clear hq0); intro hq0; refine xe0_2 hq0 ?_; (try clear hq0); intro a b; intro c'; intro d)
  refine ⟨beq_false_of_ne a, beq_false_of_ne b, c', ?_⟩
  cases hk : p.2 with
  | «local» => exact .inl rfl
  | free =>
    rw [hk] at d
    simp only [Bool.or_eq_true, beq_iff_eq] at d
    exact .inr (.inl ⟨rfl, d⟩)
  | globalImplicit => exact .inr (.inr rfl)
  | cell => rw [hk] at d; cases d
  | globalExplicit => rw [hk] at d; cases d
theorem mem_of_lookup' {α : Type} {l : List (Str × α)} {n : Str} {c : α} (h : l.lookup n = some c) : (n, c) ∈ l := PySem.mem_of_lookup h
end Mine
end

section
open PySem PySem.W PyProof.Rows
set_option tactic.hygienic false
namespace Mine
section
variable {prog : Program} {w : World} {C : Addr} {B : Heap} {A : Around} {F F' : FH} {s s' : Shared} {fv : Str → Option Addr} {tab : List (Str × Fn)} {mg mb : Str → Option Value} {env : Env} {k n lo : Nat} {ps : List Addr} {ρ : Sc} {c : Cx}
theorem comp_kind {scope : Scope} {cl : List (Str × Addr)} {K : Addr} (x : Str) : (compEnvC scope cl K env).kindOf x = (scope.names.lookup x).map fun k => if (k == NameKind.free && env.scope.kind == .function && env.kindOf x == some .cell) = true then .cell else k :=
  lookup_relab (fun n k => k == NameKind.free && env.scope.kind == .function && env.kindOf n == some .cell) scope.names x
theorem comp_envOk {c : Cx} {scope : Scope} {cl : List (Str × Addr)} {K : Addr} (h : compOk c scope = true) : EnvOk (c.inner scope) (compEnvC scope cl K env) := by
  (refine xe0_2 (compOk_spec h) ?_; intro h1 h2)
  refine ⟨fun x => ?_, fun h => (by cases h), fun x hx => ?_⟩
  · show scope.names.lookup x = _ ∨ _
    rw [comp_kind]
    cases hl : scope.names.lookup x with
    | none => exact .inl rfl
    | some kd =>
      rw [Option.map_some]
      by_cases hc : (kd == NameKind.free && env.scope.kind == .function && env.kindOf x == some .cell) = true
      · rw [if_pos hc]
        have : kd = .free := by
          simp only [Bool.and_eq_true] at hc
          cases kd <;> first | rfl | (have := hc.1.1; cases this)
        right; exact ⟨by show List.lookup x scope.names = _; rw [hl, this], rfl⟩
      · rw [if_neg hc]; exact .inl rfl
  · have hx' : scope.names.lookup x ≠ none := hx
    cases hl : scope.names.lookup x with
    | none => exact absurd hl hx'
    | some kd =>
      (refine xe0_3 (h2 (x, kd) (mem_of_lookup' hl)) ?_; intro a b _)
      exact ⟨a, b⟩
theorem St.comp (he : EnvOk c env) (st : St prog w C B lo ps env F s ρ) {scope : Scope} {cl : List (Str × Addr)} (h : compOk c scope = true) (hcl : ∀ x a, cl.lookup x = some a → env.cells.lookup x = some a) (hcl2 : ∀ x, (∃ p ∈ scope.names, p.1 = x ∧ p.2 = .free) → (cl.lookup x).isSome)
    {o : Obj} {h' : Heap} {m₀ : Str → Option Value} (hns : h'.Ns s.heap.objs.size m₀) (hm₀ : ∀ x, m₀ x = none) (hsb : Heap.SameBut s.heap.objs.size (s.heap.push o) h') (tk : Nat) :
    St prog w C B lo ps (compEnvC scope cl s.heap.objs.size env) F { s with heap := h', toks := tk } (dropL scope ρ) := by
  (refine xe1_1 st ?_; (try clear st); intro m st)
  (refine xe0_2 (compOk_spec h) ?_; intro h1 h2)
  have old : ∀ b, b < s.heap.objs.size → h'.get? b = s.heap.get? b := fun b hb => by
    rw [hsb.2 b (Nat.ne_of_lt hb)]
    unfold Heap.get? Heap.push
    simp only [Array.getElem?_push, Nat.ne_of_lt hb, if_false]
  have hz : s.heap.objs.size < h'.objs.size := by rw [hsb.1, Heap.size_push]; exact Nat.lt_succ_self _
  have isl : ∀ x, (compEnvC scope cl s.heap.objs.size env).kindOf x = some .local → scope.names.lookup x = some .local := fun x hx => by
    rw [comp_kind] at hx
    cases hl : scope.names.lookup x with
    | none => rw [hl] at hx; cases hx
    | some kd =>
      rw [hl, Option.map_some] at hx
      split at hx
      · cases hx
      · cases hx; rfl
  have iscf : ∀ x, ((compEnvC scope cl s.heap.objs.size env).kindOf x = some .cell ∨ (compEnvC scope cl s.heap.objs.size env).kindOf x = some .free) → scope.names.lookup x = some .free ∧ ((compEnvC scope cl s.heap.objs.size env).kindOf x = some .cell → env.kindOf x = some .cell) := fun x hx => by
    rw [comp_kind] at hx ⊢
    cases hl : scope.names.lookup x with
    | none => rw [hl] at hx; rcases hx with hx | hx <;> cases hx
    | some kd =>
      rw [hl, Option.map_some] at hx
      rw [Option.map_some]
      by_cases hc : (kd == NameKind.free && env.scope.kind == .function && env.kindOf x == some .cell) = true
      · simp only [Bool.and_eq_true] at hc
        have hk : kd = .free := by cases kd <;> first | rfl | (have := hc.1.1; cases this)
        exact ⟨by rw [hk], fun _ => beq_iff_eq.mp hc.2⟩
      · rw [if_neg hc] at hx ⊢
        (refine xe0_4 (h2 (x, kd) (mem_of_lookup' hl)) ?_; intro _ _ _ hd)
        rcases hx with hx | hx
        · cases hx
          rcases hd with hd | hd | hd
          · cases hd
          · cases hd.1
          · cases hd
        · cases hx
          exact ⟨rfl, fun q => by cases q⟩
  have cell_of : ∀ x, scope.names.lookup x = some .free → ∃ a, cl.lookup x = some a ∧ env.cells.lookup x = some a := fun x hx => by
    (refine xe1_1 (Option.isSome_iff_exists.mp (hcl2 x ⟨(x, .free), mem_of_lookup' hx, rfl, rfl⟩)) ?_; intro a ha)
    exact ⟨a, ha, hcl x a ha⟩
  have outer : ∀ x, scope.names.lookup x = some .free → env.kindOf x = some .cell ∨ env.kindOf x = some .free := fun x hx => by
    (refine xe0_4 (h2 (x, .free) (mem_of_lookup' hx)) ?_; intro _ _ _ hd)
    rcases hd with hd | ⟨_, hd⟩ | hd
    · cases hd
    · rcases he.kind x with q | ⟨_, q⟩
      · rw [← q]; exact hd
      · exact .inl q
    · cases hd
  have sub : ∀ x sl, lkp (dropL scope ρ) x = some sl → isV ((compEnvC scope cl s.heap.objs.size env).kindOf x) = true → scope.names.lookup x = some .free ∧ lkp ρ x = some sl := fun x sl hx hv => by
    rw [lkp_drop] at hx
    split at hx
    · cases hx
    · rename_i hnl
      refine ⟨?_, hx⟩
      cases hk : (compEnvC scope cl s.heap.objs.size env).kindOf x with
      | none => rw [hk] at hv; cases hv
      | some kd =>
        cases kd with
        | «local» => exact absurd (isl x hk) hnl
        | cell => exact (iscf x (.inl hk)).1
        | free => exact (iscf x (.inr hk)).1
        | globalImplicit => rw [hk] at hv; cases hv
        | globalExplicit => rw [hk] at hv; cases hv
  have isv : ∀ x, scope.names.lookup x = some .free → isV (env.kindOf x) = true := fun x hx => by
    rcases outer x hx with q | q <;> rw [q] <;> rfl
  refine ⟨fun x => if scope.names.lookup x = some .local then none else m x, st.ok.same (fun b o e => old b (st.ok.lt e)) st.ok.bare, ⟨?_, st.frm.glob, st.frm.blt, ⟨m₀, hns, fun x hx => ?_⟩, fun x hx => ?_, fun x y a hx hy => st.frm.apart x y a (hcl x a hx) (hcl y a hy), st.ok.fnone (Nat.le_refl _), fun x a hx => ?_⟩,
    fun x sl hx hv => ?_, fun x y sx sy vx vy a hxy hx hy kx ky mx my ox oy => ?_, Nat.le_trans st.lo (Nat.le_of_lt st.frm.locals_lt), fun x a hk hx => st.loc x a ((iscf x (.inl hk)).2 hk) (hcl x a hx), fun p hp => ?_⟩
  · show (relabel scope env).kind = .function
    exact h1
  · rw [hm₀, if_pos (isl x hx)]
  · (refine xe0_2 (iscf x hx) ?_; intro hf _)
    (refine xe1_2 (cell_of x hf) ?_; intro a ha hb)
    (refine xe1_2 (st.frm.cell x (outer x hf)) ?_; intro a' ha' hi)
    rw [hb] at ha'; cases ha'
    refine ⟨a, ha, ?_⟩
    rw [if_neg (by rw [hf]; simp)]
    (refine xe1_2 (id hi) ?_; intro oc hoc hd)
    exact ⟨oc, (old a hi.lt).trans hoc, hd⟩
  · (refine xe0_3 (st.frm.fc x a (hcl x a hx)) ?_; intro p q r)
    exact ⟨p, Nat.ne_of_lt r, Nat.lt_trans r hz⟩
  · (refine xe0_2 (sub x sl hx hv) ?_; intro hf hx')
    (refine xe1_3 (st.rel x sl hx' (isv x hf)) ?_; intro v hm hs ho)
    have keep : ∀ b, Owns s.heap sl v b → h'.get? b = s.heap.get? b := fun b hb => old b (hs.owned _ _ _ hb).2
    refine ⟨v, by rw [if_neg (by rw [hf]; simp)]; exact hm, hs.step _ _ _ (fun _ _ q => q) (fun b hb ho => ⟨hb, keep b ho⟩), fun a ha => ?_⟩
    have ha' := Owns.step prog w C hs keep ha
    (refine xe0_4 (ho a ha') ?_; intro a1 a2 a3 a4)
    exact ⟨a1, Nat.ne_of_lt (hs.owned _ _ _ ha').2, fun y c hc => a3 y c (hcl y c hc), a4⟩
  · (refine xe0_2 (sub x sx hx kx) ?_; intro fx hx')
    (refine xe0_2 (sub y sy hy ky) ?_; intro fy hy')
    rw [if_neg (by rw [fx]; simp)] at mx
    rw [if_neg (by rw [fy]; simp)] at my
    (refine xe1_3 (st.rel x sx hx' (isv x fx)) ?_; intro v1 m1 s1 _)
    (refine xe1_3 (st.rel y sy hy' (isv y fy)) ?_; intro v2 m2 s2 _)
    rw [mx] at m1; cases m1; rw [my] at m2; cases m2
    exact st.disj x y sx sy vx vy a hxy hx' hy' (isv x fx) (isv y fy) mx my (Owns.step prog w C s1 (fun b hb => old b (s1.owned _ _ _ hb).2) ox) (Owns.step prog w C s2 (fun b hb => old b (s2.owned _ _ _ hb).2) oy)
  · (refine xe0_4 (st.prot p hp) ?_; intro q1 q2 q3 q4)
    exact ⟨q1, Nat.lt_trans q2 hz, Nat.ne_of_lt q2, fun y c hc => q4 y c (hcl y c hc)⟩
theorem comp_run (ih : Snd prog w C B fv n) (he : EnvOk c env) (hc : CallOk prog w C B fv k c.call) (hr : Room A k) (st : St prog w C B lo ps env F s ρ) {elt t iter : Expr} {ifs : List Expr} {rest : List Comprehension} {scope : Scope} {pos pos' : Pos} {ds out : List D}
    (hok : compOk c scope = true) (hi : evI n c ρ iter = some ds) (h : gatherD (fun d => evC n (c.inner scope) (dropL scope ρ) elt t ifs rest d) ds = some out) (hsz : out.length ≤ 1000000) {use : Option (Value → Sem Unit)} {E : Value → Shared → Prop} {Q : Value → Shared → Prop}
    (hK : ∀ L K F' s', Ste s.heap.objs.size F s F' s' → Ok B F' s' → SlotOk prog w C F' s'.heap (.ol out) (.ref L) → s.heap.objs.size ≤ L → s.heap.objs.size ≤ K → L ≠ K → F' K = none → K < s'.heap.objs.size → (∃ m, s'.heap.Ns K m) → compPost (model prog w) A E use Q (.ref L) K (.ok .next) s') :
    wpAny (model prog w) A (comprehension (.ListComp elt (⟨t, iter, ifs, 0⟩ :: rest) scope pos) scope env pos' (newList []) false (eval iter env) use) Q E s := by
  (refine xe0_2 (compOk_spec hok) ?_; intro h1 h2)
  obtain ⟨cl, e1, e2, e3⟩ := clos_ok (scope := scope) (env := env) fun p hp hf => by
    (refine xe0_4 (h2 p hp) ?_; intro _ _ _ hd)
    (refine xe1_1 st ?_; (try clear st); intro m st)
    have : env.kindOf p.1 = some .cell ∨ env.kindOf p.1 = some .free := by
      rcases hd with hd | ⟨_, hd⟩ | hd
      · rw [hf] at hd; cases hd
      · rcases he.kind p.1 with q | ⟨_, q⟩
        · rw [← q]; exact hd
        · exact .inl q
      · rw [hf] at hd; cases hd
    (refine xe1_2 (st.frm.cell p.1 this) ?_; intro a ha _)
    exact ⟨a, ha⟩
  have hcell : ∀ x ∈ scope.names, x.2 ≠ .cell := fun x hx q => by
    (refine xe0_4 (h2 x hx) ?_; intro _ _ _ hd)
    rw [q] at hd
    rcases hd with hd | ⟨hd, _⟩ | hd <;> cases hd
  refine wpAny_comprehension_free rfl (fold_set hi) e1 h1 (fun x hx hl => by rw [(h2 x hx).2.2.1, hl]) (ih.i he hc hr st hi E _ fun I F1 s1 t1 ok1 hI hit => ?_)
  refine wpAny_newObj_type (wpAny_newFunctionEnv hcell (by intro y hy; simp at hy) (fun h3 hns3 hsb3 => ?_) h1)
  have st1 := st.step t1 (Nat.le_refl _) ok1
  have t2 := Ste.push ok1 { cls := .type "list", data := .seq ([] : List Value).toArray } s1.toks
  have ok2 := ok1.push { cls := .type "list", data := .seq ([] : List Value).toArray } s1.toks
  generalize hs2 : (⟨s1.heap.push { cls := .type "list", data := .seq ([] : List Value).toArray }, s1.gens, s1.drawn, s1.toks, s1.os⟩ : Shared) = s2 at t2 ok2 hns3 hsb3 ⊢
  have hL2 : s1.heap.objs.size < s2.heap.objs.size := by rw [← hs2]; show _ < (s1.heap.push _).objs.size; rw [Heap.size_push]; exact Nat.lt_succ_self _
  have hLn : F1 s1.heap.objs.size = none := ok1.fnone (Nat.le_refl _)
  have hIL : I < s1.heap.objs.size := hit.2.1
  have st2 : St prog w C B lo ([s1.heap.objs.size, I] ++ ps) env F1 s2 ρ := st.protect (t1.seq t2) ok2 fun p hp => by
    rcases List.mem_cons.mp hp with rfl | hp
    · exact ⟨t1.size, hL2, hLn⟩
    · rw [List.mem_singleton.mp hp]; exact ⟨hI, Nat.lt_trans hIL hL2, hit.1⟩
  have hl2 : s2.heap.PlainList s1.heap.objs.size ([] : List Value).toArray := ⟨0, by rw [← hs2]; exact Heap.get?_push_size _ rfl⟩
  have st3 := St.comp he st2 hok e2 e3 hns3 (fun x => rfl) hsb3 (s2.toks + ([] : List (Str × Value)).length)
  have old3 : ∀ b, b < s2.heap.objs.size → h3.get? b = s2.heap.get? b := fun b hb => by
    rw [hsb3.2 b (Nat.ne_of_lt hb)]
    unfold Heap.get? Heap.push
    simp only [Array.getElem?_push, Nat.ne_of_lt hb, if_false]
  have hz3 : s2.heap.objs.size < h3.objs.size := by rw [hsb3.1, Heap.size_push]; exact Nat.lt_succ_self _
  have t3 : Ste s2.heap.objs.size F1 s2 F1 (⟨h3, s2.gens, s2.drawn, s2.toks + ([] : List (Str × Value)).length, s2.os⟩ : Shared) := ⟨fun _ _ q => q, fun b hb q => ⟨q, old3 b hb⟩, Nat.le_of_lt hz3, rfl⟩
  have hl3 : h3.PlainList s1.heap.objs.size ([] : List Value).toArray := Heap.PlainList.same hl2 (old3 _ hL2)
  have hitA : IterOk prog w C A F1 (⟨h3, s2.gens, s2.drawn, s2.toks + ([] : List (Str × Value)).length, s2.os⟩ : Shared) I ds := by
    obtain ⟨i1, i2, fp, P, W, i3, i4, i5, i6⟩ := hit
    have x : IterAt prog w C A I fp P W ds F1 s1 0 := ⟨i1, i2, i3, i4, i5, i6⟩
    have e : h3.get? I = s1.heap.get? I := by rw [old3 I (Nat.lt_trans i2 hL2)]; exact (t2.old I i2 i1).2
    have y := x.step ok1 st3.ok (fun _ _ q => q) ⟨i1, e⟩ (Nat.le_trans (Nat.le_of_lt hL2) (Nat.le_of_lt hz3))
    exact ⟨y.own, y.lt, fp, P, W, i3, y.here, i5, i6⟩
  have he' := comp_envOk (env := env) (cl := cl) (K := s2.heap.objs.size) hok
  have k1 : s.heap.objs.size ≤ (compEnvC scope cl s2.heap.objs.size env).locals := Nat.le_trans t1.size (Nat.le_of_lt hL2)
  have hLnot : s1.heap.objs.size ∉ ([] : List Addr) := by simp
  have loop := comp_loop (ps := []) (scope := scope) (pos := pos) (gens := ⟨t, iter, ifs, 0⟩ :: rest) (dep := 0) (env := compEnvC scope cl s2.heap.objs.size env) (k0 := s.heap.objs.size) ih he' hc hr rfl rfl (by simp) (by simp) (Nat.ne_of_lt hIL) k1 t1.size hI hitA
    (st3.sub (ps := [s1.heap.objs.size, I]) (fun p hp => List.mem_append_left _ hp) (fun _ _ q => q)) hl3 .nil h (by simpa using hsz)
    (R := compPost (model prog w) A E use Q (.ref s1.heap.objs.size) s2.heap.objs.size) fun F4 s4 vs4 t4 st4 hl4 hv4 => by
      have tt := ((t1.seq t2).seq t3).trans t4.ste
      (refine xe1_1 hl4 ?_; (try clear hl4); intro nn hget)
      have hp1 := let ⟨m, z⟩ := st4; z.prot s1.heap.objs.size (by simp)
      (refine xe1_1 st4 ?_; (try clear st4); intro m4 z4)
      (refine xe1_2 z4.frm.ns ?_; intro mm hmm _)
      exact hK s1.heap.objs.size s2.heap.objs.size F4 s4 tt z4.ok ⟨_, vs4, nn, rfl, hp1.1, hget, by simpa using hv4⟩ t1.size k1 (Nat.ne_of_lt hL2) z4.frm.fl z4.frm.locals_lt ⟨mm, hmm⟩
  refine codeAny_compStart (dep := 0) rfl loop fun E' => ?_
  obtain ⟨_, _, _, _, _, W, q1, _⟩ := hitA
  exact W.self 0 _ _ _ q1 loop
theorem s_comp (ih : Snd prog w C B fv n) (he : EnvOk c env) (hc : CallOk prog w C B fv k c.call) (hr : Room A k) (st : St prog w C B lo ps env F s ρ) {elt t iter : Expr} {ifs : List Expr} {rest : List Comprehension} {scope : Scope} {pos : Pos} {ds out : List D}
    (hok : compOk c scope = true) (hi : evI n c ρ iter = some ds) (h : gatherD (fun d => evC n (c.inner scope) (dropL scope ρ) elt t ifs rest d) ds = some out) (hsz : out.length ≤ 1000000) :
    EvS prog w C B A F s (eval (.ListComp elt (⟨t, iter, ifs, 0⟩ :: rest) scope pos) env) (.ol out) := by
  intro E Q hQ
  rw [eval_ListComp]
  refine comp_run ih he hc hr st hok hi h hsz fun L K F' s' t' ok' hs hL hK hne hFK hKs ⟨m, hm⟩ => ⟨m, hm, fun h' hs' => ?_⟩
  have t2 : Ste s.heap.objs.size F' s' F' { s' with heap := h' } := ⟨fun _ _ q => q, fun b hb q => ⟨q, hs'.2 b fun z => Nat.lt_irrefl _ (Nat.lt_of_lt_of_le hb (z ▸ hK))⟩, by show _ ≤ h'.objs.size; rw [hs'.1]; exact Nat.le_refl _, rfl⟩
  refine hQ _ F' _ (t'.trans t2) (ok'.same (fun b o e => hs'.2 b (fun q => by rw [q, hFK] at e; cases e)) ok'.bare) (hs.step _ _ _ (fun _ _ q => q) fun b hb ho => ⟨hb, ?_⟩) fun a ha => ?_
  · have : b = L := by cases ho; rfl
    subst this
    exact hs'.2 b hne
  · cases ha; exact hL
end
end Mine
end

section
open PySem PySem.W PyProof.Rows
namespace Mine
noncomputable def GenPair (prog : Program) (w : World) (C : Addr) (B : Heap) (fv : Str → Option Addr) : Prop :=
  ∀ {n k lo : Nat} {ps : List Addr} {ρ : Sc} {c : Cx} {env : Env} {A : Around} {F : FH} {s : Shared} {i j : Str} {p1 p2 p3 p4 p5 p6 p7 p8 p9 p10 pos : Pos} {kt : Nat} {scope : Scope} {a b : Expr} {x y d : D}, Snd prog w C B fv n → EnvOk c env → CallOk prog w C B fv k c.call → Room A k → St prog w C B lo ps env F s ρ →
    genOk i j scope = true → c.gen = true → isGlob c.names (Str.ofString "tuple") = true → isGlob c.names (Str.ofString "zip") = true → evE n c ρ a = some x → evE n c ρ b = some y → addPairs x y = some d →
    EvS prog w C B A F s (eval (.Call (.Name (Str.ofString "tuple") p10) [.GeneratorExp (.BinOp (.Name i p1) .Add (.Name j p2) p3) [⟨.Tuple [.Name i p4, .Name j p5] kt p6, .Call (.Name (Str.ofString "zip") p7) [a, b] [] p8, [], 0⟩] scope p9] [] pos) env) (.fr d)
section
variable {prog : Program} {w : World} {C : Addr} {B : Heap} {A : Around} {F F' : FH} {s s' : Shared} {fv : Str → Option Addr} {tab : List (Str × Fn)} {mg mb : Str → Option Value} {env : Env} {k n lo : Nat} {ps : List Addr} {ρ : Sc} {c : Cx}
theorem asSlot_fr {x : Expr} {d : D} (h : isAlloc x = false) : asSlot x d = .fr d := by unfold asSlot; rw [h]; rfl
theorem asSlot_own {x : Expr} {d : D} (h : isAlloc x = true) : asSlot x d = toOwn d := by unfold asSlot; rw [h]; rfl
theorem s_callN (base : Base prog w B C tab fv mg mb) (gp : GenPair prog w C B fv) (ih : Snd prog w C B fv n) (he : EnvOk c env) (hc : CallOk prog w C B fv k c.call) (hr : Room A k) (st : St prog w C B lo ps env F s ρ) {f : Str} {p pos : Pos} {args : List Expr} {d : D} (hg : isGlob c.names f = true)
    (h : callN c (evE n c ρ) (evP n c ρ) (evL n c ρ) f args = some d) : EvS prog w C B A F s (eval (.Call (.Name f p) args [] pos) env) (.fr d) := by
  unfold callN at h
  split at h
  · rename_i kd hk
    have hb := bk_eq hk
    split at h
    · rename_i e; subst e
      refine bind_el h ?_; (try clear h); rintro ⟨a, t⟩ h1 h
      refine ite_el h ?_; (try clear h); rintro ⟨ht, hg2⟩ h
      refine bind_el h ?_; (try clear h); intro x h2 h
      refine map_el h ?_; (try clear h); intro b h3 h4
      cases h4
      (refine xe1_1 (vName_eq ht) ?_; intro p2 hq1; rcases hq1 with rfl)
      rw [vTwo_eq h1, hb]
      refine s_isi base ih he hc hr st (by rw [hb] at hg; exact hg) hg2 h2 ?_
      unfold isTupD at h3
      split at h3 <;> cases h3
      · exact .inl ⟨_, rfl, rfl⟩
      · exact .inr ⟨_, rfl, rfl⟩
    · split at h
      · rename_i e; subst e
        refine bind_el h ?_; (try clear h); intro a h1 h
        refine bind_el h ?_; (try clear h); intro x h2 h
        rw [vOne_eq h1, hb]
        refine s_len base ih he hc hr st (by rw [hb] at hg; exact hg) h2 h ?_
        rintro y q rfl
        cases n with
        | zero => exact nos1 h2
        | succ m =>
          unfold evP at h2
          exact not_starred (show evE m c ρ _ = _ from h2) _ _ rfl
      · split at h
        · rename_i g hgen
          refine ite_el h ?_; (try clear h); rintro ⟨rfl, hz, hcg, hok⟩ h
          refine bind_el h ?_; (try clear h); intro x h2 h
          refine bind_el h ?_; (try clear h); intro y h3 h
          refine bind_el hgen ?_; (try clear hgen); intro e h4 h5
          (refine xe7_1 (vGen_eq h5) ?_; intro p1 p2 p3 p4 p5 p6 p7 hqr; refine xe3_1 hqr ?_; (try clear hqr); intro p8 p9 kt hq3; rcases hq3 with rfl)
          rw [vOne_eq h4, hb]
          exact gp ih he hc hr st hok hcg (by rw [hb] at hg; exact hg) hz h2 h3 h
        · refine bind_el h ?_; (try clear h); intro ds h2 h
          exact s_built base he hr st hg hk h (trees_eq env pos h2) (ih.l he hc hr st h2)
  · split at h
    · cases h
    · rename_i hm
      refine bind_el h ?_; (try clear h); intro ds h2 h
      exact s_user base ih he hc hr st hg (by simpa using hm) h2 h
theorem s_callE (base : Base prog w B C tab fv mg mb) (gp : GenPair prog w C B fv) (ih : Snd prog w C B fv n) (he : EnvOk c env) (hc : CallOk prog w C B fv k c.call) (hr : Room A k) (st : St prog w C B lo ps env F s ρ) {f : Expr} {pos : Pos} {args : List Expr} {d : D}
    (h : callE c (evE n c ρ) (evP n c ρ) (evL n c ρ) f args pos = some d) : EvS prog w C B A F s (eval (.Call f args [] pos) env) (asSlot (.Call f args [] pos) d) := by
  unfold callE at h
  split at h
  · rename_i x hx
    (refine xe1_1 (vName_eq hx) ?_; intro p hq1; rcases hq1 with rfl)
    split at h
    · rename_i hg
      exact s_callN base gp ih he hc hr st hg h
    · cases h
  · refine bind_el h ?_; (try clear h); rintro ⟨o, m, ap⟩ h1 h
    refine ite_el h ?_; (try clear h); rintro ⟨hb1, hb2, hb3⟩ h
    refine bind_el h ?_; (try clear h); intro x h2 h
    refine bind_el h ?_; (try clear h); intro ds h3 hcm
    obtain rfl := vAttr_eq h1
    have hal : isAlloc (.Call (.Attribute o m ap) args [] pos) = decide (m = Str.ofString "split") := rfl
    unfold callM at hcm
    split at hcm
    · rename_i as hi
      refine bind_el hcm ?_; (try clear hcm); intro g hf hcm
      refine ite_el hcm ?_; (try clear hcm); intro hk hz
      obtain rfl := instOf_eq hi
      have hms : m ≠ Str.ofString "split" := by
        rintro rfl
        have : methName (Str.ofString "split") = none := by decide +kernel
        rw [this] at hf; cases hf
      rw [asSlot_fr (by rw [hal]; exact decide_eq_false hms)]
      exact s_imeth base ih he hc hr st hb1 hb2 hb3 h2 h3 hf (by simpa using hk) hz
    · refine bind_el hcm ?_; (try clear hcm); intro kd hk hcm
      have e : asSlot (.Call (.Attribute o m ap) args [] pos) d = if kd = .split then toOwn d else .fr d := by
        have hm := mk_eq hk
        by_cases q : kd = .split
        · subst q
          rw [if_pos rfl]
          exact asSlot_own (by rw [hal, hm]; rfl)
        · rw [if_neg q]
          have z : m ≠ Str.ofString "split" := fun z => by
            have e3 : mk (Str.ofString "split") = some .split := by decide +kernel
            rw [z, e3] at hk
            exact q (Option.some.inj hk).symm
          exact asSlot_fr (by rw [hal]; exact decide_eq_false z)
      rw [e]
      exact s_method ih he hc hr st hb1 hb2 hb3 h2 h3 hk hcm
theorem s_evE (base : Base prog w B C tab fv mg mb) (gp : GenPair prog w C B fv) (ih : Snd prog w C B fv n) (he : EnvOk c env) (hc : CallOk prog w C B fv k c.call) (hr : Room A k) (st : St prog w C B lo ps env F s ρ) {x : Expr} {d : D} (h : evE (n + 1) c ρ x = some d) :
    EvS prog w C B A F s (eval x env) (asSlot x d) := by
  cases x
  case Constant => exact s_const st.ok h
  case Name => exact s_name base he st h
  case BinOp a op b pos =>
    replace h : (match vMulList a op with
      | some elts => (evL n c ρ elts).bind fun ds => (evE n c ρ b).bind fun x => repD ds x
      | none => (evE n c ρ a).bind fun x => (evE n c ρ b).bind fun y => binD op x y) = some d := h
    cases hv : vMulList a op with
    | some elts =>
      rw [hv] at h
      refine bind_el h ?_; clear h; intro ds h1 h
      refine bind_el h ?_; clear h; intro y h2 h
      refine bind_el h ?_; clear h; intro i h3 h
      refine ite_el h ?_; clear h; intro hb hz
      (refine xe0_2 (vMulList_eq hv) ?_; intro hq0; refine xe1_1 hq0 ?_; (try clear hq0); intro p hq1; rcases hq1 with rfl; intro hq1; rcases hq1 with rfl)
      obtain rfl := intOf_eq h3; cases hz
      exact s_listmul ih he hc hr st h1 h2 hb.1 hb.2.1 hb.2.2
    | none =>
      rw [hv] at h
      refine bind_el h ?_; clear h; intro x h1 h
      refine bind_el h ?_; clear h; intro y h2 h
      exact s_binop ih he hc hr st h1 h2 h
  case UnaryOp op a pos =>
    refine ite_el h ?_; clear h; rintro rfl h
    refine bind_el h ?_; clear h; intro k0 h1 h
    (refine xe2_1 (vConst_eq h1) ?_; intro j p hq2; rcases hq2 with rfl)
    cases k0 <;> cases h
    exact s_neg st.ok
  case BoolOp =>
    refine Ev.slot ?_
    rw [arm_eval_BoolOp]
    exact ih.b he hc hr st h
  case IfExp =>
    refine bind_el h ?_; clear h; intro x h1 h
    exact s_ifexp ih he hc hr st h1 h
  case List =>
    refine bind_el h ?_; clear h; intro ds h1 h
    refine ite_el h ?_; clear h; intro hl hz
    cases hz; exact s_list ih he hc hr st h1 hl
  case Tuple =>
    refine bind_el h ?_; clear h; intro ds h1 h
    refine ite_el h ?_; clear h; intro hl hz
    cases hz; exact s_tuple ih he hc hr st h1 hl
  case Dict =>
    refine ite_el h ?_; clear h; rintro ⟨h1, h2⟩ hz
    cases hz
    rw [List.isEmpty_iff.mp h1, List.isEmpty_iff.mp h2]
    exact s_dict base st.ok
  case Compare =>
    refine bind_el h ?_; clear h; intro op h1 h
    refine bind_el h ?_; clear h; intro r h2 h
    refine bind_el h ?_; clear h; intro x h3 h
    refine bind_el h ?_; clear h; intro y h4 h
    refine map_el h ?_; clear h; intro b hb hz
    obtain rfl := vOne_eq h1; obtain rfl := vOne_eq h2; cases hz
    exact s_cmp ih he hc hr st h3 h4 hb
  case Call =>
    refine ite_el h ?_; clear h; intro h1 h
    rw [List.isEmpty_iff.mp h1]
    exact s_callE base gp ih he hc hr st h
  case Subscript v i pos =>
    replace h : (match vSlice i with
      | some (lo, hi, st) => (evE n c ρ v).bind fun x => (evO n c ρ lo).bind fun l => (evO n c ρ hi).bind fun h => (evO n c ρ st).bind fun s => sliceD x l h s
      | none => (evP n c ρ v).bind fun x => (evE n c ρ i).bind fun y => subD x y) = some d := h
    cases hs : vSlice i with
    | some z =>
      obtain ⟨lo, hi, st'⟩ := z
      rw [hs] at h
      refine bind_el h ?_; clear h; intro x h1 h
      refine bind_el h ?_; clear h; intro l h2 h
      refine bind_el h ?_; clear h; intro u h3 h
      refine bind_el h ?_; clear h; intro t h4 h
      (refine xe1_1 (vSlice_eq hs) ?_; intro p hq1; rcases hq1 with rfl)
      exact s_slice ih he hc hr st h1 h2 h3 h4 h
    | none =>
      rw [hs] at h
      refine bind_el h ?_; clear h; intro x h1 h
      refine bind_el h ?_; clear h; intro y h2 h
      rw [asSlot_fr (x := .Subscript v i pos) (show (vSlice i).isSome = false by rw [hs]; rfl)]
      exact s_item ih he hc hr st h1 h2 h
  case Attribute o a pos =>
    refine bind_el h ?_; clear h; intro x h1 hz
    (refine xe1_1 (vName_eq h1) ?_; intro p hq1; rcases hq1 with rfl)
    split at hz
    · rename_i hv
      refine bind_el hz ?_; clear hz; intro sl h2 hz
      refine bind_el hz ?_; clear hz; intro as h3 hz
      rw [Option.ite_none_right_eq_some] at hz
      exact s_attr base he st hv h2 (instOf_eq h3) hz.1 hz.2
    · split at hz
      · rename_i hg
        exact s_cattr base he st hg hz
      · exact nos1 hz
  case ListComp elt gens sc pos =>
    cases gens with
    | nil => exact nos1 h
    | cons g rest =>
      obtain ⟨t, it, ifs, as⟩ := g
      refine ite_el h ?_; clear h; rintro ⟨hok, rfl⟩ h
      refine bind_el h ?_; clear h; intro ds h1 h
      refine bind_el h ?_; clear h; intro out h2 h
      refine ite_el h ?_; clear h; intro hl hz
      cases hz
      exact (s_comp ih he hc hr st hok h1 h2 hl).frz.slot
  all_goals exact nos1 h
theorem snd_zero : Snd prog w C B fv 0 where
  e := fun _ _ _ _ h => by exact nos1 h
  p := fun _ _ _ _ h => by exact nos1 h
  l := fun _ _ _ _ h => by exact nos1 h
  o := fun _ _ _ _ h => by exact nos1 h
  b := fun _ _ _ _ h => by exact nos1 h
  t := fun _ _ _ _ h => by exact nos1 h
  ts := fun _ _ _ _ h => by exact nos1 h
  i := fun _ _ _ _ h => by exact nos1 h
  q := fun _ _ _ _ h => by exact nos1 h
  c := fun _ _ _ _ h => by exact nos1 h
theorem snd_all (base : Base prog w B C tab fv mg mb) (gp : GenPair prog w C B fv) : ∀ n, Snd prog w C B fv n
  | 0 => snd_zero
  | n + 1 =>
    have ih := snd_all base gp n
    { e := fun he hc hr st h => s_evE base gp ih he hc hr st h
      p := fun he hc hr st h => s_evP base ih he hc hr st h
      l := fun he hc hr st h => s_evL ih he hc hr st h
      o := fun he hc hr st h => s_evO ih he hc hr st h
      b := fun he hc hr st h => s_evB ih he hc hr st h
      t := fun he hc hr st h => s_evT ih he hc hr st h
      ts := fun he hc hr st h => s_evTs ih he hc hr st h
      i := fun he hc hr st h => s_evI base ih he hc hr st h
      q := fun he hc hr st h => s_evIfs ih he hc hr st h
      c := fun he hc hr st h => s_evC ih he hc hr st h }
end
end Mine
end

section
open PySem PySem.W PyProof.Rows
set_option tactic.hygienic false
namespace Mine
noncomputable def FlR (prog : Program) (w : World) (C : Addr) (F : FH) : Fl → Flow → Prop
  | .next, .next => True
  | .brk, .brk => True
  | .ret d, .ret v => Rep prog w C F d v
  | _, _ => False
noncomputable def XDo (prog : Program) (w : World) (C : Addr) (B : Heap) (A : Around) (lo : Nat) (ps : List Addr) (env : Env) (F : FH) (s : Shared) (t : Sem Flow) (fl : Fl) (ρ' : Sc) : Prop :=
  ∀ (E : Value → Shared → Prop) (Q : Flow → Shared → Prop), (∀ F' s' f, Stq lo ps F s F' s' → St prog w C B lo ps env F' s' ρ' → FlR prog w C F' fl f → Q f s') → wpAny (model prog w) A t Q E s
noncomputable def XB (prog : Program) (w : World) (C : Addr) (B : Heap) (fv : Str → Option Addr) (n : Nat) : Prop :=
  ∀ {c : Cx} {env : Env} {lo : Nat} {ps : List Addr} {ρ ρ' : Sc} {F : FH} {s : Shared} {A : Around} {k : Nat} {b : List Stmt} {fl : Fl}, EnvOk c env → (∀ x, env.kindOf x ≠ some .free) → CallOk prog w C B fv k c.call → Room A k → St prog w C B lo ps env F s ρ →
    exB n c ρ b = some (fl, ρ') → XDo prog w C B A lo ps env F s (execs b env) fl ρ'
noncomputable def XS (prog : Program) (w : World) (C : Addr) (B : Heap) (fv : Str → Option Addr) (n : Nat) : Prop :=
  ∀ {c : Cx} {env : Env} {lo : Nat} {ps : List Addr} {ρ ρ' : Sc} {F : FH} {s : Shared} {A : Around} {k : Nat} {x : Stmt} {fl : Fl}, EnvOk c env → (∀ x, env.kindOf x ≠ some .free) → CallOk prog w C B fv k c.call → Room A k → St prog w C B lo ps env F s ρ →
    exS n c ρ x = some (fl, ρ') → XDo prog w C B A lo ps env F s (exec x env) fl ρ'
section
variable {prog : Program} {w : World} {C : Addr} {B : Heap} {A : Around} {F F' : FH} {s s' : Shared} {fv : Str → Option Addr} {tab : List (Str × Fn)} {mg mb : Str → Option Value} {env : Env} {k n lo : Nat} {ps : List Addr} {ρ ρ' : Sc} {c : Cx}
theorem St.le (st : St prog w C B lo ps env F s ρ) : lo ≤ s.heap.objs.size := let ⟨_, z⟩ := st; Nat.le_trans z.lo (Nat.le_of_lt z.frm.locals_lt)
theorem EnvOk.bnd (he : EnvOk c env) (hf : ∀ x, env.kindOf x ≠ some .free) {x : Str} (h : isVar c.names x = true) : env.kindOf x = some .local ∨ env.kindOf x = some .cell := by
  have hv := (he.var h).1
  cases hk : env.kindOf x with
  | none => rw [hk] at hv; cases hv
  | some kd =>
    cases kd with
    | «local» => exact .inl rfl
    | cell => exact .inr rfl
    | free => exact absurd hk (hf x)
    | globalImplicit => rw [hk] at hv; cases hv
    | globalExplicit => rw [hk] at hv; cases hv
theorem name_varM {m : Str → Option Value} (he : EnvOk c env) (st : StM prog w C B lo ps env F s ρ m) {x : Str} {pos : Pos} {sl : Slot} (hv : isVar c.names x = true) (hx : lkp ρ x = some sl)
    {E : Value → Shared → Prop} {Q : Value → Shared → Prop} (hQ : ∀ v, m x = some v → SlotOk prog w C F s.heap sl v → Q v s) : wpAny (model prog w) A (eval (.Name x pos) env) Q E s := by
  (refine xe0_3 (he.var hv) ?_; intro h1 h2 h3)
  refine wpAny_Name ?_ h2
  (refine xe1_3 (st.rel x sl hx h1) ?_; intro v hm hs _)
  cases hk : env.kindOf x with
  | none => rw [hk] at h1; cases h1
  | some kd =>
    cases kd with
    | «local» =>
      (refine xe1_2 st.frm.ns ?_; intro m₀ hn e)
      exact wpAny_loadName_local st.frm.kind hk hn ((e x hk).trans hm) (hQ v hm hs)
    | cell =>
      (refine xe1_2 (st.frm.cell x (.inl hk)) ?_; intro c hc hi)
      exact wpAny_loadName_cell st.frm.kind hk hc (hm ▸ hi) (hQ v hm hs)
    | free =>
      (refine xe1_2 (st.frm.cell x (.inr hk)) ?_; intro c hc hi)
      exact wpAny_loadName_free st.frm.kind hk hc (hm ▸ hi) (hQ v hm hs) h3
    | globalImplicit => rw [hk] at h1; cases h1
    | globalExplicit => rw [hk] at h1; cases h1
theorem x_ret (sn : ∀ m, Snd prog w C B fv m) (he : EnvOk c env) (hc : CallOk prog w C B fv k c.call) (hr : Room A k) (st : St prog w C B lo ps env F s ρ) {e : Expr} {pos : Pos} {d : D} (h : evE n c ρ e = some d) :
    XDo prog w C B A lo ps env F s (exec (.Return (some e) pos) env) (.ret d) ρ := fun E Q hQ =>
  wpAny_Return_some (((sn n).e he hc hr st h).ev E _ fun v F1 s1 t1 ok1 r1 => hQ F1 s1 (.ret v) (t1.q st.le (Nat.le_refl _)) (st.step t1 (Nat.le_refl _) ok1) r1)
theorem x_break (st : St prog w C B lo ps env F s ρ) {pos : Pos} : XDo prog w C B A lo ps env F s (exec (.Break pos) env) .brk ρ := fun E Q hQ =>
  wpAny_Break (hQ F s .brk (.refl ..) st trivial)
theorem x_assert (sn : ∀ m, Snd prog w C B fv m) (he : EnvOk c env) (hc : CallOk prog w C B fv k c.call) (hr : Room A k) (st : St prog w C B lo ps env F s ρ) {e : Expr} {pos : Pos} (h : evT n c ρ e = some true) :
    XDo prog w C B A lo ps env F s (exec (.Assert e none pos) env) .next ρ := fun E Q hQ =>
  wpAny_Assert_holds ((sn n).t he hc hr st h E _ fun F1 s1 t1 ok1 => ⟨rfl, hQ F1 s1 .next (t1.q st.le (Nat.le_refl _)) (st.step t1 (Nat.le_refl _) ok1) trivial⟩)
theorem x_if (sn : ∀ m, Snd prog w C B fv m) (xb : XB prog w C B fv n) (he : EnvOk c env) (hf : ∀ x, env.kindOf x ≠ some .free) (hc : CallOk prog w C B fv k c.call) (hr : Room A k) (st : St prog w C B lo ps env F s ρ) {e : Expr} {b o : List Stmt} {pos : Pos} {t : Bool} {fl : Fl} (h : evT n c ρ e = some t)
    (h2 : exB n c ρ (if t then b else o) = some (fl, ρ')) : XDo prog w C B A lo ps env F s (exec (.If e b o pos) env) fl ρ' := fun E Q hQ =>
  wpAny_If ((sn n).t he hc hr st h E _ fun F1 s1 t1 ok1 => by
    have st1 := st.step t1 (Nat.le_refl _) ok1
    have := xb he hf hc hr st1 h2 E Q fun F2 s2 f t2 st2 hfl => hQ F2 s2 f ((t1.q st.le (Nat.le_refl _)).trans t2) st2 hfl
    cases t <;> exact this)
theorem frz_at (t : Ste s.heap.objs.size F s F' s') (ok : Ok B F' s') {ds : List D} {v : Value} (hs : SlotOk prog w C F' s'.heap (.ol ds) v) (hn : ∀ a, v = .ref a → s.heap.objs.size ≤ a) :
    ∃ a F'', v = .ref a ∧ Ste s.heap.objs.size F s F'' s' ∧ Ok B F'' s' ∧ Rep prog w C F'' (.lst ds) v ∧ ∀ b, b ≠ a → F' b = none → F'' b = none := by
  (refine xe3_2 (id hs) ?_; intro a vs j hq3; rcases hq3 with rfl; intro _)
  (refine xe1_4 (SlotOk.frzE t ok hs fun b hb => hn b hb) ?_; intro F'' t2 ok2 r hF)
  exact ⟨a, F'', rfl, t2, ok2, r, fun b hb e => hF b (fun q => hb (Value.ref.inj q).symm) e⟩
theorem swaps_no {v : Expr} {x : Expr} {line : Nat} (h : ∀ elt gens sc p, v ≠ .ListComp elt gens sc p) (h2 : ∀ elt gens sc p, v ≠ .SetComp elt gens sc p) (h3 : ∀ a b gens sc p, v ≠ .DictComp a b gens sc p) : swapsWith v (some x) line env = pure false := by
  cases v <;> first | rfl | exact absurd rfl (h _ _ _ _) | exact absurd rfl (h2 _ _ _ _) | exact absurd rfl (h3 _ _ _ _ _)
theorem not_comp {v : Expr} {d : D} (h : evE n c ρ v = some d) : (∀ elt gens sc p, v ≠ .SetComp elt gens sc p) ∧ ∀ a b gens sc p, v ≠ .DictComp a b gens sc p := by
  constructor
  · rintro elt gens sc p rfl
    cases n with
    | zero => exact nos1 h
    | succ m => exact nos1 h
  · rintro a b gens sc p rfl
    cases n with
    | zero => exact nos1 h
    | succ m => exact nos1 h
theorem swaps_comp {elt : Expr} {gens : List Comprehension} {sc : Scope} {p q : Pos} {x : Str} {line : Nat} :
    swapsWith (.ListComp elt gens sc p) (some (.Name x q)) line env = pure (env.blockKind == .function && env.kindOf x == some .local && q.line == p.line && !(sc.names.any fun (n, k) => n == x && (k == .local || k == .cell))) := rfl
theorem x_name (sn : ∀ m, Snd prog w C B fv m) (he : EnvOk c env) (hf : ∀ x, env.kindOf x ≠ some .free) (hc : CallOk prog w C B fv k c.call) (hr : Room A k) (st : St prog w C B lo ps env F s ρ) {x : Str} {p pos : Pos} {v : Expr} {sl : Slot} (hv : isVar c.names x = true)
    (h : evS n c ρ v = some sl) : XDo prog w C B A lo ps env F s (exec (.Assign [.Name x p] v pos) env) .next (upd ρ x sl) := by
  intro E Q hQ
  unfold evS at h
  rw [Option.map_eq_some_iff] at h
  (refine xe1_2 h ?_; (try clear h); intro d hd hsl)
  have hsl' : asSlot v d = sl := hsl
  subst hsl'
  have hb := he.bnd hf hv
  have plain : swapsWith v (some (.Name x p)) pos.line env = pure false → wpAny (model prog w) A (exec (.Assign [.Name x p] v pos) env) Q E s := fun hs =>
    wpAny_Assign_Name ((sn n).e he hc hr st hd E _ fun u F1 s1 t1 ok1 r1 hn1 => st.bind t1 ok1 r1 hn1 hb fun s2 st2 tq2 _ => hQ F1 s2 .next tq2 st2 trivial) hs
  by_cases hcmp : ∃ elt gens sc q, v = .ListComp elt gens sc q
  · (refine xe4_1 hcmp ?_; (try clear hcmp); intro elt gens sc q hq4; rcases hq4 with rfl)
    cases hsw : (env.blockKind == .function && env.kindOf x == some .local && p.line == q.line && !(sc.names.any fun (n, k) => n == x && (k == .local || k == .cell))) with
    | false => exact plain (by rw [swaps_comp, hsw])
    | true =>
      rw [PySem.exec_Assign_Name_used _ _ _ _ (by rw [swaps_comp, hsw])]
      refine wpAny_bind (wpAny_standAt (wpAny_bind ?_))
      cases n with
      | zero => exact nos1 hd
      | succ m =>
        rcases gens with _ | ⟨⟨t, it, ifs, as⟩, rest⟩
        · exact nos1 hd
        refine ite_el hd ?_; (try clear hd); rintro ⟨hok, rfl⟩ hd
        refine bind_el hd ?_; (try clear hd); intro ds h1 hd
        refine bind_el hd ?_; (try clear hd); intro out h2 hd
        refine ite_el hd ?_; (try clear hd); intro hl hz
        cases hz
        show wpAny _ A (do let _ ← comprehension _ sc env _ (newList []) false (eval it env) (some (assign (.Name x p) env))) _ _ s
        refine wpAny_bind (wpAny_mono (comp_run (use := some (assign (.Name x p) env)) (E := E) (Q := fun _ s' => Q .next s') (sn m) he hc hr st hok h1 h2 hl fun L K F1 s1 t1 ok1 hs1 hL hK hne hFK hKs hm => ?_) (fun _ _ x => wpAny_pure (wpAny_pure x)) fun _ _ x => x)
        (refine xe1_1 hm ?_; (try clear hm); intro mm hmm)
        (refine xe2_5 (frz_at t1 ok1 hs1 (fun a e => by cases e; exact hL)) ?_; intro a F2 ha t2 ok2 r2 hF2)
        cases ha
        have hK2 : F2 K = none := hF2 K (Ne.symm hne) hFK
        have st2 := st.protect t2 ok2 (qs := [K]) fun z hz => by rw [List.mem_singleton.mp hz]; exact ⟨hK, hKs, hK2⟩
        show wpAny _ _ (assign (.Name x p) env (.ref L)) _ _ _
        refine PySem.wpAny_assign_Name (St.bind st2 (.refl ..) ok2 (sl := .fr (.lst out)) r2 (fun _ z => z.elim) hb fun s3 st3 tq3 _ => ?_)
        (refine xe0_2 (tq3.kp K (by simp) hK2 hKs) ?_; intro _ e3)
        refine ⟨mm, hmm.at' fun o ho => e3.trans ho, fun h' hs' => ?_⟩
        have hps : K ∉ ps := fun z => by
          (refine xe1_1 st ?_; (try clear st); intro m0 z0)
          exact Nat.lt_irrefl _ (Nat.lt_of_lt_of_le (z0.prot K z).2.1 hK)
        have st4 := st3.poke (p := K) (by simp) (fun b _ hb => hs'.2 b hb) (by rw [hs'.1]; exact Nat.le_refl _) s3.toks
        exact hQ F2 _ .next (((t2.q st.le (Nat.le_refl _)).trans (tq3.sub fun z hz => by simp [hz])).trans (.poke st3.ok (fun b _ hb => hs'.2 b hb) (by rw [hs'.1]; exact Nat.le_refl _) (Nat.le_trans st.le hK) st3.le hps))
          (st4.sub (fun z hz => by simp [hz]) fun _ _ z => z) trivial
  · (refine xe0_2 (not_comp hd) ?_; intro n2 n3)
    exact plain (swaps_no (fun a b c' d' e => hcmp ⟨a, b, c', d', e⟩) n2 n3)
end
end Mine
end

section
open PySem PySem.W PyProof.Rows
set_option tactic.hygienic false
namespace Mine
section
variable {prog : Program} {w : World} {C : Addr} {B : Heap} {A : Around} {F F' : FH} {s s' : Shared} {fv : Str → Option Addr} {tab : List (Str × Fn)} {mg mb : Str → Option Value} {env : Env} {k n lo : Nat} {ps : List Addr} {ρ ρ' : Sc} {c : Cx}
theorem x_three (sn : ∀ m, Snd prog w C B fv m) (he : EnvOk c env) (hf : ∀ x, env.kindOf x ≠ some .free) (hc : CallOk prog w C B fv k c.call) (hr : Room A k) (st : St prog w C B lo ps env F s ρ) {x y z : Str} {p1 p2 p3 pos : Pos} {v : Expr} {i : Int} (hx : isVar c.names x = true) (hy : isVar c.names y = true) (hz : isVar c.names z = true)
    (h : evE n c ρ v = some (.int i)) : XDo prog w C B A lo ps env F s (exec (.Assign [.Name x p1, .Name y p2, .Name z p3] v pos) env) .next (upd (upd (upd ρ x (.fr (.int i))) y (.fr (.int i))) z (.fr (.int i))) := by
  intro E Q hQ
  refine wpAny_Assign_three (((sn n).e he hc hr st h).ev E _ fun u F1 s1 t1 ok1 r1 => ?_)
  have st1 := st.step t1 (Nat.le_refl _) ok1
  refine PySem.wpAny_assign_Name (St.bind st1 (.refl ..) ok1 (sl := .fr (.int i)) r1 (fun _ q => q.elim) (he.bnd hf hx) fun s2 st2 tq2 _ => ?_)
  refine PySem.wpAny_assign_Name (St.bind st2 (.refl ..) st2.ok (sl := .fr (.int i)) r1 (fun _ q => q.elim) (he.bnd hf hy) fun s3 st3 tq3 _ => ?_)
  refine PySem.wpAny_assign_Name (St.bind st3 (.refl ..) st3.ok (sl := .fr (.int i)) r1 (fun _ q => q.elim) (he.bnd hf hz) fun s4 st4 tq4 _ => ?_)
  exact hQ F1 s4 .next ((((t1.q st.le (Nat.le_refl _)).trans tq2).trans tq3).trans tq4) st4 trivial
theorem set_list_raw {l : Addr} {items : List Value} {k : Int} {t : Tok} {v : Value} {E : Value → Shared → Prop} {Q : Unit → Shared → Prop} (hl : s.heap.PlainList l items.toArray) (h0 : 0 ≤ k) (hfit : k < 2 ^ 63) (hj : k < items.length)
    (hQ : ∀ h', h'.PlainList l (items.set k.toNat v).toArray → Heap.SameBut l s.heap h' → Q () { s with heap := h' }) : wpAny (model prog w) A (setItem (.ref l) (.int k t) v) Q E s := by
  have hL := hl.isList
  (refine xe1_1 hl ?_; (try clear hl); intro m ho)
  unfold setItem
  try with_reducible refine wpAny_holding ?_
  first | refine wpAny_bind (wpAny_pure ?_) | skip
  refine wpAny_bind (wpAny_sequenceKey hL.typeIs (by decide) ?_)
  refine wpAny_bind (wpAny_callSpecial?_slot (name := Str.ofString "__setitem__") hL.typeIs slot_list_setitem (wpAny_call_entry slot_list_setitem hL.typeIs entry_list_setitem ?_ (args_list_setitem _ _ _)))
  show wpAny _ _ (Builtin.List.listSubscript? (.int k t) >>= _) _ _ s
  refine wpAny_bind (wpAny_listSubscript_int (fitsIndex_of h0 hfit) ?_)
  clear hfit
  (refine xe1_1 (Int.eq_ofNat_of_zero_le h0) ?_; intro j hq1; rcases hq1 with rfl)
  have hj' : j < items.toArray.size := by rw [List.size_toArray]; omega
  have hget : items.toArray[j]? = some items.toArray[j] := Array.getElem?_eq_getElem hj'
  have hnew : (s.heap.update l (Obj.mapSeq (·.setIfInBounds j v))).PlainList l (items.set j v).toArray := by
    refine ⟨m, ?_⟩
    have e : Obj.mapSeq (·.setIfInBounds j v) { cls := .type "list", data := .seq items.toArray m } = ({ cls := .type "list", data := .seq (items.set j v).toArray m } : Obj) := by
      simp [Obj.mapSeq]
    rw [← e]
    exact Heap.get?_update_self _ ho (by rw [e]; rfl)
  show wpAny _ _ ((seqItemAt l j >>= fun r => pure (r.map (j, ·))) >>= _) _ _ s
  refine wpAny_bind (wpAny_bind (wpAny_seqItemAt ho rfl (wpAny_pure ?_)))
  rw [hget]
  show wpAny _ _ (setSeqItemAt l j v >>= _) _ _ s
  refine wpAny_bind (wpAny_setSeqItemAt ho rfl ?_)
  first
    | exact wpAny_pure ⟨.none, rfl, wpAny_pure (hQ _ hnew (Heap.SameBut.update ..))⟩
    | exact wpAny_bind (wpAny_pure (wpAny_pure ⟨.none, rfl, wpAny_pure (hQ _ hnew (Heap.SameBut.update ..))⟩))
theorem stored_eq {α : Type} : ∀ (l : List (Str × α)) (k : Str) (v : α), (l.map (·.1)).Nodup → (if l.any (fun p => p.1 = k) then l.map (fun p => if p.1 = k then (p.1, v) else p) else l ++ [(k, v)]) = upd l k v
  | [], k, v, _ => rfl
  | (y, t) :: r, k, v, hn => by
    have hn' := List.nodup_cons.mp hn
    have ih := stored_eq r k v hn'.2
    show _ = if k = y then (y, v) :: r else (y, t) :: upd r k v
    by_cases e : y = k
    · subst e
      rw [if_pos (c := y = y) rfl]
      have hno : r.any (fun p => decide (p.1 = y)) = false := by
        rw [List.any_eq_false]
        intro p hp q
        exact hn'.1 (List.mem_map.mpr ⟨p, hp, by simpa using q⟩)
      have hmap : r.map (fun p => if p.1 = y then (p.1, v) else p) = r := by
        have : ∀ p ∈ r, (if p.1 = y then (p.1, v) else p) = p := fun p hp => by
          rw [if_neg]
          intro q
          exact hn'.1 (List.mem_map.mpr ⟨p, hp, q⟩)
        calc r.map (fun p => if p.1 = y then (p.1, v) else p) = r.map id := List.map_congr_left this
          _ = r := List.map_id r
      simp [hmap]
    · have he : decide (y = k) = false := by simpa using e
      rw [if_neg (c := k = y) (fun q => e q.symm), ← ih, List.any_cons, he, Bool.false_or]
      cases ha : r.any (fun p => decide (p.1 = k)) with
      | true => simp [e]
      | false => simp
theorem sw_sub {v i : Expr} {x : Str} {p q : Pos} {l : Nat} : swapsWith v (some (.Subscript (.Name x p) i q)) l env = pure false := by cases v <;> rfl
theorem sw_att {v : Expr} {x a : Str} {p q : Pos} {l : Nat} : swapsWith v (some (.Attribute (.Name x p) a q)) l env = pure false := by cases v <;> rfl
theorem x_setitem (sn : ∀ m, Snd prog w C B fv m) (he : EnvOk c env) (hf : ∀ x, env.kindOf x ≠ some .free) (hc : CallOk prog w C B fv k c.call) (hr : Room A k) (st : St prog w C B lo ps env F s ρ) {x : Str} {p q pos : Pos} {v i : Expr} {d di : D} {sl sl' : Slot} (hv : isVar c.names x = true)
    (h1 : evE n c ρ v = some d) (h2 : evE n c ρ i = some di) (hx : lkp ρ x = some sl)
    (h : (∃ j l l', di = .int j ∧ sl = .ol l ∧ setAt l j d = some l' ∧ sl' = .ol l') ∨ ∃ y kvs, di = .str y ∧ sl = .od kvs ∧ kvs.length ≤ 100000 ∧ sl' = .od (upd kvs y d)) :
    XDo prog w C B A lo ps env F s (exec (.Assign [.Subscript (.Name x p) i q] v pos) env) .next (upd ρ x sl') := by
  intro E Q hQ
  have hsw : swapsWith v (some (.Subscript (.Name x p) i q)) pos.line env = pure false := sw_sub
  refine wpAny_Assign_Subscript (((sn n).e he hc hr st h1).ev E _ fun u F1 s1 t1 ok1 r1 => ?_) hsw
  (refine xe1_1 (st.step t1 (Nat.le_refl _) ok1) ?_; intro m st1)
  refine name_varM he st1 hv hx fun a hm hs1 => ?_
  refine ((sn n).e he hc hr ⟨m, st1⟩ h2).ev E _ fun iv F2 s2 t2 ok2 r2 => ?_
  have st2 := st1.step t2 (Nat.le_refl _) ok2
  (refine xe1_3 (st2.rel x sl hx (he.var hv).1) ?_; intro v' hm' hs2 _)
  rw [hm] at hm'; cases hm'
  have tq := (t1.q (ps := ps) st.le (Nat.le_refl _)).trans (t2.q (St.le (show St prog w C B lo ps env F1 s1 ρ from ⟨m, st1⟩)) (Nat.le_refl _))
  rcases h with ⟨j, l, l', rfl, rfl, hset, rfl⟩ | ⟨y, kvs, rfl, rfl, hlen, rfl⟩
  · unfold setAt at hset
    split at hset
    · rename_i hj
      cases hset
      (refine xe1_1 r2.int_inv ?_; intro ti hq1; rcases hq1 with rfl)
      (refine xe3_4 hs2 ?_; (try clear hs2); intro b vs jj hq3; rcases hq3 with rfl; intro g1 g2 g3)
      refine set_list_raw ⟨jj, g2⟩ hj.1 hj.2.1 (by rw [g3.length]; exact hj.2.2) fun h' ⟨j2, hp⟩ hsb => ?_
      have r1' := r1.mono t2.ext
      (refine xe0_2 (st2.mut (sl' := .ol (l.set j.toNat d)) hx (he.var hv).1 hm (h' := h') (fun z _ hz => hsb.2 z fun e => hz (by rw [e]; rfl)) (by rw [hsb.1]; exact Nat.le_refl _) ⟨b, vs.set j.toNat u, j2, rfl, g1, hp, g3.set r1' _⟩ (fun z hz => hz) s2.toks) ?_; intro a1 a2)
      exact hQ F2 _ .next (tq.trans a2) ⟨m, a1⟩ trivial
    · cases hset
  · (refine xe1_1 r2.str_inv ?_; intro ti hq1; rcases hq1 with rfl)
    (refine xe3_5 hs2 ?_; (try clear hs2); intro b o kv hq3; rcases hq3 with rfl; intro g1 g2 g3 hqr; refine xe0_2 hqr ?_; (try clear hqr); intro g4 g5)
    have hD : s2.heap.DictOf (strKind prog w) b kv := Heap.dictOf_iff.mpr ⟨o, g2, g3⟩
    have hnd : (kv.map (·.1)).Nodup := by (refine xe2_5 g3 ?_; (try clear g3); intro _ _ _ _ _ _ z); exact z
    refine wpAny_setItem_pairs (strKind_is prog w y ti) hD (fun h' hd' hsb => ?_) (by rw [g5.length, sizeLine_eq]; omega)
    have e : stored kv y u = upd kv y u := stored_eq kv y u hnd
    rw [e] at hd'
    (refine xe1_2 (Heap.dictOf_iff.mp hd') ?_; intro o' ho' hdo)
    (refine xe0_2 (st2.mut (sl' := .od (upd kvs y d)) hx (he.var hv).1 hm (h' := h') (fun z _ hz => hsb.2 z fun e => hz (by rw [e]; rfl)) (by rw [hsb.1]; exact Nat.le_refl _) ⟨b, o', _, rfl, g1, ho', hdo, g4, g5.upd (r1.mono t2.ext)⟩ (fun z hz => hz) (s2.toks + 1)) ?_; intro a1 a2)
    exact hQ F2 _ .next (tq.trans a2) ⟨m, a1⟩ trivial
theorem x_setattr (base : Base prog w B C tab fv mg mb) (sn : ∀ m, Snd prog w C B fv m) (he : EnvOk c env) (hc : CallOk prog w C B fv k c.call) (hr : Room A k) (st : St prog w C B lo ps env F s ρ) {x a : Str} {p q pos : Pos} {v : Expr} {d : D} {tg : Nat × Nat} {as : List (Str × D)} (hv : isVar c.names x = true)
    (h1 : evE n c ρ v = some d) (hx : lkp ρ x = some (.oi tg as)) (hl : as.length ≤ 100) (hn : instNames.contains a = true) :
    XDo prog w C B A lo ps env F s (exec (.Assign [.Attribute (.Name x p) a q] v pos) env) .next (upd ρ x (.oi tg (upd as a d))) := by
  intro E Q hQ
  have hsw : swapsWith v (some (.Attribute (.Name x p) a q)) pos.line env = pure false := sw_att
  refine plainObj_wpAny_Assign_Attribute (((sn n).e he hc hr st h1).ev E _ fun u F1 s1 t1 ok1 r1 => ?_) hsw
  (refine xe1_1 (st.step t1 (Nat.le_refl _) ok1) ?_; intro m st1)
  refine name_varM he st1 hv hx fun av hm hs1 => ?_
  (refine xe5_3 hs1 ?_; (try clear hs1); intro b dx o od kvs hq5; rcases hq5 with rfl; intro g1 hqr; refine xe0_7 hqr ?_; (try clear hqr); intro g2 g3 g4 g5 g6 g7 g8)
  have hbC : b ≠ C := by
    rintro rfl
    (refine xe2_2 base.cls.ex ?_; intro N mN X _)
    (refine xe7_1 X.obj ?_; intro nm qn bs sn' sub col dd hqr; refine xe5_1 hqr ?_; (try clear hqr); intro k0 k1 k2 k3 k5 hC)
    have := ok1.base _ _ hC
    rw [g1] at this; cases this
  refine inst_set base.cls ok1 g6 g4 g5 g3 hbC hn (by rw [g7.length]; exact hl) fun h' tk o' od' k1 k2 k3 k4 k5 => ?_
  have own : ∀ z, Owns h' (.oi tg (upd as a d)) (.ref b) z → Owns s1.heap (.oi tg as) (.ref b) z := fun z hz => by
    rcases hz with hz | ⟨x', ox, hz, q1, q2⟩
    · exact .inl hz
    · cases hz
      rw [k1] at q1; cases q1
      rw [k3.dict] at q2; cases q2
      exact .inr ⟨b, o, rfl, g4, g6.dict⟩
  obtain ⟨a1, a2⟩ := st1.mut (sl' := .oi tg (upd as a d)) hx (he.var hv).1 hm (h' := h') (fun z hz hno => k4 z hz (fun e => hno (.inl (by rw [e]))) fun e => hno (.inr ⟨b, o, rfl, g4, by rw [e]; exact g6.dict⟩)) k5
    ⟨b, dx, o', od', _, rfl, g1, g2, g3, k1, k2, k3, g7.upd r1, g8⟩ own tk
  exact hQ F1 _ .next ((t1.q st.le (Nat.le_refl _)).trans a2) ⟨m, a1⟩ trivial
theorem x_aug (sn : ∀ m, Snd prog w C B fv m) (he : EnvOk c env) (hf : ∀ x, env.kindOf x ≠ some .free) (hc : CallOk prog w C B fv k c.call) (hr : Room A k) (st : St prog w C B lo ps env F s ρ) {x : Str} {p pos : Pos} {op : Operator} {v : Expr} {a b z : Int} (hv : isVar c.names x = true)
    (hx : lkp ρ x = some (.fr (.int a))) (h : evE n c ρ v = some (.int b)) (ho : (op = .Add ∧ z = a + b) ∨ (op = .Sub ∧ z = a - b)) : XDo prog w C B A lo ps env F s (exec (.AugAssign (.Name x p) op v pos) env) .next (upd ρ x (.fr (.int z))) := by
  intro E Q hQ
  (refine xe0_3 (he.var hv) ?_; intro h1 h2 h3)
  refine wpAny_AugAssign_Name (st.load hx h1 h3 fun u hu => ?_)
  refine ((sn n).e he hc hr st h).ev E _ fun y F1 s1 t1 ok1 r1 => ?_
  have st1 := st.step t1 (Nat.le_refl _) ok1
  (refine xe1_1 r1.int_inv ?_; intro tb hq1; rcases hq1 with rfl)
  (refine xe1_1 hu.int_inv ?_; intro ta hq1; rcases hq1 with rfl)
  have fin : ∀ tk, wpAny (model prog w) A (storeName env x (.int z s1.toks)) (fun _ => Q .next) E { s1 with toks := tk } := fun tk =>
    St.bind st1 ((Ste.refl ..).toks tk) (ok1.toks tk) (sl := .fr (.int z)) (.int _ _) (fun _ q => q.elim) (he.bnd hf hv) fun s2 st2 tq2 _ => hQ F1 s2 .next ((t1.q st.le (Nat.le_refl _)).trans tq2) st2 trivial
  rcases ho with ⟨rfl, rfl⟩ | ⟨rfl, rfl⟩
  · exact PySem.AutoIntOps.iadd_0 (fin _)
  · exact PySem.AutoIntOps.isub_0 (fin _)
end
end Mine
end

section
open PySem PySem.W PyProof.Rows
set_option tactic.hygienic false
namespace Mine
section
variable {prog : Program} {w : World} {C : Addr} {B : Heap} {A : Around} {F F' : FH} {s s' : Shared} {fv : Str → Option Addr} {tab : List (Str × Fn)} {mg mb : Str → Option Value} {env : Env} {k n lo : Nat} {ps : List Addr} {ρ ρ' : Sc} {c : Cx}
theorem x_augitem (sn : ∀ m, Snd prog w C B fv m) (he : EnvOk c env) (hc : CallOk prog w C B fv k c.call) (hr : Room A k) (st : St prog w C B lo ps env F s ρ) {x y : Str} {p q pos : Pos} {v i : Expr} {a b : Int} {kvs : List (Str × D)} (hv : isVar c.names x = true)
    (hx : lkp ρ x = some (.od kvs)) (h1 : evE n c ρ i = some (.str y)) (h2 : evE n c ρ v = some (.int b)) (ha : lkp kvs y = some (.int a)) (hl : kvs.length ≤ 100000) :
    XDo prog w C B A lo ps env F s (exec (.AugAssign (.Subscript (.Name x p) i q) .Add v pos) env) .next (upd ρ x (.od (upd kvs y (.int (a + b))))) := by
  intro E Q hQ
  have hns := not_slice h1
  (refine xe1_1 st ?_; (try clear st); intro m st)
  refine wpAny_AugAssign_SubscriptAny (name_varM he st hv hx fun av hm hs0 => ((sn n).e he hc hr ⟨m, st⟩ h1).ev E _ fun iv F1 s1 t1 ok1 r1 => ?_) (by intros; cases i <;> first | rfl | exact absurd rfl (hns _ _ _ _))
  have st1 := st.step t1 (Nat.le_refl _) ok1
  (refine xe1_1 r1.str_inv ?_; intro ti hq1; rcases hq1 with rfl)
  have grab : ∀ {F3 : FH} {s3 : Shared}, StM prog w C B lo ps env F3 s3 ρ m → ∃ d o kv, av = .ref d ∧ F3 d = none ∧ s3.heap.get? d = some o ∧ o.IsDictOf (strKind prog w) kv ∧ RepK prog w C F3 kvs kv := fun {F3 s3} z => by
    (refine xe1_3 (z.rel x _ hx (he.var hv).1) ?_; intro v' hm' hs2 _)
    rw [hm] at hm'; cases hm'
    (refine xe3_5 hs2 ?_; (try clear hs2); intro d o kv hq3; rcases hq3 with rfl; intro g1 g2 g3 hqr; refine xe0_2 hqr ?_; (try clear hqr); intro g4 g5)
    exact ⟨d, o, kv, rfl, g1, g2, g3, g5⟩
  (refine xe3_5 (grab st1) ?_; intro d o kv hq3; rcases hq3 with rfl; intro g1 g2 g3 g5)
  have hlk := g5.lk y
  rw [ha] at hlk
  (refine xe1_2 hlk ?_; (try clear hlk); intro ov hov rov)
  (refine xe1_1 rov.int_inv ?_; intro ta hq1; rcases hq1 with rfl)
  refine wpAny_getItem_of (strKind_is prog w y ti) (DictOf.lk (Heap.dictOf_iff.mpr ⟨o, g2, g3⟩)) hov ?_
  have st1' : St prog w C B lo ps env F1 ({ s1 with toks := s1.toks + 1 } : Shared) ρ := ⟨m, st1.step ((Ste.refl s1.heap.objs.size F1 s1).toks (s1.toks + 1)) (Nat.le_refl _) (ok1.toks (s1.toks + 1))⟩
  refine ((sn n).e he hc hr st1' h2).ev E _ fun u F2 s2 t2 ok2 r2 => ?_
  (refine xe1_1 r2.int_inv ?_; intro tb hq1; rcases hq1 with rfl)
  refine PySem.AutoIntOps.iadd_0 ?_
  (refine xe1_1 st1' ?_; (try clear st1'); intro m1 z1)
  have t2' : Ste s1.heap.objs.size F1 s1 F2 s2 := ⟨t2.ext, t2.old, t2.size, t2.os⟩
  have st2 := st1.step t2' (Nat.le_refl _) ok2
  have st3 := st2.step ((Ste.refl s2.heap.objs.size F2 s2).toks (s2.toks + 1)) (Nat.le_refl _) (ok2.toks _)
  (refine xe3_5 (grab st3) ?_; intro d' o' kv' e f1 f2 f3 f5)
  cases e
  have hD : (⟨s2.heap, s2.gens, s2.drawn, s2.toks + 1, s2.os⟩ : Shared).heap.DictOf (strKind prog w) d kv' := Heap.dictOf_iff.mpr ⟨o', f2, f3⟩
  have hnd : (kv'.map (·.1)).Nodup := by (refine xe2_5 f3 ?_; (try clear f3); intro _ _ _ _ _ _ z); exact z
  refine wpAny_setItem_pairs (strKind_is prog w y ti) hD (fun h' hd' hsb => ?_) (by rw [f5.length, sizeLine_eq]; omega)
  have e : stored kv' y (Value.int (a + b) s2.toks) = upd kv' y (.int (a + b) s2.toks) := stored_eq kv' y _ hnd
  rw [e] at hd'
  (refine xe1_2 (Heap.dictOf_iff.mp hd') ?_; intro o2 ho2 hdo)
  have hsys : (d == sysModules) = false := by
    (refine xe1_3 (st3.rel x _ hx (he.var hv).1) ?_; intro v' hm' hs2 _)
    rw [hm] at hm'; cases hm'
    (refine xe3_5 hs2 ?_; (try clear hs2); intro d2 _ _ e2 _ _ _ hqr; refine xe0_2 hqr ?_; (try clear hqr); intro g _)
    cases e2; exact g
  (refine xe0_2 (st3.mut (sl' := .od (upd kvs y (.int (a + b)))) hx (he.var hv).1 hm (h' := h') (fun z _ hz => hsb.2 z fun e => hz (by rw [e]; rfl)) (by rw [hsb.1]; exact Nat.le_refl _) ⟨d, o2, _, rfl, f1, ho2, hdo, hsys, f5.upd (.int _ _)⟩ (fun z hz => hz) (s2.toks + 1 + 1)) ?_; intro a1 a2)
  have tq := ((t1.q (ps := ps) (St.le (show St prog w C B lo ps env F s ρ from ⟨m, st⟩)) (Nat.le_refl _)).trans (t2'.q (St.le (show St prog w C B lo ps env F1 s1 ρ from ⟨m, st1⟩)) (Nat.le_refl _))).trans
    (((Ste.refl s2.heap.objs.size F2 s2).toks (s2.toks + 1)).q (ps := ps) (St.le (show St prog w C B lo ps env F2 s2 ρ from ⟨m, st2⟩)) (Nat.le_refl _))
  exact hQ F2 _ .next (tq.trans a2) ⟨m, a1⟩ trivial
theorem x_del (sn : ∀ m, Snd prog w C B fv m) (he : EnvOk c env) (hc : CallOk prog w C B fv k c.call) (hr : Room A k) (st : St prog w C B lo ps env F s ρ) {x : Str} {p q pos : Pos} {i : Expr} {j : Int} {l l' : List D} (hv : isVar c.names x = true)
    (hx : lkp ρ x = some (.ol l)) (h1 : evE n c ρ i = some (.int j)) (h : eraseAt l j = some l') (hl : l.length ≤ 1000000) : XDo prog w C B A lo ps env F s (exec (.Delete [.Subscript (.Name x p) i q] pos) env) .next (upd ρ x (.ol l')) := by
  intro E Q hQ
  (refine xe1_1 st ?_; (try clear st); intro m st)
  refine wpAny_Delete (wpAny_deleteEach_cons (wpAny_delete_Subscript (name_varM he st hv hx fun av hm hs0 => ((sn n).e he hc hr ⟨m, st⟩ h1).ev E _ fun iv F1 s1 t1 ok1 r1 => ?_)))
  have st1 := st.step t1 (Nat.le_refl _) ok1
  (refine xe1_1 r1.int_inv ?_; intro ti hq1; rcases hq1 with rfl)
  (refine xe1_3 (st1.rel x _ hx (he.var hv).1) ?_; intro v' hm' hs2 _)
  rw [hm] at hm'; cases hm'
  (refine xe3_4 hs2 ?_; (try clear hs2); intro b vs jj hq3; rcases hq3 with rfl; intro g1 g2 g3)
  unfold eraseAt at h
  split at h
  · rename_i hj
    rw [Option.map_eq_some_iff] at h
    (refine xe1_2 h ?_; (try clear h); intro jn hjn hq2; rcases hq2 with rfl)
    have hlen : vs.toArray.size = l.length := by rw [List.size_toArray, g3.length]
    refine wpAny_delItem_plain (k := jn) ⟨jj, g2⟩ (by unfold Builtin.List.listFitsIndex; simp; omega) (by rw [hlen]; exact hjn) (fun h' ⟨j2, hp⟩ hsb => wpAny_deleteEach_nil ?_) (by rw [hlen, sizeLine_eq]; omega)
    have hp' : h'.get? b = some { cls := .type "list", data := .seq (vs.eraseIdx jn).toArray j2 } := by
      rw [hp, List.eraseIdxIfInBounds_toArray]
    (refine xe0_2 (st1.mut (sl' := .ol (l.eraseIdx jn)) hx (he.var hv).1 hm (h' := h') (fun z _ hz => hsb.2 z fun e => hz (by rw [e]; rfl)) (by rw [hsb.1]; exact Nat.le_refl _) ⟨b, _, j2, rfl, g1, hp', g3.erase jn⟩ (fun z hz => hz) s1.toks) ?_; intro a1 a2)
    exact hQ F1 _ .next ((t1.q (St.le (show St prog w C B lo ps env F s ρ from ⟨m, st⟩)) (Nat.le_refl _)).trans a2) ⟨m, a1⟩ trivial
  · cases h
theorem x_append (sn : ∀ m, Snd prog w C B fv m) (he : EnvOk c env) (hc : CallOk prog w C B fv k c.call) (hr : Room A k) (st : St prog w C B lo ps env F s ρ) {x : Str} {p ap cp pos : Pos} {a : Expr} {d : D} {l : List D} (hv : isVar c.names x = true)
    (hx : lkp ρ x = some (.ol l)) (h1 : evE n c ρ a = some d) (hl : l.length ≤ 100000) (hline : (ap.endLine == cp.line) = true) :
    XDo prog w C B A lo ps env F s (exec (.Expr (.Call (.Attribute (.Name x p) (Str.ofString "append") ap) [a] [] cp) pos) env) .next (upd ρ x (.ol (l ++ [d]))) := by
  intro E Q hQ
  (refine xe1_1 st ?_; (try clear st); intro m st)
  have hint : interactive env = false := by unfold interactive; rw [st.frm.kind]; rfl
  have ht : backTo cp (starEach [a] env) = plainT [a] env := by
    rw [star_cons (not_starred h1)]; rfl
  refine wpAny_Expr_any ?_ hint rfl
  refine Call_attr rfl (by simp) hline ht (name_varM he st hv hx fun av hm hs0 pl => ?_)
  (refine xe3_4 hs0 ?_; (try clear hs0); intro b vs jj hq3; rcases hq3 with rfl; intro g1 g2 g3)
  refine Calls.getMethod_list_append g2 rfl rfl ?_
  refine Calls.callWith_builtin (plainT_any [a]) (evalArgs_T (Calls.spliced_cons (((sn n).e he hc hr ⟨m, st⟩ h1).ev E _ fun u F1 s1 t1 ok1 r1 => Calls.spliced_nil ?_)))
  have st1 := st.step t1 (Nat.le_refl _) ok1
  (refine xe1_3 (st1.rel x _ hx (he.var hv).1) ?_; intro v' hm' hs2 _)
  rw [hm] at hm'; cases hm'
  (refine xe3_4 hs2 ?_; (try clear hs2); intro b' vs' jj' e f1 f2 f3)
  cases e
  refine wpAny_list_append_plain (l := b) (items := vs'.toArray) ⟨jj', f2⟩ (fun h' ⟨j2, hp⟩ hsb => ?_) (by rw [List.size_toArray, f3.length, sizeLine_eq]; omega)
  have hp' : h'.get? b = some { cls := .type "list", data := .seq (vs' ++ [u]).toArray j2 } := by rw [hp, List.push_toArray]
  (refine xe0_2 (st1.mut (sl' := .ol (l ++ [d])) hx (he.var hv).1 hm (h' := h') (fun z _ hz => hsb.2 z fun e => hz (by rw [e]; rfl)) (by rw [hsb.1]; exact Nat.le_refl _) ⟨b, _, j2, rfl, f1, hp', f3.append (.cons r1 .nil)⟩ (fun z hz => hz) s1.toks) ?_; intro a1 a2)
  exact hQ F1 _ .next ((t1.q (St.le (show St prog w C B lo ps env F s ρ from ⟨m, st⟩)) (Nat.le_refl _)).trans a2) ⟨m, a1⟩ trivial
end
end Mine
end

section
open PySem PySem.W PyProof.Rows
namespace Mine
noncomputable def noI : Slot → Bool
  | .oi _ _ => false
  | _ => true
theorem toOwn_noI (d : D) : noI (toOwn d) = true := by cases d <;> rfl
theorem asSlot_noI (x : Expr) (d : D) : noI (asSlot x d) = true := by unfold asSlot; split; exact toOwn_noI d; rfl
section
variable {prog : Program} {w : World} {C : Addr} {B : Heap} {A : Around} {F F' : FH} {s s' : Shared} {fv : Str → Option Addr} {tab : List (Str × Fn)} {mg mb : Str → Option Value} {env : Env} {k n lo : Nat} {ps : List Addr} {ρ ρ' : Sc} {c : Cx}
theorem owns_noI {h : Heap} {sl : Slot} {v : Value} {a : Addr} (hn : noI sl = true) (ho : Owns h sl v a) : v = .ref a ∧ ∀ h' : Heap, Owns h' sl v a := by
  cases sl with
  | fr d => exact ho.elim
  | ol l => exact ⟨ho, fun _ => ho⟩
  | od l => exact ⟨ho, fun _ => ho⟩
  | oi t l => cases hn
inductive Slots (prog : Program) (w : World) (C : Addr) (F : FH) (h : Heap) (lo0 : Nat) : List Slot → List Value → Prop
  | nil : Slots prog w C F h lo0 [] []
  | cons {sl : Slot} {v : Value} {sls : List Slot} {vs : List Value} : noI sl = true → SlotOk prog w C F h sl v → (∀ a, Owns h sl v a → lo0 ≤ a ∧ ∀ sl' v', (sl', v') ∈ sls.zip vs → ¬ Owns h sl' v' a) → Slots prog w C F h lo0 sls vs → Slots prog w C F h lo0 (sl :: sls) (v :: vs)
theorem Slots.length {h : Heap} {lo0 : Nat} {sls : List Slot} {vs : List Value} (x : Slots prog w C F h lo0 sls vs) : vs.length = sls.length := by
  induction x with
  | nil => rfl
  | cons _ _ _ _ ih => simp [ih]
theorem s_slots (sn : ∀ m, Snd prog w C B fv m) (he : EnvOk c env) (hc : CallOk prog w C B fv k c.call) (hr : Room A k) : ∀ {es : List Expr} {sls : List Slot} {F : FH} {s : Shared}, St prog w C B lo ps env F s ρ → evSs n c ρ es = some sls →
    ∀ (E : Value → Shared → Prop) (Q : List Value → Shared → Prop), (∀ vs F' s', Ste s.heap.objs.size F s F' s' → Ok B F' s' → Slots prog w C F' s'.heap s.heap.objs.size sls vs → Q vs s') → wpAny (model prog w) A (spliced (plainT es env)) Q E s
  | [], sls, F, s, st, h, E, Q, hQ => by
    unfold evSs at h; cases h
    exact Calls.spliced_nil (hQ [] F s (.refl ..) st.ok .nil)
  | e :: r, sls, F, s, st, h, E, Q, hQ => by
    unfold evSs at h
    split at h
    · rename_i sl ss h1 h2
      cases h
      unfold evS at h1
      rw [Option.map_eq_some_iff] at h1
      (refine xe1_2 h1 ?_; (try clear h1); intro d hd hq2; rcases hq2 with rfl)
      refine Calls.spliced_cons ((sn n).e he hc hr st hd E _ fun v F1 s1 t1 ok1 r1 hn1 => ?_)
      have st1 := st.step t1 (Nat.le_refl _) ok1
      refine s_slots sn he hc hr st1 h2 E _ fun vs F2 s2 t2 ok2 hs2 => ?_
      have keep : ∀ b, Owns s1.heap (asSlot e d) v b → F1 b = none ∧ b < s1.heap.objs.size := fun b hb => r1.owned _ _ _ hb
      refine hQ (v :: vs) F2 s2 (t1.seq t2) ok2 (.cons (asSlot_noI e d) (r1.step _ _ _ t2.ext fun b hb ho => t2.old b (keep b ho).2 hb) (fun a ha => ?_) ?_)
      · have ha1 := (owns_noI (asSlot_noI e d) ha).2 s1.heap
        refine ⟨hn1 a ha1, fun sl' v' hm ho => ?_⟩
        have hlt := (keep a ha1).2
        have : ∀ {sls : List Slot} {vs : List Value}, Slots prog w C F2 s2.heap s1.heap.objs.size sls vs → (sl', v') ∈ sls.zip vs → s1.heap.objs.size ≤ a := fun {sls vs} z hz => by
          induction z with
          | nil => cases hz
          | cons q1 q2 q3 q4 ih =>
            rw [List.zip_cons_cons] at hz
            rcases List.mem_cons.mp hz with e | hz
            · cases e; exact (q3 a ho).1
            · exact ih hz
        exact Nat.lt_irrefl _ (Nat.lt_of_lt_of_le hlt (this hs2 hm))
      · have : ∀ {sls : List Slot} {vs : List Value}, Slots prog w C F2 s2.heap s1.heap.objs.size sls vs → Slots prog w C F2 s2.heap s.heap.objs.size sls vs := fun {sls vs} z => by
          induction z with
          | nil => exact .nil
          | cons q1 q2 q3 q4 ih => exact .cons q1 q2 (fun a ha => ⟨Nat.le_trans t1.size (q3 a ha).1, (q3 a ha).2⟩) ih
        exact this hs2
    · cases h
noncomputable def Stores (prog : Program) (w : World) (A : Around) (env : Env) (x : Str) (t : Value → Sem Unit) : Prop :=
  ∀ (v : Value) (s : Shared) (E : Value → Shared → Prop) (Q : Unit → Shared → Prop), wpAny (model prog w) A (storeName env x v) Q E s → wpAny (model prog w) A (t v) Q E s
noncomputable def updL : List (Str × Slot) → Sc → Sc
  | [], ρ => ρ
  | (x, sl) :: r, ρ => updL r (upd ρ x sl)
open Classical in
theorem bind_all (hk : ∀ x, isV (env.kindOf x) = true → env.kindOf x = some .local ∨ env.kindOf x = some .cell) : ∀ (l : List (Str × Slot × Value)) (ts : List (Value → Sem Unit)) {qs : List Addr} {ρ : Sc} {F : FH} {s : Shared}, St prog w C B lo qs env F s ρ → (∀ p ∈ ps, p ∈ qs) → ts.length = l.length →
    (∀ (i : Nat) (t : Value → Sem Unit) (e : Str × Slot × Value), ts[i]? = some t → l[i]? = some e → Stores prog w A env e.1 t) →
    (∀ e ∈ l, isV (env.kindOf e.1) = true ∧ noI e.2.1 = true ∧ SlotOk prog w C F s.heap e.2.1 e.2.2 ∧ ∀ a, Owns s.heap e.2.1 e.2.2 a → a ∈ qs ∧ a ∉ ps ∧ lo ≤ a) →
    l.Pairwise (fun e f => ∀ a, Owns s.heap e.2.1 e.2.2 a → ¬ Owns s.heap f.2.1 f.2.2 a) → ∀ (E : Value → Shared → Prop) (Q : Unit → Shared → Prop),
    (∀ s'', St prog w C B lo ps env F s'' (updL (l.map fun e => (e.1, e.2.1)) ρ) → Stq lo ps F s F s'' → Q () s'') → wpAny (model prog w) A (assignInOrder ts (l.map (·.2.2))) Q E s
  | [], ts, qs, ρ, F, s, st, hq, hl, hT, h, hp, E, Q, hQ => by
    cases ts with
    | cons => cases hl
    | nil => exact wpAny_pure (hQ s (st.sub hq fun _ _ z => z) (.refl ..))
  | (x, sl, v) :: l, ts, qs, ρ, F, s, st, hq, hl, hT, h, hp, E, Q, hQ => by
    cases ts with
    | nil => cases hl
    | cons t ts =>
      (refine xe0_4 (h (x, sl, v) List.mem_cons_self) ?_; intro k1 k2 k3 k4)
      have hp' := List.pairwise_cons.mp hp
      show wpAny _ _ (holding (l.map (·.2.2)) (t v) >>= fun _ => assignInOrder ts (l.map (·.2.2))) _ _ _
      refine wpAny_bind (wpAny_holding (hT 0 t (x, sl, v) rfl rfl v s _ _ ?_))
      refine St.bindP (ps := qs.filter fun a => decide (¬ Owns s.heap sl v a)) st (fun p hp => (List.mem_filter.mp hp).1) k3 (fun a ha => ⟨(k4 a ha).1, fun z => ?_, (k4 a ha).2.2⟩) (hk x k1) fun s2 st2 tq2 _ keep hz => ?_
      · have := (List.mem_filter.mp z).2
        simp at this; exact this ha
      · have keepQ : ∀ a ∈ qs, s2.heap.get? a = s.heap.get? a := fun a ha => by
          (refine xe1_1 st ?_; (try clear st); intro m z)
          (refine xe0_4 (z.prot a ha) ?_; intro _ _ p3 p4)
          exact keep a p3 p4
        refine bind_all hk l ts st2 (fun p hpp => ?_) (by simpa using hl) (fun i t e h1 h2 => hT (i + 1) t e (by simpa using h1) (by simpa using h2)) (fun e hm => ?_) ?_ E Q fun s3 st3 tq3 => hQ s3 st3 ((tq2.sub hq).trans tq3)
        · refine List.mem_filter.mpr ⟨hq p hpp, ?_⟩
          simp only [decide_not, Bool.not_eq_true', decide_eq_false_iff_not]
          exact fun z => (k4 p z).2.1 hpp
        · (refine xe0_4 (h e (List.mem_cons_of_mem _ hm)) ?_; intro j1 j2 j3 j4)
          refine ⟨j1, j2, j3.step _ _ _ (fun _ _ q => q) (fun b hb ho => ⟨hb, keepQ b (j4 b ho).1⟩), fun a ha => ?_⟩
          have ha' := (owns_noI j2 ha).2 s.heap
          (refine xe0_3 (j4 a ha') ?_; intro i1 i2 i3)
          refine ⟨List.mem_filter.mpr ⟨i1, ?_⟩, i2, i3⟩
          simp only [decide_not, Bool.not_eq_true', decide_eq_false_iff_not]
          exact fun z => hp'.1 e hm a z ha'
        · refine List.Pairwise.imp_of_mem ?_ hp'.2
          intro e f he hf hef a ha hb
          exact hef a ((owns_noI (h e (List.mem_cons_of_mem _ he)).2.1 ha).2 s.heap) ((owns_noI (h f (List.mem_cons_of_mem _ hf)).2.1 hb).2 s.heap)
end
end Mine
end

section
open PySem PySem.W PyProof.Rows
namespace Mine
theorem lookup_mem {α : Type} {l : List (Str × α)} (hn : (l.map (·.1)).Nodup) {y : Str} {s : α} : l.lookup y = some s ↔ (y, s) ∈ l := by
  constructor
  · exact mem_of_lookup'
  · intro h
    induction l with
    | nil => cases h
    | cons p r ih =>
      obtain ⟨k, v⟩ := p
      have hn' := List.nodup_cons.mp hn
      rw [List.lookup_cons]
      rcases List.mem_cons.mp h with e | h
      · cases e; simp
      · have : y ≠ k := fun q => hn'.1 (List.mem_map.mpr ⟨(y, s), h, q⟩)
        rw [beq_false_of_ne this]
        exact ih hn'.2 h
theorem lkp_updL : ∀ (l : List (Str × Slot)) (ρ : Sc), (l.map (·.1)).Nodup → ∀ y, lkp (updL l ρ) y = match l.lookup y with | some s => some s | none => lkp ρ y
  | [], ρ, _, y => rfl
  | (x, s) :: r, ρ, hn, y => by
    have hn' := List.nodup_cons.mp hn
    show lkp (updL r (upd ρ x s)) y = _
    rw [lkp_updL r _ hn'.2 y, List.lookup_cons, lkp_upd]
    by_cases e : y = x
    · subst e
      have : r.lookup y = none := by
        cases q : r.lookup y with
        | none => rfl
        | some v => exact absurd (List.mem_map.mpr ⟨(y, v), mem_of_lookup' q, rfl⟩) hn'.1
      rw [this]; simp
    · rw [beq_false_of_ne e]; simp [e]
theorem updL_perm {l l' : List (Str × Slot)} (hp : ∀ p, p ∈ l ↔ p ∈ l') (h1 : (l.map (·.1)).Nodup) (h2 : (l'.map (·.1)).Nodup) (ρ : Sc) (y : Str) : lkp (updL l ρ) y = lkp (updL l' ρ) y := by
  rw [lkp_updL l ρ h1 y, lkp_updL l' ρ h2 y]
  have : l.lookup y = l'.lookup y := by
    cases q : l.lookup y with
    | some s => exact ((lookup_mem h2).mpr ((hp _).mp ((lookup_mem h1).mp q))).symm
    | none =>
      cases q' : l'.lookup y with
      | none => rfl
      | some s =>
        have := (lookup_mem h1).mpr ((hp _).mpr ((lookup_mem h2).mp q'))
        rw [q] at this; cases this
  rw [this]
theorem updAll_L : ∀ (xs : List Str) (ss : List Slot) (ρ ρ' : Sc), updAll ρ xs ss = some ρ' → ρ' = updL (xs.zip ss) ρ ∧ xs.length = ss.length
  | [], [], ρ, ρ', h => by unfold updAll at h; cases h; exact ⟨rfl, rfl⟩
  | [], _ :: _, _, _, h => by unfold updAll at h; cases h
  | _ :: _, [], _, _, h => by unfold updAll at h; cases h
  | x :: xs, s :: ss, ρ, ρ', h => by
    unfold updAll at h
    (refine xe0_2 (updAll_L xs ss _ ρ' h) ?_; intro a b)
    exact ⟨a, by simp [b]⟩
theorem trees_eqS {n : Nat} {c : Cx} {ρ : Sc} (env : Env) (pos : Pos) : ∀ {es : List Expr} {ss : List Slot}, evSs n c ρ es = some ss → backTo pos (starEach es env) = plainT es env ∧ es.length = ss.length
  | [], _, h => by unfold evSs at h; cases h; exact ⟨rfl, rfl⟩
  | e :: r, ss, h => by
    unfold evSs at h
    split at h
    · rename_i s1 s2 h1 h2
      cases h
      (refine xe0_2 (trees_eqS env pos h2) ?_; intro ih il)
      unfold evS at h1
      rw [Option.map_eq_some_iff] at h1
      (refine xe1_2 h1 ?_; (try clear h1); intro d hd _)
      have hs := not_starred hd
      refine ⟨?_, by simp [il]⟩
      rw [star_cons hs]
      show (false, if false = true then _ else eval e env) :: backTo pos (starEach r env) = _
      rw [ih]; rfl
    · cases h
theorem cnames_ok : ∀ {ts : List Expr} {xs : List Str}, cnames ts = some xs → ∀ (env : Env), xs.length = ts.length ∧ (∀ (i : Nat) (x : Str), xs[i]? = some x → ∃ p, ts[i]? = some (Expr.Name x p)) ∧ (assignEach ts env).length = ts.length ∧ (assignEach ts env).findIdx? (·.1) = none ∧
      ∀ (i : Nat) (t : Value → Sem Unit), ((assignEach ts env).map (·.2))[i]? = some t → ∃ x p, ts[i]? = some (Expr.Name x p) ∧ t = assign (Expr.Name x p) env
  | [], xs, h, env => by unfold cnames at h; cases h; exact ⟨rfl, by simp, rfl, rfl, by intro i t h; exact nos1 h⟩
  | ex :: r, xs, h, env => by
    cases ex with
    | Name x p =>
      unfold cnames at h
      rw [Option.map_eq_some_iff] at h
      (refine xe1_2 h ?_; (try clear h); intro ys hy hq2; rcases hq2 with rfl)
      (refine xe0_5 (cnames_ok hy env) ?_; intro a b c d e)
      have ea : assignEach (.Name x p :: r) env = (false, assign (.Name x p) env) :: assignEach r env := rfl
      refine ⟨by simp [a], fun i z hz => ?_, by rw [ea]; simp [c], by rw [ea, List.findIdx?_cons]; simp only [Bool.false_eq_true, if_false, d]; rfl, fun i t ht => ?_⟩
      · cases i with
        | zero => simp at hz; subst hz; exact ⟨p, rfl⟩
        | succ i => exact b i z (by simpa using hz)
      · rw [ea, List.map_cons] at ht
        cases i with
        | zero => simp at ht; subst ht; exact ⟨x, p, rfl, rfl⟩
        | succ i => exact e i t (by simpa using ht)
    | _ => exact nos1 h
set_option backward.match.sparseCases true in
theorem filter_names (P : Str → Pos → Bool) : ∀ {ts : List Expr} {xs : List Str}, cnames ts = some xs → ∀ zs, ts.filterMap (fun | .Name id pos => if P id pos = true then some id else none | _ => none) = zs → zs.length = ts.length → zs = xs
  | [], xs, h, zs, hz, _ => by unfold cnames at h; cases h; simpa using hz.symm
  | e :: r, xs, h, zs, hz, hl => by
    cases e with
    | Name x p =>
      unfold cnames at h
      rw [Option.map_eq_some_iff] at h
      (refine xe1_2 h ?_; (try clear h); intro ys hy hq2; rcases hq2 with rfl)
      rw [List.filterMap_cons] at hz
      have hle := List.length_filterMap_le (fun | .Name id pos => if P id pos = true then some id else none | _ => none) r
      cases hP : P x p with
      | true =>
        simp only [hP, if_true] at hz
        subst hz
        rw [filter_names P hy _ rfl (by simpa using hl)]
      | false =>
        simp only [hP, Bool.false_eq_true, if_false] at hz
        subst hz
        simp only [List.length_cons] at hl
        omega
    | _ => exact nos1 h
theorem swapped_or {env : Env} {ts vs : List Expr} {xs : List Str} {k k2 : Nat} {p p2 : Pos} (hc : cnames ts = some xs) (hs : swOk vs = true) : swappedStores [.Tuple ts k p] (.Tuple vs k2 p2) env = pure none ∨ swappedStores [.Tuple ts k p] (.Tuple vs k2 p2) env = pure (some xs) := by
  unfold swOk at hs
  simp only [Bool.and_eq_true, Bool.not_eq_true'] at hs
  unfold swappedStores
  dsimp only
  split
  · exact .inl rfl
  · split
    · exact .inl rfl
    · split
      · exact .inl rfl
      · rename_i h3
        rw [hs.1, hs.2]
        simp only [Bool.false_eq_true, if_false]
        refine .inr ?_
        simp only [Bool.or_eq_true, bne_iff_ne, not_or, Decidable.not_not] at h3
        have := filter_names (fun id pos => env.kindOf id == some .local && pos.line == (ts.head?.map (·.pos.line)).getD 0) hc _ rfl h3.1
        exact congrArg (fun z => (pure (some z) : Sem (Option (List Str)))) this
end Mine
end

section
open PySem PySem.W PyProof.Rows
set_option tactic.hygienic false
namespace Mine
noncomputable def ownA : Slot → Value → List Addr
  | .ol _, .ref a => [a]
  | .od _, .ref a => [a]
  | _, _ => []
theorem ownA_iff {h : Heap} {sl : Slot} {v : Value} {a : Addr} (hn : noI sl = true) : Owns h sl v a ↔ a ∈ ownA sl v := by
  cases sl with
  | fr d => exact ⟨fun x => x.elim, fun x => by simp [ownA] at x⟩
  | ol l =>
    constructor
    · intro x; cases x; simp [ownA]
    · intro x
      cases v <;> simp [ownA] at x
      subst x; rfl
  | od l =>
    constructor
    · intro x; cases x; simp [ownA]
    · intro x
      cases v <;> simp [ownA] at x
      subst x; rfl
  | oi t l => cases hn
section
variable {prog : Program} {w : World} {C : Addr} {B : Heap} {A : Around} {F F' F1 : FH} {s s' s2 : Shared} {fv : Str → Option Addr} {tab : List (Str × Fn)} {mg mb : Str → Option Value} {env : Env} {k n lo : Nat} {ps : List Addr} {ρ ρ' : Sc} {c : Cx}
theorem Slots.each {h : Heap} {lo0 : Nat} {sls : List Slot} {vs : List Value} (x : Slots prog w C F h lo0 sls vs) : ∀ p ∈ sls.zip vs, noI p.1 = true ∧ SlotOk prog w C F h p.1 p.2 ∧ ∀ a, Owns h p.1 p.2 a → lo0 ≤ a := by
  induction x with
  | nil => intro p hp; cases hp
  | cons q1 q2 q3 q4 ih =>
    intro p hp
    rw [List.zip_cons_cons] at hp
    rcases List.mem_cons.mp hp with rfl | hp
    · exact ⟨q1, q2, fun a ha => (q3 a ha).1⟩
    · exact ih p hp
theorem Slots.apart {h : Heap} {lo0 : Nat} {sls : List Slot} {vs : List Value} (x : Slots prog w C F h lo0 sls vs) : (sls.zip vs).Pairwise fun p q => ∀ a, Owns h p.1 p.2 a → ¬ Owns h q.1 q.2 a := by
  induction x with
  | nil => exact .nil
  | cons q1 q2 q3 q4 ih =>
    rw [List.zip_cons_cons]
    exact List.pairwise_cons.mpr ⟨fun p hp a ha => (q3 a ha).2 p.1 p.2 hp, ih⟩
theorem zip_snd {α β : Type} : ∀ {l : List α} {m : List β}, m.length = l.length → (l.zip m).map (·.2) = m
  | [], [], _ => rfl
  | _ :: _, [], h => by cases h
  | [], _ :: _, h => by cases h
  | a :: l, b :: m, h => by rw [List.zip_cons_cons, List.map_cons, zip_snd (by simpa using h)]
theorem zip_fst {α β : Type} : ∀ {l : List α} {m : List β}, m.length = l.length → (l.zip m).map (·.1) = l
  | [], [], _ => rfl
  | _ :: _, [], h => by cases h
  | [], _ :: _, h => by cases h
  | a :: l, b :: m, h => by rw [List.zip_cons_cons, List.map_cons, zip_fst (by simpa using h)]
theorem store_slots (he : EnvOk c env) (hf : ∀ x, env.kindOf x ≠ some .free) (st : St prog w C B lo ps env F s ρ) (t : Ste s.heap.objs.size F s F1 s2) (ok : Ok B F1 s2) {xs : List Str} {ss : List Slot} {us : List Value} (hs : Slots prog w C F1 s2.heap s.heap.objs.size ss us)
    (hn : xs.Nodup) (hlen : xs.length = ss.length) (hv : ∀ x ∈ xs, isVar c.names x = true) (hup : updAll ρ xs ss = some ρ') (rev : Bool) {ts : List (Value → Sem Unit)} (htl : ts.length = xs.length)
    (hT : ∀ (i : Nat) (t : Value → Sem Unit) (x : Str), ts[i]? = some t → (if rev then xs.reverse else xs)[i]? = some x → Stores prog w A env x t) {E : Value → Shared → Prop} {Q : Unit → Shared → Prop}
    (hQ : ∀ s'', St prog w C B lo ps env F1 s'' ρ' → Stq lo ps F s F1 s'' → Q () s'') : wpAny (model prog w) A (assignInOrder ts (if rev then us.reverse else us)) Q E s2 := by
  have hul := hs.length
  (refine xe0_2 (updAll_L xs ss ρ ρ' hup) ?_; intro hq0; rcases hq0 with rfl; intro _)
  let l0 : List (Str × Slot × Value) := xs.zip (ss.zip us)
  have zl : (ss.zip us).length = xs.length := by rw [List.length_zip, hul, Nat.min_self, hlen]
  have l0v : l0.map (·.2.2) = us := by
    have h1 : l0.map (·.2) = ss.zip us := zip_snd zl
    have h2 : l0.map (·.2.2) = (l0.map (·.2)).map (·.2) := by rw [List.map_map]; rfl
    rw [h2, h1, zip_snd hul]
  have l0s : l0.map (fun e => (e.1, e.2.1)) = xs.zip ss := by
    have : ∀ {a : List Str} {b : List Slot} {d : List Value}, b.length = a.length → d.length = b.length → (a.zip (b.zip d)).map (fun e => (e.1, e.2.1)) = a.zip b := fun {a} => by
      induction a with
      | nil => intro b d h1 h2; rfl
      | cons x a ih =>
        intro b d h1 h2
        cases b with
        | nil => cases h1
        | cons y b =>
          cases d with
          | nil => cases h2
          | cons z d =>
            rw [List.zip_cons_cons, List.zip_cons_cons, List.map_cons, ih (by simpa using h1) (by simpa using h2), List.zip_cons_cons]
    exact this hlen.symm hul
  have l0x : l0.map (·.1) = xs := zip_fst zl
  have lmem : ∀ e ∈ l0, e.1 ∈ xs ∧ e.2 ∈ ss.zip us := fun e he => List.of_mem_zip he
  have lpair : l0.Pairwise fun e f => ∀ a, Owns s2.heap e.2.1 e.2.2 a → ¬ Owns s2.heap f.2.1 f.2.2 a := by
    have h1 : l0.map (·.2) = ss.zip us := zip_snd zl
    have := hs.apart
    rw [← h1, List.pairwise_map] at this
    exact this
  let l : List (Str × Slot × Value) := if rev then l0.reverse else l0
  have hmeml : ∀ e, e ∈ l ↔ e ∈ l0 := fun e => by
    show e ∈ (if rev then l0.reverse else l0) ↔ _
    cases rev <;> simp
  have hlv : l.map (·.2.2) = if rev then us.reverse else us := by
    show (if rev then l0.reverse else l0).map _ = _
    cases rev
    · exact l0v
    · simp only [if_true, List.map_reverse, l0v]
  have hll : l.length = xs.length := by
    have h0 : l0.length = xs.length := by have := congrArg List.length l0x; simpa using this
    show (if rev then l0.reverse else l0).length = _
    cases rev <;> simp [h0]
  have hlx : ∀ i : Nat, (l.map (·.1))[i]? = (if rev then xs.reverse else xs)[i]? := fun i => by
    show ((if rev then l0.reverse else l0).map (·.1))[i]? = _
    cases rev
    · simp only [Bool.false_eq_true, if_false, l0x]
    · simp only [if_true, List.map_reverse, l0x]
  have hlp : l.Pairwise fun e f => ∀ a, Owns s2.heap e.2.1 e.2.2 a → ¬ Owns s2.heap f.2.1 f.2.2 a := by
    show (if rev then l0.reverse else l0).Pairwise _
    cases rev
    · exact lpair
    · simp only [if_true, List.pairwise_reverse]
      exact lpair.imp fun h a x y => h a y x
  let qs : List Addr := l0.flatMap fun e => ownA e.2.1 e.2.2
  have hqs : ∀ p ∈ qs, ∃ e ∈ l0, p ∈ ownA e.2.1 e.2.2 := fun p hp => List.mem_flatMap.mp hp
  have each : ∀ e ∈ l0, noI e.2.1 = true ∧ SlotOk prog w C F1 s2.heap e.2.1 e.2.2 ∧ ∀ a, Owns s2.heap e.2.1 e.2.2 a → s.heap.objs.size ≤ a := fun e he => hs.each e.2 (lmem e he).2
  have stp := st.protect t ok (qs := qs) fun p hp => by
    (refine xe1_2 (hqs p hp) ?_; intro e he hpe)
    (refine xe0_3 (each e he) ?_; intro q1 q2 q3)
    have ho := (ownA_iff (h := s2.heap) q1).mpr hpe
    (refine xe0_2 (q2.owned _ _ _ ho) ?_; intro o1 o2)
    exact ⟨q3 p ho, o2, o1⟩
  have := bind_all (ps := ps) (A := A) (fun x hx => by
      cases hk : env.kindOf x with
      | none => rw [hk] at hx; cases hx
      | some kd =>
        cases kd with
        | «local» => exact .inl rfl
        | cell => exact .inr rfl
        | free => exact absurd hk (hf x)
        | globalImplicit => rw [hk] at hx; cases hx
        | globalExplicit => rw [hk] at hx; cases hx) l ts stp (fun p hp => List.mem_append_right _ hp) (by rw [htl, hll]) (fun i t e h1 h2 => hT i t e.1 h1 (by rw [← hlx i]; simp [h2])) (fun e hm => by
      have he0 := (hmeml e).mp hm
      (refine xe0_3 (each e he0) ?_; intro q1 q2 q3)
      refine ⟨(he.var (hv _ (lmem e he0).1)).1, q1, q2, fun a ha => ⟨List.mem_append_left _ (List.mem_flatMap.mpr ⟨e, he0, (ownA_iff q1).mp ha⟩), fun hp => ?_, Nat.le_trans st.le (q3 a ha)⟩⟩
      (refine xe1_1 st ?_; (try clear st); intro m z)
      exact Nat.lt_irrefl _ (Nat.lt_of_lt_of_le (z.prot a hp).2.1 (q3 a ha))) hlp E Q fun s3 st3 tq3 => hQ s3 (st3.sub (fun _ z => z) fun y sl hy => ?_) ((t.q st.le (Nat.le_refl _)).trans tq3)
  · rw [hlv] at this; exact this
  · have hnd : ((xs.zip ss).map (·.1)).Nodup := by rw [zip_fst hlen.symm]; exact hn
    rw [← hy]
    refine (updL_perm (fun p => ?_) hnd ?_ ρ y).symm
    · rw [← l0s]
      constructor
      · intro h
        (refine xe1_2 (List.mem_map.mp h) ?_; intro e he e2)
        exact List.mem_map.mpr ⟨e, (hmeml e).mpr he, e2⟩
      · intro h
        (refine xe1_2 (List.mem_map.mp h) ?_; intro e he e2)
        exact List.mem_map.mpr ⟨e, (hmeml e).mp he, e2⟩
    · have e1 : (l.map fun e => (e.1, e.2.1)).map (·.1) = l.map (·.1) := by rw [List.map_map]; rfl
      rw [e1]
      show ((if rev then l0.reverse else l0).map (·.1)).Nodup
      cases rev
      · simp only [Bool.false_eq_true, if_false, l0x]; exact hn
      · simp only [if_true, List.map_reverse, l0x]; exact List.pairwise_reverse.mpr (List.Pairwise.imp (fun h => Ne.symm h) hn)
theorem isTuple_of {h : Heap} {a : Addr} {items : Array Value} (x : IsTup h a items) : h.IsTuple a items := x
theorem x_tuple (sn : ∀ m, Snd prog w C B fv m) (he : EnvOk c env) (hf : ∀ x, env.kindOf x ≠ some .free) (hc : CallOk prog w C B fv k c.call) (hr : Room A k) (st : St prog w C B lo ps env F s ρ) {ts vs : List Expr} {k1 k2 : Nat} {p1 p2 pos : Pos} {xs : List Str} {ss : List Slot}
    (h1 : cnames ts = some xs) (h2 : evSs n c ρ vs = some ss) (hv : xs.all (isVar c.names) = true) (hn : xs.Nodup) (hlen : xs.length = ss.length) (hsw : swOk vs = true) (hup : updAll ρ xs ss = some ρ') (hsz : vs.length ≤ 1000) :
    XDo prog w C B A lo ps env F s (exec (.Assign [.Tuple ts k1 p1] (.Tuple vs k2 p2) pos) env) .next ρ' := by
  intro E Q hQ
  (refine xe0_5 (cnames_ok h1 env) ?_; intro c1 c2 c3 c4 c5)
  (refine xe0_2 (trees_eqS env p2 h2) ?_; intro e1 e2)
  rw [exec_Assign_arm]
  refine wpAny_bind (wpAny_standAt ?_)
  rw [show swapsWithSole [.Tuple ts k1 p1] (.Tuple vs k2 p2) pos.line env = pure false from rfl]
  refine wpAny_bind (wpAny_pure ?_)
  rw [if_neg (by decide)]
  refine wpAny_bind (Tuple_ ?_)
  rw [e1]
  refine s_slots sn he hc hr st h2 E _ fun us F1 s1 t1 ok1 hs1 => ?_
  have hul := hs1.length
  refine wpAny_newObj_type ?_ (by show us.toArray.size ≤ sizeLine; rw [List.size_toArray, hul, sizeLine_eq]; omega)
  have t2 := Ste.push ok1 { cls := .type "tuple", data := .seq us.toArray } s1.toks
  have ok2 := ok1.push { cls := .type "tuple", data := .seq us.toArray } s1.toks
  have ht2 : IsTup (s1.heap.push { cls := .type "tuple", data := .seq us.toArray }) s1.heap.objs.size us.toArray := ⟨_, Heap.get?_push_size _ rfl, rfl, _, rfl⟩
  have step : ∀ {F3 : FH} {s3 : Shared}, Ste s1.heap.objs.size F1 s1 F3 s3 → Slots prog w C F3 s3.heap s.heap.objs.size ss us := fun {F3 s3} t3 => by
    have : ∀ {sls : List Slot} {vs : List Value}, Slots prog w C F1 s1.heap s.heap.objs.size sls vs → Slots prog w C F3 s3.heap s.heap.objs.size sls vs := fun {sls vs} z => by
      induction z with
      | nil => exact .nil
      | cons q1 q2 q3 q4 ih =>
        refine .cons q1 (q2.step _ _ _ t3.ext fun b hb ho => t3.old b (q2.owned _ _ _ ho).2 hb) (fun a ha => ?_) ih
        (refine xe0_2 (q3 a ((owns_noI q1 ha).2 s1.heap)) ?_; intro o1 o2)
        refine ⟨o1, fun sl' v' hm ho => o2 sl' v' hm ?_⟩
        (refine xe0_3 (q4.each (sl', v') hm) ?_; intro n1 _ _)
        exact (owns_noI n1 ho).2 s1.heap
    exact this hs1
  have t12 : Ste s.heap.objs.size F s F1 _ := t1.seq t2
  have unp : ∀ {E' : Value → Shared → Prop} {Q' : List Value → Shared → Prop}, (∀ s3, Ste s1.heap.objs.size F1 s1 F1 s3 → Ok B F1 s3 → Q' us s3) → wpAny (model prog w) A (unpackItems (.ref s1.heap.objs.size) us.toArray.size none) Q' E' (⟨s1.heap.push { cls := .type "tuple", data := .seq us.toArray }, s1.gens, s1.drawn, s1.toks, s1.os⟩ : Shared) := fun {E' Q'} hq => by
    refine wpAny_gw (wpAny_unpackItems_tuple hr.1 (isTuple_of ht2) fun h' hx gw => ?_)
    have hk : ∀ b, b < (s1.heap.push { cls := .type "tuple", data := .seq us.toArray }).objs.size → h'.get? b = (s1.heap.push { cls := .type "tuple", data := .seq us.toArray }).get? b := fun b hb => by
      cases q : (s1.heap.push { cls := .type "tuple", data := .seq us.toArray }).get? b with
      | none => exact gw.dead b hb q
      | some o => exact hx b o (Nat.ne_of_lt hb) q
    have t3 : Ste (s1.heap.push { cls := .type "tuple", data := .seq us.toArray }).objs.size F1 (⟨s1.heap.push { cls := .type "tuple", data := .seq us.toArray }, s1.gens, s1.drawn, s1.toks, s1.os⟩ : Shared) F1 (⟨h', s1.gens, s1.drawn, s1.toks, s1.os⟩ : Shared) := ⟨fun _ _ q => q, fun b hb q => ⟨q, hk b hb⟩, gw.size, rfl⟩
    have := hq (⟨h', s1.gens, s1.drawn, s1.toks, s1.os⟩ : Shared) (t2.seq t3) (ok2.same (fun b o e => hk b (ok2.lt e)) ok2.bare)
    simpa using this
  have husz : us.toArray.size = xs.length := by rw [List.size_toArray, hul, hlen]
  have fin : ∀ (rev : Bool) (tl : List (Value → Sem Unit)) (s3 : Shared), Ste s1.heap.objs.size F1 s1 F1 s3 → Ok B F1 s3 → tl.length = xs.length → (∀ (i : Nat) (t : Value → Sem Unit) (x : Str), tl[i]? = some t → (if rev then xs.reverse else xs)[i]? = some x → Stores prog w A env x t) →
      wpAny (model prog w) A (assignInOrder tl (if rev then us.reverse else us)) (fun _ => Q .next) E s3 := fun rev tl s3 t3 ok3 hl hT =>
    store_slots he hf st (t1.seq t3) ok3 (step t3) hn hlen (fun x hx => List.all_eq_true.mp hv x hx) hup rev hl hT fun s4 st4 tq4 => hQ F1 s4 .next tq4 st4 trivial
  rcases swapped_or (env := env) (k := k1) (k2 := k2) (p := p1) (p2 := p2) h1 hsw with hw | hw
  · rw [hw]
    refine wpAny_bind (wpAny_pure ?_)
    show wpAny _ _ (do assignAll (.ref s1.heap.objs.size) [assign (.Tuple ts k1 p1) env]; pure Flow.next) _ _ _
    refine wpAny_bind (m := assign (.Tuple ts k1 p1) env (.ref s1.heap.objs.size)) (wpAny_mono (Q := fun _ => Q .next) ?_ (fun _ _ z => wpAny_pure z) fun _ _ z => z)
    rw [arm_assign_Tuple]
    refine wpAny_bind (wpAny_standAt ?_)
    unfold unpack
    rw [c4, c3, ← c1, ← husz]
    refine wpAny_bind (wpAny_holding (unp fun s3 t3 ok3 => ?_))
    exact fin false _ s3 t3 ok3 (by rw [List.length_map, c3, c1]) fun i t x h3 h4 v s' E' Q' hh => by
      (refine xe2_2 (c5 i t h3) ?_; intro x' p' h5 hq3; rcases hq3 with rfl)
      (refine xe1_1 (c2 i x (by simpa using h4)) ?_; intro p'' h6)
      rw [h5] at h6; cases h6
      exact PySem.wpAny_assign_Name hh
  · rw [hw]
    refine wpAny_bind (wpAny_pure ?_)
    show wpAny _ _ (do rule "assign.swapped-stores"; let items ← unpackItems (.ref s1.heap.objs.size) xs.length none; assignInOrder (xs.reverse.map fun n => bindName env n) items.reverse; pure Flow.next) _ _ _
    rw [← husz]
    refine wpAny_bind (wpAny_rule (wpAny_bind (unp fun s3 t3 ok3 => ?_)))
    refine wpAny_bind (wpAny_mono (fin true (xs.reverse.map fun n => bindName env n) s3 t3 ok3 (by simp) fun i t x h3 h4 v s' E' Q' hh => ?_) (fun _ _ z => wpAny_pure z) fun _ _ z => z)
    rw [List.getElem?_map, Option.map_eq_some_iff] at h3
    (refine xe1_2 h3 ?_; (try clear h3); intro y hy hq2; rcases hq2 with rfl)
    simp only [if_true] at h4
    rw [hy] at h4; cases h4
    exact PySem.wpAny_bindName hh
end
end Mine
end

section
open PySem PySem.W PyProof.Rows
namespace Mine
section
variable {prog : Program} {w : World} {C : Addr} {B : Heap} {A : Around} {F F' F1 : FH} {s s' s2 : Shared} {fv : Str → Option Addr} {tab : List (Str × Fn)} {mg mb : Str → Option Value} {env : Env} {k n lo : Nat} {ps : List Addr} {ρ ρ' : Sc} {c : Cx}
theorem slots_fr {h : Heap} {lo0 : Nat} {ds : List D} {vs : List Value} (r : Reps prog w C F ds vs) : Slots prog w C F h lo0 (ds.map .fr) vs :=
  Reps.ind (P := fun ds vs => Slots prog w C F h lo0 (ds.map .fr) vs) .nil (fun _ _ _ _ r _ ih => .cons rfl r (fun _ q => q.elim) ih) r
theorem assign_tup (he : EnvOk c env) (hf : ∀ x, env.kindOf x ≠ some .free) (hh : A.handled = none) (st : St prog w C B lo ps env F s ρ) {ts : List Expr} {k1 : Nat} {p1 : Pos} {xs : List Str} {ds : List D} {a : Addr} {us : List Value}
    (h1 : cnames ts = some xs) (hv : xs.all (isVar c.names) = true) (hn : xs.Nodup) (hlen : xs.length = ds.length) (hup : updAll ρ xs (ds.map .fr) = some ρ') (ht : IsTup s.heap a us.toArray) (hr : Reps prog w C F ds us) {E : Value → Shared → Prop} {Q : Unit → Shared → Prop}
    (hQ : ∀ s'', St prog w C B lo ps env F s'' ρ' → Stq lo ps F s F s'' → Q () s'') : wpAny (model prog w) A (assign (.Tuple ts k1 p1) env (.ref a)) Q E s := by
  (refine xe0_5 (cnames_ok h1 env) ?_; intro c1 c2 c3 c4 c5)
  have husz : us.toArray.size = xs.length := by rw [List.size_toArray, hr.length, hlen]
  rw [arm_assign_Tuple]
  refine wpAny_bind (wpAny_standAt ?_)
  unfold unpack
  rw [c4, c3, ← c1, ← husz]
  refine wpAny_bind (wpAny_holding (wpAny_gw (wpAny_unpackItems_tuple hh (isTuple_of ht) fun h' hx gw => ?_)))
  have hk : ∀ b, b < s.heap.objs.size → h'.get? b = s.heap.get? b := fun b hb => by
    cases q : s.heap.get? b with
    | none => exact gw.dead b hb q
    | some o => exact hx b o (Nat.ne_of_lt hb) q
  have t3 : Ste s.heap.objs.size F s F (⟨h', s.gens, s.drawn, s.toks, s.os⟩ : Shared) := ⟨fun _ _ q => q, fun b hb q => ⟨q, hk b hb⟩, gw.size, rfl⟩
  have ok3 : Ok B F (⟨h', s.gens, s.drawn, s.toks, s.os⟩ : Shared) := st.ok.same (fun b o e => hk b (st.ok.lt e)) st.ok.bare
  have := store_slots (A := A) (E := E) (Q := Q) he hf st t3 ok3 (slots_fr (h := h') (lo0 := s.heap.objs.size) hr) hn (by rw [List.length_map]; exact hlen) (fun x hx => List.all_eq_true.mp hv x hx) hup false (ts := (assignEach ts env).map (·.2)) (by rw [List.length_map, c3, c1]) (fun i t x h3 h4 v s' E' Q' hh => by
      (refine xe2_2 (c5 i t h3) ?_; intro x' p' h5 hq3; rcases hq3 with rfl)
      (refine xe1_1 (c2 i x (by simpa using h4)) ?_; intro p'' h6)
      rw [h5] at h6; cases h6
      exact PySem.wpAny_assign_Name hh) hQ
  simpa using this
theorem sws_tup {ts : List Expr} {k1 : Nat} {p1 : Pos} (v : Expr) (l : Nat) : swapsWithSole [.Tuple ts k1 p1] v l env = pure false := by cases v <;> rfl
theorem sst_tup {ts : List Expr} {k1 : Nat} {p1 : Pos} {v : Expr} (hnt : ∀ vs k2 p2, v ≠ .Tuple vs k2 p2) : swappedStores [.Tuple ts k1 p1] v env = pure none := by cases v <;> first | rfl | exact absurd rfl (hnt _ _ _)
theorem x_unpack (sn : ∀ m, Snd prog w C B fv m) (he : EnvOk c env) (hf : ∀ x, env.kindOf x ≠ some .free) (hc : CallOk prog w C B fv k c.call) (hr : Room A k) (st : St prog w C B lo ps env F s ρ) {ts : List Expr} {v : Expr} {k1 : Nat} {p1 pos : Pos} {xs : List Str} {ds : List D}
    (h1 : cnames ts = some xs) (h2 : evE n c ρ v = some (.tup ds)) (hv : xs.all (isVar c.names) = true) (hn : xs.Nodup) (hlen : xs.length = ds.length) (hup : updAll ρ xs (ds.map .fr) = some ρ') (hnt : ∀ vs k2 p2, v ≠ .Tuple vs k2 p2) :
    XDo prog w C B A lo ps env F s (exec (.Assign [.Tuple ts k1 p1] v pos) env) .next ρ' := by
  intro E Q hQ
  (refine xe0_2 (not_comp h2) ?_; intro n2 n3)
  rw [exec_Assign_arm]
  refine wpAny_bind (wpAny_standAt ?_)
  rw [sws_tup]
  refine wpAny_bind (wpAny_pure ?_)
  rw [if_neg (by decide)]
  refine wpAny_bind (((sn n).e he hc hr st h2).ev E _ fun u F1 s1 t1 ok1 r1 => ?_)
  rw [sst_tup hnt]
  refine wpAny_bind (wpAny_pure ?_)
  (refine xe4_4 r1.tup_inv ?_; intro a o us m hq4; rcases hq4 with rfl; intro g1 g2 hqr; refine xe0_2 hqr ?_; (try clear hqr); intro g3 g4)
  show wpAny _ _ (do assignAll (.ref a) [assign (.Tuple ts k1 p1) env]; pure Flow.next) _ _ _
  refine wpAny_bind (m := assign (.Tuple ts k1 p1) env (.ref a)) ?_
  exact assign_tup he hf hr.1 (st.step t1 (Nat.le_refl _) ok1) h1 hv hn hlen hup ⟨o, ok1.subT g1 g2, g2, m, g3⟩ g4 fun s2 st2 tq2 => wpAny_pure (hQ F1 s2 .next ((t1.q st.le (Nat.le_refl _)).trans tq2) st2 trivial)
theorem flr_split {fl : Fl} {f : Flow} (h : FlR prog w C F fl f) : (fl = .next ∧ f = .next) ∨ (fl = .brk ∧ f = .brk) ∨ ∃ d v, fl = .ret d ∧ f = .ret v ∧ Rep prog w C F d v := by
  cases fl <;> cases f <;> first | exact .inl ⟨rfl, rfl⟩ | exact .inr (.inl ⟨rfl, rfl⟩) | exact .inr (.inr ⟨_, _, rfl, rfl, h⟩) | exact h.elim
theorem body_turn (xb : XB prog w C B fv n) (he : EnvOk c env) (hf : ∀ x, env.kindOf x ≠ some .free) (hc : CallOk prog w C B fv k c.call) (hr : Room A k) {I : Addr} {F2 : FH} {s4 : Shared} {ρ2 ρ4 : Sc} {b : List Stmt} {f : D → Sc → Option (Fl × Sc)} {d : D} {r : List D} {fl : Fl} (st4 : St prog w C B lo ([I] ++ ps) env F2 s4 ρ4) (tq : Stq lo ps F s F2 s4) (e : f d ρ2 = exB n c ρ4 b) (hl : loopD f (d :: r) ρ2 = some (fl, ρ'))
    {E : Value → Shared → Prop} {Q Q' : Flow → Shared → Prop} (hQ : ∀ F' s' f', Stq lo ps F s F' s' → St prog w C B lo ps env F' s' ρ' → FlR prog w C F' fl f' → Q f' s') (qb : ∀ z, Q .next z → Q' .brk z) (qr : ∀ v z, Q (.ret v) z → Q' (.ret v) z)
    (qn : ∀ F5 s5 ρ5, Stq lo ([I] ++ ps) F2 s4 F5 s5 → St prog w C B lo ([I] ++ ps) env F5 s5 ρ5 → Stq lo ps F s F5 s5 → loopD f r ρ5 = some (fl, ρ') → Q' .next s5) : wpAny (model prog w) A (execs b env) Q' E s4 := by
  unfold loopD at hl
  rw [e] at hl
  cases hb : exB n c ρ4 b with
  | none => rw [hb] at hl; cases hl
  | some z =>
    obtain ⟨g, ρ5⟩ := z
    refine xb he hf hc hr st4 hb _ _ fun F5 s5 f5 tq5 st5 hfl => ?_
    have t := tq.trans (tq5.sub fun _ hz => List.mem_cons_of_mem _ hz)
    rw [hb] at hl
    cases g <;> cases f5 <;> first | exact hfl.elim | skip
    · exact qn F5 s5 ρ5 tq5 st5 t hl
    · cases hl; exact qb _ (hQ F5 s5 .next t (st5.sub (fun _ hz => List.mem_cons_of_mem _ hz) fun _ _ z => z) trivial)
    · cases hl; exact qr _ _ (hQ F5 s5 _ t (st5.sub (fun _ hz => List.mem_cons_of_mem _ hz) fun _ _ z => z) hfl)
theorem x_for (sn : ∀ m, Snd prog w C B fv m) (xb : XB prog w C B fv n) (he : EnvOk c env) (hf : ∀ x, env.kindOf x ≠ some .free) (hc : CallOk prog w C B fv k c.call) (hr : Room A k) (st : St prog w C B lo ps env F s ρ) {x : Str} {p pos : Pos} {it : Expr} {b : List Stmt} {ds : List D} {fl : Fl}
    (hv : isVar c.names x = true) (h1 : evI n c ρ it = some ds) (h : loopD (fun d ρ' => exB n c (upd ρ' x (.fr d)) b) ds ρ = some (fl, ρ')) : XDo prog w C B A lo ps env F s (exec (.For (.Name x p) it b [] pos) env) fl ρ' := by
  intro E Q hQ
  refine wpAny_For ((sn n).i he hc hr st h1 E _ fun I F1 s1 t1 ok1 hI hit => ?_) (fold_set h1)
  have st1 : St prog w C B lo ([I] ++ ps) env F1 s1 ρ := st.protect t1 ok1 (qs := [I]) fun z hz => by rw [List.mem_singleton.mp hz]; exact ⟨hI, hit.2.1, hit.1⟩
  have hIps : I ∉ ps := fun z => by
    (refine xe1_1 st ?_; (try clear st); intro m y)
    exact Nat.lt_irrefl _ (Nat.lt_of_lt_of_le (y.prot I z).2.1 hI)
  have hloI : lo ≤ I := Nat.le_trans st.le hI
  have tq1 := t1.q (ps := ps) st.le (Nat.le_refl _)
  obtain ⟨i1, i2, fp, P, W, i3, i4, i5, i6⟩ := hit
  refine codeAny_forLoop_any (fun m s₂ => ∃ F₂ i ρ₂, i ≤ ds.length ∧ m = ds.length - i ∧ IterAt prog w C A I fp P W ds F₂ s₂ i ∧ St prog w C B lo ([I] ++ ps) env F₂ s₂ ρ₂ ∧ Stq lo ps F s F₂ s₂ ∧ loopD (fun d ρ' => exB n c (upd ρ' x (.fr d)) b) (ds.drop i) ρ₂ = some (fl, ρ')) ?_ ds.length
    ⟨F1, 0, ρ, Nat.zero_le _, rfl, ⟨i1, i2, i3, i4, i5, i6⟩, st1, tq1, by simpa using h⟩
  intro m s₂ hv2
  refine xe3_5 hv2 ?_; clear hv2; intro F₂ i ρ₂ hi hm hat st₂ hl
  refine xe0_2 hl ?_; clear hl; intro tq hl
  refine (Nat.lt_or_ge i ds.length).elim (fun hlt => ?_) fun hge => ?_
  · rw [List.drop_eq_getElem_cons hlt] at hl
    refine hat.next (List.getElem?_eq_getElem hlt) fun v h' tk hrep hs hz hat2 => ?_
    have st₃ := st₂.poke (p := I) List.mem_cons_self hs hz tk
    refine wpAny_of_eq (a := ()) rfl (PySem.wpAny_assign_Name (St.bind st₃ (.refl ..) st₃.ok (sl := .fr ds[i]) hrep (fun _ q => q.elim) (he.bnd hf hv) fun s4 st4 tq4 _ => ?_))
    exact body_turn xb he hf hc hr st4 ((tq.trans (Stq.poke (tk := tk) st₂.ok hs hz hloI st₂.le hIps)).trans (tq4.sub fun _ hz => List.mem_cons_of_mem _ hz)) rfl hl hQ (fun _ q => q) (fun _ _ q => q) fun F5 s5 ρ5 tq5 st5 t5 hl =>
      ⟨ds.length - (i + 1), hm ▸ Nat.sub_succ_lt_self _ _ hlt, F5, i + 1, ρ5, hlt, rfl, have tq45 := tq4.trans tq5; hat2.step st₃.ok st5.ok tq45.ste.ext (tq45.kp I List.mem_cons_self hat2.own hat2.lt) tq45.ste.size, st5, t5, hl⟩
  · rw [List.drop_eq_nil_of_le hge] at hl
    have hat := Nat.le_antisymm hi hge ▸ hat
    refine hat.done fun h' tk hs hz => wpAny_execs_nil ?_
    have e := Prod.mk.inj (Option.some.inj hl)
    have st6 : St prog w C B lo ps env F₂ _ ρ₂ := (st₂.poke (p := I) List.mem_cons_self hs hz tk).sub (fun _ hz => List.mem_cons_of_mem _ hz) fun _ _ z => z
    exact hQ F₂ _ .next (tq.trans (.poke st₂.ok hs hz hloI st₂.le hIps)) (e.2 ▸ st6) (e.1 ▸ trivial)
end
end Mine
end

section
open PySem PySem.W PyProof.Rows
namespace Mine
section
variable {prog : Program} {w : World} {C : Addr} {B : Heap} {A : Around} {F F' F1 : FH} {s s' s2 : Shared} {fv : Str → Option Addr} {tab : List (Str × Fn)} {mg mb : Str → Option Value} {env : Env} {k n lo : Nat} {ps : List Addr} {ρ ρ' : Sc} {c : Cx}
theorem RepK.idx {ds : List (Str × D)} {vs : List (Str × Value)} (r : RepK prog w C F ds vs) : ∀ {i : Nat} {x : Str} {d : D}, ds[i]? = some (x, d) → ∃ v, vs[i]? = some (x, v) ∧ Rep prog w C F d v :=
  RepK.ind (P := fun ds vs => ∀ {i : Nat} {x : Str} {d : D}, ds[i]? = some (x, d) → ∃ v, vs[i]? = some (x, v) ∧ Rep prog w C F d v) (fun h => nos1 h)
    (fun k d v ds vs r _ ih i => by
      cases i with
      | zero => intro x d' e; have e := Prod.mk.inj (Option.some.inj e); exact ⟨v, e.1 ▸ rfl, e.2 ▸ r⟩
      | succ i => exact ih) r
theorem poke_same {h h' : Heap} {p : Addr} (gw : Gw h h') (hx : ∀ b o, b ≠ p → h.get? b = some o → h'.get? b = some o) : ∀ b, b < h.objs.size → b ≠ p → h'.get? b = h.get? b := fun b hb hne => by
  cases q : h.get? b with
  | none => exact gw.dead b hb q
  | some ob => exact hx b ob hne q
theorem updAll2 (ρ : Sc) (x y : Str) (a b : Slot) : updAll ρ [x, y] [a, b] = some (upd (upd ρ x a) y b) := rfl
theorem x_items (sn : ∀ m, Snd prog w C B fv m) (xb : XB prog w C B fv n) (he : EnvOk c env) (hf : ∀ x, env.kindOf x ≠ some .free) (hc : CallOk prog w C B fv k c.call) (hr : Room A k) (st : St prog w C B lo ps env F s ρ) {x y z : Str} {p1 p2 p3 zp ap cp pos : Pos} {kt : Nat} {b : List Stmt} {kvs : List (Str × D)} {fl : Fl}
    (hx : isVar c.names x = true) (hy : isVar c.names y = true) (hxy : x ≠ y) (hline : (ap.endLine == cp.line) = true) (h1 : evE n c ρ (.Name z zp) = some (.dct kvs))
    (h : loopD (pairTurn (fun ρ' => exB n c ρ' b) x y) (kvs.map fun kv => .tup [.str kv.1, kv.2]) ρ = some (fl, ρ')) :
    XDo prog w C B A lo ps env F s (exec (.For (.Tuple [.Name x p1, .Name y p2] kt p3) (.Call (.Attribute (.Name z zp) (Str.ofString "items") ap) [] [] cp) b [] pos) env) fl ρ' := by
  intro E Q hQ
  refine wpAny_For ?_ (fun _ => rfl)
  refine Call_attr rfl (by simp) hline rfl (((sn n).e he hc hr st h1).ev E _ fun v F1 s1 t1 ok1 r1 pl => ?_)
  (refine xe3_5 r1.dct_inv ?_; intro d o kv hq3; rcases hq3 with rfl; intro g1 g2 g3 g4)
  have hd1 := ok1.subT g1 g2.cls
  have hD : s1.heap.DictOf (strKind prog w) d kv := Heap.dictOf_iff.mpr ⟨o, hd1, g2⟩
  refine getMethod_builtin hD.typeIs PySem.F.plainAttrs_dict PySem.F.slot_dict_items PySem.F.type_dict_items (fun a e => by cases e; (refine xe2_2 g2 ?_; (try clear g2); intro _ _ q _); exact ⟨o, hd1, q.2.1⟩) ?_
  show wpAny _ _ (callWith cp (.builtin "dict.items") [.ref d] [] []) _ _ _
  refine method_meetsIn PySem.F.slot_dict_items PySem.F.entry_dict_items rfl (PySem.evalArgs_none ⟨rfl, hD.typeIs, PySem.F.args_dict_items_1 _, _, meets_dict_items (strKind prog w) d g3, ⟨kv, hD⟩, ?_⟩)
  have t2 := Ste.push ok1 { cls := .type "dict_items", data := .fields #[.ref d] } s1.toks
  have ok2 := ok1.push { cls := .type "dict_items", data := .fields #[.ref d] } s1.toks
  (refine xe2_5 (id g2) ?_; intro es ep q1 q2 q3 q4 q5)
  have hat : ∀ {s' : Shared}, Ok B F1 s' → s'.heap.DictAt (strKind prog w) d kv ep := fun {s'} ok' => ⟨o, es, ok'.subT g1 g2.cls, q1, q2, q3, q4, q5⟩
  have hview : (s1.heap.push { cls := .type "dict_items", data := .fields #[.ref d] }).IsItemsView s1.heap.objs.size d := ⟨_, Heap.get?_push_size _ rfl, rfl, rfl⟩
  refine wpAny_pyIter_items hview (hat ok2) ?_
  generalize hs2 : (⟨s1.heap.push { cls := .type "dict_items", data := .fields #[.ref d] }, s1.gens, s1.drawn, s1.toks, s1.os⟩ : Shared) = s2 at t2 ok2
  have hh2 : s1.heap.push { cls := .type "dict_items", data := .fields #[.ref d] } = s2.heap := by rw [← hs2]
  have t3 := Ste.push ok2 { cls := .type "dict_itemiterator", data := .fields #[.none, .bool false, .ref d, .int 0 0, .int kv.length 0, .int ep 0, .none, .none] } s2.toks
  have ok3 := ok2.push { cls := .type "dict_itemiterator", data := .fields #[.none, .bool false, .ref d, .int 0 0, .int kv.length 0, .int ep 0, .none, .none] } s2.toks
  have tt := (t1.seq t2).seq t3
  have hI : s.heap.objs.size ≤ s2.heap.objs.size := (t1.seq t2).size
  have hIn : F1 s2.heap.objs.size = none := ok2.fnone (Nat.le_refl _)
  have st3 : St prog w C B lo ([s2.heap.objs.size] ++ ps) env F1 _ ρ := st.protect tt ok3 (qs := [s2.heap.objs.size]) fun z hz => by
    rw [List.mem_singleton.mp hz]; exact ⟨hI, by show _ < (s2.heap.push _).objs.size; rw [Heap.size_push]; exact Nat.lt_succ_self _, hIn⟩
  have hIps : s2.heap.objs.size ∉ ps := fun z => by
    (refine xe1_1 st ?_; (try clear st); intro m y)
    exact Nat.lt_irrefl _ (Nat.lt_of_lt_of_le (y.prot _ z).2.1 hI)
  have hloI : lo ≤ s2.heap.objs.size := Nat.le_trans st.le hI
  have hit0 : IsItemIter (s2.heap.push { cls := .type "dict_itemiterator", data := .fields #[.none, .bool false, .ref d, .int 0 0, .int kv.length 0, .int ep 0, .none, .none] }) s2.heap.objs.size d 0 kv.length ep .none .none := Heap.get?_push_size _ rfl
  have hlen : kv.length = kvs.length := g4.length
  have goal : codeAny (model prog w) A (.forLoop (.Tuple [.Name x p1, .Name y p2] kt p3) (.ref s2.heap.objs.size) b [] env) (fun r s' => match r with | .ok f => Q f s' | .error e => PySem.cameBackBy (model prog w) A env E e s')
      (⟨s2.heap.push { cls := .type "dict_itemiterator", data := .fields #[.none, .bool false, .ref d, .int 0 0, .int kv.length 0, .int ep 0, .none, .none] }, s2.gens, s2.drawn, s2.toks, s2.os⟩ : Shared) := by
    refine codeAny_forLoop_any (fun m s₂ => ∃ F₂ i ρ₂ k0 v0, i ≤ kv.length ∧ m = kv.length - i ∧ (∀ b o, F1 b = some o → F₂ b = some o) ∧ IsItemIter s₂.heap s2.heap.objs.size d i kv.length ep k0 v0 ∧ St prog w C B lo ([s2.heap.objs.size] ++ ps) env F₂ s₂ ρ₂ ∧ Stq lo ps F s F₂ s₂ ∧
        loopD (pairTurn (fun ρ' => exB n c ρ' b) x y) ((kvs.map fun kv => .tup [.str kv.1, kv.2]).drop i) ρ₂ = some (fl, ρ')) ?_ kv.length
      ⟨F1, 0, ρ, .none, .none, Nat.zero_le _, rfl, fun _ _ q => q, hit0, st3, tt.q st.le (Nat.le_refl _), by simpa using h⟩
    intro m s₂ hv2
    refine xe5_3 hv2 ?_; clear hv2; intro F₂ i ρ₂ k0 v0 hi hm hv2
    refine xe0_5 hv2 ?_; clear hv2; intro hF hit st₂ tq hl
    have hDat : s₂.heap.DictAt (strKind prog w) d kv ep := ⟨o, es, st₂.ok.subT (hF _ _ g1) g2.cls, q1, q2, q3, q4, q5⟩
    have hIlt : s2.heap.objs.size < s₂.heap.objs.size := Heap.lt_size hit
    refine (Nat.lt_or_ge i kvs.length).elim (fun hlt => ?_) fun hge => ?_
    · have hlt' : i < (kvs.map fun kv => D.tup [.str kv.1, kv.2]).length := by rw [List.length_map]; exact hlt
      rw [List.drop_eq_getElem_cons hlt', List.getElem_map] at hl
      refine xe1_2 ((g4.mono hF).idx (x := kvs[i].1) (d := kvs[i].2) (List.getElem?_eq_getElem hlt)) ?_; intro vv hvv hrv
      refine wpAny_gw (PySem.wpAny_pyNext_items_item hit hDat hvv fun key h' hkey hout htup hsz' hkx gw => ?_)
      have hs := poke_same gw hkx
      refine PySem.wpAny_letOwnedTupleGo_items hout fun h'' hit2 hsb => ?_
      have hs2' : ∀ b, b < s₂.heap.objs.size → b ≠ s2.heap.objs.size → h''.get? b = s₂.heap.get? b := fun b hb hne => (hsb.2 b hne).trans (hs b hb hne)
      have hz2 : s₂.heap.objs.size ≤ h''.objs.size := by rw [hsb.1]; exact gw.size
      have st₃ := st₂.poke (p := s2.heap.objs.size) (h' := h'') List.mem_cons_self hs2' hz2 s₂.toks
      have tq3 := tq.trans (Stq.poke (tk := s₂.toks) st₂.ok hs2' hz2 hloI st₂.le hIps)
      refine xe1_1 (Value.isStrOf_shape hkey) ?_; intro tk hk
      rw [hk] at hit2 htup
      have htup2 : IsTup h'' s₂.heap.objs.size ([Value.str kvs[i].1 tk, vv] : List Value).toArray := ⟨_, (hsb.2 _ (Nat.ne_of_gt hIlt)).trans htup, rfl, _, rfl⟩
      refine assign_tup (ds := [.str kvs[i].1, kvs[i].2]) (us := [.str kvs[i].1 tk, vv]) (xs := [x, y]) he hf hr.1 st₃ rfl (by simp [hx, hy]) (by simp [hxy]) rfl (updAll2 ρ₂ x y _ _) htup2 (.cons (.str kvs[i].1 tk) (.cons hrv .nil)) fun s4 st4 tq4 => ?_
      have fit : ∀ {F5 : FH} {s5 : Shared}, Stq lo ([s2.heap.objs.size] ++ ps) F₂ (⟨h'', s₂.gens, s₂.drawn, s₂.toks, s₂.os⟩ : Shared) F5 s5 → IsItemIter s5.heap s2.heap.objs.size d (i + 1) kv.length ep (.str kvs[i].1 tk) vv := fun {F5 s5} q =>
        (q.kp s2.heap.objs.size List.mem_cons_self (st₂.prt List.mem_cons_self).1 (Nat.lt_of_lt_of_le hIlt hz2)).2.trans hit2
      exact body_turn xb he hf hc hr st4 (tq3.trans (tq4.sub fun _ hz => List.mem_cons_of_mem _ hz)) rfl hl hQ (fun _ q => q) (fun _ _ q => q) fun F5 s5 ρ5 tq5 st5 t5 hl =>
        have tq45 := tq4.trans tq5
        ⟨kv.length - (i + 1), hm ▸ Nat.sub_succ_lt_self _ _ (hlen ▸ hlt), F5, i + 1, ρ5, .str kvs[i].1 tk, vv, hlen ▸ hlt, rfl, fun b o e => tq45.ste.ext b o (hF b o e), fit tq45, st5, t5, hl⟩
    · rw [List.drop_eq_nil_of_le (by rw [List.length_map]; exact hge)] at hl
      refine wpAny_gw (PySem.wpAny_pyNext_items_end hr.1 hit hDat (List.getElem?_eq_none (hlen ▸ hge)) fun h' hx gw => wpAny_execs_nil ?_)
      have hs := poke_same gw hx
      have e := Prod.mk.inj (Option.some.inj hl)
      have st6 : St prog w C B lo ps env F₂ _ ρ₂ := (st₂.poke (p := s2.heap.objs.size) List.mem_cons_self hs gw.size s₂.toks).sub (fun z hz => List.mem_cons_of_mem _ hz) fun _ _ z => z
      exact hQ F₂ _ .next (tq.trans (Stq.poke (tk := s₂.toks) st₂.ok hs gw.size hloI st₂.le hIps)) (e.2 ▸ st6) (e.1 ▸ trivial)
  exact goal
end
end Mine
end

section
open PySem PySem.W PyProof.Rows
namespace Mine
section
variable {prog : Program} {w : World} {C : Addr} {B : Heap} {A : Around} {F F' F1 : FH} {s s' s2 : Shared} {fv : Str → Option Addr} {tab : List (Str × Fn)} {mg mb : Str → Option Value} {env : Env} {k n lo : Nat} {ps : List Addr} {ρ ρ' : Sc} {c : Cx}
theorem turn_eq {x : Str} {f : Slot → Option Slot} {fl : Fl} (h : turn c ρ x f = some (fl, ρ')) : isVar c.names x = true ∧ ∃ sl sl', lkp ρ x = some sl ∧ f sl = some sl' ∧ fl = .next ∧ ρ' = upd ρ x sl' := by
  unfold turn at h
  rw [Option.ite_none_right_eq_some] at h
  refine bind_el h.2 ?_; intro sl h1 h2
  refine map_el h2 ?_; (try clear h2); intro sl' h3 h4
  cases h4
  exact ⟨h.1, sl, sl', h1, h3, rfl, rfl⟩
theorem x_assign (base : Base prog w B C tab fv mg mb) (sn : ∀ m, Snd prog w C B fv m) (he : EnvOk c env) (hf : ∀ x, env.kindOf x ≠ some .free) (hc : CallOk prog w C B fv k c.call) (hr : Room A k) (st : St prog w C B lo ps env F s ρ) {ts : List Expr} {v : Expr} {pos : Pos} {fl : Fl}
    (h : exAssign n c ρ ts v = some (fl, ρ')) : XDo prog w C B A lo ps env F s (exec (.Assign ts v pos) env) fl ρ' := by
  unfold exAssign at h
  rw [Option.bind_eq_some_iff] at h
  (refine xe1_2 h ?_; (try clear h); intro t ht h)
  have hts := tv_eq ht
  cases t with
  | one x =>
    (refine xe1_1 hts ?_; (try clear hts); intro p hq1; rcases hq1 with rfl)
    rw [Option.ite_none_right_eq_some] at h
    refine map_el h.2 ?_; intro sl h1 h2
    cases h2
    exact x_name sn he hf hc hr st h.1 h1
  | three x y z =>
    (refine xe3_1 hts ?_; (try clear hts); intro p1 p2 p3 hq3; rcases hq3 with rfl)
    refine ite_el h ?_; (try clear h); intro hv h
    refine bind_el h ?_; (try clear h); intro d h1 h
    refine map_el h ?_; (try clear h); intro i h2 h3
    cases h3; obtain rfl := intOf_eq h2
    exact x_three sn he hf hc hr st hv.1 hv.2.1 hv.2.2 h1
  | tup l =>
    (refine xe2_1 hts ?_; (try clear hts); intro k0 p hq2; rcases hq2 with rfl)
    refine bind_el h ?_; (try clear h); intro xs hxs h
    refine ite_el h ?_; (try clear h); intro hv h
    split at h
    · rename_i vs hvs
      (refine xe2_1 (vTuple_eq hvs) ?_; intro k1 p1 e)
      rw [e]
      refine bind_el h ?_; (try clear h); intro ss h1 h
      refine ite_el h ?_; (try clear h); intro hw h
      refine map_el h ?_; (try clear h); intro ρ2 h2 h3
      cases h3
      exact x_tuple sn he hf hc hr st hxs h1 hv.1 hv.2 hw.1 hw.2.1 h2 hw.2.2
    · rename_i hvs
      refine bind_el h ?_; (try clear h); intro d h1 h
      refine bind_el h ?_; (try clear h); intro ds h2 h
      refine ite_el h ?_; (try clear h); intro hw h
      refine map_el h ?_; (try clear h); intro ρ2 h3 h4
      cases h4; obtain rfl := tupOf_eq h2
      exact x_unpack sn he hf hc hr st hxs h1 hv.1 hv.2 hw h3 fun vs k2 p2 e => by rw [e] at hvs; cases hvs
  | item x i =>
    (refine xe2_1 hts ?_; (try clear hts); intro p1 p hq2; rcases hq2 with rfl)
    refine bind_el h ?_; (try clear h); intro d h1 h
    refine bind_el h ?_; (try clear h); intro y h2 h
    obtain ⟨hv, sl, sl', h3, h4, rfl, rfl⟩ := turn_eq h
    refine x_setitem sn he hf hc hr st hv h1 h2 h3 ?_
    unfold storeItem at h4
    split at h4
    · rename_i l hl
      refine bind_el h4 ?_; (try clear h4); intro j h5 h4
      refine map_el h4 ?_; (try clear h4); intro l' h6 h7
      exact .inl ⟨j, l, l', intOf_eq h5, olOf_eq hl, h6, h7.symm⟩
    · refine bind_el h4 ?_; (try clear h4); intro kvs h5 h4
      refine bind_el h4 ?_; (try clear h4); intro y' h6 h4
      rw [Option.ite_none_right_eq_some] at h4
      exact .inr ⟨y', kvs, strOf_eq h6, odOf_eq h5, h4.1, (Option.some.inj h4.2).symm⟩
  | attr x a =>
    (refine xe2_1 hts ?_; (try clear hts); intro p1 p hq2; rcases hq2 with rfl)
    refine bind_el h ?_; (try clear h); intro d h1 h
    obtain ⟨hv, sl, sl', h3, h4, rfl, rfl⟩ := turn_eq h
    refine bind_el h4 ?_; (try clear h4); rintro ⟨tg, as⟩ h5 h4
    refine ite_el h4 ?_; (try clear h4); intro hw h6
    cases h6
    rw [oiOf_eq h5] at h3
    exact x_setattr base sn he hc hr st hv h1 h3 hw.1 hw.2
theorem x_augs (sn : ∀ m, Snd prog w C B fv m) (he : EnvOk c env) (hf : ∀ x, env.kindOf x ≠ some .free) (hc : CallOk prog w C B fv k c.call) (hr : Room A k) (st : St prog w C B lo ps env F s ρ) {t v : Expr} {op : Operator} {pos : Pos} {fl : Fl}
    (h : exAug n c ρ t op v = some (fl, ρ')) : XDo prog w C B A lo ps env F s (exec (.AugAssign t op v pos) env) fl ρ' := by
  unfold exAug at h
  split at h
  · rename_i x hx
    (refine xe1_1 (vName_eq hx) ?_; intro p hq1; rcases hq1 with rfl)
    refine bind_el h ?_; (try clear h); intro d h1 h
    obtain ⟨hv, sl, sl', h3, h4, rfl, rfl⟩ := turn_eq h
    refine bind_el h4 ?_; (try clear h4); intro a h5 h4
    refine bind_el h4 ?_; (try clear h4); intro b h6 h4
    rw [frInt_eq h5] at h3
    rw [intOf_eq h6] at h1
    split at h4
    · rename_i e; cases h4; exact x_aug sn he hf hc hr st hv h3 h1 (.inl ⟨e, rfl⟩)
    · split at h4
      · rename_i e; cases h4; exact x_aug sn he hf hc hr st hv h3 h1 (.inr ⟨e, rfl⟩)
      · cases h4
  · refine bind_el h ?_; (try clear h); rintro ⟨b, i⟩ h1 h
    refine bind_el h ?_; (try clear h); intro x h2 h
    refine ite_el h ?_; (try clear h); intro ho h
    refine bind_el h ?_; (try clear h); intro y h3 h
    refine bind_el h ?_; (try clear h); intro d h4 h
    obtain ⟨hv, sl, sl', h5, h6, rfl, rfl⟩ := turn_eq h
    refine bind_el h6 ?_; (try clear h6); intro kvs h7 h6
    refine bind_el h6 ?_; (try clear h6); intro y' h8 h6
    refine bind_el h6 ?_; (try clear h6); intro b' h9 h6
    refine bind_el h6 ?_; (try clear h6); intro u h10 h6
    refine bind_el h6 ?_; (try clear h6); intro a h11 h6
    rw [Option.ite_none_right_eq_some] at h6
    (refine xe1_1 (vSub_eq h1) ?_; intro p hq1; rcases hq1 with rfl)
    (refine xe1_1 (vName_eq h2) ?_; intro p2 hq1; rcases hq1 with rfl)
    rw [odOf_eq h7] at h5
    rw [strOf_eq h8] at h3
    rw [intOf_eq h9] at h4
    rw [intOf_eq h11] at h10
    rw [← Option.some.inj h6.2, ho]
    exact x_augitem sn he hc hr st hv h5 h3 h4 h10 h6.1
theorem x_dels (sn : ∀ m, Snd prog w C B fv m) (he : EnvOk c env) (hc : CallOk prog w C B fv k c.call) (hr : Room A k) (st : St prog w C B lo ps env F s ρ) {ts : List Expr} {pos : Pos} {fl : Fl}
    (h : exDel n c ρ ts = some (fl, ρ')) : XDo prog w C B A lo ps env F s (exec (.Delete ts pos) env) fl ρ' := by
  refine bind_el h ?_; (try clear h); intro t h0 h
  refine bind_el h ?_; (try clear h); rintro ⟨b, i⟩ h1 h
  refine bind_el h ?_; (try clear h); intro x h2 h
  refine bind_el h ?_; (try clear h); intro y h3 h
  obtain ⟨hv, sl, sl', h5, h6, rfl, rfl⟩ := turn_eq h
  refine bind_el h6 ?_; (try clear h6); intro l h7 h6
  refine bind_el h6 ?_; (try clear h6); intro j h8 h6
  refine ite_el h6 ?_; (try clear h6); intro hl h6
  refine map_el h6 ?_; (try clear h6); intro l' h9 h10
  rw [vOne_eq h0]
  (refine xe1_1 (vSub_eq h1) ?_; intro p hq1; rcases hq1 with rfl)
  (refine xe1_1 (vName_eq h2) ?_; intro p2 hq1; rcases hq1 with rfl)
  rw [olOf_eq h7] at h5
  rw [intOf_eq h8] at h3
  rw [← h10]
  exact x_del sn he hc hr st hv h5 h3 h9 hl
theorem x_apps (sn : ∀ m, Snd prog w C B fv m) (he : EnvOk c env) (hc : CallOk prog w C B fv k c.call) (hr : Room A k) (st : St prog w C B lo ps env F s ρ) {e : Expr} {pos : Pos} {fl : Fl}
    (h : exApp n c ρ e = some (fl, ρ')) : XDo prog w C B A lo ps env F s (exec (.Expr e pos) env) fl ρ' := by
  refine bind_el h ?_; (try clear h); rintro ⟨o, m, ap, args, p⟩ h0 h
  refine bind_el h ?_; (try clear h); intro x h1 h
  refine bind_el h ?_; (try clear h); intro a h2 h
  refine ite_el h ?_; (try clear h); rintro ⟨hm, hline⟩ h
  refine bind_el h ?_; (try clear h); intro d h3 h
  obtain ⟨hv, sl, sl', h5, h6, rfl, rfl⟩ := turn_eq h
  refine bind_el h6 ?_; (try clear h6); intro l h7 h6
  rw [Option.ite_none_right_eq_some] at h6
  rw [vMeth_eq h0, vOne_eq h2, hm]
  (refine xe1_1 (vName_eq h1) ?_; intro p2 hq1; rcases hq1 with rfl)
  rw [olOf_eq h7] at h5
  rw [← Option.some.inj h6.2]
  exact x_append sn he hc hr st hv h5 h3 h6.1 hline
theorem x_all (base : Base prog w B C tab fv mg mb) (sn : ∀ m, Snd prog w C B fv m) (xb : XB prog w C B fv n) (he : EnvOk c env) (hf : ∀ x, env.kindOf x ≠ some .free) (hc : CallOk prog w C B fv k c.call) (hr : Room A k) (st0 : St prog w C B lo ps env F s ρ) {x : Stmt} {fl : Fl}
    (h : exS (n + 1) c ρ x = some (fl, ρ')) : XDo prog w C B A lo ps env F s (exec x env) fl ρ' := by
  (refine xe1_2 (St.frz (sreads x) st0) ?_; intro F1 st tq)
  have wrap : XDo prog w C B A lo ps env F1 s (exec x env) fl ρ' → XDo prog w C B A lo ps env F s (exec x env) fl ρ' := fun z E Q hQ => z E Q fun F' s' f t st' hfl => hQ F' s' f (tq.trans t) st' hfl
  refine wrap ?_
  cases x
  case Assign => exact x_assign base sn he hf hc hr st h
  case AugAssign => exact x_augs sn he hf hc hr st h
  case If =>
    refine bind_el h ?_; clear h; intro b ht h
    exact x_if sn xb he hf hc hr st ht h
  case For t it b o pos =>
    refine ite_el h ?_; clear h; intro ho h
    rw [List.isEmpty_iff.mp ho]
    split at h
    · rename_i z ap p hi
      (refine xe0_2 (vItems_eq hi) ?_; intro hq0; refine xe2_1 hq0 ?_; (try clear hq0); intro z zp hq2; rcases hq2 with rfl; intro hq1; rcases hq1 with rfl)
      refine bind_el h ?_; clear h; rintro ⟨x, y⟩ hxy h
      refine ite_el h ?_; clear h; intro hv h
      refine bind_el h ?_; clear h; intro d h1 h
      refine bind_el h ?_; clear h; intro kvs h2 hz
      (refine xe4_1 (vTup2N_eq hxy) ?_; intro p1 p2 k0 p3 hq4; rcases hq4 with rfl)
      rw [dctOf_eq h2] at h1
      exact x_items sn xb he hf hc hr st hv.2.1 hv.2.2.1 hv.2.2.2 hv.1 h1 hz
    · refine bind_el h ?_; clear h; intro x hx h
      refine ite_el h ?_; clear h; intro hv h
      refine bind_el h ?_; clear h; intro ds h1 hz
      (refine xe1_1 (vName_eq hx) ?_; intro p hq1; rcases hq1 with rfl)
      exact x_for sn xb he hf hc hr st hv h1 hz
  case Return =>
    refine bind_el h ?_; clear h; intro e he' h
    refine map_el h ?_; clear h; intro d h1 h2
    cases h2
    subst he'
    exact x_ret sn he hc hr st h1
  case Break => cases h; exact x_break st
  case Assert =>
    refine ite_el h ?_; clear h; intro hm h
    refine bind_el h ?_; clear h; intro b ht h
    refine ite_el h ?_; clear h; intro hb h
    cases h
    rw [Option.isNone_iff_eq_none.mp hm]
    rw [hb] at ht
    exact x_assert sn he hc hr st ht
  case Delete => exact x_dels sn he hc hr st h
  case Expr => exact x_apps sn he hc hr st h
  all_goals exact nos1 h
theorem xb_all (base : Base prog w B C tab fv mg mb) (sn : ∀ m, Snd prog w C B fv m) : ∀ n, XB prog w C B fv n ∧ XS prog w C B fv n
  | 0 => by
    constructor
    · intro c env lo ps ρ ρ' F s A k b fl _ _ _ _ _ h
      exact nos1 h
    · intro c env lo ps ρ ρ' F s A k b fl _ _ _ _ _ h
      exact nos1 h
  | n + 1 => by
    (refine xe0_2 (xb_all base sn n) ?_; intro xb xs)
    refine ⟨fun {c env lo ps ρ ρ' F s A k b fl} he hf hc hr st h => ?_, fun he hf hc hr st h => x_all base sn xb he hf hc hr st h⟩
    intro E Q hQ
    unfold exB at h
    cases b with
    | nil =>
      cases h
      exact wpAny_execs_nil (hQ F s .next (.refl ..) st trivial)
    | cons x r =>
      refine bind_el h ?_; (try clear h); rintro ⟨f1, ρ1⟩ h1 h
      refine wpAny_execs_cons (xs he hf hc hr st h1 E _ fun F1 s1 f t1 st1 hfl => ?_)
      obtain ⟨rfl, rfl⟩ | ⟨rfl, rfl⟩ | ⟨d, v, rfl, rfl, hr1⟩ := flr_split hfl
      · exact xb he hf hc hr st1 h E Q fun F2 s2 f t2 st2 hfl2 => hQ F2 s2 f (t1.trans t2) st2 hfl2
      · cases h; exact hQ F1 s1 .brk t1 st1 hfl
      · cases h; exact hQ F1 s1 _ t1 st1 hfl
end
end Mine
end

section
open PySem PySem.W PyProof.Rows
set_option tactic.hygienic false
namespace Mine
theorem bind_last (kindOf : Str → Option NameKind) : ∀ (xs : List Str) (vs : List Value) (m cm : Str → Option Value), vs.length = xs.length → xs.Nodup → ∀ x,
    (if kindOf x = some .local then bindL kindOf (xs.zip vs) m x else bindC kindOf (xs.zip vs) cm x) = match (xs.zip vs).lookup x with | some v => some v | none => if kindOf x = some .local then m x else cm x
  | [], vs, m, cm, _, _, x => by cases vs <;> rfl
  | y :: xs, [], m, cm, h, _, x => by cases h
  | y :: xs, v :: vs, m, cm, h, hn, x => by
    have hn' := List.nodup_cons.mp hn
    rw [List.zip_cons_cons, List.lookup_cons]
    unfold bindL bindC
    rw [bind_last kindOf xs vs _ _ (by simpa using h) hn'.2 x]
    by_cases e : x = y
    · subst e
      have : (xs.zip vs).lookup x = none := by
        cases q : (xs.zip vs).lookup x with
        | none => rfl
        | some u => exact absurd (List.of_mem_zip (mem_of_lookup' q)).1 hn'.1
      rw [this]
      simp only [beq_self_eq_true]
      by_cases hk : kindOf x = some .local <;> simp [hk]
    · rw [beq_false_of_ne e]
      dsimp only
      cases (xs.zip vs).lookup x with
      | some u => rfl
      | none =>
        dsimp only
        by_cases hk : kindOf x = some .local
        · rw [if_pos hk, if_pos hk]
          split
          · simp [e]
          · rfl
        · rw [if_neg hk, if_neg hk]
          split
          · rfl
          · simp [e]
theorem fnNames_spec {g : Fn} (h : fnNamesOk g = true) : (∀ p ∈ g.names, (p.1 == ("__debug__" : Str)) = false ∧ (p.1 == ("__classdict__" : Str)) = false ∧ g.names.lookup p.1 = some p.2 ∧ (p.2 = .local ∨ p.2 = .cell ∨ p.2 = .globalImplicit)) ∧ (∀ x ∈ g.params, isVar g.names x = true) ∧ g.params.Nodup := by
  unfold fnNamesOk at h
  simp only [Bool.and_eq_true] at h
  (refine xe0_2 h ?_; (try clear h); intro hq0; refine xe0_2 hq0 ?_; (try clear hq0); intro h1 h2; intro h3)
  refine ⟨fun p hp => ?_, fun x hx => List.all_eq_true.mp h2 x hx, of_decide_eq_true h3⟩
  have h4 := List.all_eq_true.mp h1 p hp
  simp only [Bool.and_eq_true, bne_iff_ne, beq_iff_eq] at h4
  (refine xe0_2 h4 ?_; (try clear h4); intro hq0; refine xe0_2 hq0 ?_; (try clear hq0); intro hq0; refine xe0_2 hq0 ?_; (try clear hq0); intro a b; intro c'; intro d)
  refine ⟨beq_false_of_ne a, beq_false_of_ne b, c', ?_⟩
  cases hk : p.2 <;> rw [hk] at d <;> first | exact .inl rfl | exact .inr (.inl rfl) | exact .inr (.inr rfl) | cases d
theorem bindD_spec : ∀ {xs : List Str} {ds : List D} {ρ : Sc}, bindD xs ds = some ρ → xs.length = ds.length ∧ ∀ x sl, lkp ρ x = some sl → ∃ (i : Nat) (d : D), xs[i]? = some x ∧ ds[i]? = some d ∧ sl = .fr d
  | [], [], ρ, h => by unfold bindD at h; cases h; exact ⟨rfl, fun x sl h => by cases h⟩
  | [], _ :: _, _, h => by unfold bindD at h; cases h
  | _ :: _, [], _, h => by unfold bindD at h; cases h
  | y :: xs, d :: ds, ρ, h => by
    unfold bindD at h
    rw [Option.map_eq_some_iff] at h
    (refine xe1_2 h ?_; (try clear h); intro r hr hq2; rcases hq2 with rfl)
    (refine xe0_2 (bindD_spec hr) ?_; intro a b)
    refine ⟨by simp [a], fun x sl hx => ?_⟩
    unfold lkp at hx
    by_cases e : x = y
    · subst e; rw [if_pos rfl] at hx; cases hx; exact ⟨0, d, rfl, rfl, rfl⟩
    · rw [if_neg e] at hx
      (refine xe2_3 (b x sl hx) ?_; intro i d' h1 h2 h3)
      exact ⟨i + 1, d', by simpa using h1, by simpa using h2, h3⟩
end Mine
end

section
open PySem PySem.W PyProof.Rows
set_option tactic.hygienic false
namespace Mine
section
variable {prog : Program} {w : World} {C : Addr} {B : Heap} {A : Around} {F F' F1 : FH} {s s' s2 : Shared} {fv : Str → Option Addr} {tab : List (Str × Fn)} {mg mb : Str → Option Value} {env : Env} {k n lo : Nat} {ps : List Addr} {ρ ρ' : Sc} {c : Cx}
theorem room_deeper {env : Env} (h : Room A (k + 1)) : Room (A.deeper env) k := by
  (refine xe0_3 h ?_; (try clear h); intro a b c)
  exact ⟨a, by show A.depth + 1 + 2 * k ≤ 700; omega, by show A.units + 3 + 100 * k ≤ 9000; omega⟩
theorem St.call {g : Fn} {gen : Bool} {a : Addr} {fd : FuncData} (ok : Ok B F s) (hnm : fnNamesOk g = true) (h1 : fd.globals = mainGlobals) (h2 : fd.builtins = builtinsNs) (h3 : fd.scope.names = g.names) (h4 : fd.scope.kind = .function) {ds : List D} {vs : List Value} {ρ : Sc}
    (hb : bindD g.params ds = some ρ) (hv : Reps prog w C F ds vs) {s₁ : Shared} (x : InCallC s (callEnvC fd s.heap.objs.size a).locals (bindL (callEnvC fd s.heap.objs.size a).kindOf (g.params.zip vs) fun _ => none) (callEnvC fd s.heap.objs.size a).cells
        (bindC (callEnvC fd s.heap.objs.size a).kindOf (g.params.zip vs) fun _ => none) s₁) :
    St prog w C B s.heap.objs.size [] (callEnvC fd s.heap.objs.size a) F s₁ ρ := by
  (refine xe0_3 (fnNames_spec hnm) ?_; intro n1 n2 n3)
  (refine xe0_2 (bindD_spec hb) ?_; intro b1 b2)
  have hlen : vs.length = g.params.length := by rw [hv.length, b1]
  have hkind : ∀ y, (callEnvC fd s.heap.objs.size a).kindOf y = g.names.lookup y := fun y => by show fd.scope.names.lookup y = _; rw [h3]
  have hm := bind_last (callEnvC fd s.heap.objs.size a).kindOf g.params vs (fun _ => none) (fun _ => none) hlen n3
  (refine xe2_2 x.done ?_; intro hh tk hs hkeep)
  have hlt : ∀ y cc, (callEnvC fd s.heap.objs.size a).cells.lookup y = some cc → s.heap.objs.size < cc ∧ cc < s₁.heap.objs.size := fun y cc hc => ⟨x.above y cc (mem_of_lookup' hc), (x.cell y cc hc).lt⟩
  have ok1 : Ok B F s₁ := by subst hs; exact ok.same (ok.kf hkeep) ok.bare
  have kinds : ∀ y kd, g.names.lookup y = some kd → kd = .local ∨ kd = .cell ∨ kd = .globalImplicit := fun y kd hy => (n1 (y, kd) (mem_of_lookup' hy)).2.2.2
  have par : ∀ y sl, lkp ρ y = some sl → ∃ v, (g.params.zip vs).lookup y = some v ∧ ∃ d, sl = .fr d ∧ Rep prog w C F d v := fun y sl hy => by
    (refine xe2_3 (b2 y sl hy) ?_; intro i d p1 p2 hq4; rcases hq4 with rfl)
    (refine xe1_2 (hv.get p2) ?_; intro v q1 q2)
    refine ⟨v, (lookup_mem (by rw [zip_fst hlen]; exact n3)).mpr ?_, d, rfl, q2⟩
    exact List.mem_of_getElem? (i := i) (by rw [List.getElem?_zip_eq_some]; exact ⟨p1, q1⟩)
  refine ⟨fun y => if (callEnvC fd s.heap.objs.size a).kindOf y = some .local then bindL (callEnvC fd s.heap.objs.size a).kindOf (g.params.zip vs) (fun _ => none) y else bindC (callEnvC fd s.heap.objs.size a).kindOf (g.params.zip vs) (fun _ => none) y, ok1,
    ⟨h4, h1, h2, ⟨_, x.toInCall.ns, fun y hy => by rw [if_pos hy]⟩, fun y hy => ?_, fun y z cc hy hz => name_of_addr x.apart (mem_of_lookup' hy) (mem_of_lookup' hz), ok.fnone (Nat.le_refl _), fun y cc hc => ?_⟩, fun y sl hy hvk => ?_, fun y z sy sz vy vz b hyz hy hz _ _ my mz oy oz => ?_, Nat.le_refl _, fun y cc _ hc => Nat.le_of_lt (hlt y cc hc).1, fun p hp => by cases hp⟩
  · rcases hy with hy | hy
    · have hcs : ((callEnvC fd s.heap.objs.size a).cells.lookup y).isSome = true := cellsFrom_some _ _ _ (.inl hy)
      (refine xe1_1 (Option.isSome_iff_exists.mp hcs) ?_; intro cc hc)
      refine ⟨cc, hc, ?_⟩
      rw [if_neg (by rw [hy]; simp)]
      exact x.cell y cc hc
    · rw [hkind] at hy
      rcases kinds y .free hy with q | q | q <;> cases q
  · (refine xe0_2 (hlt y cc hc) ?_; intro q1 q2)
    exact ⟨ok.fnone (Nat.le_of_lt q1), Nat.ne_of_gt q1, q2⟩
  · obtain ⟨v, q1, d, rfl, q2⟩ := par y sl hy
    refine ⟨v, ?_, q2, fun b hb => hb.elim⟩
    rw [hm y, q1]
  · obtain ⟨_, _, _, rfl, _⟩ := par y sy hy
    exact oy.elim
end
end Mine
end

section
open PySem PySem.W PyProof.Rows
namespace Mine
section
variable {prog : Program} {w : World} {C : Addr} {B : Heap} {A : Around} {F F' F1 : FH} {s s' s2 : Shared} {fv : Str → Option Addr} {tab : List (Str × Fn)} {mg mb : Str → Option Value} {env : Env} {k n lo : Nat} {ps : List Addr} {ρ ρ' : Sc} {c : Cx}
theorem fn_par {g : Fn} (h : fnNamesOk g = true) {fd : FuncData} (hnm : fd.scope.names = g.names) {m : Nat} {vs : List Value} (p : Str × Value) (hp : p ∈ g.params.zip vs) : fd.scope.names.lookup p.1 = some .local ∨ (fd.scope.names.lookup p.1 = some .cell ∧ ((cellsFrom m fd.scope.names []).lookup p.1).isSome = true) := by
  have n1 := (fnNames_spec h).1
  have hvx := (fnNames_spec h).2.1 p.1 (List.of_mem_zip hp).1
  rw [hnm]
  unfold isVar at hvx
  cases hl : g.names.lookup p.1 with
  | none => rw [hl] at hvx; cases hvx
  | some kd =>
    rcases (n1 (p.1, kd) (mem_of_lookup' hl)).2.2.2 with q | q | q
    · have q' : kd = .local := q
      exact .inl (by rw [q'])
    · have q' : kd = .cell := q
      exact .inr ⟨by rw [q'], cellsFrom_some _ _ _ (.inl (by rw [hl, q']))⟩
    · have q' : kd = .globalImplicit := q
      rw [hl, q'] at hvx; cases hvx
theorem fn_free {g : Fn} (h : fnNamesOk g = true) {fd : FuncData} (hnm : fd.scope.names = g.names) {l : Nat} {a : Addr} (y : Str) : (callEnvC fd l a).kindOf y ≠ some .free := fun hy => by
  have hy' : g.names.lookup y = some .free := by rw [← hnm]; exact hy
  rcases ((fnNames_spec h).1 (y, .free) (mem_of_lookup' hy')).2.2.2 with q | q | q <;> cases q
theorem fn_env {g : Fn} (h : fnNamesOk g = true) {fd : FuncData} (hnm : fd.scope.names = g.names) {l : Nat} {a : Addr} {call : Str → List D → Option D} {gen : Bool} (hgen : gen = true → (callEnvC fd l a).code = .ref 48) : EnvOk { call := call, names := g.names, gen := gen } (callEnvC fd l a) :=
  ⟨fun y => .inl (by show g.names.lookup y = fd.scope.names.lookup y; rw [hnm]), hgen, fun y hy => by
    cases hl : g.names.lookup y with
    | none => exact absurd hl hy
    | some kd => exact have z := (fnNames_spec h).1 (y, kd) (mem_of_lookup' hl); ⟨z.1, z.2.1⟩⟩
set_option backward.match.sparseCases true in
theorem call_fn (base : Base prog w B C tab fv mg mb) (sn : ∀ m, Snd prog w C B fv m) {call : Str → List D → Option D} (hc : CallOk prog w C B fv k call) (hr : Room A (k + 1)) (ok : Ok B F s) {g : Fn} {gen : Bool} {a : Addr} (hfn : FnOk B a g gen) {ds : List D} {vs : List Value} {ρ : Sc} {d : D} {fuel : Nat}
    (hb : bindD g.params ds = some ρ) (hv : Reps prog w C F ds vs) (h : finD (exB fuel { call := call, names := g.names, gen := gen } ρ g.body) = some d) : Ev prog w C B A F s (PySem.call (.ref a) vs) d := by
  intro E Q hQ
  (refine xe2_6 hfn.ex ?_; intro o fd ho hdat hbody hg hbl hqr; refine xe0_8 hqr ?_; (try clear hqr); intro hcl hnm hkd hgn hco hcr hgen hbind)
  (refine xe0_2 (bindD_spec hb) ?_; intro b1 b2)
  have hlen : vs.length = g.params.length := by rw [hv.length, b1]
  have hroom : A.depth < recursionLimit := by have := hr.2.1; show A.depth < 1000; omega
  refine wpAny_gw (wpAny_call (codeAny_call_cells hroom (ok.keep _ _ ho) hdat (base.lim.keeps ok.keep) (hcr.keeps ok.keep) hbody (hbind vs hlen) hcl (fn_par hfn.names hnm) (fun s₁ x => ?_) hco hgn hkd))
  · have st := St.call (gen := gen) ok hfn.names hg hbl hnm hkd hb hv x
    have he : EnvOk { call := call, names := g.names, gen := gen } (callEnvC fd s.heap.objs.size a) := fn_env hfn.names hnm fun q => hgen q
    have hf := fn_free hfn.names hnm (l := s.heap.objs.size) (a := a)
    (refine xe2_2 x.done ?_; intro hh tk hs hkeep)
    have fin : ∀ (F' : FH) (s' : Shared) (fl : Fl) (f : Flow), Stq s.heap.objs.size [] F s₁ F' s' → Ok B F' s' → FlR prog w C F' fl f → finD (some (fl, ρ)) = some d → Gw s.heap s'.heap → Q (match f with | .ret v => v | _ => .none) s' := fun F' s' fl f tq ok' hfl hfd gw => by
      have t : Ste s.heap.objs.size F s F' s' := by
        refine ⟨tq.ste.ext, fun b hb hF => ?_, gw.size, tq.ste.os.trans (by rw [hs])⟩
        (refine xe0_2 (tq.ste.old b hb hF) ?_; intro p q)
        refine ⟨p, ?_⟩
        cases e : s.heap.get? b with
        | none => exact gw.dead b hb e
        | some ob => rw [q, hs]; exact hkeep b ob e
      obtain ⟨rfl, rfl⟩ | ⟨rfl, rfl⟩ | ⟨d', v', rfl, rfl, hrep⟩ := flr_split hfl
      · unfold finD at hfd; cases hfd; exact hQ .none F' s' t ok' .none
      · unfold finD at hfd; cases hfd
      · unfold finD at hfd; cases hfd; exact hQ v' F' s' t ok' hrep
    cases hx : exB fuel { call := call, names := g.names, gen := gen } ρ g.body with
    | none => rw [hx] at h; unfold finD at h; cases h
    | some r =>
      obtain ⟨fl, ρ'⟩ := r
      rw [hx] at h
      have hfd : finD (some (fl, ρ)) = some d := by
        rw [← h]; cases fl <;> rfl
      exact (xb_all base sn fuel).1 he hf hc (room_deeper hr) st hx _ _ fun F' s' f tq st' hfl gw => fin F' s' fl f tq st'.ok hfl hfd gw
end
end Mine
end

section
open PySem PySem.W PyProof.Rows
set_option tactic.hygienic false
namespace Mine
section
variable {prog : Program} {w : World} {C : Addr} {B : Heap} {A : Around} {F F' F1 : FH} {s s' s2 : Shared} {fv : Str → Option Addr} {tab : List (Str × Fn)} {mg mb : Str → Option Value} {env : Env} {k n lo : Nat} {ps : List Addr} {ρ ρ' : Sc} {c : Cx}
theorem St.init {g : Fn} {a : Addr} {fd : FuncData} (ok : Ok B F s) (hnm : fnNamesOk g = true) (h1 : fd.globals = mainGlobals) (h2 : fd.builtins = builtinsNs) (h3 : fd.scope.names = g.names) (h4 : fd.scope.kind = .function) {p1 p2 : Str} {d : D} {v : Value} {x dx : Addr}
    (hp : g.params = [p1, p2]) (hv : Rep prog w C F d v) (hx : SlotOk prog w C F s.heap (.oi (x, dx) []) (.ref x)) (own : ∀ b, Owns s.heap (.oi (x, dx) []) (.ref x) b → b = x ∨ b = dx) (hlo : lo ≤ x ∧ lo ≤ dx) (hlt : x < s.heap.objs.size ∧ dx < s.heap.objs.size) (hls : lo ≤ s.heap.objs.size)
    {s₁ : Shared} (y : InCallC s (callEnvC fd s.heap.objs.size a).locals (bindL (callEnvC fd s.heap.objs.size a).kindOf (g.params.zip [.ref x, v]) fun _ => none) (callEnvC fd s.heap.objs.size a).cells
        (bindC (callEnvC fd s.heap.objs.size a).kindOf (g.params.zip [.ref x, v]) fun _ => none) s₁) :
    St prog w C B lo [] (callEnvC fd s.heap.objs.size a) F s₁ [(p1, .oi (x, dx) []), (p2, .fr d)] := by
  (refine xe0_3 (fnNames_spec hnm) ?_; intro n1 n2 n3)
  have hlen : ([.ref x, v] : List Value).length = g.params.length := by rw [hp]; rfl
  have hne : p1 ≠ p2 := by rw [hp] at n3; have := (List.nodup_cons.mp n3).1; simpa using this
  have hkind : ∀ z, (callEnvC fd s.heap.objs.size a).kindOf z = g.names.lookup z := fun z => by show fd.scope.names.lookup z = _; rw [h3]
  have hm := bind_last (callEnvC fd s.heap.objs.size a).kindOf g.params [.ref x, v] (fun _ => none) (fun _ => none) hlen n3
  (refine xe2_2 y.done ?_; intro hh tk hs hkeep)
  have hclt : ∀ z cc, (callEnvC fd s.heap.objs.size a).cells.lookup z = some cc → s.heap.objs.size < cc ∧ cc < s₁.heap.objs.size := fun z cc hc => ⟨y.above z cc (mem_of_lookup' hc), (y.cell z cc hc).lt⟩
  have ok1 : Ok B F s₁ := by subst hs; exact ok.same (ok.kf hkeep) ok.bare
  have kinds : ∀ z kd, g.names.lookup z = some kd → kd = .local ∨ kd = .cell ∨ kd = .globalImplicit := fun z kd hy => (n1 (z, kd) (mem_of_lookup' hy)).2.2.2
  have keepo : ∀ b, Owns s.heap (.oi (x, dx) []) (.ref x) b → s₁.heap.get? b = s.heap.get? b := fun b hb => by
    cases e : s.heap.get? b with
    | none =>
      (refine xe5_3 hx ?_; (try clear hx); intro a' dx' o od kvs q0 q1 hqr; refine xe0_7 hqr ?_; (try clear hqr); intro q2 q3 q4 q5 q6 q7 q8)
      cases q0
      rcases hb with hb | ⟨x', o', hb, z1, z2⟩
      · cases hb; rw [q4] at e; cases e
      · cases hb; rw [q4] at z1; cases z1; rw [q6.dict] at z2; cases z2; rw [q5] at e; cases e
    | some ob => subst hs; exact hkeep b ob e
  have hx1 : SlotOk prog w C F s₁.heap (.oi (x, dx) []) (.ref x) := hx.step _ _ _ (fun _ _ q => q) fun b hb ho => ⟨hb, keepo b ho⟩
  have lk1 : ∀ z sl, lkp ([(p1, .oi (x, dx) []), (p2, .fr d)] : Sc) z = some sl → (z = p1 ∧ sl = .oi (x, dx) []) ∨ (z = p2 ∧ sl = .fr d) := fun z sl hz => by
    unfold lkp at hz
    by_cases e : z = p1
    · rw [if_pos e] at hz; cases hz; exact .inl ⟨e, rfl⟩
    · rw [if_neg e] at hz
      unfold lkp at hz
      by_cases e2 : z = p2
      · rw [if_pos e2] at hz; cases hz; exact .inr ⟨e2, rfl⟩
      · rw [if_neg e2] at hz; unfold lkp at hz; cases hz
  have m1 : (g.params.zip [.ref x, v]).lookup p1 = some (.ref x) := by rw [hp]; simp
  have m2 : (g.params.zip [.ref x, v]).lookup p2 = some v := by rw [hp]; simp [List.lookup, beq_false_of_ne (Ne.symm hne)]
  refine ⟨fun z => if (callEnvC fd s.heap.objs.size a).kindOf z = some .local then bindL (callEnvC fd s.heap.objs.size a).kindOf (g.params.zip [.ref x, v]) (fun _ => none) z else bindC (callEnvC fd s.heap.objs.size a).kindOf (g.params.zip [.ref x, v]) (fun _ => none) z, ok1,
    ⟨h4, h1, h2, ⟨_, y.toInCall.ns, fun z hy => by rw [if_pos hy]⟩, fun z hy => ?_, fun z z' cc hy hz => name_of_addr y.apart (mem_of_lookup' hy) (mem_of_lookup' hz), ok.fnone (Nat.le_refl _), fun z cc hc => ?_⟩, fun z sl hy hvk => ?_, fun z z' sy sz vy vz b hyz hy hz _ _ my mz oy oz => ?_, hls, fun z cc _ hc => Nat.le_trans hls (Nat.le_of_lt (hclt z cc hc).1), fun p hp => by cases hp⟩
  · rcases hy with hy | hy
    · have hcs : ((callEnvC fd s.heap.objs.size a).cells.lookup z).isSome = true := cellsFrom_some _ _ _ (.inl hy)
      (refine xe1_1 (Option.isSome_iff_exists.mp hcs) ?_; intro cc hc)
      refine ⟨cc, hc, ?_⟩
      rw [if_neg (by rw [hy]; simp)]
      exact y.cell z cc hc
    · rw [hkind] at hy
      rcases kinds z .free hy with q | q | q <;> cases q
  · (refine xe0_2 (hclt z cc hc) ?_; intro q1 q2)
    exact ⟨ok.fnone (Nat.le_of_lt q1), Nat.ne_of_gt q1, q2⟩
  · rcases lk1 z sl hy with ⟨rfl, rfl⟩ | ⟨rfl, rfl⟩
    · refine ⟨.ref x, by rw [hm z, m1], hx1, fun b hb => ?_⟩
      have hb' := Owns.step prog w C hx keepo hb
      have hbl : lo ≤ b ∧ b < s.heap.objs.size := by rcases own b hb' with rfl | rfl; exact ⟨hlo.1, hlt.1⟩; exact ⟨hlo.2, hlt.2⟩
      exact ⟨hbl.1, Nat.ne_of_lt hbl.2, fun z' cc hc q => Nat.lt_irrefl _ (Nat.lt_trans (hclt z' cc hc).1 (q ▸ hbl.2)), by simp⟩
    · exact ⟨v, by rw [hm z, m2], hv, fun b hb => hb.elim⟩
  · rcases lk1 z sy hy with ⟨rfl, rfl⟩ | ⟨rfl, rfl⟩
    · rcases lk1 z' sz hz with ⟨rfl, rfl⟩ | ⟨rfl, rfl⟩
      · exact hyz rfl
      · exact oz.elim
    · exact oy.elim
end
end Mine
end

section
open PySem PySem.W PyProof.Rows
set_option tactic.hygienic false
namespace Mine
section
variable {prog : Program} {w : World} {C : Addr} {B : Heap} {A : Around} {F F' F1 : FH} {s s' s2 : Shared} {fv : Str → Option Addr} {tab : List (Str × Fn)} {mg mb : Str → Option Value} {env : Env} {k n lo : Nat} {ps : List Addr} {ρ ρ' : Sc} {c : Cx}
theorem room_init {vals : List Value} {D0 : Addr} {env : Env} (h : Room A (k + 1)) : Room ((A.under (.builtin "type.__call__" ⟨.ref D0 :: vals, []⟩)).deeper env) k ∧ (A.under (.builtin "type.__call__" ⟨.ref D0 :: vals, []⟩)).depth < 1000 := by
  (refine xe0_3 h ?_; (try clear h); intro a b c)
  refine ⟨⟨a, ?_, ?_⟩, ?_⟩
  · show A.depth + 1 + 1 + 2 * k ≤ 700; omega
  · show A.units + 1 + 3 + 100 * k ≤ 9000; omega
  · show A.depth + 1 < 1000; omega
theorem made_slot {h h' : Heap} {x dx : Addr} (Mk : Heap.MadeObj h h' x dx C) (dead : ∀ z, h.get? z = none → F z = none) : SlotOk prog w C F h' (.oi (x, dx) []) (.ref x) ∧ (∀ b, Owns h' (.oi (x, dx) []) (.ref x) b → b = x ∨ b = dx) ∧ x < h'.objs.size ∧ dx < h'.objs.size := by
  have hFx := dead x Mk.newX
  have hFd := dead dx Mk.newD
  (refine xe1_4 Mk.inst ?_; intro ox hx hcx hncx hdx)
  have hdd := Mk.dict ox hx
  have hns1 : h'.Ns1 dx (fun _ => none) ∧ dx ≠ x := by
    rcases hdx with ⟨hn0, _⟩ | ⟨d', hd', hne', hns'⟩
    · rw [hn0] at hdd; cases hdd
    · obtain rfl := Option.some.inj (hd'.symm.trans hdd); exact ⟨hns', hne'⟩
  (refine xe3_5 hns1.1 ?_; intro od es ep e1 e2 e3 e4 e5)
  have hslot : SlotOk prog w C F h' (.oi (x, dx) []) (.ref x) := ⟨x, dx, ox, od, [], rfl, hFx, hFd, Ne.symm hns1.2, hx, e1, ⟨hcx, hdd, hncx, es, ep, e2, e3, e4, fun y => e5 y⟩, .nil, rfl⟩
  have hown : ∀ b, Owns h' (.oi (x, dx) []) (.ref x) b → b = x ∨ b = dx := fun b hb => by
    rcases hb with hb | ⟨x', o', hb, z1, z2⟩
    · cases hb; exact .inl rfl
    · cases hb; rw [hx] at z1; cases z1; rw [hdd] at z2; cases z2; exact .inr rfl
  exact ⟨hslot, hown, Heap.lt_size hx, Heap.lt_size e1⟩
theorem cls_end {s₁ : Shared} {h' : Heap} {x dx : Addr} (Mk : Heap.MadeObj s.heap h' x dx C) (hcase : lo = s.heap.objs.size ∨ x < s.heap.objs.size ∨ dx < s.heap.objs.size) {as : List (Str × D)} (gw : Gw s.heap s'.heap) {v' : Value} (hs' : SlotOk prog w C F' s'.heap (.oi (x, dx) as) v') (ok' : Ok B F' s') (tq : Stq lo [] F s₁ F' s') (os : s₁.os = s.os)
    (hkeep : ∀ b o, h'.get? b = some o → s₁.heap.get? b = some o) : v' = .ref x ∧ ∃ F'', Ste s.heap.objs.size F s F'' s' ∧ Ok B F'' s' ∧ Rep prog w C F'' (.inst as) (.ref x) := by
  obtain ⟨a', dx', o', od', kvs, rfl, f1, f2, f3, f4, f5, f6, f7, f8⟩ := id hs'
  cases f8
  have hz : ∀ b ob, s.heap.get? b = none → s'.heap.get? b = some ob → s.heap.objs.size ≤ b := fun b ob hb e => Nat.le_of_not_lt fun q => by
    rw [gw.dead b q hb] at e; cases e
  have g1 := hz x o' Mk.newX f4
  have g2 := hz dx od' Mk.newD f5
  have hlo' : lo = s.heap.objs.size := by
    rcases hcase with q | q | q
    · exact q
    · exact absurd q (Nat.not_lt.mpr g1)
    · exact absurd q (Nat.not_lt.mpr g2)
  subst hlo'
  have t : Ste s.heap.objs.size F s F' s' := by
    refine ⟨tq.ste.ext, fun b hb hF => ?_, gw.size, tq.ste.os.trans os⟩
    obtain ⟨p, q⟩ := tq.ste.old b hb hF
    refine ⟨p, ?_⟩
    show s'.heap.get? b = s.heap.get? b
    cases e : s.heap.get? b with
    | none => exact gw.dead b hb e
    | some ob => rw [q]; exact hkeep b ob (Mk.keeps b ob e)
  obtain ⟨F'', t2, ok2, r, _⟩ := SlotOk.frzE t ok' hs' fun b hb => by
    rcases hb with hb | ⟨x', o2, hb, z1, z2⟩
    · cases hb; exact g1
    · cases hb; rw [f4] at z1; cases z1; rw [f6.dict] at z2; cases z2; exact g2
  exact ⟨rfl, F'', t2, ok2, r⟩
theorem call_cls (base : Base prog w B C tab fv mg mb) (sn : ∀ m, Snd prog w C B fv m) {call : Str → List D → Option D} (hc : CallOk prog w C B fv k call) (hr : Room A (k + 1)) (ok : Ok B F s) {g : Fn} (htab : lkp tab (Str.ofString "Whitespace.__init__") = some g) {p1 p2 : Str} (hp : g.params = [p1, p2])
    {d0 : D} {v : Value} (hv : Rep prog w C F d0 v) {fuel : Nat} {as : List (Str × D)} (h : ∀ t, ∃ ρ, exB fuel { call := call, names := g.names } [(p1, .oi t []), (p2, .fr d0)] g.body = some (.next, ρ) ∧ lkp ρ p1 = some (.oi t as)) : Ev prog w C B A F s (PySem.call (.ref C) [v]) (.inst as) := by
  intro E Q hQ
  (refine xe2_6 base.cls.ex ?_; intro N mN X _ _ _ _ hqr; refine xe0_2 hqr ?_; (try clear hqr); intro hq0; refine xe2_4 hq0 ?_; (try clear hq0); intro fa of hfa hmi hof hcls; intro _)
  obtain ⟨_, a, hfa', hfn⟩ := base.fn _ _ htab
  rw [hfa] at hfa'; cases hfa'
  (refine xe2_6 hfn.ex ?_; intro o fd ho hdat hbody hg hbl hqr; refine xe0_8 hqr ?_; (try clear hqr); intro hcl hnm hkd hgn hco hcr hgen hbind)
  have X' := X.keeps ok.keep
  (refine xe7_1 X'.obj ?_; intro nm q bs sn' sub col dd hqr; refine xe5_1 hqr ?_; (try clear hqr); intro k0 k1 k2 k3 k5 hC)
  refine wpAny_gw ?_
  obtain ⟨hh0, gs0, dr0, tk0, os0⟩ := s
  rw [ho] at hof; cases hof
  refine wpAny_call_obj_init PySem.F.objNew hC X'.ns hmi (ok.keep _ _ ho) hcls fun h' x dx Mk => ?_
  have okm : Ok B F (⟨h', gs0, dr0, tk0, os0⟩ : Shared) := ok.same (ok.kf Mk.keeps) ok.bare
  have dead : ∀ z, hh0.get? z = none → F z = none := fun z hz => by
    cases q : F z with
    | none => rfl
    | some ob => (refine xe1_1 (ok.alive q) ?_; intro o' e); rw [show (Shared.heap ⟨hh0, gs0, dr0, tk0, os0⟩) = hh0 from rfl, hz] at e; cases e
  refine xe0_4 (made_slot (prog := prog) (w := w) Mk dead) ?_; intro hslot hown hlx hld
  (refine xe1_2 (h (x, dx)) ?_; intro ρ1 hrun hself)
  obtain ⟨lo, hlo, hlo1, hlo2, hcase⟩ : ∃ lo, lo ≤ h'.objs.size ∧ lo ≤ x ∧ lo ≤ dx ∧ (lo = hh0.objs.size ∨ x < hh0.objs.size ∨ dx < hh0.objs.size) := by
    by_cases c1 : hh0.objs.size ≤ x
    · by_cases c2 : hh0.objs.size ≤ dx
      · exact ⟨_, Mk.grows, c1, c2, .inl rfl⟩
      · exact ⟨0, Nat.zero_le _, Nat.zero_le _, Nat.zero_le _, .inr (.inr (Nat.lt_of_not_le c2))⟩
    · exact ⟨0, Nat.zero_le _, Nat.zero_le _, Nat.zero_le _, .inr (.inl (Nat.lt_of_not_le c1))⟩
  have hlen : ([.ref x, v] : List Value).length = g.params.length := by rw [hp]; rfl
  (refine xe0_2 (room_init (vals := [v]) (D0 := C) (env := callEnvC fd h'.objs.size fa) hr) ?_; intro hroom hdepth)
  refine wpAny_call (codeAny_call_cells hdepth (okm.keep _ _ ho) hdat (base.lim.keeps okm.keep) (hcr.keeps okm.keep) hbody (hbind _ hlen) hcl (fn_par hfn.names hnm) (fun s₁ y => ?_) hco hgn hkd)
  · have st := St.init (lo := lo) okm hfn.names hg hbl hnm hkd hp hv hslot hown ⟨hlo1, hlo2⟩ ⟨hlx, hld⟩ hlo y
    have he : EnvOk { call := call, names := g.names } (callEnvC fd h'.objs.size fa) := fn_env hfn.names hnm fun q => nomatch q
    have hf := fn_free hfn.names hnm (l := h'.objs.size) (a := fa)
    (refine xe2_2 y.done ?_; intro hh tk hs hkeep)
    refine (xb_all base sn fuel).1 he hf hc hroom st hrun _ _ fun F' s' f tq st' hfl => ?_
    obtain ⟨_, rfl⟩ | ⟨q, _⟩ | ⟨_, _, q, _⟩ := flr_split hfl
    · refine ⟨rfl, fun gw => ?_⟩
      replace gw : Gw hh0 s'.heap := gw
      (refine xe1_1 st' ?_; (try clear st'); intro m z)
      have hvp : isV ((callEnvC fd h'.objs.size fa).kindOf p1) = true := (he.var ((fnNames_spec hfn.names).2.1 p1 (by rw [hp]; simp))).1
      (refine xe1_3 (z.rel p1 _ hself hvp) ?_; intro v' hm hs' _)
      refine xe0_2 (cls_end (s := ⟨hh0, gs0, dr0, tk0, os0⟩) Mk hcase gw hs' z.ok tq (by rw [hs]) (by rw [hs]; exact hkeep)) ?_; intro hv' hz
      refine xe1_3 hz ?_; intro F'' t2 ok2 r
      exact hQ _ F'' s' t2 ok2 r
    · cases q
    · cases q
end
end Mine
end

section
open PySem PySem.W PyProof.Rows
set_option tactic.hygienic false
namespace Mine
section
variable {prog : Program} {w : World} {C : Addr} {B : Heap} {fv : Str → Option Addr} {tab : List (Str × Fn)} {mg mb : Str → Option Value}
theorem calls_ok (base : Base prog w B C tab fv mg mb) (sn : ∀ m, Snd prog w C B fv m) (fuel : Nat) : ∀ k, CallOk prog w C B fv k (callD tab fuel k)
  | 0 => fun x ds d h => by exact nos1 h
  | k + 1 => fun x ds d h => by
    have ih := calls_ok base sn fuel k
    unfold callD at h
    split at h
    · rename_i e; subst e
      refine bind_el h ?_; (try clear h); intro d0 h1 h
      refine bind_el h ?_; (try clear h); intro g h2 h
      refine bind_el h ?_; (try clear h); rintro ⟨p1, p2⟩ h3 h
      (refine xe1_2 (clsRes_ok h) ?_; intro as hq1; rcases hq1 with rfl; intro h4)
      rw [vOne_eq h1]
      refine ⟨C, base.clsf, .inl rfl, fun A F s vs hr ok r => ?_⟩
      (refine xe1_2 (one_reps r) ?_; intro v hq1; rcases hq1 with rfl; intro r1)
      exact call_cls base sn ih hr ok h2 (vTwo_eq h3) r1 h4
    · refine bind_el h ?_; (try clear h); intro g h1 h
      refine bind_el h ?_; (try clear h); intro ρ h2 h
      obtain ⟨_, a, ha, hfn⟩ := base.fn _ _ h1
      (refine xe2_3 hfn.ex ?_; intro o fd ho hdat _)
      exact ⟨a, ha, .inr ⟨o, fd, ho, hdat⟩, fun A F s vs hr ok r => call_fn base sn ih hr ok hfn h2 r h⟩
end
end Mine
end

section
open PySem PySem.W PyProof.Rows
namespace Mine
section
variable {prog : Program} {w : World} {A : Around} {E : Value → Shared → Prop} {s : Shared}
theorem tup_draws (hh : A.handled = none) (it t : Addr) (hne : t ≠ it) (items : Array Value) :
    Draws prog w A it [it, t] items.size (fun i v => items[i]? = some v) (fun i h => h.IsTupleIter it t i ∧ h.IsTuple t items) := by
  have ask : ∀ (i : Nat) (s : Shared) (Q : Value → Shared → Prop) (E : Value → Shared → Prop), s.heap.IsTupleIter it t i → s.heap.IsTuple t items →
      (∀ x, items[i]? = some x → ∀ h', h'.IsTupleIter it t (i + 1) → Heap.SameBut it s.heap h' → Q x { s with heap := h' }) →
      (items[i]? = none → ∀ h' e, Heap.ExtBut it s.heap h' → (∃ o, h'.get? e = some o ∧ o.cls = .type "StopIteration") → E (.ref e) { s with heap := h' }) →
      wpAny (model prog w) A (Builtin.SmallTypes.nextOf (.ref it)) Q E s := by
    intro i s Q E hit ht h1 h2
    (refine xe1_3 (id hit) ?_; intro o ho hc hd)
    obtain ⟨ot, hot, _, k, hdt⟩ := ht
    unfold Builtin.SmallTypes.nextOf
    refine wpAny_bind (wpAny_callSpecial?_slot (name := Str.ofString "__next__") hit.typeIs F.slot_tuple_iterator_next
      (wpAny_call_entry F.slot_tuple_iterator_next hit.typeIs F.entry_tuple_iterator_next ?_ (F.args_tuple_iterator_next_1 _)))
    show wpAny _ _ (field (.ref it) 0 >>= _) _ _ s
    refine wpAny_bind (wpAny_field ho hd (x := .ref t) rfl ?_)
    show wpAny _ _ (if (Value.ref t == Value.none) = true then _ else _) _ _ s
    rw [if_neg (fun q => nomatch q)]
    show wpAny _ _ (field (.ref it) 1 >>= _) _ _ s
    refine wpAny_bind (wpAny_field ho hd (x := .int i 0) rfl ?_)
    show wpAny _ _ (seqItems? (.ref t) >>= _) _ _ s
    refine wpAny_bind (wpAny_seqItems hot hdt ?_)
    cases hx : items[i]? with
    | some x =>
      simp only [Int.toNat_natCast, hx]
      refine wpAny_bind (wpAny_setField ho hd (by simp) (wpAny_pure ⟨x, rfl, wpAny_pure (h1 x hx _ ?_ (Heap.SameBut.update ..))⟩))
      refine ⟨_, Heap.get?_update_self _ ho (Obj.isFreed_of_fields (Obj.data_mapFields hd _)), (Obj.cls_mapFields ..).trans hc, ?_⟩
      rw [Obj.data_mapFields hd]; simp [rawInt]
    | none =>
      simp only [Int.toNat_natCast, hx]
      refine wpAny_bind (wpAny_rule (wpAny_bind (wpAny_setField ho hd (by simp) ?_)))
      show wpAny _ _ (newExc (.type "StopIteration") [] >>= _) _ _ _
      refine wpAny_bind ?_
      simp only [newExc, newTuple]
      refine wpAny_bind (wpAny_newObj_type ?_ (by size_fits))
      refine wpAny_bind (m := firstArgMember _ _) (wpAny_of_eq (a := Value.none) (by first | rfl | (simp only [firstArgMember]; rfl)) ?_)
      refine wpAny_newObj_type ?_ (by size_fits)
      simp only [raiseNew]
      refine wpAny_bind (wpAny_handled ?_)
      first | rw [show A.in1.handled = none from hh] | rw [hh]
      refine wpAny_bind (wpAny_pure (wpAny_throw ?_))
      exact h2 hx _ _ (((Heap.SameBut.update ..).extBut.push _).push _) ⟨_, Heap.get?_push_size _ rfl, rfl⟩
  exact {
    live := fun _ _ st => let ⟨o, ho, _⟩ := st.1; ⟨o, ho⟩
    frame := fun _ _ _ st hk => ⟨st.1.at fun o e => hk it (by simp) o e, let ⟨o, ho, r⟩ := st.2; ⟨o, hk t (by simp) o ho, r⟩⟩
    item := fun i s Q E hi st hQ => ask i s Q E st.1 st.2 (fun x hx h' hit' hs' => hQ x h' s.toks hx ⟨hit', st.2.extBut hs'.extBut hne⟩ hs') (fun hx => by simp [hi] at hx)
    done := fun s Q E st hE => ask _ s Q E st.1 st.2 (fun x hx => by simp at hx) (fun _ => hE) }
structure Zap (z TI TO i1 i2 : Nat) (f1 f2 : List Nat) : Prop where
  z1 : z ∉ f1
  z2 : z ∉ f2
  o1 : TO ∉ f1
  o2 : TO ∉ f2
  a1 : i2 ∉ f1
  a2 : i1 ∉ f2
  iz : i1 ≠ z
  jz : i2 ≠ z
  Tz : TI ≠ z
  Oz : TO ≠ z
  TO' : TI ≠ TO
  Ti : TI ≠ i1
  Tj : TI ≠ i2
  Oi : TO ≠ i1
  Oj : TO ≠ i2
  ij : i1 ≠ i2
theorem zap_new {n l1 l2 : Nat} (h1 : l1 < n) (h2 : l2 < n) : Zap (n + 4) (n + 2) (n + 3) n (n + 1) [n, l1] [n + 1, l2] := by
  constructor <;> first | (simp only [List.mem_cons, List.not_mem_nil, or_false]; omega) | omega
variable {z TI TO i1 i2 : Addr} {f1 f2 : List Addr} {n : Nat} {P1 P2 : Nat → Value → Prop} {S1 S2 : Nat → Heap → Prop}
theorem drBut {it b : Addr} {f : List Addr} {P : Nat → Value → Prop} {S : Nat → Heap → Prop} (D : Draws prog w A it f n P S) {i : Nat} {h h' : Heap} (st : S i h) (hs : Heap.ExtBut b h h') (hb : b ∉ f) : S i h' :=
  D.frame i h h' st fun c hc o e => hs c o (fun q => hb (q ▸ hc)) e
noncomputable def ZSt (z TI TO i1 i2 : Addr) (S1 S2 : Nat → Heap → Prop) (f0 : Value) (i : Nat) (h : Heap) : Prop :=
  IsZip h z TI TO f0 ∧ IsPair h TI (.ref i1) (.ref i2) ∧ (∃ a b, IsPair h TO a b) ∧ S1 i h ∧ S2 i h
theorem zip_next {i : Nat} {Q : Value → Shared → Prop} (Z : Zap z TI TO i1 i2 f1 f2) (D1 : Draws prog w A i1 f1 n P1 S1) (D2 : Draws prog w A i2 f2 n P2 S2) (st : ZSt z TI TO i1 i2 S1 S2 .none i s.heap) (hi : i ≤ n)
    (hQ : i < n → ∀ x y h' tk, P1 i x → P2 i y → ZSt z TI TO i1 i2 S1 S2 (rawInt s.heap.objs.size) (i + 1) h' → IsPair h' s.heap.objs.size x y → (∀ c o, c ≠ z → c ≠ TO → c ≠ i1 → c ≠ i2 → s.heap.get? c = some o → h'.get? c = some o) → Q (.ref s.heap.objs.size) { s with heap := h', toks := tk })
    (hE : i = n → ∀ h' e, (∀ c o, c ≠ z → c ≠ TO → c ≠ i1 → c ≠ i2 → s.heap.get? c = some o → h'.get? c = some o) → (∃ o, h'.get? e = some o ∧ o.cls = .type "StopIteration") → E (.ref e) { s with heap := h' }) :
    wpAny (model prog w) A (Builtin.«zip.__next__» ⟨[.ref z], []⟩) (fun fin s' => ∃ v, fin = .done (.ret v) ∧ Q v s') E s := by
  (refine xe0_5 st ?_; (try clear st); intro hz hTI hq2; refine xe2_1 hq2 ?_; (try clear hq2); intro a b hTO; intro st1 st2)
  show wpAny _ _ (field (.ref z) 2 >>= _) _ _ _
  refine wpAny_bind (wpAny_field hz rfl (x := .bool false) rfl ?_)
  show wpAny _ _ (field (.ref z) 3 >>= _) _ _ _
  refine wpAny_bind (wpAny_field hz rfl (x := .ref TI) rfl (wpAny_bind (wpAny_seqItems hTI rfl ?_)))
  show wpAny _ _ (Builtin.SmallTypes.ownedTupleIsFree (.ref z) >>= _) _ _ _
  refine wpAny_bind ?_
  unfold Builtin.SmallTypes.ownedTupleIsFree
  refine wpAny_bind (wpAny_field hz rfl (x := .none) rfl (wpAny_pure ?_))
  simp only [if_true]
  refine wpAny_bind (wpAny_rule (wpAny_bind (wpAny_field hz rfl (x := .ref TO) rfl (wpAny_bind (wpAny_setField_rec hz (by simp) fun h1 hz1 hs1 => ?_)))))
  replace hz1 : IsZip h1 z TI TO .ellipsis := hz1
  have k1 := hs1.extBut
  refine wpAny_bind ?_
  simp only [List.zipIdx_cons, List.zipIdx_nil, List.forIn_cons, List.forIn_nil]
  refine wpAny_bind (wpAny_bind (wpAny_onRaise ?_))
  show wpAny _ _ (Builtin.SmallTypes.nextOf (.ref i1) >>= _) _ _ _
  have q1 := drBut D1 st1 k1 Z.z1
  rcases Nat.lt_or_eq_of_le hi with hlt | heq
  · refine wpAny_bind (D1.item i _ _ _ hlt q1 fun x h2 tk2 p1 r1 hs2 => wpAny_pure ?_)
    have k2 := hs2.extBut
    have hTO2 : IsPair h2 TO a b := k2 _ _ Z.Oi (k1 _ _ Z.Oz hTO)
    refine wpAny_bind (wpAny_seqItems hTO2 rfl (wpAny_bind (wpAny_updateSeq_pair hTO2 fun h3 hTO3 hs3 => wpAny_bind (wpAny_letGo (wpAny_pure ?_)))))
    replace hTO3 : IsPair h3 TO x b := hTO3
    have k3 := hs3.extBut
    refine wpAny_bind (wpAny_bind (wpAny_onRaise ?_))
    show wpAny _ _ (Builtin.SmallTypes.nextOf (.ref i2) >>= _) _ _ _
    have q2 := drBut D2 (drBut D2 (drBut D2 st2 k1 Z.z2) k2 Z.a2) k3 Z.o2
    refine wpAny_bind (D2.item i _ _ _ hlt q2 fun y h4 tk4 p2 r2 hs4 => wpAny_pure ?_)
    have k4 := hs4.extBut
    have hTO4 : IsPair h4 TO x b := k4 _ _ Z.Oj hTO3
    refine wpAny_bind (wpAny_seqItems hTO4 rfl (wpAny_bind (wpAny_updateSeq_pair hTO4 fun h5 hTO5 hs5 => wpAny_bind (wpAny_letGo (wpAny_pure (wpAny_pure ?_))))))
    replace hTO5 : IsPair h5 TO x y := hTO5
    have k5 := hs5.extBut
    refine wpAny_bind (wpAny_seqItems hTO5 rfl (wpAny_bind (wpAny_newTuple ?_)))
    have hsz : h5.objs.size = s.heap.objs.size := by rw [hs5.1, hs4.1, hs3.1, hs2.1, hs1.1]
    have all : ∀ c o, c ≠ z → c ≠ TO → c ≠ i1 → c ≠ i2 → s.heap.get? c = some o → h5.get? c = some o := fun c o c1 c2 c3 c4 e => k5 _ _ c2 (k4 _ _ c4 (k3 _ _ c2 (k2 _ _ c3 (k1 _ _ c1 e))))
    have hz5 : IsZip h5 z TI TO .ellipsis := k5 _ _ Z.Oz.symm (k4 _ _ Z.jz.symm (k3 _ _ Z.Oz.symm (k2 _ _ Z.iz.symm hz1)))
    have e1 := drBut D1 (drBut D1 (drBut D1 r1 k3 Z.o1) k4 Z.a1) k5 Z.o1
    have e2 := drBut D2 r2 k5 Z.o2
    show wpAny _ _ (Builtin.SmallTypes.ownedTupleHandOut (.ref z) (.ref h5.objs.size) >>= _) _ _ _
    refine wpAny_bind ?_
    unfold Builtin.SmallTypes.ownedTupleHandOut
    have hz6 : IsZip (h5.push { cls := .type "tuple", data := .seq #[x, y] }) z TI TO .ellipsis := Heap.get?_push_of_some _ hz5
    refine wpAny_bind (wpAny_setField_rec hz6 (by simp) fun h7 hz7 hs7 => ?_)
    replace hz7 : IsZip h7 z TI TO (rawInt h5.objs.size) := hz7
    refine wpAny_setField_rec hz7 (by simp) fun h8 hz8 hs8 => ?_
    replace hz8 : IsZip h8 z TI TO (rawInt h5.objs.size) := hz8
    have up : ∀ c o, c ≠ z → h5.get? c = some o → h8.get? c = some o := fun c o c1 e => hs8.extBut _ _ c1 (hs7.extBut _ _ c1 (Heap.get?_push_of_some _ e))
    have hT8 : IsPair h8 h5.objs.size x y := hs8.extBut _ _ (Nat.ne_of_gt (Heap.lt_size hz5)) (hs7.extBut _ _ (Nat.ne_of_gt (Heap.lt_size hz5)) (Heap.get?_push_size _ rfl))
    rw [hsz] at hz8 hT8
    refine wpAny_pure ⟨_, rfl, ?_⟩
    show Q (.ref h5.objs.size) _
    rw [hsz]
    exact hQ hlt x y h8 _ p1 p2 ⟨hz8, up _ _ Z.Tz (all _ _ Z.Tz Z.TO' Z.Ti Z.Tj hTI), ⟨_, _, up _ _ Z.Oz hTO5⟩, D1.frame _ _ _ e1 fun c hc o e => up c o (fun q => Z.z1 (q ▸ hc)) e, D2.frame _ _ _ e2 fun c hc o e => up c o (fun q => Z.z2 (q ▸ hc)) e⟩
      hT8 fun c o c1 c2 c3 c4 e => up c o c1 (all c o c1 c2 c3 c4 e)
  · subst heq
    refine wpAny_bind (D1.done _ _ _ q1 fun h2 e k2 he => ?_)
    (refine xe1_2 he ?_; (try clear he); intro oe hoe hce)
    have hz2 : IsZip h2 z TI TO .ellipsis := k2 _ _ Z.iz.symm hz1
    have hez : e ≠ z := fun q => by subst q; rw [hz2] at hoe; cases hoe; simp at hce
    exact wpAny_setField_rec hz2 (by simp) fun h3 _ hs3 => hE rfl h3 e (fun c o c1 _ c3 _ q => hs3.extBut _ _ c1 (k2 _ _ c3 (k1 _ _ c1 q))) ⟨oe, hs3.extBut _ _ hez hoe, hce⟩
theorem zip_walks (z TI TO i1 i2 : Addr) (Z : Zap z TI TO i1 i2 f1 f2) (D1 : ∀ A', A'.handled = none → Draws prog w A' i1 f1 n P1 S1) (D2 : ∀ A', A'.handled = none → Draws prog w A' i2 f2 n P2 S2) (hi1 : i1 ∈ f1) (hi2 : i2 ∈ f2) (hh : A.handled = none) :
    WalksU prog w A z (z :: TI :: TO :: (f1 ++ f2)) [z, TO, i1, i2] n (fun i vals => ∃ x y, P1 i x ∧ P2 i y ∧ vals = #[x, y]) (ZSt z TI TO i1 i2 S1 S2 .none)
      (fun i T h => ZSt z TI TO i1 i2 S1 S2 (rawInt T) (i + 1) h ∧ T ≠ z ∧ T ≠ TO ∧ T ≠ i1 ∧ T ≠ i2) where
  sub := fun c hc => by
    simp only [List.mem_cons, List.not_mem_nil, or_false, List.mem_append] at hc ⊢
    rcases hc with rfl | rfl | rfl | rfl
    · exact .inl rfl
    · exact .inr (.inr (.inl rfl))
    · exact .inr (.inr (.inr (.inl hi1)))
    · exact .inr (.inr (.inr (.inr hi2)))
  frame := fun i h h' st hk => by
    (refine xe0_5 st ?_; (try clear st); intro hz hTI hq2; refine xe2_1 hq2 ?_; (try clear hq2); intro a b hTO; intro st1 st2)
    exact ⟨hk z (by simp) _ hz, hk TI (by simp) _ hTI, ⟨a, b, hk TO (by simp) _ hTO⟩, (D1 A hh).frame _ _ _ st1 fun c hc => hk c (by simp [hc]), (D2 A hh).frame _ _ _ st2 fun c hc => hk c (by simp [hc])⟩
  item := fun i s Q E hlt st hQ => by
    have hT : s.TypeIs (.ref z) "zip" := ⟨_, st.1, rfl⟩
    have l1 : i1 < s.heap.objs.size := let ⟨_, e⟩ := (D1 A hh).live _ _ st.2.2.2.1; Heap.lt_size e
    have l2 : i2 < s.heap.objs.size := let ⟨_, e⟩ := (D2 A hh).live _ _ st.2.2.2.2; Heap.lt_size e
    have l3 : z < s.heap.objs.size := Heap.lt_size st.1
    have l4 : TO < s.heap.objs.size := let ⟨_, _, e⟩ := st.2.2.1; Heap.lt_size e
    unfold pyNext
    refine wpAny_bind (wpAny_attempt (wpAny_callSpecial?_slot (name := Str.ofString "__next__") hT F.slot_zip_next (wpAny_call_entry F.slot_zip_next hT F.entry_zip_next
      (zip_next Z (D1 _ (by exact hh)) (D2 _ (by exact hh)) st (Nat.le_of_lt hlt) (fun _ x y h' tk p1 p2 st' hp hk => wpAny_pure ?_) (fun e => absurd hlt (by omega))) (F.args_zip_next_1 _))))
    exact hQ _ #[x, y] h' tk ⟨x, y, p1, p2, rfl⟩ ⟨_, hp, rfl, _, rfl⟩ ⟨st', Nat.ne_of_gt l3, Nat.ne_of_gt l4, Nat.ne_of_gt l1, Nat.ne_of_gt l2⟩
      fun c o hc e => hk c o (fun q => hc (by simp [q])) (fun q => hc (by simp [q])) (fun q => hc (by simp [q])) (fun q => hc (by simp [q])) e
  go := fun elts k pos i T s Q E hm hQ => by
    (refine xe0_2 hm ?_; (try clear hm); intro hq0; refine xe0_5 hq0 ?_; (try clear hq0); intro hz hTI hq2; refine xe2_1 hq2 ?_; (try clear hq2); intro a b hTO; intro st1 st2; intro _)
    exact wpAny_letOwnedTupleGo_zip hz fun h' hz' hs' => hQ h' ⟨hz', hs'.extBut _ _ Z.Tz hTI, ⟨a, b, hs'.extBut _ _ Z.Oz hTO⟩, drBut (D1 A hh) st1 hs'.extBut Z.z1, drBut (D2 A hh) st2 hs'.extBut Z.z2⟩
      fun c o hc e => hs'.extBut _ _ (fun q => hc (by simp [q])) e
  apart := fun i T h hm hT => by
    (refine xe0_5 hm ?_; (try clear hm); intro _ t1 t2 t3 t4)
    simp at hT
    rcases hT with q | q | q | q
    · exact t1 q
    · exact t2 q
    · exact t3 q
    · exact t4 q
  done := fun s Q E st hQ => by
    have hT : s.TypeIs (.ref z) "zip" := ⟨_, st.1, rfl⟩
    unfold pyNext
    refine wpAny_bind (wpAny_attempt (wpAny_callSpecial?_slot (name := Str.ofString "__next__") hT F.slot_zip_next (wpAny_call_entry F.slot_zip_next hT F.entry_zip_next
      (zip_next Z (D1 _ (by exact hh)) (D2 _ (by exact hh)) st (Nat.le_refl _) (fun q => absurd q (Nat.lt_irrefl _)) (fun _ h' e hk he => ?_)) (F.args_zip_next_1 _))))
    (refine xe1_2 he ?_; (try clear he); intro o ho hc)
    refine wpAny_bind (wpAny_isInstance (T := "StopIteration") (b := true) ⟨o, ho, hc⟩ isSubtype_stop (wpAny_pure (hQ _ s.toks fun c o hc e => ?_)))
    exact hk c o (fun q => hc (by simp [q])) (fun q => hc (by simp [q])) (fun q => hc (by simp [q])) (fun q => hc (by simp [q])) e
  self := fun i s Q E st hQ => wpAny_pyIter_zip st.1 hQ
noncomputable def zipHeap (h : Heap) (t1 t2 : Addr) : Heap :=
  ((((h.push { cls := .type "tuple_iterator", data := .fields #[.ref t1, .int 0 0] }).push { cls := .type "tuple_iterator", data := .fields #[.ref t2, .int 0 0] }).push
    { cls := .type "tuple", data := .seq #[.ref h.objs.size, .ref (h.objs.size + 1)] }).push { cls := .type "tuple", data := .seq #[.none, .none] }).push
    { cls := .type "zip", data := .fields #[.none, .bool false, .bool false, .ref (h.objs.size + 2), .ref (h.objs.size + 3)] }
theorem meets_zip_tup (t1 t2 : Addr) (xs ys : Array Value) :
    Meets (Builtin.«zip.__new__» ⟨[.type "zip", .ref t1, .ref t2], []⟩) (fun _ R s => s.heap.IsTuple t1 xs ∧ s.heap.IsTuple t2 ys ∧ R (.ok (.ret (.ref (s.heap.objs.size + 4)))) { s with heap := zipHeap s.heap t1 t2 }) :=
  .of_wp fun prog w A R s h => by
    obtain ⟨hp, g, d, tk, os⟩ := s; (refine xe0_3 h ?_; (try clear h); intro h1 h2 h)
    have hsub := sub_zip
    have q1 : Heap.IsTuple (Shared.heap ⟨hp, g, d, tk, os⟩) t1 xs := h1
    have q2 : Heap.IsTuple (Shared.heap ⟨hp.push { cls := .type "tuple_iterator", data := .fields #[.ref t1, .int 0 0] }, g, d, tk, os⟩) t2 ys := Heap.IsTuple.push h2 _
    wp_walk using wpAny_pyIter_tuple q1, wpAny_pyIter_tuple q2
    simp only [Heap.size_push]
    exact ⟨_, rfl, h⟩
theorem call_zip_tup {t1 t2 : Addr} {xs ys : Array Value} {Q : Value → Shared → Prop} (h1 : s.heap.IsTuple t1 xs) (h2 : s.heap.IsTuple t2 ys)
    (h : ∀ h', ZSt (s.heap.objs.size + 4) (s.heap.objs.size + 2) (s.heap.objs.size + 3) s.heap.objs.size (s.heap.objs.size + 1) (fun i h => h.IsTupleIter s.heap.objs.size t1 i ∧ h.IsTuple t1 xs) (fun i h => h.IsTupleIter (s.heap.objs.size + 1) t2 i ∧ h.IsTuple t2 ys) .none 0 h' →
      h'.objs.size = s.heap.objs.size + 5 → (∀ c o, s.heap.get? c = some o → h'.get? c = some o) → Q (.ref (s.heap.objs.size + 4)) { s with heap := h' }) :
    wpAny (model prog w) A (call (.type "zip") [.ref t1, .ref t2]) Q E s := by
  refine callType_new F.called_zip (by decide) (F.typeCall_zip_2 _ _) (F.newCall_zip_2 _ _) (fun obj => F.args_object_init_3 obj _ _) F.entry_zip_new (meets_zip_tup t1 t2 xs ys) ⟨h1, h2, ?_⟩
  have up : ∀ c o, s.heap.get? c = some o → (zipHeap s.heap t1 t2).get? c = some o := fun c o e =>
    Heap.get?_push_of_some _ (Heap.get?_push_of_some _ (Heap.get?_push_of_some _ (Heap.get?_push_of_some _ (Heap.get?_push_of_some _ e))))
  have at_ : ∀ {h : Heap} {k : Nat} (o : Obj), h.objs.size = k → o.isFreed = false → (h.push o).get? k = some o := fun {h k} o e hf => by subst e; exact Heap.get?_push_size _ hf
  have sz : ∀ {h : Heap} {k : Nat} (o : Obj), h.objs.size = k → (h.push o).objs.size = k + 1 := fun {h k} o e => by rw [Heap.size_push, e]
  have g5 : (zipHeap s.heap t1 t2).get? (s.heap.objs.size + 4) = some { cls := .type "zip", data := .fields #[.none, .bool false, .bool false, .ref (s.heap.objs.size + 2), .ref (s.heap.objs.size + 3)] } := at_ _ (sz _ (sz _ (sz _ (sz _ rfl)))) rfl
  have g4 : (zipHeap s.heap t1 t2).get? (s.heap.objs.size + 3) = some { cls := .type "tuple", data := .seq #[.none, .none] } := Heap.get?_push_of_some _ (at_ _ (sz _ (sz _ (sz _ rfl))) rfl)
  have g3 : (zipHeap s.heap t1 t2).get? (s.heap.objs.size + 2) = some { cls := .type "tuple", data := .seq #[.ref s.heap.objs.size, .ref (s.heap.objs.size + 1)] } := Heap.get?_push_of_some _ (Heap.get?_push_of_some _ (at_ _ (sz _ (sz _ rfl)) rfl))
  have g2 : (zipHeap s.heap t1 t2).get? (s.heap.objs.size + 1) = some { cls := .type "tuple_iterator", data := .fields #[.ref t2, .int 0 0] } := Heap.get?_push_of_some _ (Heap.get?_push_of_some _ (Heap.get?_push_of_some _ (at_ _ (sz _ rfl) rfl)))
  have g1 : (zipHeap s.heap t1 t2).get? s.heap.objs.size = some { cls := .type "tuple_iterator", data := .fields #[.ref t1, .int 0 0] } := Heap.get?_push_of_some _ (Heap.get?_push_of_some _ (Heap.get?_push_of_some _ (Heap.get?_push_of_some _ (at_ _ rfl rfl))))
  refine ⟨⟨_, g5, rfl⟩, h _ ⟨g5, g3, ⟨_, _, g4⟩, ⟨⟨_, g1, rfl, rfl⟩, ?_⟩, ⟨⟨_, g2, rfl, rfl⟩, ?_⟩⟩ (sz _ (sz _ (sz _ (sz _ (sz _ rfl))))) up⟩
  · (refine xe1_2 h1 ?_; (try clear h1); intro o ho r); exact ⟨o, up _ _ ho, r⟩
  · (refine xe1_2 h2 ?_; (try clear h2); intro o ho r); exact ⟨o, up _ _ ho, r⟩
end
end Mine
end

section
open PySem PySem.W PyProof.Rows
set_option tactic.hygienic false
namespace Mine
section
variable {prog : Program} {w : World} {C : Addr} {B : Heap} {A : Around} {F F' : FH} {s s' : Shared} {fv : Str → Option Addr} {tab : List (Str × Fn)} {mg mb : Str → Option Value} {env : Env} {k n lo : Nat} {ps : List Addr} {ρ : Sc} {c : Cx}
theorem genOk_spec {i j : Str} {sc : Scope} (h : genOk i j sc = true) : sc.kind = .function ∧ sc.isCoroutine = false ∧ sc.names.lookup (".0" : Str) = some .local ∧ sc.names.lookup i = some .local ∧ sc.names.lookup j = some .local ∧ i ≠ j ∧
    (i == ("__debug__" : Str)) = false ∧ (j == ("__debug__" : Str)) = false ∧ ∀ p ∈ sc.names, p.2 = .local ∨ p.2 = .globalImplicit := by
  unfold genOk at h
  simp only [Bool.and_eq_true, beq_iff_eq, bne_iff_ne, Bool.not_eq_true', List.all_eq_true, Bool.or_eq_true] at h
  (refine xe0_2 h ?_; (try clear h); intro hq0; refine xe0_2 hq0 ?_; (try clear hq0); intro hq0; refine xe0_2 hq0 ?_; (try clear hq0); intro hq0; refine xe0_2 hq0 ?_; (try clear hq0); intro hq0; refine xe0_2 hq0 ?_; (try clear hq0); intro hq0; refine xe0_2 hq0 ?_; (try clear hq0); intro hq0; refine xe0_2 hq0 ?_; (try clear hq0); intro hq0; refine xe0_2 hq0 ?_; (try clear hq0); intro h1 h2; intro h3; intro h4; intro h5; intro h6; intro h7; intro h8; intro h9)
  exact ⟨h1, h2, h3, h4, h5, h6, beq_false_of_ne h7, beq_false_of_ne h8, h9⟩
theorem clos_nil {sc : Scope} {env : Env} (h : ∀ p ∈ sc.names, p.2 = .local ∨ p.2 = .globalImplicit) : ∃ cl, closureFor sc env = pure cl :=
  let ⟨cl, e, _⟩ := clos_ok (env := env) (scope := sc) (fun p hp q => by rcases h p hp with z | z <;> rw [z] at q <;> cases q); ⟨cl, e⟩
theorem gen_elt {M : Env} {i j : Str} {p1 p2 p3 : Pos} {a b : Int} {t u : Tok} {E : Value → Shared → Prop} {m : Str → Option Value} (hk : M.scope.kind = .function) (hi : M.kindOf i = some .local) (hj : M.kindOf j = some .local) (di : (i == ("__debug__" : Str)) = false) (dj : (j == ("__debug__" : Str)) = false)
    (hn : s.heap.Ns M.locals m) (mi : m i = some (.int a t)) (mj : m j = some (.int b u)) :
    wpAny (model prog w) A (eval (.BinOp (.Name i p1) .Add (.Name j p2) p3) M) (fun y s' => (∃ t, y = .int (a + b) t) ∧ Keeps s s') E s :=
  wpAny_BinOp (wpAny_Name (wpAny_loadName_local hk hi hn mi (wpAny_Name (wpAny_loadName_local hk hj hn mj (add_int ⟨⟨_, rfl⟩, _, _, rfl, fun _ _ e => e⟩)) dj)) di)
theorem addPairs_eq {x y d : D} (h : addPairs x y = some d) : ∃ a1 b1 a2 b2, x = .tup [.int a1, .int b1] ∧ y = .tup [.int a2, .int b2] ∧ d = .tup [.int (a1 + a2), .int (b1 + b2)] := by
  refine bind_el h ?_; (try clear h); intro l h1 h
  refine bind_el h ?_; (try clear h); intro is h2 h
  refine bind_el h ?_; (try clear h); rintro ⟨a, b⟩ h3 h
  refine bind_el h ?_; (try clear h); intro l' h4 h
  refine bind_el h ?_; (try clear h); intro js h5 h
  refine map_el h ?_; (try clear h); rintro ⟨c, d'⟩ h6 h7
  refine ⟨a, b, c, d', ?_, ?_, h7.symm⟩
  · rw [tupOf_eq h1, intsOf_eq h2, vTwo_eq h3]; rfl
  · rw [tupOf_eq h4, intsOf_eq h5, vTwo_eq h6]; rfl
theorem rep_pair {a b : Int} {v : Value} (ok : Ok B F s) (r : Rep prog w C F (.tup [.int a, .int b]) v) : ∃ l t u o, v = .ref l ∧ F l = some o ∧ o.cls = .type "tuple" ∧ (∃ k, o.data = .seq #[.int a t, .int b u] k) ∧ s.heap.IsTuple l #[.int a t, .int b u] := by
  (refine xe4_4 r.tup_inv ?_; intro l o vs n hq4; rcases hq4 with rfl; intro h1 h2 hqr; refine xe0_2 hqr ?_; (try clear hqr); intro h3 h4)
  (refine xe2_3 h4.cons_inv ?_; intro _ _ hq2; rcases hq2 with rfl; intro r1 h4)
  (refine xe2_3 h4.cons_inv ?_; intro _ _ hq2; rcases hq2 with rfl; intro r2 h4)
  obtain rfl := h4.nil_inv
  (refine xe1_1 r1.int_inv ?_; intro ta hq1; rcases hq1 with rfl)
  (refine xe1_1 r2.int_inv ?_; intro tb hq1; rcases hq1 with rfl)
  exact ⟨l, ta, tb, o, rfl, h1, h2, ⟨_, h3⟩, ⟨_, ok.subT h1 h2, h2, _, h3⟩⟩
theorem pair_at {a b : Int} {t u : Tok} {i : Nat} {v : Value} (h : (#[.int a t, .int b u] : Array Value)[i]? = some v) : (i = 0 ∧ v = .int a t) ∨ (i = 1 ∧ v = .int b u) := by
  match i, h with
  | 0, h => cases h; exact .inl ⟨rfl, rfl⟩
  | 1, h => cases h; exact .inr ⟨rfl, rfl⟩
  | i + 2, h => simp at h
theorem gen_ste {F2 : FH} {s2 : Shared} (ok2 : Ok B F2 s2) (t12 : Ste s.heap.objs.size F s F2 s2) (okS : Ok B F2 s') (keep : ∀ b o, b ≠ PT → s2.heap.get? b = some o → s'.heap.get? b = some o) (os : s'.os = s2.os) {o : Obj} (ho : o.isFreed = false) (gw : Gw s.heap (s'.heap.push o)) :
    Ste s.heap.objs.size F s (FH.add F2 s'.heap.objs.size o) (⟨s'.heap.push o, s'.gens, s'.drawn, s'.toks, s'.os⟩ : Shared) := by
  have ext := FH.add_ext (okS.fnone (Nat.le_refl s'.heap.objs.size)) o
  have hpt : ∀ b, F2 b = none → b ≠ PT := fun b g z => by rw [z, ok2.dum] at g; cases g
  have hnew : ∀ b, b < s.heap.objs.size → b ≠ s'.heap.objs.size := fun b hb q => by
    cases e : s.heap.get? b with
    | none => exact nos1 ((gw.dead b hb e).symm.trans (q ▸ Heap.get?_push_size s'.heap ho))
    | some ob =>
      suffices b < s'.heap.objs.size from Nat.lt_irrefl _ (q ▸ this)
      cases hF : F b with
      | none =>
        (refine xe0_2 (t12.old b hb hF) ?_; intro g1 g2)
        exact Heap.lt_size (keep b ob (hpt b g1) (g2.trans e))
      | some o' =>
        (refine xe1_1 (okS.alive (t12.ext b o' hF)) ?_; intro o2 ho2)
        exact Heap.lt_size ho2
  refine ⟨fun b o e => ext b o (t12.ext b o e), fun b hb e => ?_, gw.size, os.trans t12.os⟩
  (refine xe0_2 (t12.old b hb e) ?_; intro g1 g2)
  refine ⟨by simp only [FH.add, hnew b hb, if_false]; exact g1, ?_⟩
  show (s'.heap.push o).get? b = s.heap.get? b
  cases q : s.heap.get? b with
  | none => exact gw.dead b hb q
  | some ob => exact Heap.get?_push_of_some _ (keep b ob (hpt b g1) (g2.trans q))
theorem gen_rep {acc : Array Value} {x y : Int} (h : acc.size = 2 ∧ ∀ (j : Nat) v, acc[j]? = some v → ∃ i : Nat, ([0, 1] : List Nat)[j]? = some i ∧ ∃ t, v = Value.int (if i = 0 then x else y) t) : ∃ u0 u1, acc = ([.int x u0, .int y u1] : List Value).toArray := by
  (refine xe0_2 h ?_; (try clear h); intro hsz h)
  have e0 : acc[0]? = some acc[0] := Array.getElem?_eq_getElem _
  have e1 : acc[1]? = some acc[1] := Array.getElem?_eq_getElem _
  obtain ⟨_, w0, u0, hu0⟩ := h 0 _ e0
  obtain ⟨_, w1, u1, hu1⟩ := h 1 _ e1
  cases w0; cases w1
  rw [if_pos rfl] at hu0
  rw [if_neg (by decide)] at hu1
  refine ⟨u0, u1, Array.ext hsz fun q h1 h2 => ?_⟩
  rcases (by omega : q = 0 ∨ q = 1) with rfl | rfl
  · exact hu0
  · exact hu1
theorem xi9 {α1 α2 α3 α4 α5 α6 α7 α8 α9 : Sort _} {P : α1 → α2 → α3 → α4 → α5 → α6 → α7 → α8 → α9 → Prop} (x1 : α1) (x2 : α2) (x3 : α3) (x4 : α4) (x5 : α5) (x6 : α6) (x7 : α7) (x8 : α8) (x9 : α9) (h : P x1 x2 x3 x4 x5 x6 x7 x8 x9) : ∃ x1 x2 x3 x4 x5 x6 x7 x8 x9, P x1 x2 x3 x4 x5 x6 x7 x8 x9 := ⟨x1, x2, x3, x4, x5, x6, x7, x8, x9, h⟩
theorem gen_pair (base : Base prog w B C tab fv mg mb) : GenPair prog w C B fv := by
  intro n k lo ps ρ c env A F s i j p1 p2 p3 p4 p5 p6 p7 p8 p9 p10 pos kt scope a b x y d ih he hc hr st hok hcg hgt hgz h1 h2 h
  (refine xe4_3 (addPairs_eq h) ?_; intro a1 b1 a2 b2 hq4; rcases hq4 with rfl; intro hq5; rcases hq5 with rfl; intro hq6; rcases hq6 with rfl)
  (refine xe0_8 (genOk_spec hok) ?_; intro hkind hco h0 hi hj hij di hqr; refine xe0_2 hqr ?_; (try clear hqr); intro dj hall)
  (refine xe1_1 (clos_nil (env := env) hall) ?_; intro cl hcl)
  refine Ev.slot fun E Q hQ => wpAny_gw ?_
  refine wpAny_Call_NameR (name_glob base he st hgt (.inr (base.blt .tuple)) ?_)
  refine callWith_b (es := [_]) (.inr ⟨_, rfl⟩) (Calls.spliced_cons ?_)
  have hroom : A.depth < recursionLimit := by have := hr.2.1; show A.depth < 1000; omega
  refine wpAny_GeneratorExp_walksQTD hr.1 hco hcl (fun y hy q => by rcases hall y hy with z | z <;> rw [z] at q <;> cases q) h0 hi hj hij hkind hroom ?_ (fun _ => rfl)
  refine wpAny_Call_NameR (name_glob base he st hgz (.inr (base.blt .zip)) ?_)
  have htr : backTo p8 (starEach [a, b] env) = plainT [a, b] env := by
    have n1 := not_starred h1
    have n2 := not_starred h2
    rw [star_cons n1, star_cons n2]; rfl
  rw [htr]
  refine callWith_b (.inr ⟨_, rfl⟩) (Calls.spliced_cons ((ih.e he hc hr st h1).ev E _ fun v1 F1 s1 t1 ok1 r1 => Calls.spliced_cons ((ih.e he hc hr (st.step t1 (Nat.le_refl _) ok1) h2).ev E _ fun v2 F2 s2 t2 ok2 r2 => Calls.spliced_nil ?_)))
  have t12 := t1.seq t2
  (refine xe4_4 (rep_pair ok2 (r1.mono t2.ext)) ?_; intro l1 ta tb o1 hq4; rcases hq4 with rfl; intro f1 c1 hqr; refine xe0_2 hqr ?_; (try clear hqr); intro _ ht1)
  (refine xe4_4 (rep_pair ok2 r2) ?_; intro l2 tc td o2 hq4; rcases hq4 with rfl; intro f2 c2 hqr; refine xe0_2 hqr ?_; (try clear hqr); intro _ ht2)
  have hl1 : l1 < s2.heap.objs.size := ok2.lt f1
  have hl2 : l2 < s2.heap.objs.size := ok2.lt f2
  have hPT : PT < s2.heap.objs.size := ok2.lt ok2.dum
  have n1 : l1 ≠ PT := fun q => by rw [q, ok2.dum] at f1; cases f1; cases c1
  have n2 : l2 ≠ PT := fun q => by rw [q, ok2.dum] at f2; cases f2; cases c2
  refine call_zip_tup ht1 ht2 fun h3 hst hsz3 hk3 => ?_
  have ok3 : Ok B F2 (⟨h3, s2.gens, s2.drawn, s2.toks, s2.os⟩ : Shared) := ok2.of_keep hk3 ok2.bare
  refine wpAny_pyIter_zip hst.1 ⟨base.lim.keeps ok3.keep, ?_⟩
  (refine xe1_2 ok3.tab ?_; intro pt hpt htp)
  have hcd : CodeHd h3 48 PT := base.code.keeps ok3.keep
  have henv : env.code = .ref 48 := he.gen hcg
  (refine xe1_1 st ?_; (try clear st); intro mst zst)
  have hglob : env.globals = mainGlobals := zst.frm.glob
  (refine xe2_1 base.bmod ?_; intro bm ob M)
  let wr : List Nat := [s2.heap.objs.size + 4, s2.heap.objs.size + 3, s2.heap.objs.size, s2.heap.objs.size + 1]
  have hwr : ∀ b : Nat, b ∈ wr → s2.heap.objs.size ≤ b := fun b hb => by
    simp only [wr, List.mem_cons, List.not_mem_nil, or_false] at hb; omega
  have Z := zap_new hl1 hl2
  have W : ∀ A', A'.handled = none → WalksU prog w A' (s2.heap.objs.size + 4) _ wr 2 _ _ _ := fun A' hA =>
    zip_walks (s2.heap.objs.size + 4) (s2.heap.objs.size + 2) (s2.heap.objs.size + 3) s2.heap.objs.size (s2.heap.objs.size + 1) Z
      (fun A'' h'' => tup_draws h'' s2.heap.objs.size l1 (Nat.ne_of_lt hl1) #[.int a1 ta, .int b1 tb]) (fun A'' h'' => tup_draws h'' (s2.heap.objs.size + 1) l2 (Nat.ne_of_lt (Nat.lt_succ_of_lt hl2)) #[.int a2 tc, .int b2 td]) (by simp) (by simp) hA
  have hPT' : (PT : Nat) < s2.heap.objs.size := hPT
  have hl1' : (l1 : Nat) < s2.heap.objs.size := hl1
  have hl2' : (l2 : Nat) < s2.heap.objs.size := hl2
  have hfp : ∀ b : Nat, b ∈ ((s2.heap.objs.size + 4) :: (s2.heap.objs.size + 2) :: (s2.heap.objs.size + 3) :: ([s2.heap.objs.size, l1] ++ [s2.heap.objs.size + 1, l2]) : List Nat) → b < s2.heap.objs.size + 5 ∧ b ≠ PT := fun b hb => by
    simp only [List.mem_cons, List.not_mem_nil, or_false, List.mem_append] at hb
    rcases hb with rfl | rfl | rfl | (rfl | rfl) | rfl | rfl
    · exact ⟨by omega, Nat.ne_of_gt (Nat.lt_add_right 4 hPT')⟩
    · exact ⟨by omega, Nat.ne_of_gt (Nat.lt_add_right 2 hPT')⟩
    · exact ⟨by omega, Nat.ne_of_gt (Nat.lt_add_right 3 hPT')⟩
    · exact ⟨by omega, Nat.ne_of_gt hPT'⟩
    · exact ⟨Nat.lt_add_right 5 hl1', n1⟩
    · exact ⟨by omega, Nat.ne_of_gt (Nat.lt_add_right 1 hPT')⟩
    · exact ⟨Nat.lt_add_right 5 hl2', n2⟩
  have cont : ∀ (code : Value) (h4 : Heap) (tk4 : Nat), (∀ b o, b ≠ PT → h3.get? b = some o → h4.get? b = some o) → (∃ pt', h4.get? PT = some (tabO pt') ∧ TriplesOk pt'.toList) → h3.objs.size ≤ h4.objs.size →
      wpAny (model prog w) A (builtinsFor env.globals env.builtins) (fun bi s₄ => ∃ I fp wr n₀ Pt St₀ Mid pz F, Value.ref (s2.heap.objs.size + 4) = .ref I ∧ (∀ A' : Around, A'.handled = none → WalksU prog w A' I fp wr n₀ Pt St₀ Mid) ∧ (∀ i vals, Pt i vals → ∃ va vb, vals = #[va, vb]) ∧ St₀ 0 s₄.heap ∧ (∀ b ∈ fp, b < s₄.heap.objs.size) ∧ s₄.heap.NoLimit ∧ cStatics ∉ wr ∧
          (∀ href : Heap, (∀ b o, s₄.heap.get? b = some o → href.get? b = some o) →
            QuietGenTD prog w (genEnv scope cl s₄.heap.objs.size code bi env) i j [] (.BinOp (.Name i p1) .Add (.Name j p2) p3) (List.range s₄.heap.objs.size) wr Pt pz F href (A.depth + 1) (A.units + 8)) ∧
          (∀ a h₅ tk gs, gs.bare = true → s₄.heap.objs.size < a → h₅.objs.size = a + 1 → (∀ b o, s₄.heap.get? b = some o → h₅.get? b = some o) →
            WalksS prog w A.in4 a (a :: s₄.heap.objs.size :: List.range s₄.heap.objs.size) (s₄.heap.objs.size :: wr) (GenOnlyQ s₄.gens.size) (passing pz n₀ 0).length
              (fun j y => ∃ i, (passing pz n₀ 0)[j]? = some i ∧ F i y) (GenAt prog w A.in4 a s₄.gens.size s₄.heap.objs.size (List.range s₄.heap.objs.size) wr pz n₀ F) →
            GenAt prog w A.in4 a s₄.gens.size s₄.heap.objs.size (List.range s₄.heap.objs.size) wr pz n₀ F 0 { s₄ with gens := s₄.gens.push gs, toks := tk, heap := h₅ } →
            wpAny (model prog w) A (spliced []) (fun vs s₁ => wpAny (model prog w) A (call (bval .tuple) (.ref a :: vs)) (fun v s' => Gw s.heap s'.heap → Q v s') E s₁) E { s₄ with gens := s₄.gens.push gs, toks := tk, heap := h₅ })) E { s2 with heap := h4, toks := tk4 } := by
    intro code h4 tk4 hk4 htab4 hsz4
    have ok4 : Ok B F2 (⟨h4, s2.gens, s2.drawn, tk4, s2.os⟩ : Shared) := ⟨ok2.base, fun b o e hb => hk4 b o hb (hk3 b o (ok2.sub b o e hb)), ok2.bare, ok2.dum, ok2.bn, htab4⟩
    have M4 := M.keeps ok4.keep
    rw [hglob]
    refine wpAny_builtinsFor M4.ns M4.name M4.ne M4.obj M4.cls M4.dict M4.data ?_
    have hlim4 : h4.NoLimit := base.lim.keeps ok4.keep
    have hcs : cStatics < s2.heap.objs.size := by
      (refine xe1_2 (base.lim.keeps ok2.keep) ?_; intro _ hn _); exact hn.lt
    refine xi9 _ _ wr 2 _ _ _ (fun _ => true) (fun q y => ∃ t, y = .int (if q = 0 then a1 + a2 else b1 + b2) t) ⟨rfl, W, fun q vals hv => ?_, (W A hr.1).frame 0 h3 h4 hst fun b hb o e => hk4 b o (hfp b hb).2 e, fun b hb => ?_, hlim4, fun q => Nat.lt_irrefl _ (Nat.lt_of_lt_of_le hcs (hwr _ q)), fun href hhref => ⟨?_, ?_⟩, fun ga h5 tk gs hgb hag hsz5 hk5 WS hat => ?_⟩
    · (refine xe2_3 hv ?_; (try clear hv); intro x y _ _ e); exact ⟨x, y, e⟩
    · have e5 : s2.heap.objs.size + 5 ≤ h4.objs.size := by rw [← hsz3]; exact hsz4
      exact Nat.lt_of_lt_of_le (hfp b hb).1 e5
    · intro A' E' q va vb s₂ m₂ _ _ _ _ _ _ _ _
      rw [List.forIn_nil]
      exact wpAny_pure ⟨rfl, _, _, rfl, fun _ _ e => e⟩
    · intro A' E' q va vb s₂ m₂ _ _ _ hP _ hn ma mb _
      (refine xe2_3 hP ?_; (try clear hP); intro x y q1 q2 e)
      have e1 : va = x := by have := congrArg (·[0]?) e; simpa using this
      have e2 : vb = y := by have := congrArg (·[1]?) e; simpa using this
      subst e1 e2
      rcases pair_at q1 with ⟨rfl, rfl⟩ | ⟨rfl, rfl⟩
      · rcases pair_at q2 with ⟨_, rfl⟩ | ⟨q, _⟩
        · exact gen_elt hkind hi hj di dj hn ma mb
        · cases q
      · rcases pair_at q2 with ⟨q, _⟩ | ⟨_, rfl⟩
        · cases q
        · exact gen_elt hkind hi hj di dj hn ma mb
    · refine Calls.spliced_nil (call_tuple_gen WS.in4_3 (fun _ _ x => x.1.typeIs) hat (fun b hb => ?_) List.mem_cons_self (fun s' acc hm hacc gw => ?_) (by show 2 ≤ sizeLine; rw [sizeLine_eq]; omega))
      · show b < h5.objs.size
        rw [hsz5]
        have hag' : h4.objs.size < ga := hag
        simp only [List.mem_cons, List.mem_range] at hb
        rcases hb with rfl | hb | hb
        · exact Nat.lt_succ_self _
        · rw [hb]; exact Nat.lt_succ_of_lt hag'
        · exact Nat.lt_succ_of_lt (Nat.lt_trans hb hag')
      · have hp : passing (fun _ => true) 2 0 = [0, 1] := rfl
        rw [hp] at hacc
        have keep : ∀ b o, b ≠ PT → s2.heap.get? b = some o → s'.heap.get? b = some o := fun b o hb e => hm.heap b o (fun q => by
          have hlt : b < s2.heap.objs.size := Heap.lt_size e
          rcases List.mem_cons.mp q with q | q
          · have q' : b = h4.objs.size := q
            have e5 : s2.heap.objs.size + 5 ≤ h4.objs.size := by rw [← hsz3]; exact hsz4
            rw [q'] at hlt; exact absurd hlt (Nat.not_lt.mpr (Nat.le_trans (Nat.le_add_right _ 5) e5))
          · exact absurd hlt (Nat.not_lt.mpr (hwr b q))) (hk5 b o (hk4 b o hb (hk3 b o e)))
        have okS : Ok B F2 s' := ⟨ok2.base, fun b o e hb => keep b o hb (ok2.sub b o e hb), AllBare.movedS (ok2.bare.push hgb) hm, ok2.dum, ok2.bn, by
          (refine xe1_2 htab4 ?_; (try clear htab4); intro pt' g1 g2)
          refine ⟨pt', hm.heap PT _ (fun q => ?_) (hk5 PT _ g1), g2⟩
          rcases List.mem_cons.mp q with q | q
          · exact absurd (Heap.lt_size g1) (by rw [show PT = h4.objs.size from q]; exact Nat.lt_irrefl _)
          · exact absurd hPT (Nat.not_lt.mpr (hwr PT q))⟩
        replace gw : Gw s.heap (s'.heap.push { cls := .type "tuple", data := .seq acc }) := gw
        refine xe2_1 (gen_rep hacc) ?_; intro u0 u1 eacc
        exact hQ _ (FH.add F2 s'.heap.objs.size { cls := .type "tuple", data := .seq acc }) _ (gen_ste ok2 t12 okS keep hm.os rfl gw) (okS.pushF _ rfl s'.toks) (.tup (n := 0) (FH.add_self _ _) rfl (by rw [eacc]) (.cons (.int _ _) (.cons (.int _ _) .nil)))
  cases hf : codeAmong p9 pt.toList with
  | some c' => exact wpAny_genexprCode_hit henv (hcd.code hpt htp) hf (cont c' h3 s2.toks (fun _ _ _ e => e) ⟨pt, hpt, htp⟩ (Nat.le_refl _))
  | none => exact wpAny_genexprCodeX henv (hcd.code hpt htp) (hcd.tab hpt) hf fun c' h4 tk4 hx hge hlt hcode' _ htab' _ => cont (.ref c') h4 tk4 (fun b o hb e => hx b o hb e) ⟨_, htab'.2, by
      (refine xe7_1 hcode' ?_; (try clear hcode'); intro _ _ _ _ _ _ _ hqr; refine xe3_5 hqr ?_; (try clear hqr); intro _ _ _ _ _ _ _ hqr; refine xe0_7 hqr ?_; (try clear hqr); intro _ _ _ g1 g2 g3 _)
      rw [htab'.2] at g1; cases g1; cases g2; exact g3⟩ (Nat.le_trans hge (Nat.le_of_lt hlt))
end
end Mine
end

section
open PySem PySem.W PyProof.Rows
set_option maxHeartbeats 8000000
namespace Mine
noncomputable def stAt (i : Nat) : Stmt := (PySem.Challenge.pw_ph0158_01.main.body[i]?).getD (.Pass ⟨0, 0, 0, 0⟩)
noncomputable def inCls : Stmt → List Stmt
  | .ClassDef _ _ _ b _ _ _ _ _ _ _ => b
  | _ => []
noncomputable def mAt (i : Nat) : Stmt := ((inCls (stAt 9))[i]?).getD (.Pass ⟨0, 0, 0, 0⟩)
noncomputable def emptyArgs : Arguments := { posonlyargs := [], args := [], vararg := none, kwonlyargs := [], kw_defaults := [], kwarg := none, defaults := [] }
noncomputable def dName : Stmt → Str
  | .FunctionDef n _ _ _ _ _ _ _ _ _ => n
  | _ => ""
noncomputable def dArgs : Stmt → Arguments
  | .FunctionDef _ a _ _ _ _ _ _ _ _ => a
  | _ => emptyArgs
noncomputable def dBody : Stmt → List Stmt
  | .FunctionDef _ _ b _ _ _ _ _ _ _ => b
  | _ => []
noncomputable def dScope : Stmt → Scope
  | .FunctionDef _ _ _ _ _ _ s _ _ _ => s
  | _ => default
noncomputable def dPos : Stmt → Pos
  | .FunctionDef _ _ _ _ _ _ _ _ _ p => p
  | _ => ⟨0, 0, 0, 0⟩
noncomputable def recOf (s : Stmt) : DefRec := { name := dName s, params := dArgs s, body := dBody s, scope := dScope s, pos := dPos s }
noncomputable def viewQ : Program := { PySem.Challenge.pw_ph0158_01 with main := { PySem.Challenge.pw_ph0158_01.main with body := [0, 2, 3, 5, 6, 7, 9, 11, 12, 13, 14, 15, 16, 17, 18, 19, 20].map stAt } }
noncomputable def methO (s : Stmt) (q : String) (code : Addr) : Obj :=
  { cls := .type "function", data := .func { name := dName s, qualname := Str.ofString q, params := dArgs s, body := .stmts (dBody s), scope := dScope s, globals := 3, closure := [], defaults := .none, kwdefaults := .none, pyModule := .str (Str.ofString "cpy313.tabnanny") 249, code := .ref code } }
noncomputable def codeO (n q : String) (t : Nat) (ln rc : Nat) (t2 : Nat) : Obj :=
  { cls := .type "code", data := .fields #[.str (Str.ofString n) t, .str (Str.ofString q) (t + 1), .str (Str.ofString "/claim/cut.py") (t + 2), .int ln 0, .int 2 0, .int 0 0, .int 0 0, .int 3 0, .ref rc, .bool true, .int 181 0, .ref (rc + 1), .none, .ref (rc + 2), .ref (rc + 3), .ref (rc + 4), .int t2 0, .int ln 0, .str (Str.ofString "/claim/cut.py") (t2 + 1)] }
noncomputable def entO (P : Params) (e : String × Nat × Value) : DictEntry := { hash := PyData.keyHash P (Str.ofString e.1), key := .str (Str.ofString e.1) e.2.1, val := e.2.2 }
noncomputable def mainE : List (String × Nat × Value) := [("__name__", 165, .str (Str.ofString "law_ph0158_01") 347), ("__doc__", 166, .none), ("__package__", 167, .none), ("__loader__", 168, .builtin "__main__.__loader__#opaque"), ("__spec__", 169, .none), ("__annotations__", 170, .ref 6), ("__builtins__", 171, .ref 4), ("__file__", 173, .str (Str.ofString "/claim/cut.py") 172), ("__cached__", 174, .none), ("_wall", 193, .ref 21), ("ELLIPSIS_MARKER", 197, .str (Str.ofString "...") 196), ("_ellipsis_match", 209, .ref 28), ("func_std_string", 219, .ref 35), ("add_func_stats", 237, .ref 42), ("add_callers", 248, .ref 49), ("Whitespace", 346, .ref 111), ("_law_choose", 358, .ref 122), ("_law_taken", 364, .ref 127), ("_law_step", 373, .ref 134), ("_law_due", 379, .ref 139), ("_law_entry", 393, .ref 146), ("_law_sum", 399, .ref 151), ("_law_lead", 405, .ref 156), ("_law_back", 411, .ref 161), ("_law_other", 421, .ref 168), ("law", 427, .ref 173)]
noncomputable def clsE : List (String × Nat × Value) := [("__module__", 258, .str (Str.ofString "cpy313.tabnanny") 249), ("__firstlineno__", 262, .int 62 261), ("S", 266, .str (Str.ofString " ") 264), ("T", 267, .str (Str.ofString "\t") 265), ("__init__", 282, .ref 66), ("longest_run_of_spaces", 289, .ref 73), ("indent_level", 301, .ref 80), ("equal", 309, .ref 87), ("not_equal_witness", 317, .ref 94), ("less", 325, .ref 101), ("not_less_witness", 333, .ref 108), ("__static_attributes__", 339, .ref 109), ("__dict__", 341, .ref 112), ("__weakref__", 343, .ref 113), ("__doc__", 344, .none)]
noncomputable def kPart (P : Params) : Frag :=
  [(2, { cls := .none, data := .dict #[] }), (3, { cls := .type "dict", data := .dict (mainE.map (entO P)).toArray 26 }), (48, codeO "add_callers" "add_callers" 238 48 43 246),
   (49, { cls := .type "function", data := .func { name := dName (stAt 7), qualname := dName (stAt 7), params := dArgs (stAt 7), body := .stmts (dBody (stAt 7)), scope := dScope (stAt 7), globals := 3, closure := [], defaults := .none, kwdefaults := .none, pyModule := .str (Str.ofString "cpy313.pstats") 210, code := .ref 48 } }),
   (65, codeO "__init__" "Whitespace.__init__" 268 65 60 280), (66, methO (mAt 1) "Whitespace.__init__" 65),
   (79, codeO "indent_level" "Whitespace.indent_level" 290 91 74 299), (80, methO (mAt 3) "Whitespace.indent_level" 79),
   (86, codeO "equal" "Whitespace.equal" 302 98 81 307), (87, methO (mAt 4) "Whitespace.equal" 86),
   (110, { cls := .type "dict", data := .dict (clsE.map (entO P)).toArray 4 }),
   (111, { cls := .type "type", data := .cls { name := Str.ofString "Whitespace", bases := [.type "object"], mro := [.ref 111, .type "object"], ns := 110, qualname := Str.ofString "Whitespace" }, slots := #[none, none, some (.str (Str.ofString "Whitespace") 251), some (.str (Str.ofString "Whitespace") 259), some (.builtin "object.__new__"), some (.bool true)] })]
noncomputable def kAddrs : List Addr := [2, 3, 48, 49, 65, 66, 79, 80, 86, 87, 110, 111]
noncomputable abbrev kH : Hook := kHook kPart kAddrs (fun _ => rfl)
theorem ws : PySem.Challenge.rw_ph0158_01.wellSaid = true := by decide +kernel
theorem head0 (h : WalkO viewQ [Str.ofString "Whitespace"] (XL viewQ []) kH.says PySem.Challenge.rw_ph0158_01.row.toRowW (recOf (stAt 20)) [] fun f vs => PySem.call f vs) : PySem.Challenge.rw_ph0158_01.Holds := by
  w_on
  refine holds_law ws fun said => ?_
  refine PySem.W.holds_open (q := viewQ) (loose := [Str.ofString "Whitespace"]) (Xt := fun s => xlAt viewQ [] s && recOk (RowW.records PySem.Challenge.rw_ph0158_01.row.toRowW) s) (XP := XL viewQ []) (Yf := Hook.obs kH) (Ya := Hook.val kH)
    (YP := Hook.says kH) (N := 2098) ?hl (Hook.of kH) (Hook.keeps kH) (fun s e => xl_of s (Bool.and_eq_true_iff.mp e).1) XL.keeps (d := recOf (stAt 20)) (kwd := []) (by kernel_rfl) (by kernel_rfl) (by kernel_rfl)
    (fun s e => recFacts_of (Bool.and_eq_true_iff.mp e).2) rfl said (by decide +kernel) ⟨rfl, rfl, rfl, rfl, rfl, by decide +kernel⟩ ?hw h
  case hw => w_witness2
  case hl =>
    refine LeftO.of_split "special-get-raises" ?_
    intro w
    kernel_rfl
end Mine
end

section
open PySem PySem.W PyProof.Rows
set_option tactic.hygienic false
namespace Mine
noncomputable def fnOf (s : Stmt) : Fn := { params := (dArgs s).args.map (·.arg), body := dBody s, names := (dScope s).names }
noncomputable def defsL : List (String × Stmt × Addr) :=
  [("_ellipsis_match", stAt 3, 28), ("func_std_string", stAt 5, 35), ("add_func_stats", stAt 6, 42), ("add_callers", stAt 7, 49), ("_law_choose", stAt 11, 122), ("_law_taken", stAt 12, 127), ("_law_step", stAt 13, 134), ("_law_due", stAt 14, 139),
   ("_law_entry", stAt 15, 146), ("_law_sum", stAt 16, 151), ("_law_lead", stAt 17, 156), ("_law_back", stAt 18, 161), ("_law_other", stAt 19, 168), ("law", stAt 20, 173)]
noncomputable def methsL : List (String × Stmt × Addr × Addr) := [("Whitespace.__init__", mAt 1, 66, 65), ("Whitespace.indent_level", mAt 3, 80, 79), ("Whitespace.equal", mAt 4, 87, 86)]
noncomputable def allL : List (String × Stmt × Addr) := methsL.map (fun e => (e.1, e.2.1, e.2.2.1)) ++ defsL
noncomputable def tab0 : List (Str × Fn) := allL.map fun e => (Str.ofString e.1, fnOf e.2.1)
noncomputable def fv0 : Str → Option Addr := lkp ((Str.ofString "Whitespace", 111) :: allL.map fun e => (Str.ofString e.1, e.2.2))
noncomputable def mgF (x : Str) : Option Value := (mainE.find? fun e => Str.ofString e.1 == x).map (·.2.2)
noncomputable def mnF (x : Str) : Option Value := (clsE.find? fun e => Str.ofString e.1 == x).map (·.2.2)
noncomputable def defOk (e : String × Stmt × Addr) : Bool := (dScope e.2.1).kind == .function && !(dScope e.2.1).isGenerator && !(dScope e.2.1).isCoroutine && fnNamesOk (fnOf e.2.1) && (dArgs e.2.1).posonlyargs.isEmpty && (dArgs e.2.1).kwonlyargs.isEmpty && (dArgs e.2.1).vararg.isNone && (dArgs e.2.1).kwarg.isNone &&
  Str.ofString e.1 != Str.ofString "Whitespace" && fv0 (Str.ofString e.1) == some e.2.2
theorem defs_ok : allL.all defOk = true := by decide +kernel
theorem defs_nm : (defsL.all fun e => dName e.2.1 == Str.ofString e.1 && (mgF (Str.ofString e.1) == some (.ref e.2.2))) = true := by decide +kernel
theorem recs_ok : (defsL.map fun e => recOf e.2.1) = ([1, 2, 3, 4, 5, 6, 7, 8, 9, 10, 11, 12, 13, 14].map fun i => (recsOf viewQ)[i]?.getD (recOf (stAt 0))) := by kernel_rfl
theorem recs_len : (recsOf viewQ).length = 15 := by kernel_rfl
theorem recs_mem {e : String × Stmt × Addr} (h : e ∈ defsL) : recOf e.2.1 ∈ recsOf viewQ := by
  have h1 : recOf e.2.1 ∈ defsL.map fun e => recOf e.2.1 := List.mem_map.mpr ⟨e, h, rfl⟩
  rw [recs_ok] at h1
  (refine xe1_2 (List.mem_map.mp h1) ?_; intro i hi e1)
  have hlt : i < (recsOf viewQ).length := by
    rw [recs_len]; exact (show ∀ i ∈ [1, 2, 3, 4, 5, 6, 7, 8, 9, 10, 11, 12, 13, 14], i < 15 by decide) i hi
  rw [List.getElem?_eq_getElem hlt, Option.getD_some] at e1
  rw [← e1]; exact List.getElem_mem hlt
noncomputable def Binds (s : Stmt) : Prop := ∀ (fd : FuncData), fd.params = dArgs s → fd.defaults = .none → fd.kwdefaults = .none → ∀ vals : List Value, vals.length = (fnOf s).params.length → bindArgs fd ⟨vals, []⟩ = pure ((fnOf s).params.zip vals)
theorem list_of {l : List Value} {n : Nat} (h : l.length = n) : l = (List.range n).map fun i => (l[i]?).getD .none := by
  refine List.ext_getElem? fun i => ?_
  rw [List.getElem?_map]
  by_cases q : i < n
  · have hz : i < l.length := by rw [h]; exact q
    rw [List.getElem?_range q, List.getElem?_eq_getElem hz]; exact congrArg some (congrArg (·.getD .none) (List.getElem?_eq_getElem hz)).symm
  · rw [List.getElem?_eq_none (by rw [h]; exact Nat.le_of_not_lt q), List.getElem?_eq_none (by rw [List.length_range]; exact Nat.le_of_not_lt q)]; rfl
theorem fd_norm {fd : FuncData} {a : Arguments} (h1 : fd.params = a) (h2 : fd.defaults = .none) (h3 : fd.kwdefaults = .none) : fd = { fd with params := a, defaults := .none, kwdefaults := .none } := by
  cases fd; cases h1; cases h2; cases h3; rfl
theorem bind_init : Binds (mAt 1) := by
  intro fd h1 h2 h3 vals hl
  rw [fd_norm h1 h2 h3, list_of hl]
  kernel_rfl
theorem bind_indent : Binds (mAt 3) := by
  intro fd h1 h2 h3 vals hl
  rw [fd_norm h1 h2 h3, list_of hl]
  kernel_rfl
theorem bind_equal : Binds (mAt 4) := by
  intro fd h1 h2 h3 vals hl
  rw [fd_norm h1 h2 h3, list_of hl]
  kernel_rfl
theorem bind_ellipsis_match : Binds (stAt 3) := by
  intro fd h1 h2 h3 vals hl
  rw [fd_norm h1 h2 h3, list_of hl]
  kernel_rfl
theorem bind_func_std_string : Binds (stAt 5) := by
  intro fd h1 h2 h3 vals hl
  rw [fd_norm h1 h2 h3, list_of hl]
  kernel_rfl
theorem bind_add_func_stats : Binds (stAt 6) := by
  intro fd h1 h2 h3 vals hl
  rw [fd_norm h1 h2 h3, list_of hl]
  kernel_rfl
theorem bind_add_callers : Binds (stAt 7) := by
  intro fd h1 h2 h3 vals hl
  rw [fd_norm h1 h2 h3, list_of hl]
  kernel_rfl
theorem bind_law_choose : Binds (stAt 11) := by
  intro fd h1 h2 h3 vals hl
  rw [fd_norm h1 h2 h3, list_of hl]
  kernel_rfl
theorem bind_law_taken : Binds (stAt 12) := by
  intro fd h1 h2 h3 vals hl
  rw [fd_norm h1 h2 h3, list_of hl]
  kernel_rfl
theorem bind_law_step : Binds (stAt 13) := by
  intro fd h1 h2 h3 vals hl
  rw [fd_norm h1 h2 h3, list_of hl]
  kernel_rfl
theorem bind_law_due : Binds (stAt 14) := by
  intro fd h1 h2 h3 vals hl
  rw [fd_norm h1 h2 h3, list_of hl]
  kernel_rfl
theorem bind_law_entry : Binds (stAt 15) := by
  intro fd h1 h2 h3 vals hl
  rw [fd_norm h1 h2 h3, list_of hl]
  kernel_rfl
theorem bind_law_sum : Binds (stAt 16) := by
  intro fd h1 h2 h3 vals hl
  rw [fd_norm h1 h2 h3, list_of hl]
  kernel_rfl
theorem bind_law_lead : Binds (stAt 17) := by
  intro fd h1 h2 h3 vals hl
  rw [fd_norm h1 h2 h3, list_of hl]
  kernel_rfl
theorem bind_law_back : Binds (stAt 18) := by
  intro fd h1 h2 h3 vals hl
  rw [fd_norm h1 h2 h3, list_of hl]
  kernel_rfl
theorem bind_law_other : Binds (stAt 19) := by
  intro fd h1 h2 h3 vals hl
  rw [fd_norm h1 h2 h3, list_of hl]
  kernel_rfl
theorem bind_law : Binds (stAt 20) := by
  intro fd h1 h2 h3 vals hl
  rw [fd_norm h1 h2 h3, list_of hl]
  kernel_rfl
section
variable {prog : Program} {w : World} {h : Heap} {loose : List Str} {mean : ExcName → Option Value} {mg mb : Str → Option Value}
theorem lkp_in {α : Type} : ∀ {l : List (Str × α)} {x : Str} {v : α}, lkp l x = some v → (x, v) ∈ l
  | [], _, _, h => by cases h
  | (y, u) :: r, x, v, h => by
    unfold lkp at h
    by_cases e : x = y
    · rw [if_pos e] at h; cases h; rw [e]; exact List.mem_cons_self
    · rw [if_neg e] at h; exact List.mem_cons_of_mem _ (lkp_in h)
theorem ent_find (P : Params) (x : Str) : ∀ (l : List (String × Nat × Value)), nsFind (l.map (entO P)).toArray x = (l.find? fun e => Str.ofString e.1 == x).map (·.2.2) := by
  intro l
  unfold nsFind findBy
  rw [List.find?_toArray, List.find?_map]
  cases q : l.find? fun e => Str.ofString e.1 == x with
  | none =>
    have : l.find? ((fun e : DictEntry => e.key.isStr x) ∘ entO P) = none := q
    rw [this]; rfl
  | some e =>
    have : l.find? ((fun e : DictEntry => e.key.isStr x) ∘ entO P) = some e := q
    rw [this]; rfl
theorem ent_keys (P : Params) (l : List (String × Nat × Value)) : StrKeys (l.map (entO P)).toArray := fun e he => by
  (refine xe1_2 (List.mem_map.mp (List.mem_toArray.mp he)) ?_; intro x _ hq2; rcases hq2 with rfl)
  exact ⟨_, _, rfl⟩
theorem boot_ok : (bks.all fun k => decide (mgF (bname k) = none) && decide (bname k ≠ Str.ofString "__name__") && decide (bootBuiltins (bname k) = some (bval k))) = true := by decide +kernel
theorem cls_ok : (decide (mnF (Str.ofString "__getattribute__") = none) && decide (mnF (Str.ofString "__getattr__") = none) && decide (mnF (Str.ofString "__setattr__") = none) && instNames.all (fun a => decide (mnF a = none)) && decide (mnF (Str.ofString "__init__") = some (.ref 66)) &&
  decide (mnF (Str.ofString "indent_level") = some (.ref 80)) && decide (mnF (Str.ofString "equal") = some (.ref 87))) = true := by decide +kernel
theorem glob_ok : (((Str.ofString "Whitespace", 111) :: allL.map fun e => (Str.ofString e.1, e.2.2)).all fun p => methFns.contains p.1 || decide (mgF p.1 = some (.ref p.2))) = true := by decide +kernel
theorem mk_fn {B : Heap} {s : Stmt} {a : Addr} {o : Obj} {fd : FuncData} {gen : Bool} {nm : String} (hB : B.get? a = some o) (hd : o.data = .func fd) (h1 : fd.params = dArgs s) (h2 : fd.body = .stmts (dBody s)) (h3 : fd.scope = dScope s) (h4 : fd.globals = mainGlobals) (h5 : fd.builtins = builtinsNs)
    (h6 : fd.closure = []) (h7 : fd.defaults = .none) (h8 : fd.kwdefaults = .none) (hc : B.CodeRec fd.code fd.qualname) (hk : defOk (nm, s, a) = true) (hb : Binds s) (hg : gen = true → fd.code = .ref 48) : FnOk B a (fnOf s) gen := by
  unfold defOk at hk
  simp only [Bool.and_eq_true, beq_iff_eq, Bool.not_eq_true'] at hk
  (refine xe0_2 hk ?_; (try clear hk); intro hq0; refine xe0_2 hq0 ?_; (try clear hq0); intro hq0; refine xe0_2 hq0 ?_; (try clear hq0); intro hq0; refine xe0_2 hq0 ?_; (try clear hq0); intro hq0; refine xe0_2 hq0 ?_; (try clear hq0); intro hq0; refine xe0_2 hq0 ?_; (try clear hq0); intro hq0; refine xe0_2 hq0 ?_; (try clear hq0); intro hq0; refine xe0_2 hq0 ?_; (try clear hq0); intro hq0; refine xe0_2 hq0 ?_; (try clear hq0); intro k1 k2; intro k3; intro k4; intro _; intro _; intro _; intro _; intro _; intro _)
  exact ⟨⟨o, fd, hB, hd, h2, h4, h5, h6, by rw [h3]; rfl, by rw [h3]; exact k1, by rw [h3]; exact k2, by rw [h3]; exact k3, hc, hg, fun vals hl => hb fd h1 h7 h8 vals hl⟩, k4⟩
theorem binds_all : ∀ e ∈ defsL, Binds e.2.1 := List.forall_mem_cons.mpr ⟨bind_ellipsis_match, List.forall_mem_cons.mpr ⟨bind_func_std_string, List.forall_mem_cons.mpr ⟨bind_add_func_stats, List.forall_mem_cons.mpr ⟨bind_add_callers, List.forall_mem_cons.mpr ⟨bind_law_choose, List.forall_mem_cons.mpr ⟨bind_law_taken, List.forall_mem_cons.mpr ⟨bind_law_step, List.forall_mem_cons.mpr ⟨bind_law_due, List.forall_mem_cons.mpr ⟨bind_law_entry, List.forall_mem_cons.mpr ⟨bind_law_sum, List.forall_mem_cons.mpr ⟨bind_law_lead, List.forall_mem_cons.mpr ⟨bind_law_back, List.forall_mem_cons.mpr ⟨bind_law_other, List.forall_mem_cons.mpr ⟨bind_law, fun _ h => nomatch h⟩⟩⟩⟩⟩⟩⟩⟩⟩⟩⟩⟩⟩⟩
theorem cls_facts : mnF (Str.ofString "__getattribute__") = none ∧ mnF (Str.ofString "__getattr__") = none ∧ mnF (Str.ofString "__setattr__") = none ∧ (∀ a ∈ instNames, mnF a = none) ∧ mnF (Str.ofString "__init__") = some (.ref 66) ∧ mnF (Str.ofString "indent_level") = some (.ref 80) ∧ mnF (Str.ofString "equal") = some (.ref 87) := by
  have h := cls_ok
  simp only [Bool.and_eq_true, decide_eq_true_eq, List.all_eq_true] at h
  exact ⟨h.1.1.1.1.1.1, h.1.1.1.1.1.2, h.1.1.1.1.2, h.1.1.1.2, h.1.1.2, h.1.2, h.2⟩
theorem boot_facts (k : BK) : mgF (bname k) = none ∧ bname k ≠ Str.ofString "__name__" ∧ bootBuiltins (bname k) = some (bval k) := by
  have h := List.all_eq_true.mp boot_ok k (by cases k <;> decide)
  simp only [Bool.and_eq_true, decide_eq_true_eq] at h
  exact ⟨h.1.1, h.1.2, h.2⟩
theorem name_facts : ∀ e ∈ defsL, dName e.2.1 = Str.ofString e.1 ∧ mgF (Str.ofString e.1) = some (.ref e.2.2) := fun e he => by
  have h := List.all_eq_true.mp defs_nm e he
  simp only [Bool.and_eq_true, beq_iff_eq] at h
  exact h
theorem def_facts {e : String × Stmt × Addr} (h : defOk e = true) : Str.ofString e.1 ≠ Str.ofString "Whitespace" ∧ fv0 (Str.ofString e.1) = some e.2.2 := by
  unfold defOk at h
  simp only [Bool.and_eq_true, beq_iff_eq, bne_iff_ne] at h
  exact ⟨h.1.2, h.2⟩
theorem glob_facts {f : Str} {a : Addr} (h : fv0 f = some a) : methFns.contains f = true ∨ mgF f = some (.ref a) := by
  have h := List.all_eq_true.mp glob_ok (f, a) (lkp_in h)
  simp only [Bool.or_eq_true, decide_eq_true_eq] at h
  exact h
theorem base_of (T : Top viewQ loose mean mg mb h) (KX : (kPart w.params).In h) : Base prog w (h.hide 44) 111 tab0 fv0 mg mb ∧ h.get? 44 = some (tabO #[]) := by
  have hmg : ∀ x, mg x = mgF x := fun x => by
    (refine xe3_4 T.g ?_; intro o es ep ho hd _ hf)
    have := KX 3 _ (by rfl)
    rw [show h.get? mainGlobals = h.get? 3 from rfl, this] at ho
    cases ho; cases hd
    rw [← hf x, ent_find]; rfl
  obtain ⟨c1, c2, c3⟩ : CodeHd h 48 44 ∧ h.get? 44 = some (tabO #[]) ∧ ∀ b o, h.get? b = some o → b = 44 → o = tabO #[] := by
    (refine xe5_3 (T.tab (recOf (stAt 7)) (recs_mem (e := ("add_callers", stAt 7, 49)) (List.mem_of_getElem? (i := 3) rfl))) ?_; intro a o fd c P t1 t2 hqr; refine xe0_4 hqr ?_; (try clear hqr); intro t3 t4 t5 t6)
    rw [hmg, show mgF (recOf (stAt 7)).name = some (.ref 49) from by kernel_rfl] at t1
    cases t1
    rw [KX 49 _ (by rfl)] at t2
    cases t2; cases t3; cases t4
    have hc := CodeHd.of t5 t6
    (refine xe0_2 t6 ?_; (try clear t6); intro hq0; refine xe2_4 hq0 ?_; (try clear hq0); intro oc vs q1 q2 q3 q4; intro q5)
    rw [KX 48 _ (by rfl)] at q1
    cases q1; cases q3; cases q4
    exact ⟨hc, q5, fun b o e q => by rw [q, q5] at e; cases e; rfl⟩
  have keep : ∀ b o, h.get? b = some o → o ≠ tabO #[] → (h.hide 44).get? b = some o := fun b o e hn => (Heap.hide_ne h fun q => hn (c3 b o e q)).trans e
  have keep' : ∀ b o, b ≠ 44 → h.get? b = some o → (h.hide 44).get? b = some o := fun b o hb e => (Heap.hide_ne h hb).trans e
  have keepK : ∀ a o, (kPart w.params).lookup a = some o → (h.hide 44).get? a = some o := fun a o e => keep' a o (fun q => by
    have e0 : (kPart w.params).lookup 44 = none := by kernel_rfl
    rw [q, e0] at e; cases e) (KX a o e)
  have hg : (h.hide 44).Ns mainGlobals mg := T.g.at' fun o e => keep' _ o (by decide) e
  have hrec : ∀ {cd : Value} {q : Str}, h.CodeRec cd q → (h.hide 44).CodeRec cd q := fun ⟨c, o, vs, t, e, g, d, r⟩ =>
    ⟨c, o, vs, t, e, keep c o g (fun z => by rw [z] at d; cases d; cases r), d, r⟩
  have dok : ∀ e ∈ allL, defOk e = true := fun e he => List.all_eq_true.mp defs_ok e he
  refine ⟨⟨hg, T.b.at' fun o e => keep' _ o (by decide) e, T.nolimit.extBut (a := 44) (fun b o hb e => keep' b o hb e) (by decide), fun k => ?_, ⟨196, by rw [hmg]; kernel_rfl⟩, ⟨?_, ?_⟩, by rw [hmg]; kernel_rfl, by kernel_rfl, ?_, fun f a hf hm => ?_, ?_, ?_⟩, c2⟩
  · exact ⟨(hmg _).trans (boot_facts k).1, (T.builtins _ (boot_facts k).2.1).trans (boot_facts k).2.2⟩
  · refine ⟨110, mnF, ⟨⟨_, _, _, _, _, _, _, _, _, _, _, _, keepK 111 _ (by rfl)⟩, ?_⟩, cls_facts.1, cls_facts.2.1, cls_facts.2.2.1, fun a ha => cls_facts.2.2.2.1 a (by simpa using ha), ⟨66, _, by kernel_rfl, cls_facts.2.2.2.2.1, keepK 66 _ (by rfl), rfl⟩, fun m f hf => ?_⟩
    · exact ⟨_, _, _, keepK 110 _ (by rfl), rfl, ent_keys _ _, fun x => ent_find _ x _⟩
    · unfold methName at hf
      split at hf
      · rename_i e; cases hf; subst e
        exact ⟨80, _, _, by kernel_rfl, cls_facts.2.2.2.2.2.1, keepK 80 _ (by rfl), rfl, rfl⟩
      · split at hf
        · rename_i e; cases hf; subst e
          exact ⟨87, _, _, by kernel_rfl, cls_facts.2.2.2.2.2.2, keepK 87 _ (by rfl), rfl, rfl⟩
        · cases hf
  · intro a d hd A E Q s expr hk hQ
    have X : (kPart w.params).In s.heap := fun a o e => hk a o (keepK a o e)
    unfold classAttr at hd
    rw [if_pos rfl] at hd
    split at hd
    · rename_i e; cases hd; subst e
      exact cls_value (mc := .type "type") X (by kernel_rfl) (by kernel_rfl) rfl (hQ (.str (Str.ofString " ") 264) _ fun F => .str _ _)
    · split at hd
      · rename_i e; cases hd; subst e
        exact cls_value (mc := .type "type") X (by kernel_rfl) (by kernel_rfl) rfl (hQ (.str (Str.ofString "\t") 265) _ fun F => .str _ _)
      · cases hd
  · intro f g hfg
    (refine xe1_2 (List.mem_map.mp (lkp_in hfg)) ?_; intro e he h1)
    cases h1
    have hk := dok e he
    have hk' := def_facts hk
    refine ⟨hk'.1, e.2.2, hk'.2, ?_⟩
    rcases List.mem_append.mp he with he | he
    · (refine xe1_2 (List.mem_map.mp he) ?_; intro x hx hq2; rcases hq2 with rfl)
      simp only [methsL, List.mem_cons, List.not_mem_nil, or_false] at hx
      rcases hx with rfl | rfl | rfl
      · exact mk_fn (keepK 66 _ (by rfl)) rfl rfl rfl rfl rfl rfl rfl rfl rfl (hrec ⟨65, _, _, 269, rfl, KX 65 _ (by rfl), rfl, by kernel_rfl⟩) hk bind_init (fun q => by revert q; decide +kernel)
      · exact mk_fn (keepK 80 _ (by rfl)) rfl rfl rfl rfl rfl rfl rfl rfl rfl (hrec ⟨79, _, _, 291, rfl, KX 79 _ (by rfl), rfl, by kernel_rfl⟩) hk bind_indent (fun q => by revert q; decide +kernel)
      · exact mk_fn (keepK 87 _ (by rfl)) rfl rfl rfl rfl rfl rfl rfl rfl rfl (hrec ⟨86, _, _, 303, rfl, KX 86 _ (by rfl), rfl, by kernel_rfl⟩) hk bind_equal (fun q => by revert q; decide +kernel)
    · (refine xe5_3 (T.fn _ (recs_mem he)) ?_; intro a o pm code doc t1 t2 hqr; refine xe0_2 hqr ?_; (try clear hqr); intro t3 t4)
      have hn := name_facts e he
      have hname : (recOf e.2.1).name = Str.ofString e.1 := hn.1
      rw [hname, hmg, hn.2] at t1
      cases t1
      refine mk_fn (keep _ _ t2 fun z => by rw [z] at t3; cases t3) t3 rfl rfl rfl rfl rfl rfl rfl rfl (hrec t4) hk (binds_all e he) fun q => ?_
      have q' : Str.ofString e.1 = Str.ofString "add_callers" := by simpa using q
      have e49 : e.2.2 = 49 := by
        have := hk'.2
        rw [q', show fv0 (Str.ofString "add_callers") = some 49 from by kernel_rfl] at this
        exact (Option.some.inj this).symm
      rw [e49, KX 49 _ (by rfl)] at t2
      cases t2
      exact (congrArg FuncData.code (Data.func.inj t3)).symm
  · rcases glob_facts hf with q | q
    · rw [hm] at q; exact nob1 q
    · exact (hmg _).trans q
  · (refine xe7_1 c1 ?_; (try clear c1); intro o vs file tf flags tg inF hqr; refine xe2_2 hqr ?_; (try clear hqr); intro text tt e r)
    exact ⟨o, vs, file, tf, flags, tg, inF, text, tt, keep' 48 o (by decide) e, r⟩
  · (refine xe2_6 T.bmain ?_; intro bm ob b1 b2 b3 b4 b5 b6)
    exact ⟨bm, ob, hg, b1, b2, keep bm ob b3 (fun z => by rw [z] at b4; cases b4), b4, b5, b6⟩
end
end Mine
end

section
open PySem PySem.W PyProof.Rows
namespace Mine
theorem law_run {prog : Program} {w : World} {loose : List Str} {mean : ExcName → Option Value} {mg mb : Str → Option Value} {s₁ : Shared} {fa l : Addr} {vs : List Value} {ns : List Int} {fuel k : Nat} (hk : k ≤ 20) (T : Top viewQ loose mean mg mb s₁.heap) (KX : (kPart w.params).In s₁.heap)
    (hmg : mg (Str.ofString "law") = some (.ref fa)) (hg : s₁.gens = #[]) (hL : s₁.heap.IsList l vs.toArray) (hI : IntsAre vs ns) (law : callD tab0 fuel k (Str.ofString "law") [.lsw (ns.map .int)] = some (.bool true))
    {Q : Value → Shared → Prop} {E : Value → Shared → Prop} (hQ : ∀ s', OldK s₁.heap s'.heap → s'.os = s₁.os → AllBare s'.gens → Q (.bool true) s') : wpAny (model prog w) callerA (PySem.call (.ref fa) [.ref l]) Q E s₁ := by
  (refine xe0_2 (base_of (prog := prog) T KX) ?_; intro base h44)
  have sn := snd_all base (gen_pair base)
  (refine xe1_3 (calls_ok base sn fuel k _ _ _ law) ?_; intro a ha _ hcall)
  have hfa := base.glob _ a ha (by decide +kernel)
  rw [hmg] at hfa
  cases hfa
  let F : FH := fun b => if b = PT then some dumO else (s₁.heap.hide 44).get? b
  have hF : ∀ b o, (s₁.heap.hide 44).get? b = some o → F b = some o := fun b o e => by
    have hb : b ≠ PT := fun q => by rw [q, show PT = 44 from rfl, Heap.hide_self] at e; cases e
    show (if b = PT then _ else _) = _
    rw [if_neg hb]; exact e
  have ok : Ok (s₁.heap.hide 44) F s₁ := by
    refine ⟨hF, fun b o e hb => ?_, .of_eq hg, if_pos rfl, Heap.hide_self _ _, ⟨#[], h44, trivial⟩⟩
    have e' : (if b = PT then some dumO else (s₁.heap.hide 44).get? b) = some o := e
    rw [if_neg hb] at e'
    exact Heap.of_hide e'
  obtain ⟨o, ho, hc, n, hd⟩ := hL
  have hrep : Rep prog w 111 F (.lsw (ns.map .int)) (.ref l) := by
    refine .lsw (hF l o ((Heap.hide_ne _ fun q => ?_).trans ho)) hc hd (ints_reps hI)
    rw [q, h44] at ho; cases ho; cases hc
  have hd1 : callerA.depth ≤ 600 := by decide +kernel
  have hd2 : callerA.units ≤ 100 := by decide +kernel
  have hroom : Room callerA k := ⟨rfl, by omega, by omega⟩
  refine hcall callerA F s₁ [.ref l] hroom ok (.cons hrep .nil) E Q fun v F' s' t ok' r => ?_
  cases r
  refine hQ s' ?_ t.os ok'.bare
  have hx : Heap.ExtBut 44 s₁.heap s'.heap := fun b o hb e => ok'.keep b o ((Heap.hide_ne _ hb).trans e)
  (refine xe1_2 ok'.tab ?_; intro ps' hp' ht')
  have hcd := base.code.keeps (h' := s₁.heap) fun b o e => Heap.of_hide e
  refine OldK.step_table (OldK.refl _) (hcd.tab h44) (hcd.tab h44) (more := ps') ?_ hx (by decide)
  rw [Array.empty_append]
  exact (base.code.keeps ok'.keep).tab hp'
theorem holds_of {fuel k : Nat} (hk : k ≤ 20) (law : ∀ ns : List Int, ns.length ≤ 63 → callD tab0 fuel k (Str.ofString "law") [.lsw (ns.map .int)] = some (.bool true)) : PySem.Challenge.rw_ph0158_01.Holds := by
  refine head0 ?_
  intro w s₀ s₁ mg mb G Y fa o pm cd doc dV kV ho hd hcd hD hmg hg args vals as hpre hlay hrd hwl hlo
  have KX : (kPart w.params).In s₁.heap := kIn_of Y
  refine Ground.open G ?_
  intro T B D TE TW
  clear hd hcd hD ho
  wrow_args hpre hlay hrd hwl hlo
  rename_i ns _ _ _ _ _ _ _ l vs _ hL _ _ _ hI _ hlen _
  exact law_run hk T KX hmg hg hL hI (law ns (by omega)) fun s' h1 h2 h3 => ⟨.inl ⟨_, _, _, rfl, fun _ => rfl, .bool true, by kernel_rfl, fun _ => ⟨List.nodup_nil, fun _ h => nomatch h⟩⟩, h1, h2, h3⟩
end Mine
end

section
open PySem PySem.W PyProof.Rows
set_option tactic.hygienic false
namespace Mine
noncomputable def Y {α : Type} (o : Option α) (K : α → Prop) : Prop := match o with
  | some a => K a
  | none => False
theorem Y.ex {α : Type} {o : Option α} {K : α → Prop} (h : Y o K) : ∃ a, o = some a ∧ K a := by
  cases o with
  | none => exact h.elim
  | some a => exact ⟨a, rfl, h⟩
theorem Y.of {α : Type} {o : Option α} {a : α} {K : α → Prop} (e : o = some a) (h : K a) : Y o K := by rw [e]; exact h
theorem Y.mono {α : Type} {o : Option α} {K K' : α → Prop} (h : Y o K) (m : ∀ a, K a → K' a) : Y o K' := let ⟨a, e, k⟩ := h.ex; .of e (m a k)
theorem Y.bind {α β : Type} {o : Option α} {f : α → Option β} {K : β → Prop} (h : Y o fun a => Y (f a) K) : Y (o.bind f) K := by
  (refine xe1_2 h.ex ?_; intro a e k); rw [e]; exact k
theorem Y.map {α β : Type} {o : Option α} {f : α → β} {K : β → Prop} (h : Y o fun a => K (f a)) : Y (o.map f) K := by
  (refine xe1_2 h.ex ?_; intro a e k); rw [e]; exact k
theorem Y.ite {α : Type} {p : Prop} [Decidable p] {a b : Option α} {K : α → Prop} (hp : p) (h : Y a K) : Y (if p then a else b) K := by rw [if_pos hp]; exact h
noncomputable def If (b : Bool) (P Q : Prop) : Prop := match b with
  | true => P
  | false => Q
theorem If.mk {b : Bool} {P Q : Prop} (h1 : b = true → P) (h2 : b = false → Q) : If b P Q := by cases b; exact h2 rfl; exact h1 rfl
noncomputable def Cd (b : Bool) (P : Prop) : Prop := match b with
  | true => P
  | false => False
theorem Cd.l {p : Prop} [Decidable p] {P : Prop} (h : Cd (decide p) P) : p := by
  by_cases q : p
  · exact q
  · rw [decide_eq_false q] at h; exact h.elim
theorem Cd.b {b : Bool} {P : Prop} (h : Cd b P) : b = true := by cases b; exact h.elim; rfl
theorem Cd.r {b : Bool} {P : Prop} (h : Cd b P) : P := by cases b; exact h.elim; exact h
theorem Cd.mk {b : Bool} {P : Prop} (hb : b = true) (h : P) : Cd b P := by rw [hb]; exact h
section
variable (c : Cx) (WE WP : Expr → (D → Prop) → Prop) (WL : List Expr → (List D → Prop) → Prop)
noncomputable def wCallN (f : Str) (args : List Expr) (K : D → Prop) : Prop :=
  match bk f with
  | some k => if k = .isi then Y (vTwo args) fun (a, t) => Cd (decide (vName t = some (Str.ofString "tuple") ∧ isGlob c.names (Str.ofString "tuple") = true)) (WE a fun x => Y (isTupD x) fun b => K (.bool b))
    else if k = .len then Y (vOne args) fun a => WP a fun x => Y (lenD x) K
    else match (vOne args).bind vGen with
      | some g => Cd (decide (k = .tuple ∧ isGlob c.names (Str.ofString "zip") = true ∧ c.gen = true ∧ genOk g.i g.j g.sc = true)) (WE g.a fun x => WE g.b fun y => Y (addPairs x y) K)
      | none => WL args fun ds => Y (builtK k ds) K
  | none => Cd (decide (methFns.contains f = false)) (WL args fun ds => Y (c.call f ds) K)
noncomputable def wCallE (f : Expr) (args : List Expr) (p : Pos) (K : D → Prop) : Prop :=
  match vName f with
  | some x => Cd (decide (isGlob c.names x = true)) (wCallN c WE WP WL x args K)
  | none => Y (vAttr f) fun (o, m, ap) => Cd (decide (plainBase o = true ∧ (ap.endLine == p.line) = true ∧ args.length < 20)) (WE o fun x => WL args fun ds => Y (callM c m x ds) K)
end
noncomputable def wGather (f : D → (List D → Prop) → Prop) : List D → (List D → Prop) → Prop
  | [], K => K []
  | d :: r, K => f d fun a => wGather f r fun b => K (a ++ b)
mutual
noncomputable def wE : Nat → Cx → Sc → Expr → (D → Prop) → Prop
  | 0, _, _, _, _ => False
  | n + 1, c, ρ, e, K => match e with
    | .Constant k _ _ => Y (constD k) K
    | .Name x _ => Y (nameD c ρ x) K
    | .BinOp a op b _ => match vMulList a op with
      | some elts => wL n c ρ elts fun ds => wE n c ρ b fun x => Y (repD ds x) K
      | none => wE n c ρ a fun x => wE n c ρ b fun y => Y (binD op x y) K
    | .UnaryOp op a _ => Y (negD op a) K
    | .BoolOp op vs _ => wB n c ρ op vs K
    | .IfExp t a b _ => wT n c ρ t fun x => If x (wE n c ρ a K) (wE n c ρ b K)
    | .List elts _ => wL n c ρ elts fun ds => Cd (decide (ds.length ≤ 1000000)) (K (.lst ds))
    | .Tuple elts _ _ => wL n c ρ elts fun ds => Cd (decide (ds.length ≤ 1000000)) (K (.tup ds))
    | .Dict ks vs _ => Cd (decide (ks.isEmpty = true ∧ vs.isEmpty = true)) (K (.dct []))
    | .Compare l ops rs _ => Y (vOne ops) fun op => Y (vOne rs) fun r => wP n c ρ l fun x => wP n c ρ r fun y => Y (cmpD op x y) fun b => K (.bool b)
    | .Call f args ks p => Cd (decide (ks.isEmpty = true)) (wCallE c (wE n c ρ) (wP n c ρ) (wL n c ρ) f args p K)
    | .Subscript v i _ => match vSlice i with
      | some (lo, hi, st) => wE n c ρ v fun x => wO n c ρ lo fun l => wO n c ρ hi fun h => wO n c ρ st fun s => Y (sliceD x l h s) K
      | none => wP n c ρ v fun x => wE n c ρ i fun y => Y (subD x y) K
    | .Attribute o a _ => Y (attrD c ρ o a) K
    | .ListComp elt gens s _ => match gens with
      | [] => False
      | ⟨t, it, ifs, as⟩ :: rest => Cd (decide (compOk c s = true ∧ as = 0)) (wI n c ρ it fun ds => wGather (fun d => wC n (c.inner s) (dropL s ρ) elt t ifs rest d) ds fun out => Cd (decide (out.length ≤ 1000000)) (K (.lst out)))
    | _ => False
noncomputable def wC : Nat → Cx → Sc → Expr → Expr → List Expr → List Comprehension → D → (List D → Prop) → Prop
  | 0, _, _, _, _, _, _, _, _ => False
  | n + 1, c, ρ, elt, t, ifs, rest, d, K => Y (vName t) fun x => Cd (decide (c.names.lookup x = some .local ∧ (lkp ρ x).isNone = true)) (
      wQ n c (upd ρ x (.fr d)) ifs fun b => If b (match rest with
        | [] => wE n c (upd ρ x (.fr d)) elt fun y => K [y]
        | g :: r => Y (vClause (g :: r)) fun (t2, it2) => wI n c (upd ρ x (.fr d)) it2 fun ds => wGather (fun d2 => wC n c (upd ρ x (.fr d)) elt t2 [] [] d2) ds K)
        (K []))
noncomputable def wQ : Nat → Cx → Sc → List Expr → (Bool → Prop) → Prop
  | 0, _, _, _, _ => False
  | n + 1, c, ρ, l, K => match l with
    | [] => K true
    | e :: r => Cd r.isEmpty (wT n c ρ e K)
noncomputable def wP : Nat → Cx → Sc → Expr → (D → Prop) → Prop
  | 0, _, _, _, _ => False
  | n + 1, c, ρ, e, K => match vName e with
    | some x => Y (if isVar c.names x then (lkp ρ x).map slotD else if isGlob c.names x then globD x else none) K
    | none => wE n c ρ e K
noncomputable def wL : Nat → Cx → Sc → List Expr → (List D → Prop) → Prop
  | 0, _, _, _, _ => False
  | n + 1, c, ρ, l, K => match l with
    | [] => K []
    | e :: r => wE n c ρ e fun d => wL n c ρ r fun ds => K (d :: ds)
noncomputable def wO : Nat → Cx → Sc → Option Expr → (Option Int → Prop) → Prop
  | 0, _, _, _, _ => False
  | n + 1, c, ρ, x, K => match x with
    | none => K none
    | some e => wE n c ρ e fun d => Y (intOf d) fun i => K (some i)
noncomputable def wB : Nat → Cx → Sc → BoolOp → List Expr → (D → Prop) → Prop
  | 0, _, _, _, _, _ => False
  | n + 1, c, ρ, op, vs, K => match vs with
    | [] => False
    | e :: r => if r.isEmpty = true then wE n c ρ e K else wE n c ρ e fun d => Y (truthD d) fun b => If (b == (op == .Or)) (K d) (wB n c ρ op r K)
noncomputable def wT : Nat → Cx → Sc → Expr → (Bool → Prop) → Prop
  | 0, _, _, _, _ => False
  | n + 1, c, ρ, e, K => match e with
    | .BoolOp op vs _ => wTs n c ρ op vs K
    | .Compare l ops rs _ => Y (vOne ops) fun op => Y (vOne rs) fun r => wP n c ρ l fun x => wP n c ρ r fun y => Y (cmpD op x y) K
    | .IfExp .. => False
    | .UnaryOp .. => False
    | e => wE n c ρ e fun d => Y (truthD d) K
noncomputable def wTs : Nat → Cx → Sc → BoolOp → List Expr → (Bool → Prop) → Prop
  | 0, _, _, _, _, _ => False
  | n + 1, c, ρ, op, vs, K => match vs with
    | [] => K (op == .And)
    | e :: r => wT n c ρ e fun b => If (b == (op == .Or)) (K b) (wTs n c ρ op r K)
noncomputable def wI : Nat → Cx → Sc → Expr → (List D → Prop) → Prop
  | 0, _, _, _, _ => False
  | n + 1, c, ρ, e, K => match (vCall e).bind fun y => (vName y.1).map fun f => (f, y.2.1) with
    | some (f, args) => Cd (decide (f = Str.ofString "range" ∧ isGlob c.names f = true)) (wL n c ρ args fun ds => Y (rangeD ds) K)
    | none => wE n c ρ e fun d => Y (iterD d) K
end
theorem y_gather {f : D → Option (List D)} {g : D → (List D → Prop) → Prop} (hf : ∀ d K, g d K → Y (f d) K) : ∀ (l : List D) (K : List D → Prop), wGather g l K → Y (gatherD f l) K
  | [], K, h => h
  | d :: r, K, h => by
    (refine xe1_2 ((hf _ _ h).ex) ?_; intro a e1 h1)
    (refine xe1_2 ((y_gather hf r _ h1).ex) ?_; intro b e2 h2)
    unfold gatherD
    rw [e1, e2]; exact h2
end Mine
end

section
open PySem PySem.W PyProof.Rows
namespace Mine
structure WOk (n : Nat) : Prop where
  e : ∀ {c ρ e K}, wE n c ρ e K → Y (evE n c ρ e) K
  c : ∀ {c ρ elt t ifs rest d K}, wC n c ρ elt t ifs rest d K → Y (evC n c ρ elt t ifs rest d) K
  q : ∀ {c ρ l K}, wQ n c ρ l K → Y (evIfs n c ρ l) K
  p : ∀ {c ρ e K}, wP n c ρ e K → Y (evP n c ρ e) K
  l : ∀ {c ρ l K}, wL n c ρ l K → Y (evL n c ρ l) K
  o : ∀ {c ρ x K}, wO n c ρ x K → Y (evO n c ρ x) K
  b : ∀ {c ρ op vs K}, wB n c ρ op vs K → Y (evB n c ρ op vs) K
  t : ∀ {c ρ e K}, wT n c ρ e K → Y (evT n c ρ e) K
  ts : ∀ {c ρ op vs K}, wTs n c ρ op vs K → Y (evTs n c ρ op vs) K
  i : ∀ {c ρ e K}, wI n c ρ e K → Y (evI n c ρ e) K
theorem w_zero : WOk 0 := ⟨fun h => h.elim, fun h => h.elim, fun h => h.elim, fun h => h.elim, fun h => h.elim, fun h => h.elim, fun h => h.elim, fun h => h.elim, fun h => h.elim, fun h => h.elim⟩
section
variable {n : Nat} (ih : WOk n)
include ih
theorem w_callE {c : Cx} {ρ : Sc} {f : Expr} {args : List Expr} {p : Pos} {K : D → Prop} (h : wCallE c (wE n c ρ) (wP n c ρ) (wL n c ρ) f args p K) : Y (callE c (evE n c ρ) (evP n c ρ) (evL n c ρ) f args p) K := by
  unfold wCallE at h
  unfold callE
  cases qv : vName f with
  | none =>
    rw [qv] at h
    exact Y.bind (Y.mono h fun a q => Y.ite q.l (Y.bind ((ih.e q.r).mono fun x hx => Y.bind (ih.l hx))))
  | some x =>
    rw [qv] at h
    refine Y.ite h.l ?_
    replace h := h.r
    unfold wCallN at h
    unfold callN
    cases qb : bk x with
    | none =>
      rw [qb] at h
      dsimp only
      rw [if_neg (by rw [h.l]; exact Bool.false_ne_true)]
      exact Y.bind (ih.l h.r)
    | some k =>
      rw [qb] at h
      dsimp only at h ⊢
      by_cases e : k = .isi
      · rw [if_pos e] at h ⊢
        exact Y.bind (h.mono fun a q => Y.ite q.l (Y.bind ((ih.e q.r).mono fun x hx => Y.map hx)))
      · rw [if_neg e] at h ⊢
        by_cases e2 : k = .len
        · rw [if_pos e2] at h ⊢
          exact Y.bind (h.mono fun a ha => Y.bind (ih.p ha))
        · rw [if_neg e2] at h ⊢
          cases qg : (vOne args).bind vGen with
          | none => rw [qg] at h; exact Y.bind (ih.l h)
          | some g => rw [qg] at h; exact Y.ite h.l (Y.bind ((ih.e h.r).mono fun x hx => Y.bind (ih.e hx)))
theorem w_e {c : Cx} {ρ : Sc} {e : Expr} {K : D → Prop} (h : wE (n + 1) c ρ e K) : Y (evE (n + 1) c ρ e) K := by
  cases e
  case Constant => exact h
  case Name => exact h
  case UnaryOp => exact h
  case Attribute => exact h
  case BoolOp => exact ih.b h
  case BinOp a op b p =>
    replace h : (match vMulList a op with
      | some elts => wL n c ρ elts fun ds => wE n c ρ b fun x => Y (repD ds x) K
      | none => wE n c ρ a fun x => wE n c ρ b fun y => Y (binD op x y) K) := h
    show Y (match vMulList a op with
      | some elts => (evL n c ρ elts).bind fun ds => (evE n c ρ b).bind fun x => repD ds x
      | none => (evE n c ρ a).bind fun x => (evE n c ρ b).bind fun y => binD op x y) K
    cases q : vMulList a op with
    | some l => rw [q] at h; exact Y.bind ((ih.l h).mono fun x hx => Y.bind (ih.e hx))
    | none => rw [q] at h; exact Y.bind ((ih.e h).mono fun x hx => Y.bind (ih.e hx))
  case IfExp t a b p => exact Y.bind ((ih.t (show wT n c ρ t _ from h)).mono fun x hx => by cases x <;> exact ih.e hx)
  case List l p => exact Y.bind ((ih.l (show wL n c ρ l _ from h)).mono fun x hx => Y.ite hx.l hx.r)
  case Tuple l k p => exact Y.bind ((ih.l (show wL n c ρ l _ from h)).mono fun x hx => Y.ite hx.l hx.r)
  case Dict ks vs p => exact Y.ite (Cd.l h) (Cd.r h)
  case Compare l ops rs p =>
    exact Y.bind ((show Y (vOne ops) _ from h).mono fun op h => Y.bind (h.mono fun r h => Y.bind ((ih.p h).mono fun x h => Y.bind ((ih.p h).mono fun y h => Y.map h))))
  case Call f args ks p => exact Y.ite (Cd.l h) (w_callE ih (Cd.r h))
  case Subscript v i p =>
    replace h : (match vSlice i with
      | some (lo, hi, st) => wE n c ρ v fun x => wO n c ρ lo fun l => wO n c ρ hi fun h => wO n c ρ st fun s => Y (sliceD x l h s) K
      | none => wP n c ρ v fun x => wE n c ρ i fun y => Y (subD x y) K) := h
    show Y (match vSlice i with
      | some (lo, hi, st) => (evE n c ρ v).bind fun x => (evO n c ρ lo).bind fun l => (evO n c ρ hi).bind fun h => (evO n c ρ st).bind fun s => sliceD x l h s
      | none => (evP n c ρ v).bind fun x => (evE n c ρ i).bind fun y => subD x y) K
    cases q : vSlice i with
    | some l => rw [q] at h; exact Y.bind ((ih.e h).mono fun x h => Y.bind ((ih.o h).mono fun x h => Y.bind ((ih.o h).mono fun x h => Y.bind (ih.o h))))
    | none => rw [q] at h; exact Y.bind ((ih.p h).mono fun x h => Y.bind (ih.e h))
  case ListComp elt gens s p =>
    cases gens with
    | nil => exact False.elim h
    | cons g rest =>
      obtain ⟨t, it, ifs, as⟩ := g
      replace h := (show Cd (decide (compOk c s = true ∧ as = 0)) (wI n c ρ it _) from h)
      have h1 := h.l
      have h2 := h.r
      exact Y.ite h1 (Y.bind ((ih.i h2).mono fun ds hd => Y.bind ((y_gather (fun d K h => ih.c h) ds _ hd).mono fun out ho => Y.ite ho.l ho.r)))
  all_goals exact False.elim h
theorem w_c {c : Cx} {ρ : Sc} {elt t : Expr} {ifs : List Expr} {rest : List Comprehension} {d : D} {K : List D → Prop} (h : wC (n + 1) c ρ elt t ifs rest d K) : Y (evC (n + 1) c ρ elt t ifs rest d) K := by
  refine Y.bind ((show Y (vName t) _ from h).mono fun x hx => Y.ite hx.l (Y.bind ((ih.q hx.r).mono fun b hb => ?_)))
  cases b
  · exact hb
  · cases rest with
    | nil => exact Y.map (ih.e (show wE n c _ elt _ from hb))
    | cons g r => exact Y.bind ((show Y (vClause (g :: r)) _ from hb).mono fun a ha => Y.bind ((ih.i ha).mono fun ds hd => y_gather (fun d K h => ih.c h) ds _ hd))
theorem w_q {c : Cx} {ρ : Sc} {l : List Expr} {K : Bool → Prop} (h : wQ (n + 1) c ρ l K) : Y (evIfs (n + 1) c ρ l) K := by
  cases l with
  | nil => exact h
  | cons e r =>
    replace h := (show Cd r.isEmpty (wT n c ρ e K) from h)
    cases q : r.isEmpty
    · rw [q] at h; exact h.elim
    · exact Y.ite q (ih.t h.r)
theorem w_p {c : Cx} {ρ : Sc} {e : Expr} {K : D → Prop} (h : wP (n + 1) c ρ e K) : Y (evP (n + 1) c ρ e) K := by
  unfold wP at h
  unfold evP
  cases q : vName e with
  | some x => rw [q] at h; exact h
  | none => rw [q] at h; exact ih.e h
theorem w_l {c : Cx} {ρ : Sc} {l : List Expr} {K : List D → Prop} (h : wL (n + 1) c ρ l K) : Y (evL (n + 1) c ρ l) K := by
  cases l with
  | nil => exact h
  | cons e r => exact Y.bind ((ih.e (show wE n c ρ e _ from h)).mono fun d hd => Y.bind (ih.l hd))
theorem w_o {c : Cx} {ρ : Sc} {x : Option Expr} {K : Option Int → Prop} (h : wO (n + 1) c ρ x K) : Y (evO (n + 1) c ρ x) K := by
  cases x with
  | none => exact h
  | some e => exact Y.bind ((ih.e (show wE n c ρ e _ from h)).mono fun d hd => Y.map hd)
theorem w_b {c : Cx} {ρ : Sc} {op : BoolOp} {vs : List Expr} {K : D → Prop} (h : wB (n + 1) c ρ op vs K) : Y (evB (n + 1) c ρ op vs) K := by
  cases vs with
  | nil => exact False.elim h
  | cons e r =>
    cases r with
    | nil => exact ih.e (show wE n c ρ e K from h)
    | cons e2 r =>
      refine Y.bind ((ih.e (show wE n c ρ e _ from h)).mono fun d hd => Y.bind (hd.mono fun b hb => ?_))
      cases op <;> cases b <;> first | exact hb | exact ih.b hb
theorem w_t {c : Cx} {ρ : Sc} {e : Expr} {K : Bool → Prop} (h : wT (n + 1) c ρ e K) : Y (evT (n + 1) c ρ e) K := by
  cases e
  case BoolOp => exact ih.ts h
  case Compare l ops rs p => exact Y.bind ((show Y (vOne ops) _ from h).mono fun op h => Y.bind (h.mono fun r h => Y.bind ((ih.p h).mono fun x h => Y.bind (ih.p h))))
  case IfExp => exact False.elim h
  case UnaryOp => exact False.elim h
  all_goals exact Y.bind (ih.e h)
theorem w_ts {c : Cx} {ρ : Sc} {op : BoolOp} {vs : List Expr} {K : Bool → Prop} (h : wTs (n + 1) c ρ op vs K) : Y (evTs (n + 1) c ρ op vs) K := by
  cases vs with
  | nil => exact h
  | cons e r =>
    refine Y.bind ((ih.t (show wT n c ρ e _ from h)).mono fun b hb => ?_)
    cases op <;> cases b <;> first | exact hb | exact ih.ts hb
theorem w_i {c : Cx} {ρ : Sc} {e : Expr} {K : List D → Prop} (h : wI (n + 1) c ρ e K) : Y (evI (n + 1) c ρ e) K := by
  unfold wI at h
  unfold evI
  cases q : (vCall e).bind fun y => (vName y.1).map fun f => (f, y.2.1) with
  | some x => rw [q] at h; exact Y.ite h.l (Y.bind (ih.l h.r))
  | none => rw [q] at h; exact Y.bind (ih.e h)
end
theorem w_all : ∀ n, WOk n
  | 0 => w_zero
  | n + 1 =>
    have ih := w_all n
    ⟨w_e ih, w_c ih, w_q ih, w_p ih, w_l ih, w_o ih, w_b ih, w_t ih, w_ts ih, w_i ih⟩
end Mine
end

section
open PySem PySem.W PyProof.Rows
namespace Mine
noncomputable def wTurn (c : Cx) (ρ : Sc) (x : Str) (f : Slot → Option Slot) (K : Fl → Sc → Prop) : Prop := Cd (isVar c.names x) (Y (lkp ρ x) fun s => Y (f s) fun s' => K .next (upd ρ x s'))
noncomputable def asSl (e : Expr) (d : D) : Slot := if isAlloc e then toOwn d else .fr d
noncomputable def wSs (n : Nat) (c : Cx) (ρ : Sc) : List Expr → (List Slot → Prop) → Prop
  | [], K => K []
  | e :: r, K => wE n c ρ e fun d => wSs n c ρ r fun ss => K (asSl e d :: ss)
noncomputable def kTurn (F : Sc → Prop) (K : Fl → Sc → Prop) : Fl → Sc → Prop
  | .next, ρ => F ρ
  | .brk, ρ => K .next ρ
  | .ret v, ρ => K (.ret v) ρ
noncomputable def kSeq (F : Sc → Prop) (K : Fl → Sc → Prop) : Fl → Sc → Prop
  | .next, ρ => F ρ
  | .brk, ρ => K .brk ρ
  | .ret v, ρ => K (.ret v) ρ
noncomputable def wLoop (f : D → Sc → (Fl → Sc → Prop) → Prop) : List D → Sc → (Fl → Sc → Prop) → Prop
  | [], ρ, K => K .next ρ
  | d :: r, ρ, K => f d ρ (kTurn (fun ρ' => wLoop f r ρ' K) K)
noncomputable def wAssign (n : Nat) (c : Cx) (ρ : Sc) (ts : List Expr) (v : Expr) (K : Fl → Sc → Prop) : Prop := Y (tv ts) fun t => match t with
  | .one x => Cd (isVar c.names x) (wE n c ρ v fun d => K .next (upd ρ x (asSl v d)))
  | .three x y z => Cd (decide (isVar c.names x = true ∧ isVar c.names y = true ∧ isVar c.names z = true)) (wE n c ρ v fun d => Y (intOf d) fun i => K .next (upd (upd (upd ρ x (.fr (.int i))) y (.fr (.int i))) z (.fr (.int i))))
  | .tup ts => Y (cnames ts) fun xs => Cd (decide (xs.all (isVar c.names) = true ∧ xs.Nodup)) (match vTuple v with
    | some vs => wSs n c ρ vs fun ss => Cd (decide (xs.length = ss.length ∧ swOk vs = true ∧ vs.length ≤ 1000)) (Y (updAll ρ xs ss) fun ρ' => K .next ρ')
    | none => wE n c ρ v fun d => Y (tupOf d) fun ds => Cd (decide (xs.length = ds.length)) (Y (updAll ρ xs (ds.map .fr)) fun ρ' => K .next ρ'))
  | .item x i => wE n c ρ v fun d => wE n c ρ i fun y => wTurn c ρ x (storeItem y d) K
  | .attr x a => wE n c ρ v fun d => wTurn c ρ x (storeAttr a d) K
noncomputable def wAug (n : Nat) (c : Cx) (ρ : Sc) (t : Expr) (op : Operator) (v : Expr) (K : Fl → Sc → Prop) : Prop := match vName t with
  | some x => wE n c ρ v fun d => wTurn c ρ x (augName op d) K
  | none => Y (vSub t) fun (b, i) => Y (vName b) fun x => Cd (decide (op = .Add)) (wE n c ρ i fun y => wE n c ρ v fun d => wTurn c ρ x (augItem y d) K)
noncomputable def wDel (n : Nat) (c : Cx) (ρ : Sc) (ts : List Expr) (K : Fl → Sc → Prop) : Prop := Y (vOne ts) fun t => Y (vSub t) fun (b, i) => Y (vName b) fun x => wE n c ρ i fun y => wTurn c ρ x (delItem y) K
noncomputable def wApp (n : Nat) (c : Cx) (ρ : Sc) (e : Expr) (K : Fl → Sc → Prop) : Prop := Y (vMeth e) fun (o, m, ap, args, p) => Y (vName o) fun x => Y (vOne args) fun a =>
  Cd (decide (m = Str.ofString "append" ∧ (ap.endLine == p.line) = true)) (wE n c ρ a fun d => wTurn c ρ x (appItem d) K)
noncomputable def wPair (f : Sc → (Fl → Sc → Prop) → Prop) (x y : Str) (d : D) (ρ : Sc) (K : Fl → Sc → Prop) : Prop := Y (tupOf d) fun l => Y (vTwo l) fun (k, v) => f (upd (upd ρ x (.fr k)) y (.fr v)) K
mutual
noncomputable def wS : Nat → Cx → Sc → Stmt → (Fl → Sc → Prop) → Prop
  | 0, _, _, _, _ => False
  | n + 1, c, ρ₀, st, K => match frz (sreads st) ρ₀ with
    | ρ => match st with
      | .Assign ts v _ => wAssign n c ρ ts v K
      | .AugAssign t op v _ => wAug n c ρ t op v K
      | .If t b o _ => wT n c ρ t fun x => If x (wX n c ρ b K) (wX n c ρ o K)
      | .For t it b o _ => Cd o.isEmpty (match vItems it with
        | some (z, ap, p) => Y (vTup2N t) fun (x, y) => Cd (decide ((ap.endLine == p.line) = true ∧ isVar c.names x = true ∧ isVar c.names y = true ∧ x ≠ y)) (
          wE n c ρ z fun d => Y (dctOf d) fun kvs => wLoop (wPair (fun ρ' => wX n c ρ' b) x y) (kvs.map fun kv => .tup [.str kv.1, kv.2]) ρ K)
        | none => Y (vName t) fun x => Cd (isVar c.names x) (wI n c ρ it fun ds => wLoop (fun d ρ' => wX n c (upd ρ' x (.fr d)) b) ds ρ K))
      | .Return e _ => Y e fun e => wE n c ρ e fun d => K (.ret d) ρ
      | .Break _ => K .brk ρ
      | .Assert t m _ => Cd m.isNone (wT n c ρ t fun b => Cd b (K .next ρ))
      | .Delete ts _ => wDel n c ρ ts K
      | .Expr e _ => wApp n c ρ e K
      | _ => False
noncomputable def wX : Nat → Cx → Sc → List Stmt → (Fl → Sc → Prop) → Prop
  | 0, _, _, _, _ => False
  | n + 1, c, ρ, l, K => match l with
    | [] => K .next ρ
    | s :: r => wS n c ρ s (kSeq (fun ρ' => wX n c ρ' r K) K)
end
theorem y_loop {f : D → Sc → Option (Fl × Sc)} {g : D → Sc → (Fl → Sc → Prop) → Prop} (hf : ∀ d ρ K, g d ρ K → Y (f d ρ) fun x => K x.1 x.2) : ∀ (l : List D) (ρ : Sc) (K : Fl → Sc → Prop), wLoop g l ρ K → Y (loopD f l ρ) fun x => K x.1 x.2
  | [], ρ, K, h => h
  | d :: r, ρ, K, h => by
    obtain ⟨⟨fl, ρ'⟩, e, k⟩ := (hf _ _ _ h).ex
    unfold loopD
    rw [e]
    cases fl with
    | next => exact y_loop hf r ρ' K k
    | brk => exact k
    | ret v => exact k
section
variable {n : Nat} {c : Cx} {ρ : Sc} {K : Fl → Sc → Prop}
theorem w_turn {x : Str} {f : Slot → Option Slot} (h : wTurn c ρ x f K) : Y (turn c ρ x f) fun x => K x.1 x.2 := Y.ite h.b (Y.bind ((Cd.r h).mono fun s hs => Y.map hs))
theorem w_ss : ∀ {l : List Expr} {K : List Slot → Prop}, wSs n c ρ l K → Y (evSs n c ρ l) K
  | [], _, h => h
  | e :: r, K, h => by
    (refine xe1_2 (((w_all n).e (show wE n c ρ e _ from h)).ex) ?_; intro d e1 h1)
    (refine xe1_2 ((w_ss (l := r) h1).ex) ?_; intro ss e2 h2)
    unfold evSs evS
    rw [e1, e2]; exact h2
theorem w_assign {ts : List Expr} {v : Expr} (h : wAssign n c ρ ts v K) : Y (exAssign n c ρ ts v) fun x => K x.1 x.2 := by
  have w := w_all n
  refine Y.bind ((show Y (tv ts) _ from h).mono fun t h => ?_)
  cases t with
  | one x => exact Y.ite (Cd.b h) (Y.map (Y.map (w.e (Cd.r h))))
  | three x y z => exact Y.ite (Cd.l h) (Y.bind ((w.e (Cd.r h)).mono fun d hd => Y.map hd))
  | tup l =>
    refine Y.bind ((show Y (cnames l) _ from h).mono fun xs hx => Y.ite hx.l ?_)
    replace hx := hx.r
    cases q : vTuple v with
    | some vs => rw [q] at hx; exact Y.bind ((w_ss hx).mono fun ss hs => Y.ite hs.l (Y.map hs.r))
    | none => rw [q] at hx; exact Y.bind ((w.e hx).mono fun d hd => Y.bind (hd.mono fun ds hds => Y.ite hds.l (Y.map hds.r)))
  | item x i => exact Y.bind ((w.e (show wE n c ρ v _ from h)).mono fun d hd => Y.bind ((w.e hd).mono fun y hy => w_turn hy))
  | attr x a => exact Y.bind ((w.e (show wE n c ρ v _ from h)).mono fun d hd => w_turn hd)
theorem w_aug {t v : Expr} {op : Operator} (h : wAug n c ρ t op v K) : Y (exAug n c ρ t op v) fun x => K x.1 x.2 := by
  have w := w_all n
  unfold wAug at h
  unfold exAug
  cases q : vName t with
  | some x => rw [q] at h; exact Y.bind ((w.e h).mono fun d hd => w_turn hd)
  | none => rw [q] at h; exact Y.bind (Y.mono h fun a ha => Y.bind (ha.mono fun x hx => Y.ite hx.l (Y.bind ((w.e hx.r).mono fun y hy => Y.bind ((w.e hy).mono fun d hd => w_turn hd)))))
theorem w_del {ts : List Expr} (h : wDel n c ρ ts K) : Y (exDel n c ρ ts) fun x => K x.1 x.2 := by
  have w := w_all n
  exact Y.bind (Y.mono h fun t ht => Y.bind (ht.mono fun a ha => Y.bind (ha.mono fun x hx => Y.bind ((w.e hx).mono fun y hy => w_turn hy))))
theorem w_app {e : Expr} (h : wApp n c ρ e K) : Y (exApp n c ρ e) fun x => K x.1 x.2 := by
  have w := w_all n
  exact Y.bind (Y.mono h fun t ht => Y.bind (ht.mono fun a ha => Y.bind (ha.mono fun x hx => Y.ite hx.l (Y.bind ((w.e hx.r).mono fun y hy => w_turn hy)))))
end
theorem w_sx : ∀ n, (∀ {c ρ s K}, wS n c ρ s K → Y (exS n c ρ s) fun x => K x.1 x.2) ∧ ∀ {c ρ l K}, wX n c ρ l K → Y (exB n c ρ l) fun x => K x.1 x.2
  | 0 => ⟨fun h => h.elim, fun h => h.elim⟩
  | n + 1 => by
    (refine xe0_2 (w_sx n) ?_; intro hs hx)
    have w := w_all n
    refine ⟨fun {c ρ₀ s K} h => ?_, fun {c ρ l K} h => ?_⟩
    · cases s
      case Assign => exact w_assign (show wAssign n c _ _ _ K from h)
      case AugAssign => exact w_aug (show wAug n c _ _ _ _ K from h)
      case If t b o p => exact Y.bind ((w.t (show wT n c _ t _ from h)).mono fun x hx' => by cases x <;> exact hx hx')
      case For t it b o p =>
        refine Y.ite (Cd.b h) ?_
        replace h := Cd.r h
        cases q : vItems it with
        | some z =>
          rw [q] at h
          exact Y.bind (Y.mono h fun a ha => Y.ite ha.l (Y.bind ((w.e ha.r).mono fun d hd => Y.bind (hd.mono fun kvs hk => y_loop (fun d ρ K h => Y.bind (Y.mono h fun l hl => Y.bind (hl.mono fun a ha => hx ha))) _ _ _ hk))))
        | none =>
          rw [q] at h
          exact Y.bind (Y.mono h fun x hv => Y.ite hv.b (Y.bind ((w.i hv.r).mono fun ds hd => y_loop (fun d ρ K h => hx h) _ _ _ hd)))
      case Return e p => exact Y.bind ((show Y e _ from h).mono fun x hx' => Y.map (w.e hx'))
      case Break => exact h
      case Assert t m p => exact Y.ite (Cd.b h) (Y.bind ((w.t (Cd.r h)).mono fun b hb => Y.ite hb.b hb.r))
      case Delete => exact w_del h
      case Expr => exact w_app h
      all_goals exact False.elim h
    · cases l with
      | nil => exact h
      | cons s r =>
        refine Y.bind ((hs (show wS n c ρ s _ from h)).mono fun x hx' => ?_)
        obtain ⟨fl, ρ'⟩ := x
        cases fl with
        | next => exact hx hx'
        | brk => exact hx'
        | ret d => exact hx'
noncomputable def kFin (K : D → Prop) : Fl → Sc → Prop
  | .ret d, _ => K d
  | .next, _ => K .none
  | .brk, _ => False
theorem w_call {tab : List (Str × Fn)} {fuel k : Nat} {f : Str} {ds : List D} {g : Fn} {ρ : Sc} {K : D → Prop} (h1 : (f == Str.ofString "Whitespace") = false) (h2 : lkp tab f = some g) (h3 : bindD g.params ds = some ρ)
    (h : wX fuel { call := callD tab fuel k, names := g.names, gen := f == Str.ofString "add_callers" } ρ g.body (kFin K)) : Y (callD tab fuel (k + 1) f ds) K := by
  unfold callD
  rw [if_neg (by simpa using h1), h2]
  refine Y.bind (o := some g) (Y.bind (o := bindD g.params ds) (.of h3 ?_))
  obtain ⟨⟨fl, ρ'⟩, e, k⟩ := ((w_sx fuel).2 h).ex
  rw [e]
  cases fl <;> first | exact k | exact False.elim k
end Mine
end

section
open PySem PySem.W PyProof.Rows
set_option tactic.hygienic false
namespace Mine
noncomputable def cxAt (k : Nat) (f : String) (s : Stmt) : Cx := { call := callD tab0 60 k, names := (fnOf s).names, gen := Str.ofString f == Str.ofString "add_callers" }
noncomputable abbrev callT (k : Nat) (f : String) (ds : List D) : Option D := callD tab0 60 k (Str.ofString f) ds
theorem call_at {k : Nat} {f : String} {s : Stmt} {ds : List D} {ρ : Sc} {K : D → Prop} (h1 : (Str.ofString f == Str.ofString "Whitespace") = false) (h2 : lkp tab0 (Str.ofString f) = some (fnOf s)) (h3 : bindD (fnOf s).params ds = some ρ)
    (h : wX 60 (cxAt k f s) ρ (dBody s) (kFin K)) : Y (callT (k + 1) f ds) K := w_call h1 h2 h3 h
noncomputable def stmtAt (l : List Stmt) (i : Nat) : Stmt := (l[i]?).getD (.Pass ⟨0, 0, 0, 0⟩)
noncomputable def forB : Stmt → List Stmt
  | .For _ _ b _ _ => b
  | _ => []
noncomputable def thenB : Stmt → List Stmt
  | .If _ b _ _ => b
  | _ => []
noncomputable def elseB : Stmt → List Stmt
  | .If _ _ b _ => b
  | _ => []
noncomputable def anyE : Expr := .Name "" ⟨0, 0, 0, 0⟩
noncomputable def sE : Stmt → Nat → Expr
  | .Assign _ v _, _ => v
  | .AugAssign _ _ v _, _ => v
  | .Return e _, _ => e.getD anyE
  | .If t _ _ _, _ => t
  | .For _ it _ _ _, _ => it
  | .Expr e _, _ => e
  | _, _ => anyE
noncomputable def xE : Expr → Nat → Expr
  | .BinOp a _ b _, i => if i = 0 then a else b
  | .Call _ as _ _, i => (as[i]?).getD anyE
  | .Compare l _ rs _, i => if i = 0 then l else (rs[i - 1]?).getD anyE
  | .Tuple es _ _, i => (es[i]?).getD anyE
  | .IfExp t a b _, i => if i = 0 then t else if i = 1 then a else b
  | .Subscript a b _, i => if i = 0 then a else b
  | .BoolOp _ es _, i => (es[i]?).getD anyE
  | _, _ => anyE
noncomputable def lcE : Expr → Expr
  | .ListComp elt _ _ _ => elt
  | _ => anyE
noncomputable def lcG : Expr → List Comprehension
  | .ListComp _ g _ _ => g
  | _ => []
noncomputable def lcS : Expr → Scope
  | .ListComp _ _ s _ => s
  | _ => default
noncomputable def lcT : List Comprehension → Expr
  | ⟨t, _, _, _⟩ :: _ => t
  | _ => anyE
noncomputable def lcI : List Comprehension → List Expr
  | ⟨_, _, i, _⟩ :: _ => i
  | _ => []
noncomputable def wcOf (n : Nat) (c : Cx) (ρ : Sc) (e : Expr) : D → (List D → Prop) → Prop := fun d => wC n (c.inner (lcS e)) (dropL (lcS e) ρ) (lcE e) (lcT (lcG e)) (lcI (lcG e)) (lcG e).tail d
noncomputable def wLC (n : Nat) (c : Cx) (ρ : Sc) (e : Expr) (ds : List D) (K : List D → Prop) : Prop := match e with
  | .ListComp elt (⟨t, _, ifs, _⟩ :: rest) s _ => wGather (fun d => wC n (c.inner s) (dropL s ρ) elt t ifs rest d) ds K
  | _ => False
noncomputable def lcOk : Expr → Bool
  | .ListComp _ (_ :: _) _ _ => true
  | _ => false
theorem wLC_of {n : Nat} {c : Cx} {ρ : Sc} {e : Expr} {ds : List D} {K : List D → Prop} (ho : lcOk e = true) (h : wGather (wcOf n c ρ e) ds K) : wLC n c ρ e ds K := by
  cases e with
  | ListComp elt gs s p =>
    cases gs with
    | nil => cases ho
    | cons g r => cases g; exact h
  | _ => cases ho
noncomputable abbrev nm (s : String) : Str := Str.ofString s
theorem gather_map {f : D → (List D → Prop) → Prop} {g : D → D} {K : List D → Prop} : ∀ (l : List D), (∀ d ∈ l, ∀ K', K' [g d] → f d K') → K (l.map g) → wGather f l K
  | [], _, h => h
  | d :: r, hf, h => hf d List.mem_cons_self _ (gather_map r (fun d' hd' => hf d' (List.mem_cons_of_mem _ hd')) h)
section
variable {k : Nat}
noncomputable abbrev acx (k : Nat) : Cx := cxAt k "add_callers" (stAt 7)
noncomputable abbrev aBody : List Stmt := dBody (stAt 7)
end
end Mine
end

section
open PySem PySem.W PyProof.Rows
set_option tactic.hygienic false
namespace Mine
structure Pf (P : Prop) : Prop where
  h : P
theorem wcv {P G : Prop} (e : P = G) (h : Pf P) : Pf G := e ▸ h
theorem Pf.y {α : Type} {o : Option α} {a : α} {K : α → Prop} (e : o = some a) (h : Pf (K a)) : Pf (Y o K) := ⟨.of e h.h⟩
theorem Pf.ite {b : Bool} {P Q : Prop} (h1 : b = true → Pf P) (h2 : b = false → Pf Q) : Pf (If b P Q) := ⟨.mk (fun e => (h1 e).h) fun e => (h2 e).h⟩
theorem Pf.t {b : Bool} {P Q : Prop} (e : b = true) (h : Pf P) : Pf (If b P Q) := by rw [e]; exact h
theorem Pf.f {b : Bool} {P Q : Prop} (e : b = false) (h : Pf Q) : Pf (If b P Q) := by rw [e]; exact h
theorem Pf.cd {b : Bool} {P : Prop} (e : b = true) (h : Pf P) : Pf (Cd b P) := by rw [e]; exact h
theorem Y.eq {α : Type} {o : Option α} {a : α} (h : Y o (· = a)) : o = some a := by
  (refine xe1_2 h.ex ?_; intro b e r); rw [e, show b = a from r]
theorem call_go {k : Nat} (f : String) (s : Stmt) {ds : List D} (ρ : Sc) {d : D} (h1 : (Str.ofString f == Str.ofString "Whitespace") = false) (h2 : lkp tab0 (Str.ofString f) = some (fnOf s)) (h3 : bindD (fnOf s).params ds = some ρ)
    (h : Pf (wX 60 (cxAt k f s) ρ (dBody s) (kFin (· = d)))) : callT (k + 1) f ds = some d := Y.eq (call_at h1 h2 h3 h.h)
noncomputable def tokL (a : Nat) : List Nat := 123 :: (List.replicate a 32 ++ [9, 125])
noncomputable def tokS (a : Nat) : Str := ⟨(tokL a).toArray⟩
theorem tokL_len (a : Nat) : (tokL a).length = a + 3 := by simp [tokL]
theorem tokL_inj {a b : Nat} (h : tokL a = tokL b) : a = b := by
  have := congrArg List.length h
  rw [tokL_len, tokL_len] at this; omega
theorem tokS_inj {a b : Nat} (h : tokS a = tokS b) : a = b := tokL_inj (by simpa [tokS] using congrArg (fun s => s.cps.toList) h)
noncomputable abbrev CT := List (Nat × Nat)
noncomputable def lkN : CT → Nat → Option Nat
  | [], _ => none
  | (y, t) :: r, x => if x = y then some t else lkN r x
noncomputable def upN : CT → Nat → Nat → CT
  | [], x, s => [(x, s)]
  | (y, t) :: r, x, s => if x = y then (y, s) :: r else (y, t) :: upN r x s
noncomputable def vD (pair : Bool) (a c : Nat) : D := if pair then .tup [.int c, .int (a * c : Nat)] else .int c
noncomputable def cD (pair : Bool) (C : CT) : List (Str × D) := C.map fun e => (tokS e.1, vD pair e.1 e.2)
theorem cD_lkp (pair : Bool) (a : Nat) : ∀ C : CT, lkp (cD pair C) (tokS a) = (lkN C a).map (vD pair a)
  | [] => rfl
  | (b, n) :: r => by
    show (if tokS a = tokS b then _ else lkp (cD pair r) (tokS a)) = _
    unfold lkN
    by_cases e : a = b
    · subst e; rw [if_pos rfl, if_pos rfl]; rfl
    · rw [if_neg fun q => e (tokS_inj q), if_neg e]; exact cD_lkp pair a r
theorem cD_upd (pair : Bool) (a n : Nat) : ∀ C : CT, upd (cD pair C) (tokS a) (vD pair a n) = cD pair (upN C a n)
  | [] => rfl
  | (b, m) :: r => by
    show (if tokS a = tokS b then _ else _ :: upd (cD pair r) (tokS a) _) = _
    unfold upN
    by_cases e : a = b
    · subst e; rw [if_pos rfl, if_pos rfl]; rfl
    · rw [if_neg fun q => e (tokS_inj q), if_neg e, cD_upd pair a n r]; rfl
theorem cD_len (pair : Bool) (C : CT) : (cD pair C).length = C.length := by simp [cD]
theorem upN_len (a n : Nat) : ∀ C : CT, (upN C a n).length ≤ C.length + 1
  | [] => Nat.le_refl _
  | (b, m) :: r => by
    unfold upN
    split
    · simp
    · have := upN_len a n r; simp only [List.length_cons]; omega
noncomputable def copyC (A : CT) : CT := A.foldl (fun C e => upN C e.1 e.2) []
noncomputable def sumC (C : CT) (e : Nat × Nat) : CT := upN C e.1 (match lkN C e.1 with
  | some v => e.2 + v
  | none => e.2)
noncomputable def mergeC (A B : CT) : CT := B.foldl sumC (copyC A)
noncomputable def acR (pair : Bool) (A B : CT) (s : CT × Option (Nat × Nat)) : Sc := [(nm "target", .fr (.dct (cD pair A))), (nm "source", .fr (.dct (cD pair B))), (nm "new_callers", .od (cD pair s.1))] ++
  (match s.2 with
  | none => []
  | some e => [(nm "func", .fr (.str (tokS e.1))), (nm "caller", .fr (vD pair e.1 e.2))])
noncomputable def itD (pair : Bool) (e : Nat × Nat) : D := .tup [.str (tokS e.1), vD pair e.1 e.2]
theorem it_map (pair : Bool) (A : CT) : (cD pair A).map (fun kv => D.tup [.str kv.1, kv.2]) = A.map (itD pair) := by simp [cD, itD]
section
variable {k : Nat} {pair : Bool}
theorem ac_put {A B C : CT} {o : Option (Nat × Nat)} {e : Nat × Nat} {K : Fl → Sc → Prop} (hl : C.length ≤ 1000) (h : Pf (K .next (acR pair A B (upN C e.1 e.2, some e)))) :
    Pf (wPair (fun ρ' => wX 57 (acx k) ρ' (forB (stmtAt aBody 1))) (nm "func") (nm "caller") (itD pair e) (acR pair A B (C, o)) K) := by
  have hs : storeItem (.str (tokS e.1)) (vD pair e.1 e.2) (.od (cD pair C)) = some (.od (cD pair (upN C e.1 e.2))) := (if_pos (by rw [cD_len]; omega)).trans (by rw [cD_upd])
  cases o <;> exact wcv (P := Y (storeItem (.str (tokS e.1)) (vD pair e.1 e.2) (.od (cD pair C))) fun y => K .next [(nm "target", .fr (.dct (cD pair A))), (nm "source", .fr (.dct (cD pair B))), (nm "new_callers", y), (nm "func", .fr (.str (tokS e.1))), (nm "caller", .fr (vD pair e.1 e.2))]) (by kernel_rfl) (.y hs h)
theorem ac_sum {A B C : CT} {o : Option (Nat × Nat)} {e : Nat × Nat} {K : Fl → Sc → Prop} (hl : C.length ≤ 1000) (h : Pf (K .next (acR pair A B (sumC C e, some e)))) :
    Pf (wPair (fun ρ' => wX 56 (acx k) ρ' (forB (stmtAt aBody 2))) (nm "func") (nm "caller") (itD pair e) (acR pair A B (C, o)) K) := by
  obtain ⟨a, n⟩ := e
  have hl' : (cD pair C).length ≤ 100000 := by rw [cD_len]; omega
  refine wcv (P := If (lkp (cD pair C) (tokS a)).isSome (wX 54 (acx k) (acR pair A B (C, some (a, n))) (thenB (stmtAt (forB (stmtAt aBody 2)) 0)) (kSeq (fun ρ' => wX 55 (acx k) ρ' [] K) K))
    (wX 54 (acx k) (acR pair A B (C, some (a, n))) (elseB (stmtAt (forB (stmtAt aBody 2)) 0)) (kSeq (fun ρ' => wX 55 (acx k) ρ' [] K) K))) (by cases o <;> kernel_rfl) ?_
  cases q : lkN C a with
  | none =>
    refine .f (by rw [cD_lkp, q]; rfl) ?_
    have hs : storeItem (.str (tokS a)) (vD pair a n) (.od (cD pair C)) = some (.od (cD pair (sumC C (a, n)))) := (if_pos hl').trans (by rw [cD_upd]; unfold sumC; dsimp only; rw [q])
    exact wcv (P := Y (storeItem (.str (tokS a)) (vD pair a n) (.od (cD pair C))) fun y => K .next [(nm "target", .fr (.dct (cD pair A))), (nm "source", .fr (.dct (cD pair B))), (nm "new_callers", y), (nm "func", .fr (.str (tokS a))), (nm "caller", .fr (vD pair a n))]) (by kernel_rfl) (.y hs h)
  | some m =>
    refine .t (by rw [cD_lkp, q]; rfl) ?_
    have hv : lkp (cD pair C) (tokS a) = some (vD pair a m) := by rw [cD_lkp, q]; rfl
    have hu : upd (cD pair C) (tokS a) (vD pair a (n + m)) = cD pair (sumC C (a, n)) := by rw [cD_upd]; unfold sumC; dsimp only; rw [q]
    cases pair with
    | true =>
      have hs : storeItem (.str (tokS a)) (vD true a (n + m)) (.od (cD true C)) = some (.od (cD true (sumC C (a, n)))) := (if_pos hl').trans (by rw [hu])
      have ha : addPairs (vD true a n) (vD true a m) = some (vD true a (n + m)) := by
        show some (D.tup [.int ((n : Int) + m), .int (((a * n : Nat) : Int) + (a * m : Nat))]) = some (.tup [.int ((n + m : Nat) : Int), .int ((a * (n + m) : Nat) : Int)])
        rw [Nat.mul_add, Int.natCast_add, Int.natCast_add]
      exact wcv (P := Y (subD (.dct (cD true C)) (.str (tokS a))) fun y => Y (addPairs (vD true a n) y) fun y => Y (storeItem (.str (tokS a)) y (.od (cD true C))) fun y => K .next [(nm "target", .fr (.dct (cD true A))), (nm "source", .fr (.dct (cD true B))), (nm "new_callers", y), (nm "func", .fr (.str (tokS a))), (nm "caller", .fr (vD true a n))])
        (by kernel_rfl) (.y hv (.y ha (.y hs h)))
    | false =>
      have hs : augItem (.str (tokS a)) (vD false a n) (.od (cD false C)) = some (.od (cD false (sumC C (a, n)))) := by
        show ((lkp (cD false C) (tokS a)).bind fun v => (intOf v).bind fun b => if (cD false C).length ≤ 100000 then some (Slot.od (upd (cD false C) (tokS a) (.int (b + (n : Int))))) else none) = _
        rw [hv]
        show (if (cD false C).length ≤ 100000 then some (Slot.od (upd (cD false C) (tokS a) (.int ((m : Int) + (n : Int))))) else none) = _
        rw [if_pos hl', show (m : Int) + (n : Int) = ((n + m : Nat) : Int) by omega, ← hu]; rfl
      exact wcv (P := Y (augItem (.str (tokS a)) (vD false a n) (.od (cD false C))) fun y => K .next [(nm "target", .fr (.dct (cD false A))), (nm "source", .fr (.dct (cD false B))), (nm "new_callers", y), (nm "func", .fr (.str (tokS a))), (nm "caller", .fr (vD false a n))]) (by kernel_rfl) (.y hs h)
theorem copy_len : ∀ (A C : CT), (A.foldl (fun C e => upN C e.1 e.2) C).length ≤ C.length + A.length
  | [], C => Nat.le_refl _
  | e :: r, C => by
    have h1 := copy_len r (upN C e.1 e.2)
    have h2 := upN_len e.1 e.2 C
    simp only [List.foldl_cons, List.length_cons]; omega
theorem sum_len (C : CT) (e : Nat × Nat) : (sumC C e).length ≤ C.length + 1 := upN_len _ _ _
theorem merge_len : ∀ (B C : CT), (B.foldl sumC C).length ≤ C.length + B.length
  | [], C => Nat.le_refl _
  | e :: r, C => by
    have h1 := merge_len r (sumC C e)
    have h2 := sum_len C e
    simp only [List.foldl_cons, List.length_cons]; omega
theorem loop_put {A B : CT} {K : Fl → Sc → Prop} : ∀ (l C : CT) (o : Option (Nat × Nat)), C.length + l.length ≤ 1000 → (∀ o, Pf (K .next (acR pair A B (l.foldl (fun C e => upN C e.1 e.2) C, o)))) →
    Pf (wLoop (wPair (fun ρ' => wX 57 (acx k) ρ' (forB (stmtAt aBody 1))) (nm "func") (nm "caller")) (l.map (itD pair)) (acR pair A B (C, o)) K)
  | [], C, o, _, h => h o
  | e :: r, C, o, hl, h => by
    refine ⟨(ac_put (by simp only [List.length_cons] at hl; omega) ⟨?_⟩).h⟩
    have := upN_len e.1 e.2 C
    exact (loop_put r (upN C e.1 e.2) _ (by simp only [List.length_cons] at hl; omega) h).h
theorem loop_sum {A B : CT} {K : Fl → Sc → Prop} : ∀ (l C : CT) (o : Option (Nat × Nat)), C.length + l.length ≤ 1000 → (∀ o, Pf (K .next (acR pair A B (l.foldl sumC C, o)))) →
    Pf (wLoop (wPair (fun ρ' => wX 56 (acx k) ρ' (forB (stmtAt aBody 2))) (nm "func") (nm "caller")) (l.map (itD pair)) (acR pair A B (C, o)) K)
  | [], C, o, _, h => h o
  | e :: r, C, o, hl, h => by
    refine ⟨(ac_sum (by simp only [List.length_cons] at hl; omega) ⟨?_⟩).h⟩
    have := sum_len C e
    exact (loop_sum r (sumC C e) _ (by simp only [List.length_cons] at hl; omega) h).h
theorem add_callers_eq {A B : CT} (hA : A.length ≤ 100) (hB : B.length ≤ 100) : callT (k + 1) "add_callers" [.dct (cD pair A), .dct (cD pair B)] = some (.dct (cD pair (mergeC A B))) := by
  refine call_go "add_callers" (stAt 7) [(nm "target", .fr (.dct (cD pair A))), (nm "source", .fr (.dct (cD pair B)))] (by kernel_rfl) (by kernel_rfl) (by kernel_rfl) ?_
  refine wcv (P := wLoop (wPair (fun ρ' => wX 57 (acx k) ρ' (forB (stmtAt aBody 1))) (nm "func") (nm "caller")) ((cD pair A).map fun kv => .tup [.str kv.1, kv.2]) (acR pair A B ([], none))
    (kSeq (fun ρ' => wX 58 (acx k) ρ' (aBody.drop 2) (kFin (· = .dct (cD pair (mergeC A B))))) (kFin (· = .dct (cD pair (mergeC A B)))))) (by kernel_rfl) ?_
  rw [it_map]
  refine loop_put A [] none (by simp; omega) fun o => ?_
  have hc := copy_len A []
  refine wcv (P := wLoop (wPair (fun ρ' => wX 56 (acx k) ρ' (forB (stmtAt aBody 2))) (nm "func") (nm "caller")) ((cD pair B).map fun kv => .tup [.str kv.1, kv.2]) (acR pair A B (copyC A, o))
    (kSeq (fun ρ' => wX 57 (acx k) ρ' (aBody.drop 3) (kFin (· = .dct (cD pair (mergeC A B))))) (kFin (· = .dct (cD pair (mergeC A B)))))) (by cases o <;> kernel_rfl) ?_
  rw [it_map]
  refine loop_sum B _ o (by simp only [List.length_nil] at hc; unfold copyC; omega) fun o => ?_
  refine wcv (P := D.dct (cD pair (mergeC A B)) = .dct (cD pair (mergeC A B))) (by cases o <;> kernel_rfl) ⟨rfl⟩
structure Tot where
  c : Int
  n : Int
  l0 : Int
  l1 : Int
  C : CT
noncomputable def Tot.d (pair : Bool) (t : Tot) : D := .tup [.int t.c, .int t.n, .int t.l0, .int t.l1, .dct (cD pair t.C)]
noncomputable def Tot.add (s t : Tot) : Tot := ⟨s.c + t.c, s.n + t.n, s.l0 + t.l0, s.l1 + t.l1, mergeC t.C s.C⟩
theorem add_stats_gen {a b c d a' b' c' d' : Int} {A B : CT} (hA : A.length ≤ 100) (hB : B.length ≤ 100) :
    callT (k + 1 + 1) "add_func_stats" [.tup [.int a, .int b, .int c, .int d, .dct (cD pair A)], .tup [.int a', .int b', .int c', .int d', .dct (cD pair B)]] = some (.tup [.int (a' + a), .int (b' + b), .int (c' + c), .int (d' + d), .dct (cD pair (mergeC A B))]) := by
  refine call_go (k := k + 1) "add_func_stats" (stAt 6) [(nm "target", .fr (.tup [.int a, .int b, .int c, .int d, .dct (cD pair A)])), (nm "source", .fr (.tup [.int a', .int b', .int c', .int d', .dct (cD pair B)]))] (by kernel_rfl) (by kernel_rfl) (by kernel_rfl) ?_
  refine wcv (P := Y (callT (k + 1) "add_callers" [.dct (cD pair A), .dct (cD pair B)]) fun y => D.tup [.int (a' + a), .int (b' + b), .int (c' + c), .int (d' + d), y] = .tup [.int (a' + a), .int (b' + b), .int (c' + c), .int (d' + d), .dct (cD pair (mergeC A B))]) (by kernel_rfl) ?_
  exact .y (add_callers_eq hA hB) ⟨rfl⟩
theorem add_stats_eq {s t : Tot} (hs : s.C.length ≤ 100) (ht : t.C.length ≤ 100) : callT (k + 1 + 1) "add_func_stats" [t.d pair, s.d pair] = some ((s.add t).d pair) := add_stats_gen ht hs
end
end Mine
end

section
open PySem PySem.W PyProof.Rows
set_option tactic.hygienic false
namespace Mine
noncomputable def nD (c : List Nat) : List D := c.map fun (n : Nat) => .int n
theorem nD_len (c : List Nat) : (nD c).length = c.length := by simp [nD]
theorem nD_get (c : List Nat) (i : Nat) (h : i < c.length) : (nD c)[i]? = some (.int (c[i] : Nat)) := by simp [nD, h]
theorem item_nat {l : List D} {i : Nat} (h : i < l.length) (hl : l.length ≤ 1000000) : itemD l (i : Int) = l[i]? := by
  unfold itemD
  rw [if_pos ⟨by omega, by omega⟩]
  have : seqIndex? (i : Int) l.length = some i := by
    unfold seqIndex?
    dsimp only
    have e : (if (i : Int) < 0 then (i : Int) + (l.length : Int) else i) = i := if_neg (by omega)
    rw [e]
    simp [h]
  rw [this]; rfl
theorem sub_lst (l : List D) (i : Int) : subD (.lst l) (.int i) = itemD l i := rfl
theorem sub_tup (l : List D) (i : Int) : subD (.tup l) (.int i) = itemD l i := rfl
theorem store_ol (l : List D) (i : Int) (d : D) : storeItem (.int i) d (.ol l) = (setAt l i d).map Slot.ol := rfl
theorem add_int (a b : Int) : binD .Add (.int a) (.int b) = some (.int (a + b)) := rfl
theorem sub_int (a b : Int) : binD .Sub (.int a) (.int b) = some (.int (a - b)) := rfl
theorem len_lst {l : List D} (h : l.length ≤ 1000000) : lenD (.lst l) = some (.int l.length) := if_pos h
theorem len_tup {l : List D} (h : l.length ≤ 1000000) : lenD (.tup l) = some (.int l.length) := if_pos h
theorem set_nat {l : List D} {i : Nat} (d : D) (h : i < l.length) (hl : l.length ≤ 1000000) : setAt l (i : Int) d = some (l.set i d) := by
  unfold setAt
  rw [if_pos ⟨by omega, by omega, by omega⟩]; rfl
theorem rep_zero {b : Int} (n : Nat) (e : b = n) (h : n ≤ 1000) : repD [.int 0] (.int b) = some (.lst (List.replicate n (.int 0))) := by
  subst e
  have : repD [.int 0] (.int (n : Int)) = if -1000 ≤ (n : Int) ∧ (n : Int) ≤ 1000 ∧ [D.int 0].length ≤ 1000 then some (.lst (List.replicate (n : Int).toNat [D.int 0]).flatten) else none := rfl
  rw [this, if_pos ⟨by omega, by omega, by decide⟩, Int.toNat_natCast]
  congr 2
  clear h this
  induction n with
  | zero => rfl
  | succ m ih => rw [List.replicate_succ, List.flatten_cons, ih]; rfl
theorem add_lst {a b : List D} (h : a.length + b.length ≤ 1000000) : binD .Add (.lst a) (.lst b) = some (.lst (a ++ b)) := if_pos h
noncomputable def bump (c : List Nat) (b : Nat) : List Nat := if c.length ≤ b then c ++ List.replicate (b - c.length) 0 ++ [1] else c.set b ((c[b]?).getD 0 + 1)
structure Ws where
  c : List Nat
  b : Nat
  n : Nat
  nt : Nat
noncomputable def Ws.step (w : Ws) (ch : Nat) : Ws := if ch = 32 then ⟨w.c, w.b + 1, w.n + 1, w.nt⟩ else ⟨bump w.c w.b, 0, w.n + 1, w.nt + 1⟩
noncomputable abbrev icx (k : Nat) : Cx := cxAt k "Whitespace.__init__" (mAt 1)
noncomputable abbrev iBody : List Stmt := dBody (mAt 1)
noncomputable def wsR (s : Str) (t : Nat × Nat) (c : List D) (b n nt : Int) (o : Option Nat) : Sc := [(nm "self", .oi t [(nm "raw", .str s)]), (nm "ws", .fr (.str s)), (nm "S", .fr (.str (nm " "))), (nm "T", .fr (.str (nm "\t"))), (nm "count", .ol c), (nm "b", .fr (.int b)), (nm "n", .fr (.int n)), (nm "nt", .fr (.int nt))] ++
  (match o with
  | none => []
  | some ch => [(nm "ch", .fr (.str ⟨#[ch]⟩))])
noncomputable abbrev iTurn (k : Nat) : D → Sc → (Fl → Sc → Prop) → Prop := fun d ρ' => wX 54 (icx k) (upd ρ' (nm "ch") (.fr d)) (forB (stmtAt iBody 4))
noncomputable def chD (ch : Nat) : D := .str ⟨#[ch]⟩
section
variable {k : Nat} {s : Str} {t : Nat × Nat}
theorem bump_lt {c : List Nat} {b : Nat} (h : b < c.length) : nD (bump c b) = (nD c).set b (.int ((c[b]?).getD 0 + 1 : Nat)) := by
  unfold bump
  rw [if_neg (by omega)]
  simp [nD, List.map_set]
theorem set_end {l : List D} {m b : Nat} (hb : b = l.length + m) (d : D) : (l ++ List.replicate (m + 1) (D.int 0)).set b d = l ++ List.replicate m (D.int 0) ++ [d] := by
  subst hb
  rw [List.set_append_right _ _ (by omega), show l.length + m - l.length = m by omega, List.append_assoc]
  congr 1
  rw [List.replicate_succ', List.set_append_right _ _ (by simp)]
  simp
theorem bump_ge {c : List Nat} {b : Nat} (h : c.length ≤ b) : nD (bump c b) = (nD c ++ List.replicate (b - c.length + 1) (D.int 0)).set b (D.int 1) := by
  rw [set_end (m := b - c.length) (by rw [nD_len]; omega)]
  unfold bump
  rw [if_pos h]
  simp [nD]
theorem bump_len (c : List Nat) (b : Nat) : (bump c b).length = max c.length (b + 1) := by
  unfold bump; split <;> simp <;> omega
theorem ws_sp {c : List D} {b n nt : Int} {o : Option Nat} {K : Fl → Sc → Prop} (h : Pf (K .next (wsR s t c (b + 1) (n + 1) nt (some 32)))) : Pf (iTurn k (chD 32) (wsR s t c b n nt o) K) := by
  cases o <;> exact wcv (P := K .next (wsR s t c (b + 1) (n + 1) nt (some 32))) (by kernel_rfl) h
theorem ws_x {c : List D} {b n nt : Int} {o : Option Nat} {K : Fl → Sc → Prop} (h : Pf (K .brk (wsR s t c b n nt (some 120)))) : Pf (iTurn k (chD 120) (wsR s t c b n nt o) K) := by
  cases o <;> exact wcv (P := K .brk (wsR s t c b n nt (some 120))) (by kernel_rfl) h
noncomputable def wsR' (s : Str) (t : Nat × Nat) (y : Slot) (b n nt : Int) (ch : Nat) : Sc := [(nm "self", .oi t [(nm "raw", .str s)]), (nm "ws", .fr (.str s)), (nm "S", .fr (.str (nm " "))), (nm "T", .fr (.str (nm "\t"))), (nm "count", y), (nm "b", .fr (.int b)), (nm "n", .fr (.int n)), (nm "nt", .fr (.int nt)), (nm "ch", .fr (.str ⟨#[ch]⟩))]
theorem ws_cv {c : List D} {b n nt : Int} {o : Option Nat} {K : Fl → Sc → Prop} : (Y (lenD (.lst c)) fun y => Y (cmpD .GtE (.int b) y) fun y => If y
    (Y (lenD (.lst c)) fun y => Y (binD .Sub (.int b) y) fun y => Y (binD .Add y (.int 1)) fun y => Y (repD [.int 0] y) fun y => Y (binD .Add (.lst c) y) fun y => Y (subD (slotD (toOwn y)) (.int b)) fun y1 => Y (binD .Add y1 (.int 1)) fun y2 => Y (storeItem (.int b) y2 (toOwn y)) fun y => K .next (wsR' s t y 0 (n + 1) (nt + 1) 9))
    (Y (subD (.lst c) (.int b)) fun y => Y (binD .Add y (.int 1)) fun y => Y (storeItem (.int b) y (.ol c)) fun y => K .next (wsR' s t y 0 (n + 1) (nt + 1) 9))) = iTurn k (chD 9) (wsR s t c b n nt o) K := by cases o <;> kernel_rfl
theorem ws_tab {c : List Nat} {b : Nat} {n nt : Int} {o : Option Nat} {K : Fl → Sc → Prop} (hb : b ≤ 200) (hc : c.length ≤ 200) (h : Pf (K .next (wsR s t (nD (bump c b)) 0 (n + 1) (nt + 1) (some 9)))) :
    Pf (iTurn k (chD 9) (wsR s t (nD c) b n nt o) K) := by
  have hlen : lenD (.lst (nD c)) = some (.int c.length) := by rw [len_lst (by rw [nD_len]; omega), nD_len]
  refine wcv ws_cv ?_
  refine .y hlen (.y (a := decide ((c.length : Int) ≤ b)) rfl (.ite (fun q => ?_) fun q => ?_))
  · have q' : c.length ≤ b := by have := of_decide_eq_true q; omega
    have e1 : repD [.int 0] (.int ((b : Int) - c.length + 1)) = some (.lst (List.replicate (b - c.length + 1) (.int 0))) := rep_zero _ (by omega) (by omega)
    have hl : (nD c ++ List.replicate (b - c.length + 1) (D.int 0)).length = b + 1 := by rw [List.length_append, nD_len, List.length_replicate]; omega
    have e2 := add_lst (a := nD c) (b := List.replicate (b - c.length + 1) (D.int 0)) (by rw [← List.length_append, hl]; omega)
    have e3 : subD (.lst (nD c ++ List.replicate (b - c.length + 1) (.int 0))) (.int b) = some (.int 0) := by
      rw [sub_lst, item_nat (by omega) (by omega), List.getElem?_append_right (by rw [nD_len]; omega), List.getElem?_replicate, if_pos (by rw [nD_len]; omega)]
    have e4 : storeItem (.int b) (.int (0 + 1)) (.ol (nD c ++ List.replicate (b - c.length + 1) (.int 0))) = some (.ol (nD (bump c b))) := by
      rw [store_ol, set_nat _ (by omega) (by omega), bump_ge q']; rfl
    exact .y hlen (.y (sub_int _ _) (.y (add_int _ _) (.y e1 (.y e2 (.y e3 (.y (add_int _ _) (.y e4 h)))))))
  · have q' : b < c.length := by have := of_decide_eq_false q; omega
    have e3 : subD (.lst (nD c)) (.int b) = some (.int ((c[b]?).getD 0 : Nat)) := by
      rw [sub_lst, item_nat (by rw [nD_len]; omega) (by rw [nD_len]; omega), nD_get c b q', List.getElem?_eq_getElem q']; rfl
    have e4 : storeItem (.int b) (.int (((c[b]?).getD 0 : Nat) + 1 : Int)) (.ol (nD c)) = some (.ol (nD (bump c b))) := by
      rw [store_ol, set_nat _ (by rw [nD_len]; omega) (by rw [nD_len]; omega), bump_lt q']; rfl
    exact .y e3 (.y (add_int _ _) (.y e4 h))
end
end Mine
end

section
open PySem PySem.W PyProof.Rows
namespace Mine
theorem Pf.stop {f : D → Sc → (Fl → Sc → Prop) → Prop} {ρ : Sc} {K : Fl → Sc → Prop} (h : Pf (K .next ρ)) : Pf (wLoop f [] ρ K) := h
theorem Pf.turn {f : D → Sc → (Fl → Sc → Prop) → Prop} {d : D} {r : List D} {ρ : Sc} {K : Fl → Sc → Prop} (h : Pf (f d ρ (kTurn (fun ρ' => wLoop f r ρ' K) K))) : Pf (wLoop f (d :: r) ρ K) := h
theorem Pf.next {F : Sc → Prop} {ρ : Sc} {K : Fl → Sc → Prop} (h : Pf (F ρ)) : Pf (kTurn F K .next ρ) := h
theorem Pf.brk {F : Sc → Prop} {ρ : Sc} {K : Fl → Sc → Prop} (h : Pf (K .next ρ)) : Pf (kTurn F K .brk ρ) := h
theorem Pf.ret {F : Sc → Prop} {ρ : Sc} {K : Fl → Sc → Prop} {d : D} (h : Pf (K (.ret d) ρ)) : Pf (kTurn F K (.ret d) ρ) := h
theorem Pf.seq {F : Sc → Prop} {ρ : Sc} {K : Fl → Sc → Prop} (h : Pf (F ρ)) : Pf (kSeq F K .next ρ) := h
section
variable {k : Nat} {s : Str} {t : Nat × Nat}
theorem ws_loop {K : Fl → Sc → Prop} {rest : List Nat} (hr : rest = [] ∨ ∃ r, rest = 120 :: r) : ∀ (u : List Nat) (w : Ws) (o : Option Nat), (∀ ch ∈ u, ch = 32 ∨ ch = 9) → w.b + u.length ≤ 100 → w.c.length ≤ 101 →
    (∀ o, Pf (K .next (wsR s t (nD (u.foldl Ws.step w).c) (u.foldl Ws.step w).b (u.foldl Ws.step w).n (u.foldl Ws.step w).nt o))) → Pf (wLoop (iTurn k) ((u ++ rest).map chD) (wsR s t (nD w.c) w.b w.n w.nt o) K)
  | [], w, o, _, _, _, h => by
    rcases hr with rfl | ⟨r, rfl⟩
    · exact .stop (h o)
    · exact .turn (ws_x (.brk (h (some 120))))
  | ch :: u, w, o, hu, hb, hc, h => by
    have hu' : ∀ ch ∈ u, ch = 32 ∨ ch = 9 := fun x hx => hu x (List.mem_cons_of_mem _ hx)
    simp only [List.length_cons] at hb
    rcases hu ch List.mem_cons_self with rfl | rfl
    · refine .turn (ws_sp (.next ?_))
      exact ws_loop hr u ⟨w.c, w.b + 1, w.n + 1, w.nt⟩ (some 32) hu' (by show w.b + 1 + u.length ≤ 100; omega) hc h
    · refine .turn (ws_tab (by omega) (by omega) (.next ?_))
      exact ws_loop hr u ⟨bump w.c w.b, 0, w.n + 1, w.nt + 1⟩ (some 9) hu' (by show 0 + u.length ≤ 100; omega) (by show (bump w.c w.b).length ≤ 101; rw [bump_len]; omega) h
noncomputable def wsI (s : Str) (w : Ws) : List (Str × D) := [(nm "raw", .str s), (nm "n", .int w.n), (nm "nt", .int w.nt), (nm "norm", .tup [.tup (nD w.c), .int w.b]), (nm "is_simple", .bool (decide ((w.c.length : Int) ≤ 1)))]
theorem i_head {K : Fl → Sc → Prop} : wLoop (iTurn k) (s.cps.toList.map fun k => .str ⟨#[k]⟩) (wsR s t [] 0 0 0 none) (kSeq (fun ρ' => wX 55 (icx k) ρ' (iBody.drop 5) K) K) = wX 60 (icx k) [(nm "self", .oi t []), (nm "ws", .fr (.str s))] iBody K := by kernel_rfl
theorem i_tail {c : List D} {b n nt : Int} {o : Option Nat} {K : Fl → Sc → Prop} : (Y (builtK .tuple [.lst c]) fun y => Y (lenD (.lst c)) fun y1 => Y (cmpD .LtE y1 (.int 1)) fun y2 =>
    K .next ([(nm "self", .oi t [(nm "raw", .str s), (nm "n", .int n), (nm "nt", .int nt), (nm "norm", .tup [y, .int b]), (nm "is_simple", .bool y2)]), (nm "ws", .fr (.str s)), (nm "S", .fr (.str (nm " "))), (nm "T", .fr (.str (nm "\t"))), (nm "count", .fr (.lst c)), (nm "b", .fr (.int b)), (nm "n", .fr (.int n)), (nm "nt", .fr (.int nt))] ++
  (match o with
  | none => []
  | some ch => [(nm "ch", .fr (.str ⟨#[ch]⟩))]))) = wX 55 (icx k) (wsR s t c b n nt o) (iBody.drop 5) K := by cases o <;> kernel_rfl
theorem fold_len : ∀ (u : List Nat) (w : Ws), w.b + u.length ≤ 100 → w.c.length ≤ 101 → (u.foldl Ws.step w).c.length ≤ 101
  | [], w, _, h => h
  | ch :: u, w, hb, h => by
    rw [List.length_cons] at hb
    rw [List.foldl_cons]
    refine fold_len u _ ?_ ?_
    · unfold Ws.step; split
      · show w.b + 1 + u.length ≤ 100; omega
      · show 0 + u.length ≤ 100; omega
    · unfold Ws.step; split
      · exact h
      · show (bump w.c w.b).length ≤ 101; rw [bump_len]; omega
theorem tup_lst {l : List D} (h : l.length ≤ 1000000) : builtK .tuple [.lst l] = some (.tup l) := if_pos h
theorem cmp_le (a b : Int) : cmpD .LtE (.int a) (.int b) = some (decide (a ≤ b)) := rfl
theorem ws_new {u rest : List Nat} (hs : s.cps.toList = u ++ rest) (hr : rest = [] ∨ ∃ r, rest = 120 :: r) (hu : ∀ ch ∈ u, ch = 32 ∨ ch = 9) (hl : u.length ≤ 100) :
    callT (k + 1) "Whitespace" [.str s] = some (.inst (wsI s (u.foldl Ws.step ⟨[], 0, 0, 0⟩))) := by
  have hw : ∀ t, ∃ ρ, exB 60 (icx k) [(nm "self", .oi t []), (nm "ws", .fr (.str s))] iBody = some (.next, ρ) ∧ lkp ρ (nm "self") = some (.oi t (wsI s (u.foldl Ws.step ⟨[], 0, 0, 0⟩))) := fun t => by
    have hp : Pf (wX 60 (icx k) [(nm "self", .oi t []), (nm "ws", .fr (.str s))] iBody fun f ρ => f = .next ∧ lkp ρ (nm "self") = some (.oi t (wsI s (u.foldl Ws.step ⟨[], 0, 0, 0⟩)))) := by
      refine wcv i_head ?_
      rw [hs]
      refine ws_loop hr u ⟨[], 0, 0, 0⟩ none hu (by show 0 + u.length ≤ 100; omega) (by decide) fun o => .seq ?_
      have hlen := fold_len u ⟨[], 0, 0, 0⟩ (by show 0 + u.length ≤ 100; omega) (by decide)
      revert hlen
      generalize u.foldl Ws.step ⟨[], 0, 0, 0⟩ = w
      intro hlen
      have h1 : (nD w.c).length ≤ 1000000 := by rw [nD_len]; omega
      refine wcv i_tail (.y (tup_lst h1) (.y (len_lst h1) (.y (cmp_le _ _) ⟨rfl, ?_⟩)))
      rw [nD_len]; cases o <;> rfl
    obtain ⟨⟨fl, ρ⟩, e, e1, e2⟩ := ((w_sx 60).2 hp.h).ex
    exact ⟨ρ, by rw [e, show fl = .next from e1], e2⟩
  exact (show callT (k + 1) "Whitespace" [.str s] = clsRes (fun t => exB 60 (icx k) [(nm "self", .oi t []), (nm "ws", .fr (.str s))] iBody) (nm "self") from by kernel_rfl).trans (clsRes_eq hw)
theorem mul_ok {a b : Int} (h : okMul a b = true) : binD .Mult (.int a) (.int b) = some (.int (a * b)) := if_pos h
theorem bits_small {a : Int} (h : a.natAbs < 2 ^ 64) : Builtin.Int.intBits a ≤ 64 := by
  unfold Builtin.Int.intBits
  split
  · omega
  · rename_i q
    have h0 : a.natAbs ≠ 0 := by simpa using q
    have := (Nat.log2_lt h0).mpr h
    omega
theorem okMul_l {a b : Int} (h : a.natAbs < 2 ^ 64) : okMul a b = true := by
  unfold okMul; rw [decide_eq_true (bits_small h)]; rfl
theorem okMul_r {a b : Int} (h : b.natAbs < 2 ^ 64) : okMul a b = true := by
  unfold okMul; rw [decide_eq_true (bits_small h), Bool.or_true]
theorem dig_small {a : Int} (h : a.natAbs < 2 ^ 64) : (if a == 0 then 0 else a.natAbs.log2 / 30 + 1) ≤ 3 := by
  split
  · omega
  · rename_i q
    have h0 : a.natAbs ≠ 0 := by simpa using q
    have := (Nat.log2_lt h0).mpr h
    omega
theorem div_l {a b : Int} (h : a.natAbs < 2 ^ 64) : Builtin.divisionGoesByPylong a b = false := by
  have := dig_small h
  unfold Builtin.divisionGoesByPylong
  simp only [Bool.and_eq_false_iff, decide_eq_false_iff_not]
  right; omega
theorem div_r {a b : Int} (h : b.natAbs < 2 ^ 64) : Builtin.divisionGoesByPylong a b = false := by
  have := dig_small h
  unfold Builtin.divisionGoesByPylong
  simp only [Bool.and_eq_false_iff, decide_eq_false_iff_not]
  left; omega
theorem fdiv_int {a b : Int} (h0 : b ≠ 0) (h : Builtin.divisionGoesByPylong a b = false) : binD .FloorDiv (.int a) (.int b) = some (.int (Int.fdiv a b)) := if_pos ⟨h0, h⟩
theorem fdiv_nat {a b : Nat} (h0 : 0 < b) (h : a < 2 ^ 64) : binD .FloorDiv (.int a) (.int b) = some (.int (a / b : Nat)) := by
  rw [fdiv_int (by omega) (div_l (by simpa using h)), Int.fdiv_eq_ediv_of_nonneg _ (by omega)]; rfl
theorem mul_nat {a b : Nat} (h : a < 2 ^ 64 ∨ b < 2 ^ 64) : binD .Mult (.int a) (.int b) = some (.int (a * b : Nat)) := by
  rw [mul_ok (by rcases h with h | h; exact okMul_l (by simpa using h); exact okMul_r (by simpa using h))]; rfl
theorem add_nat (a b : Nat) : binD .Add (.int a) (.int b) = some (.int (a + b : Nat)) := rfl
theorem sub_nd {c : List Nat} {i : Nat} (h : i < c.length) (hl : c.length ≤ 1000) : subD (.tup (nD c)) (.int i) = some (.int ((c[i]?).getD 0 : Nat)) := by
  rw [sub_tup, item_nat (by rw [nD_len]; omega) (by rw [nD_len]; omega), nD_get c i h, List.getElem?_eq_getElem h]; rfl
theorem range2 {a b : Nat} (h : b ≤ 1000) : rangeD [.int a, .int b] = some ((List.range' a (b - a)).map fun (i : Nat) => .int i) := by
  have e : rangeD [.int a, .int b] = if 0 ≤ (a : Int) ∧ 0 ≤ (b : Int) ∧ (b : Int) ≤ 1000000 then some (rangeL a b) else none := rfl
  rw [e, if_pos ⟨by omega, by omega, by omega⟩]
  unfold rangeL
  rw [show ((b : Int) - a).toNat = b - a by omega, List.range'_eq_map_range, List.map_map]
  congr 1
theorem range1 {b : Nat} (h : b ≤ 1000) : rangeD [.int b] = some ((List.range b).map fun (i : Nat) => .int i) := by
  have e : rangeD [.int b] = if -1000000 ≤ (b : Int) ∧ (b : Int) ≤ 1000000 then some (rangeL 0 b) else none := rfl
  rw [e, if_pos ⟨by omega, by omega⟩]
  unfold rangeL
  rw [show ((b : Int) - 0).toNat = b by omega]
  congr 1
  refine List.map_congr_left fun i _ => ?_
  show D.int (0 + (i : Int)) = D.int i
  rw [Int.zero_add]
noncomputable def lvlSum (ts : Nat) (c l : List Nat) : Nat := (l.map fun i => i / ts * (c[i]?).getD 0).sum
noncomputable def lvl (ts : Nat) (c : List Nat) (b nt : Nat) : Nat := b + ts * (lvlSum ts c (List.range' ts (c.length - ts)) + nt)
noncomputable abbrev lcx (k : Nat) : Cx := cxAt k "Whitespace.indent_level" (mAt 3)
noncomputable abbrev lBody : List Stmt := dBody (mAt 3)
noncomputable def lvR (S : List (Str × D)) (ts : Int) (c : List D) (b : Int) (il : Slot) (o : Option Int) : Sc := [(nm "self", .fr (.inst S)), (nm "tabsize", .fr (.int ts)), (nm "count", .fr (.tup c)), (nm "trailing", .fr (.int b)), (nm "il", il)] ++
  (match o with
  | none => []
  | some i => [(nm "i", .fr (.int i))])
noncomputable abbrev lTurn (k : Nat) : D → Sc → (Fl → Sc → Prop) → Prop := fun d ρ' => wX 56 (lcx k) (upd ρ' (nm "i") (.fr d)) (forB (stmtAt lBody 2))
theorem lv_cv {S : List (Str × D)} {c : List D} {b il ts i : Int} {o : Option Int} {K : Fl → Sc → Prop} : (Y (binD .FloorDiv (.int i) (.int ts)) fun y => Y (subD (.tup c) (.int i)) fun y1 => Y (binD .Mult y y1) fun y => Y (binD .Add (.int il) y) fun y => K .next (lvR S ts c b (toOwn y) (some i))) =
    lTurn k (.int i) (lvR S ts c b (.fr (.int il)) o) K := by cases o <;> kernel_rfl
theorem lv_head {ts : Int} {r n nt : D} {c : List D} {b : Int} {si : D} {K : Fl → Sc → Prop} : (Y (lenD (.tup c)) fun y => Y (rangeD [.int ts, y]) fun y => wLoop (lTurn k) y (lvR ([(nm "raw", r), (nm "n", n), (nm "nt", nt), (nm "norm", .tup [.tup c, .int b]), (nm "is_simple", si)]) ts c b (.fr (.int 0)) none) (kSeq (fun ρ' => wX 57 (lcx k) ρ' (lBody.drop 3) K) K)) =
    wX 60 (lcx k) [(nm "self", .fr (.inst [(nm "raw", r), (nm "n", n), (nm "nt", nt), (nm "norm", .tup [.tup c, .int b]), (nm "is_simple", si)])), (nm "tabsize", .fr (.int ts))] lBody K := by kernel_rfl
theorem lv_tail {ts : Int} {r n : D} {nt : Int} {c : List D} {b il : Int} {si : D} {o : Option Int} {d : D} : (Y (binD .Mult (.int ts) (.int (il + nt))) fun y => Y (binD .Add (.int b) y) fun y => y = d) =
    wX 57 (lcx k) (lvR ([(nm "raw", r), (nm "n", n), (nm "nt", .int nt), (nm "norm", .tup [.tup c, .int b]), (nm "is_simple", si)]) ts c b (.fr (.int il)) o) (lBody.drop 3) (kFin (· = d)) := by cases o <;> kernel_rfl
theorem lv_loop {S : List (Str × D)} {ts : Nat} (ht : 0 < ts) {c : List Nat} {b : Int} (hc : c.length ≤ 1000) {K : Fl → Sc → Prop} : ∀ (l : List Nat) (il : Nat) (o : Option Int), (∀ i ∈ l, i < c.length) → (∀ o, Pf (K .next (lvR S ts (nD c) b (.fr (.int (il + lvlSum ts c l : Nat))) o))) →
    Pf (wLoop (lTurn k) (l.map fun (i : Nat) => .int i) (lvR S ts (nD c) b (.fr (.int il)) o) K)
  | [], il, o, _, h => .stop (h o)
  | i :: l, il, o, hi, h => by
    have h1 := hi i List.mem_cons_self
    refine .turn (wcv lv_cv (.y (fdiv_nat ht (by omega)) (.y (sub_nd h1 hc) (.y (mul_nat (.inl (Nat.lt_of_le_of_lt (Nat.div_le_self _ _) (by omega)))) (.y (add_nat _ _) (.next ?_))))))
    refine lv_loop ht hc l _ _ (fun j hj => hi j (List.mem_cons_of_mem _ hj)) fun o => ?_
    have := h o
    rw [show lvlSum ts c (i :: l) = i / ts * (c[i]?).getD 0 + lvlSum ts c l from List.sum_cons, ← Nat.add_assoc] at this
    exact this
theorem lvl_le {ts : Nat} {c : List Nat} (hc : ∀ x ∈ c, x ≤ 1000) : ∀ l : List Nat, (∀ i ∈ l, i ≤ 1000) → lvlSum ts c l ≤ l.length * 1000000
  | [], _ => Nat.le_refl _
  | i :: l, h => by
    have h1 := lvl_le hc (ts := ts) l fun j hj => h j (List.mem_cons_of_mem _ hj)
    rw [show lvlSum ts c (i :: l) = i / ts * (c[i]?).getD 0 + lvlSum ts c l from List.sum_cons, List.length_cons]
    have h2 : i / ts ≤ 1000 := Nat.le_trans (Nat.div_le_self _ _) (h i List.mem_cons_self)
    have h3 : (c[i]?).getD 0 ≤ 1000 := by
      cases q : c[i]? with
      | none => exact Nat.zero_le _
      | some x => exact hc x (List.mem_of_getElem? q)
    have h4 := Nat.mul_le_mul h2 h3
    omega
theorem level_eq {s : Str} {w : Ws} {ts : Nat} (ht : 0 < ts) (hc : w.c.length ≤ 1000) (hm : ∀ x ∈ w.c, x ≤ 1000) (hn : w.nt ≤ 1000) : callT (k + 1) "Whitespace.indent_level" [.inst (wsI s w), .int ts] = some (.int (lvl ts w.c w.b w.nt)) := by
  refine call_go "Whitespace.indent_level" (mAt 3) [(nm "self", .fr (.inst (wsI s w))), (nm "tabsize", .fr (.int ts))] (by kernel_rfl) (by kernel_rfl) (by kernel_rfl) (wcv lv_head ?_)
  refine .y (len_tup (by rw [nD_len]; omega)) ?_
  rw [nD_len]
  refine .y (range2 hc) (lv_loop ht hc _ 0 none (fun i hi => ?_) fun o => .seq (wcv lv_tail ?_))
  · have := List.mem_range'_1.mp hi; omega
  · rw [Nat.zero_add]
    have h1 := lvl_le (ts := ts) hm (List.range' ts (w.c.length - ts)) fun i hi => by have := List.mem_range'_1.mp hi; omega
    rw [List.length_range'] at h1
    have h2 : (w.c.length - ts) * 1000000 ≤ 1000 * 1000000 := Nat.mul_le_mul_right _ (by omega)
    exact .y (mul_nat (a := ts) (b := lvlSum ts w.c (List.range' ts (w.c.length - ts)) + w.nt) (.inr (by omega))) (.y (add_nat _ _) ⟨rfl⟩)
theorem eq_cv {r n nt si r' n' nt' si' : D} {c c' : List D} {b b' : Int} {d : D} : (Y (cmpD .Eq (.tup [.tup c, .int b]) (.tup [.tup c', .int b'])) fun y => .bool y = d) =
    wX 60 (cxAt k "Whitespace.equal" (mAt 4)) [(nm "self", .fr (.inst [(nm "raw", r), (nm "n", n), (nm "nt", nt), (nm "norm", .tup [.tup c, .int b]), (nm "is_simple", si)])), (nm "other", .fr (.inst [(nm "raw", r'), (nm "n", n'), (nm "nt", nt'), (nm "norm", .tup [.tup c', .int b']), (nm "is_simple", si')]))] (dBody (mAt 4)) (kFin (· = d)) := by kernel_rfl
theorem eqL_ints {f : D → D → Option Bool} (hf : ∀ a b, f (.int a) (.int b) = some (a == b)) : ∀ c c' : List Nat, ∃ b, eqL f (nD c) (nD c') = some b ∧ (b && c.length == c'.length) = (c == c')
  | [], [] => ⟨true, rfl, rfl⟩
  | [], a :: r => ⟨true, rfl, by simp⟩
  | a :: r, [] => ⟨true, rfl, by simp⟩
  | a :: r, a' :: r' => by
    (refine xe1_2 (eqL_ints hf r r') ?_; intro b h1 h2)
    refine ⟨((a : Int) == a') && b, ?_, ?_⟩
    · show (match f (.int a) (.int a'), eqL f (nD r) (nD r') with | some a, some b => some (a && b) | _, _ => none) = _
      rw [hf, h1]
    · have e : ((a : Int) == a') = (a == a') := by rw [Bool.eq_iff_iff]; simp; omega
      rw [e, Bool.and_assoc, List.length_cons, List.length_cons]
      have e2 : (r.length + 1 == r'.length + 1) = (r.length == r'.length) := by rw [Bool.eq_iff_iff]; simp
      rw [e2, h2]; rfl
theorem eqD_ints (c c' : List Nat) (n : Nat) : eqD (n + 1) (.tup (nD c)) (.tup (nD c')) = some (c == c') := by
  (refine xe1_2 (eqL_ints (f := eqD n) (fun a b => by cases n <;> rfl) c c') ?_; intro b h1 h2)
  show (eqL (eqD n) (nD c) (nD c')).map (fun b => b && (nD c).length == (nD c').length) = _
  rw [h1, nD_len, nD_len]; exact congrArg some h2
theorem equal_eq {s s' : Str} {w w' : Ws} : callT (k + 1) "Whitespace.equal" [.inst (wsI s w), .inst (wsI s' w')] = some (.bool (w.c == w'.c && w.b == w'.b)) := by
  refine call_go "Whitespace.equal" (mAt 4) [(nm "self", .fr (.inst (wsI s w))), (nm "other", .fr (.inst (wsI s' w')))] (by kernel_rfl) (by kernel_rfl) (by kernel_rfl) (wcv eq_cv ?_)
  refine .y (a := w.c == w'.c && w.b == w'.b) ?_ ⟨rfl⟩
  have e : cmpD .Eq (.tup [.tup (nD w.c), .int w.b]) (.tup [.tup (nD w'.c), .int w'.b]) = (match eqD 4 (.tup (nD w.c)) (.tup (nD w'.c)), some (((w.b : Int) == w'.b) && true) with | some a, some b => some (a && b) | _, _ => none).map (fun b => b && true) := rfl
  have e2 : ((w.b : Int) == w'.b) = (w.b == w'.b) := by rw [Bool.eq_iff_iff]; simp; omega
  rw [e, eqD_ints, e2]
  simp
end
end Mine
end

section
open PySem PySem.W PyProof.Rows
set_option tactic.hygienic false
namespace Mine
noncomputable def runS (a : Nat) : Str := nm "<" ++ Txt.mul (nm " ") (a : Int) ++ nm "\t>"
theorem mul_sp {a : Nat} (h : a ≤ 1000) : binD .Mult (.str (nm " ")) (.int a) = some (.str (Txt.mul (nm " ") a)) := if_pos ⟨by omega, by omega, by decide⟩
theorem mul_len (a : Nat) : (Txt.mul (nm " ") (a : Int)).length = a := by
  unfold Txt.mul
  split
  · have : a = 0 := by omega
    subst this; rfl
  · split
    · rename_i h1 h2
      have e : ((nm " ").length == 0) = false := by decide
      rw [e, Bool.or_false] at h2
      have : a = 1 := by have := eq_of_beq h2; omega
      subst this; rfl
    · rw [Int.toNat_natCast]
      show ((List.replicate a (nm " ").cps).foldl (· ++ ·) #[]).size = a
      have : ∀ (n : Nat) (x : Array Nat), ((List.replicate n (nm " ").cps).foldl (· ++ ·) x).size = x.size + n := by
        intro n
        induction n with
        | zero => intro x; rfl
        | succ m ih => intro x; rw [List.replicate_succ, List.foldl_cons, ih, Array.size_append]; show x.size + 1 + m = _; omega
      rw [this]; simp
theorem str_len_append (a b : Str) : (a ++ b).length = a.length + b.length := Array.size_append
theorem add_str {a b : Str} (h : a.length + b.length ≤ 10000) : binD .Add (.str a) (.str b) = some (.str (a ++ b)) := if_pos (Nat.le_trans h (by decide))
theorem fss {k : Nat} : ∀ a, a < 7 → callT (k + 1) "func_std_string" [.tup [.str (nm "~"), .int 0, .str (runS a)]] = some (.str (tokS a))
  | 0, _ => by kernel_rfl
  | 1, _ => by kernel_rfl
  | 2, _ => by kernel_rfl
  | 3, _ => by kernel_rfl
  | 4, _ => by kernel_rfl
  | 5, _ => by kernel_rfl
  | 6, _ => by kernel_rfl
  | n + 7, h => by omega
noncomputable def rowC (c : List Nat) (C : CT) (a : Nat) : CT := if (c[a]?).getD 0 = 0 then C else upN C a ((c[a]?).getD 0)
noncomputable def rowsC (c : List Nat) : CT := (List.range c.length).foldl (rowC c) []
noncomputable abbrev ncx (k : Nat) : Cx := cxAt k "_law_entry" (stAt 15)
noncomputable abbrev nBody : List Stmt := dBody (stAt 15)
noncomputable def nR (s ss : D) (pair : Bool) (w : D) (c : List D) (x : Slot) (o : Option (D × Option D)) : Sc := [(nm "line", .fr s), (nm "sizes", .fr ss), (nm "pair", .fr (.bool pair)), (nm "white", .fr w), (nm "count", .fr (.tup c)), (nm "callers", x)] ++
  (match o with
  | none => []
  | some (i, none) => [(nm "a", .fr i)]
  | some (i, some n) => [(nm "a", .fr i), (nm "name", .fr n)])
noncomputable abbrev nTurn (k : Nat) : D → Sc → (Fl → Sc → Prop) → Prop := fun d ρ' => wX 55 (ncx k) (upd ρ' (nm "a") (.fr d)) (forB (stmtAt nBody 3))
section
variable {k : Nat} {s ss w : D} {pair : Bool}
theorem n_cv {c : List D} {x : List (Str × D)} {a : Int} {o : Option (D × Option D)} {K : Fl → Sc → Prop} : (Y (subD (.tup c) (.int a)) fun y => Y (cmpD .NotEq y (.int 0)) fun y => If y
    (wX 53 (ncx k) (nR s ss pair w c (.od x) (some (.int a, o.bind (·.2)))) (thenB (stmtAt (forB (stmtAt nBody 3)) 0)) (kSeq (fun ρ' => wX 54 (ncx k) ρ' [] K) K))
    (K .next (nR s ss pair w c (.od x) (some (.int a, o.bind (·.2)))))) = nTurn k (.int a) (nR s ss pair w c (.od x) o) K := by
  rcases o with _ | ⟨i, _ | n⟩ <;> kernel_rfl
theorem n_cv2 {c : List D} {x : List (Str × D)} {a : Int} {o : Option D} {K : Fl → Sc → Prop} : (Y (binD .Mult (.str (nm " ")) (.int a)) fun y => Y (binD .Add (.str (nm "<")) y) fun y => Y (binD .Add y (.str (nm "\t>"))) fun y => Y (callT k "func_std_string" [.tup [.str (nm "~"), .int 0, y]]) fun n =>
    wX 52 (ncx k) (nR s ss pair w c (.od x) (some (.int a, some n))) ((thenB (stmtAt (forB (stmtAt nBody 3)) 0)).drop 1) (kSeq (fun ρ' => wX 54 (ncx k) ρ' [] K) K)) =
    wX 53 (ncx k) (nR s ss pair w c (.od x) (some (.int a, o))) (thenB (stmtAt (forB (stmtAt nBody 3)) 0)) (kSeq (fun ρ' => wX 54 (ncx k) ρ' [] K) K) := by
  rcases o with _ | n <;> kernel_rfl
theorem n_cv3 {c : List D} {x : List (Str × D)} {a : Int} {n : Str} {K : Fl → Sc → Prop} : (If pair
    (Y (subD (.tup c) (.int a)) fun y1 => Y (subD (.tup c) (.int a)) fun y2 => Y (binD .Mult (.int a) y2) fun y3 => Y (storeItem (.str n) (.tup [y1, y3]) (.od x)) fun y => K .next (nR s ss pair w c y (some (.int a, some (.str n)))))
    (Y (subD (.tup c) (.int a)) fun y1 => Y (storeItem (.str n) y1 (.od x)) fun y => K .next (nR s ss pair w c y (some (.int a, some (.str n)))))) =
    wX 52 (ncx k) (nR s ss pair w c (.od x) (some (.int a, some (.str n)))) ((thenB (stmtAt (forB (stmtAt nBody 3)) 0)).drop 1) (kSeq (fun ρ' => wX 54 (ncx k) ρ' [] K) K) := by kernel_rfl
theorem store_od {x : List (Str × D)} (n : Str) (d : D) (h : x.length ≤ 1000) : storeItem (.str n) d (.od x) = some (.od (upd x n d)) := if_pos (by omega)
theorem n_loop {c : List Nat} (hc : c.length ≤ 7) {K : Fl → Sc → Prop} : ∀ (l : List Nat) (C : CT) (o : Option (D × Option D)), (∀ a ∈ l, a < c.length) → C.length + l.length ≤ 100 → (∀ o, Pf (K .next (nR s ss pair w (nD c) (.od (cD pair (l.foldl (rowC c) C))) o))) →
    Pf (wLoop (nTurn (k + 1)) (l.map fun (i : Nat) => .int i) (nR s ss pair w (nD c) (.od (cD pair C)) o) K)
  | [], C, o, _, _, h => .stop (h o)
  | a :: l, C, o, hl, hC, h => by
    have ha := hl a List.mem_cons_self
    have hl' : ∀ b ∈ l, b < c.length := fun b hb => hl b (List.mem_cons_of_mem _ hb)
    rw [List.length_cons] at hC
    rw [List.foldl_cons] at h
    refine .turn (wcv n_cv (.y (sub_nd ha (by omega)) ?_))
    have hq : cmpD .NotEq (.int ((c[a]?).getD 0 : Nat)) (.int 0) = some (!((c[a]?).getD 0 == 0)) := by
      show some (!(((c[a]?).getD 0 : Nat) : Int) == 0) = _
      congr 2
      rw [Bool.eq_iff_iff]; simp; try omega
    refine .y hq (.ite (fun q => ?_) fun q => ?_)
    · have q' : (c[a]?).getD 0 ≠ 0 := by simpa using q
      refine wcv n_cv2 (.y (mul_sp (by omega)) (.y (add_str (by rw [mul_len]; show 1 + a ≤ 10000; omega)) (.y (add_str (by rw [str_len_append, mul_len]; show 1 + a + 2 ≤ 10000; omega)) (.y (fss a (by omega)) (wcv n_cv3 ?_)))))
      have hx : (cD pair C).length ≤ 1000 := by rw [cD_len]; omega
      have hr : rowC c C a = upN C a ((c[a]?).getD 0) := if_neg q'
      have hn := upN_len a ((c[a]?).getD 0) C
      have hg := n_loop hc (K := K) l (upN C a ((c[a]?).getD 0)) (some (.int a, some (.str (tokS a)))) hl' (by omega) (by rw [← hr]; exact h)
      refine .ite (fun p => ?_) fun p => ?_
      · subst p
        refine .y (sub_nd ha (by omega)) (.y (sub_nd ha (by omega)) (.y (mul_nat (.inl (by omega))) (.y (store_od _ _ hx) (.next ?_))))
        rw [← cD_upd] at hg; exact hg
      · subst p
        refine .y (sub_nd ha (by omega)) (.y (store_od _ _ hx) (.next ?_))
        rw [← cD_upd] at hg; exact hg
    · have q' : (c[a]?).getD 0 = 0 := by simpa using q
      have hr : rowC c C a = C := if_pos q'
      exact .next (n_loop hc l C _ hl' (by omega) (by rw [← hr]; exact h))
end
end Mine
end

section
open PySem PySem.W PyProof.Rows
set_option tactic.hygienic false
namespace Mine
noncomputable def tgE : Stmt → Expr
  | .Assign (t :: _) _ _ => t
  | _ => anyE
noncomputable def fnE : Expr → Expr
  | .Call f _ _ _ => f
  | _ => anyE
section
variable {n : Nat} {c : Cx} {ρ : Sc}
theorem Pf.st {l : List Stmt} {K : Fl → Sc → Prop} (i : Nat) (hi : i < l.length) (h : Pf (wS n c ρ (stmtAt l i) (kSeq (fun ρ' => wX n c ρ' (l.drop (i + 1)) K) K))) : Pf (wX (n + 1) c ρ (l.drop i) K) := by
  rw [List.drop_eq_getElem_cons hi]
  rwa [show stmtAt l i = l[i] by unfold stmtAt; rw [List.getElem?_eq_getElem hi]; rfl] at h
theorem Pf.sc {l : List Stmt} {K : Fl → Sc → Prop} {ρ' : Sc} (e : ρ = ρ') (h : Pf (wX n c ρ l K)) : Pf (wX n c ρ' l K) := e ▸ h
theorem Pf.asg {S : Stmt} {x : Str} {K : Fl → Sc → Prop} (h1 : S = .Assign [.Name x (tgE S).pos] (sE S 0) S.pos) (h2 : isVar c.names x = true) (h : Pf (wE n c (frz (sreads S) ρ) (sE S 0) fun d => K .next (upd (frz (sreads S) ρ) x (asSl (sE S 0) d)))) : Pf (wS (n + 1) c ρ S K) :=
  Eq.mpr (congrArg (fun T => Pf (wS (n + 1) c ρ T K)) h1) (Pf.cd h2 (Eq.mp (congrArg (fun T => Pf (wE n c (frz (sreads T) ρ) (sE S 0) fun d => K .next (upd (frz (sreads T) ρ) x (asSl (sE S 0) d)))) h1) h))
theorem Pf.retn {S : Stmt} {K : Fl → Sc → Prop} (h1 : S = .Return (some (sE S 0)) S.pos) (h : Pf (wE n c (frz (sreads S) ρ) (sE S 0) fun d => K (.ret d) (frz (sreads S) ρ))) : Pf (wS (n + 1) c ρ S K) :=
  Eq.mpr (congrArg (fun T => Pf (wS (n + 1) c ρ T K)) h1) (Eq.mp (congrArg (fun T => Pf (wE n c (frz (sreads T) ρ) (sE S 0) fun d => K (.ret d) (frz (sreads T) ρ))) h1) h)
theorem Pf.ifE {e : Expr} {K : D → Prop} (h1 : e = .IfExp (xE e 0) (xE e 1) (xE e 2) e.pos) (h : Pf (wT n c ρ (xE e 0) fun x => If x (wE n c ρ (xE e 1) K) (wE n c ρ (xE e 2) K))) : Pf (wE (n + 1) c ρ e K) :=
  Eq.mpr (congrArg (fun T => Pf (wE (n + 1) c ρ T K)) h1) h
theorem Pf.cmp {e : Expr} {op : CmpOp} {K : Bool → Prop} (h1 : e = .Compare (xE e 0) [op] [xE e 1] e.pos) (h : Pf (wP n c ρ (xE e 0) fun x => wP n c ρ (xE e 1) fun y => Y (cmpD op x y) K)) : Pf (wT (n + 1) c ρ e K) :=
  Eq.mpr (congrArg (fun T => Pf (wT (n + 1) c ρ T K)) h1) h
theorem Pf.pe {e : Expr} {K : D → Prop} (h1 : vName e = none) (h : Pf (wE n c ρ e K)) : Pf (wP (n + 1) c ρ e K) := by
  unfold wP; rw [h1]; exact h
theorem Pf.len {e : Expr} {K : D → Prop} {f : Str} (h1 : (e, isGlob c.names f, bk f) = (.Call (.Name f (fnE e).pos) [xE e 0] [] e.pos, true, some .len)) (h : Pf (wP n c ρ (xE e 0) fun x => Y (lenD x) K)) : Pf (wE (n + 1) c ρ e K) := by
  refine Eq.mpr (congrArg (fun T => Pf (wE (n + 1) c ρ T K)) (congrArg Prod.fst h1)) (Pf.cd (b := decide (isGlob c.names f = true)) (decide_eq_true (congrArg (fun z => z.2.1) h1)) ⟨?_⟩)
  show wCallN _ _ _ _ _ _ _
  unfold wCallN
  rw [show bk f = some .len from congrArg (fun z => z.2.2) h1]
  dsimp only
  rw [if_neg (by decide), if_pos rfl]
  exact h.h
end
end Mine
end

section
open PySem PySem.W PyProof.Rows
set_option tactic.hygienic false
namespace Mine
section
variable {k : Nat} {pair : Bool}
theorem n_h1 {s ss : D} {K : Fl → Sc → Prop} : (Y (callT k "Whitespace" [s]) fun w => wX 59 (ncx k) [(nm "line", .fr s), (nm "sizes", .fr ss), (nm "pair", .fr (.bool pair)), (nm "white", .fr w)] (nBody.drop 1) K) =
    wX 60 (ncx k) [(nm "line", .fr s), (nm "sizes", .fr ss), (nm "pair", .fr (.bool pair))] nBody K := by kernel_rfl
theorem n_h2 {s ss r n nt si : D} {c : List D} {b : D} {K : Fl → Sc → Prop} : (Y (lenD (.tup c)) fun y => Y (rangeD [y]) fun y => wLoop (nTurn k) y (nR s ss pair (.inst [(nm "raw", r), (nm "n", n), (nm "nt", nt), (nm "norm", .tup [.tup c, b]), (nm "is_simple", si)]) c (.od []) none) (kSeq (fun ρ' => wX 56 (ncx k) ρ' (nBody.drop 4) K) K)) =
    wX 59 (ncx k) [(nm "line", .fr s), (nm "sizes", .fr ss), (nm "pair", .fr (.bool pair)), (nm "white", .fr (.inst [(nm "raw", r), (nm "n", n), (nm "nt", nt), (nm "norm", .tup [.tup c, b]), (nm "is_simple", si)]))] (nBody.drop 1) K := by kernel_rfl
theorem n_t {s r n nt no si : D} {s0 s1 : Int} {c : List D} {x : List (Str × D)} {o : Option (D × Option D)} {d : D} : (Y (callT k "Whitespace.indent_level" [.inst [(nm "raw", r), (nm "n", n), (nm "nt", nt), (nm "norm", no), (nm "is_simple", si)], .int s0]) fun y => Y (callT k "Whitespace.indent_level" [.inst [(nm "raw", r), (nm "n", n), (nm "nt", nt), (nm "norm", no), (nm "is_simple", si)], .int s1]) fun y1 =>
    D.tup [.int 1, nt, y, y1, .dct x] = d) = wX 56 (ncx k) (nR s (.lst [.int s0, .int s1]) pair (.inst [(nm "raw", r), (nm "n", n), (nm "nt", nt), (nm "norm", no), (nm "is_simple", si)]) c (.od x) o) (nBody.drop 4) (kFin (· = d)) := by rcases o with _ | ⟨i, _ | n⟩ <;> kernel_rfl
theorem entry_eq {s : Str} {u rest : List Nat} {w : Ws} {s0 s1 : Nat} (hs : s.cps.toList = u ++ rest) (hr : rest = [] ∨ ∃ r, rest = 120 :: r) (hu : ∀ ch ∈ u, ch = 32 ∨ ch = 9) (hl : u.length ≤ 100) (hw : u.foldl Ws.step ⟨[], 0, 0, 0⟩ = w) (hc : w.c.length ≤ 7) (hm : ∀ x ∈ w.c, x ≤ 1000) (hn : w.nt ≤ 1000) (h0 : 0 < s0) (h1 : 0 < s1) :
    callT (k + 1 + 1) "_law_entry" [.str s, .lst [.int s0, .int s1], .bool pair] = some (Tot.d pair ⟨1, w.nt, lvl s0 w.c w.b w.nt, lvl s1 w.c w.b w.nt, rowsC w.c⟩) := by
  refine call_go (k := k + 1) "_law_entry" (stAt 15) [(nm "line", .fr (.str s)), (nm "sizes", .fr (.lst [.int s0, .int s1])), (nm "pair", .fr (.bool pair))] (by kernel_rfl) (by kernel_rfl) (by kernel_rfl) (wcv n_h1 ?_)
  have hW := ws_new (k := k) hs hr hu hl
  rw [hw] at hW
  refine .y hW (wcv n_h2 (.y (len_tup (by rw [nD_len]; omega)) ?_))
  rw [nD_len]
  refine .y (range1 (by omega)) (n_loop hc _ [] none (fun a ha => List.mem_range.mp ha) (by rw [List.length_range]; show 0 + _ ≤ 100; omega) fun o => .seq (wcv n_t ?_))
  exact .y (level_eq h0 (by omega) hm hn) (.y (level_eq h1 (by omega) hm hn) ⟨rfl⟩)
noncomputable abbrev scx (k : Nat) : Cx := cxAt k "_law_sum" (stAt 16)
noncomputable abbrev sBody : List Stmt := dBody (stAt 16)
noncomputable def sR (p : D) (ts es : List D) (t : D) (az : List D) (o : Option Int) : Sc := [(nm "pattern", .fr p), (nm "texts", .fr (.lst ts)), (nm "entries", .fr (.lst es)), (nm "total", .fr t), (nm "answers", .fr (.lst az))] ++
  (match o with
  | none => []
  | some i => [(nm "i", .fr (.int i))])
noncomputable abbrev sTurn (k : Nat) : D → Sc → (Fl → Sc → Prop) → Prop := fun d ρ' => wX 56 (scx k) (upd ρ' (nm "i") (.fr d)) (forB (stmtAt sBody 2))
noncomputable def sR0 (p : D) (ts es : List D) : Sc := [(nm "pattern", .fr p), (nm "texts", .fr (.lst ts)), (nm "entries", .fr (.lst es)), (nm "total", .fr (.tup [.int 0, .int 0, .int 0, .int 0, .dct []]))]
noncomputable abbrev sE1 : Expr := sE (stmtAt sBody 1) 0
noncomputable abbrev sE2 : Expr := xE (xE (xE (sE (stmtAt sBody 3) 0) 0) 1) 0
variable {p t d : D} {ts es az : List D}
noncomputable abbrev sF1 (p : D) (ts es : List D) : Sc := frz (sreads (stmtAt sBody 1)) (sR0 p ts es)
noncomputable abbrev sF3 (p : D) (ts es : List D) (t : D) (az : List D) (o : Option Int) : Sc := frz (sreads (stmtAt sBody 3)) (sR p ts es t az o)
noncomputable abbrev sB0 (p : D) (ts es : List D) : Sc := [(nm "pattern", .fr p), (nm "texts", .fr (.lst ts)), (nm "entries", .fr (.lst es))]
theorem s_e0 {K : D → Prop} : K (.tup [.int 0, .int 0, .int 0, .int 0, .dct []]) = wE 58 (scx k) (frz (sreads (stmtAt sBody 0)) (sB0 p ts es)) (sE (stmtAt sBody 0) 0) K := by kernel_rfl
theorem s_e1 {K : D → Prop} : (wLC 56 (scx k) (sF1 p ts es) sE1 ts fun out => Cd (decide (out.length ≤ 1000000)) (K (.lst out))) = wE 57 (scx k) (sF1 p ts es) sE1 K := by kernel_rfl
theorem s_g {K : List D → Prop} : (Y (callT k "_ellipsis_match" [p, t]) fun y => K [y]) = wcOf 56 (scx k) (sF1 p ts es) sE1 t K := by kernel_rfl
theorem s_l {K : Fl → Sc → Prop} : (Y (lenD (.lst ts)) fun y => Y (rangeD [y]) fun y => wLoop (sTurn k) y (sR p ts es t az none) K) = wS 57 (scx k) (sR p ts es t az none) (stmtAt sBody 2) K := by kernel_rfl
theorem s_cv {i : Int} {o : Option Int} {K : Fl → Sc → Prop} : (Y (subD (.lst az) (.int i)) fun y => Y (cmpD .Is y (.bool true)) fun y => If y
      (Y (subD (.lst es) (.int i)) fun y => Y (callT k "add_func_stats" [y, t]) fun y => K .next (sR p ts es y az (some i)))
      (K .next (sR p ts es t az (some i)))) = sTurn k (.int i) (sR p ts es t az o) K := by cases o <;> kernel_rfl
noncomputable abbrev sX : Expr := sE (stmtAt sBody 3) 0
theorem s_p1 {o : Option Int} {K : D → Prop} : Y (lenD (.lst ts)) K = wP 53 (scx k) (sF3 p ts es t az o) (xE (xE sX 0) 0) K := by cases o <;> kernel_rfl
theorem s_e2 {o : Option Int} {K : D → Prop} : (wLC 49 (scx k) (sF3 p ts es t az o) sE2 az fun out => Cd (decide (out.length ≤ 1000000)) (K (.lst out))) = wE 50 (scx k) (sF3 p ts es t az o) sE2 K := by cases o <;> kernel_rfl
theorem s_n {o : Option Int} {K : D → Prop} : K t = wE 54 (scx k) (sF3 p ts es t az o) (xE sX 1) K := by cases o <;> kernel_rfl
theorem s_g2 {o : Option Int} {b : Bool} {K : List D → Prop} (h : Pf (K [.bool b])) : Pf (wcOf 49 (scx k) (sF3 p ts es t az o) sE2 (.bool b) K) := by cases o <;> cases b <;> exact wcv (P := K [.bool _]) (by kernel_rfl) h
theorem Pf.map {f : D → (List D → Prop) → Prop} {g : D → D} {K : List D → Prop} (l : List D) (hf : ∀ d ∈ l, ∀ K', Pf (K' [g d]) → Pf (f d K')) (h : Pf (K (l.map g))) : Pf (wGather f l K) :=
  ⟨gather_map l (fun d hd K' h => (hf d hd K' ⟨h⟩).h) h.h⟩
theorem Pf.comp {n : Nat} {c : Cx} {ρ : Sc} {e : Expr} {g : D → D} {K : List D → Prop} (l : List D) (ho : lcOk e = true) (hf : ∀ d ∈ l, ∀ K', Pf (K' [g d]) → Pf (wcOf n c ρ e d K')) (h : Pf (K (l.map g))) : Pf (wLC n c ρ e l K) := ⟨wLC_of ho (Pf.map l hf h).h⟩
noncomputable def sumT (t : Tot) : List (Bool × Tot) → Tot
  | [] => t
  | (b, e) :: r => sumT (if b then t.add e else t) r
end
end Mine
end

section
open PySem PySem.W PyProof.Rows
set_option tactic.hygienic false
namespace Mine
section
variable {k : Nat} {pair : Bool} {p : D} {ts : List D}
theorem sub_l {l : List D} {i : Nat} {d : D} (h : l[i]? = some d) (hl : l.length ≤ 1000) : subD (.lst l) (.int i) = some d := by
  have hi := (List.getElem?_eq_some_iff.mp h).1
  rw [sub_lst, item_nat hi (by omega), h]
theorem s_loop {L : List (Bool × Tot)} (hL : L.length ≤ 10) (hC : ∀ e ∈ L, e.2.C.length ≤ 7) {K : Fl → Sc → Prop} : ∀ (m i : Nat) (t : Tot) (o : Option Int), i + m = L.length → t.C.length ≤ 7 * i → (∀ o, Pf (K .next (sR p ts (L.map fun e => e.2.d pair) ((sumT t (L.drop i)).d pair) (L.map fun e => .bool e.1) o))) →
    Pf (wLoop (sTurn (k + 1 + 1)) ((List.range' i m).map fun (i : Nat) => .int i) (sR p ts (L.map fun e => e.2.d pair) (t.d pair) (L.map fun e => .bool e.1) o) K)
  | 0, i, t, o, hi, ht, h => by
    rw [List.drop_of_length_le (by omega)] at h; exact .stop (h o)
  | m + 1, i, t, o, hi, ht, h => by
    have hlt : i < L.length := by omega
    have hd := List.drop_eq_getElem_cons hlt
    have hm : L[i] ∈ L := List.getElem_mem hlt
    have h1 := hC _ hm
    rw [List.range'_succ, List.map_cons]
    refine .turn (wcv s_cv (.y (sub_l (d := .bool L[i].1) (by rw [List.getElem?_map, List.getElem?_eq_getElem hlt]; rfl) (by rw [List.length_map]; omega)) (.y (a := L[i].1 == true) rfl (.ite (fun q => ?_) fun q => ?_))))
    · refine .y (sub_l (d := L[i].2.d pair) (by rw [List.getElem?_map, List.getElem?_eq_getElem hlt]; rfl) (by rw [List.length_map]; omega)) (.y (add_stats_eq (s := t) (t := L[i].2) (by omega) (by omega)) (.next ?_))
      have q' : L[i].1 = true := eq_of_beq q
      have h2 := copy_len L[i].2.C []
      have h3 := merge_len t.C (copyC L[i].2.C)
      have h4 : (t.add L[i].2).C = t.C.foldl sumC (copyC L[i].2.C) := rfl
      have h5 : copyC L[i].2.C = L[i].2.C.foldl (fun C e => upN C e.1 e.2) [] := rfl
      rw [List.length_nil] at h2
      refine s_loop hL hC m (i + 1) (t.add L[i].2) _ (by omega) (by rw [h4]; rw [h5] at h3 ⊢; omega) fun o => ?_
      have := h o
      rw [hd] at this
      have e : sumT t (L[i] :: L.drop (i + 1)) = sumT (if L[i].1 then t.add L[i].2 else t) (L.drop (i + 1)) := rfl
      rw [e, q', if_pos rfl] at this
      exact this
    · have q' : L[i].1 = false := by
        cases hb : L[i].1
        · rfl
        · rw [hb] at q; cases q
      refine .next (s_loop hL hC m (i + 1) t _ (by omega) (by omega) fun o => ?_)
      have := h o
      rw [hd] at this
      have e : sumT t (L[i] :: L.drop (i + 1)) = sumT (if L[i].1 then t.add L[i].2 else t) (L.drop (i + 1)) := rfl
      rw [e, q', if_neg (by decide)] at this
      exact this
noncomputable def ansD (f : Str → Bool) : D → D
  | .str t => .bool (f t)
  | d => d
theorem sum_eq {pat : Str} {texts : List Str} {ents : List Tot} {f : Str → Bool} (hl : texts.length = ents.length) (hL : ents.length ≤ 10) (hC : ∀ e ∈ ents, e.C.length ≤ 7) (hf : ∀ t ∈ texts, callT (k + 1 + 1) "_ellipsis_match" [.str pat, .str t] = some (.bool (f t))) :
    callT (k + 1 + 1 + 1) "_law_sum" [.str pat, .lst (texts.map .str), .lst (ents.map (Tot.d pair))] = some ((sumT ⟨0, 0, 0, 0, []⟩ ((texts.map f).zip ents)).d pair) := by
  have e1 : ((texts.map f).zip ents).map (fun e => e.2.d pair) = ents.map (Tot.d pair) := by
    rw [show (fun e : Bool × Tot => e.2.d pair) = Tot.d pair ∘ Prod.snd from rfl, ← List.map_map, List.map_snd_zip (by rw [List.length_map]; omega)]
  have e2 : ((texts.map f).zip ents).map (fun e => D.bool e.1) = (texts.map D.str).map (ansD f) := by
    rw [show (fun e : Bool × Tot => D.bool e.1) = D.bool ∘ Prod.fst from rfl, ← List.map_map, List.map_fst_zip (by rw [List.length_map]; omega), List.map_map, List.map_map]; rfl
  have hz : ((texts.map f).zip ents).length = texts.length := by rw [List.length_zip, List.length_map]; omega
  have hts : (texts.map D.str).length = texts.length := List.length_map ..
  refine call_go (k := k + 1 + 1) "_law_sum" (stAt 16) (sB0 (.str pat) (texts.map .str) (ents.map (Tot.d pair))) (by kernel_rfl) (by kernel_rfl) (by kernel_rfl) ?_
  refine .st 0 (by decide +kernel) (.asg (x := nm "total") (by kernel_rfl) (by kernel_rfl) (wcv s_e0 (.seq (.sc (ρ := sR0 (.str pat) (texts.map .str) (ents.map (Tot.d pair))) (by kernel_rfl) ?_))))
  refine .st 1 (by decide +kernel) (.asg (x := nm "answers") (by kernel_rfl) (by kernel_rfl) (wcv s_e1 (.comp (g := ansD f) _ (by kernel_rfl) (fun d hd K' hK => ?_) (.cd (decide_eq_true (by rw [List.length_map, hts]; omega)) (.seq (.sc (ρ := sR (.str pat) (texts.map .str) (ents.map (Tot.d pair)) ((Tot.mk 0 0 0 0 []).d pair) ((texts.map D.str).map (ansD f)) none) (by kernel_rfl) ?_))))))
  · (refine xe1_2 (List.mem_map.mp hd) ?_; intro t ht hq2; rcases hq2 with rfl)
    exact wcv s_g (.y (hf t ht) hK)
  refine .st 2 (by decide +kernel) (wcv s_l (.y (len_lst (by rw [hts]; omega)) ?_))
  rw [hts]
  refine .y (range1 (by omega)) ?_
  rw [List.range_eq_range', ← e1, ← e2]
  refine s_loop (by omega) (fun e he => hC _ (List.of_mem_zip he).2) _ 0 _ none (by rw [hz]; omega) (Nat.zero_le _) fun o => .seq ?_
  rw [List.drop_zero]
  refine .st 3 (by decide +kernel) (.retn (by kernel_rfl) (.ifE (by kernel_rfl) (.cmp (op := .Eq) (by kernel_rfl) (wcv s_p1 (.y (len_lst (by rw [hts]; omega)) (.pe (by kernel_rfl) (.len (f := nm "len") (by kernel_rfl) (.pe (by kernel_rfl) (wcv s_e2 (.comp (g := id) _ (by kernel_rfl) (fun d hd K' hK => ?_) ?_))))))))))
  · (refine xe1_2 (List.mem_map.mp hd) ?_; intro e he hq2; rcases hq2 with rfl)
    exact s_g2 hK
  rw [List.map_id]
  refine .cd (decide_eq_true (by rw [List.length_map, hz]; omega)) (.y (len_lst (by rw [List.length_map, hz]; omega)) ?_)
  rw [List.length_map, List.length_map, hz]
  refine .y (a := (texts.length : Int) == texts.length) rfl (.t (by simp) (wcv s_n ⟨rfl⟩))
end
end Mine
end

section
open PySem PySem.W PyProof.Rows
set_option tactic.hygienic false
open PySem.StrLaws
namespace Mine
open Builtin.Str (occurrences subAt strSub partsBetween)
noncomputable def S (l : List Nat) : Str := ⟨l.toArray⟩
theorem S_len (l : List Nat) : (S l).length = l.length := by simp [S, Str.length]
theorem S_app (a b : List Nat) : S a ++ S b = S (a ++ b) := by
  show Str.mk (a.toArray ++ b.toArray) = Str.mk (a ++ b).toArray
  rw [List.append_toArray]
theorem S_inj {a b : List Nat} (h : S a = S b) : a = b := by simpa [S] using congrArg (fun s => s.cps.toList) h
theorem S_of (s : Str) : s = S s.cps.toList := by cases s; simp [S]
theorem S_lst (l : List Nat) : (S l).cps.toList = l := by simp [S]
theorem S_eq (a b : List Nat) : (S a == S b) = (a == b) := by
  rw [Bool.eq_iff_iff, beq_iff_eq, beq_iff_eq]; exact ⟨S_inj, fun h => h ▸ rfl⟩
noncomputable def IsAt (l t : List Nat) (hi i : Nat) : Prop := i + t.length ≤ hi ∧ (l.drop i).take t.length = t
theorem at_iff {l t : List Nat} {hi i : Nat} : At (S l) (S t) hi i ↔ IsAt l t hi i := by
  unfold At IsAt
  rw [subAt_eq, S_len, S_lst, S_lst, beq_iff_eq]
theorem occ_skip (s sub : Str) (hi limit : Nat) : ∀ (n m i : Nat) (st : Array Nat × Nat), (∀ k, i ≤ k → k < i + n → st.1.size < limit → st.2 ≤ k → ¬ At s sub hi k) →
    forIn (List.range' i (n + m)) st (occBody s sub hi limit) = forIn (List.range' (i + n) m) st (occBody s sub hi limit)
  | 0, m, i, st, _ => by rw [Nat.zero_add]; rfl
  | n + 1, m, i, st, h => by
    rw [show n + 1 + m = (n + m) + 1 by omega, List.range'_succ, List.forIn_cons]
    have e : occBody s sub hi limit i st = pure (ForInStep.yield st) := if_neg fun q => h i (Nat.le_refl _) (by omega) q.1.1.1 q.1.1.2 ⟨q.1.2, q.2⟩
    rw [e, show i + (n + 1) = i + 1 + n by omega]
    exact occ_skip s sub hi limit n m (i + 1) st fun k h1 h2 => h k (by omega) (by omega)
theorem occ_hit (s sub : Str) (hi limit m i : Nat) (st : Array Nat × Nat) (h1 : st.1.size < limit) (h2 : st.2 ≤ i) (h3 : At s sub hi i) :
    forIn (List.range' i (m + 1)) st (occBody s sub hi limit) = forIn (List.range' (i + 1) m) (st.1.push i, i + sub.length) (occBody s sub hi limit) := by
  rw [List.range'_succ, List.forIn_cons]
  have e : occBody s sub hi limit i st = pure (ForInStep.yield (st.1.push i, i + sub.length)) := if_pos ⟨⟨⟨h1, h2⟩, h3.1⟩, h3.2⟩
  rw [e]; rfl
theorem occ_first {s sub : Str} {lo hi k : Nat} (h : lo ≤ k) (hA : At s sub hi k) (hn : ∀ i, lo ≤ i → i < k → ¬ At s sub hi i) : occurrences s sub lo hi 1 = [k] := by
  have hk := hA.1
  rw [occ_eq, show hi + 1 - lo = (k - lo) + ((hi - k) + 1) by omega, occ_skip _ _ _ _ _ _ _ _ fun i h1 h2 _ _ => hn i h1 (by omega), show lo + (k - lo) = k by omega, occ_hit _ _ _ _ _ _ _ (by simp) h hA,
    show hi - k = (hi - k) + 0 from rfl, occ_skip _ _ _ _ _ _ _ _ fun i _ _ h3 _ => by simp at h3]
  simp
theorem occ_no {s sub : Str} {lo hi : Nat} (hn : ∀ i, lo ≤ i → ¬ At s sub hi i) : occurrences s sub lo hi 1 = [] := by
  rw [occ_eq, show hi + 1 - lo = (hi + 1 - lo) + 0 from rfl, occ_skip _ _ _ _ _ _ _ _ fun i h1 h2 _ _ => hn i h1]
  simp
theorem sw_iff (x y : List Nat) : Txt.startswith (S x) (S y) = true ↔ y <+: x := by
  unfold Txt.startswith
  rw [Bool.and_eq_true, decide_eq_true_eq, S_len, S_len, subAt_eq, S_lst, S_lst, S_len, beq_iff_eq, List.drop_zero, List.prefix_iff_eq_take]
  exact ⟨fun h => h.2.symm, fun h => ⟨by have := congrArg List.length h; rw [List.length_take] at this; omega, h.symm⟩⟩
theorem ew_iff (x y : List Nat) : Txt.endswith (S x) (S y) = true ↔ y <:+ x := by
  unfold Txt.endswith
  rw [Bool.and_eq_true, decide_eq_true_eq, S_len, S_len, subAt_eq, S_lst, S_lst, S_len, beq_iff_eq, List.suffix_iff_eq_drop]
  constructor
  · rintro ⟨h1, h2⟩
    rw [List.take_of_length_le (by rw [List.length_drop]; omega)] at h2
    exact h2.symm
  · intro h
    have hl := congrArg List.length h
    rw [List.length_drop] at hl
    refine ⟨by omega, ?_⟩
    rw [List.take_of_length_le (by rw [List.length_drop]; omega)]
    exact h.symm
noncomputable def dots : List Nat := [46, 46, 46]
noncomputable def joinD : List (List Nat) → List Nat
  | [] => []
  | [s] => s
  | s :: r => s ++ dots ++ joinD r
noncomputable def cutsD : Nat → List (List Nat) → List Nat
  | _, [] => []
  | _, [_] => []
  | p, s :: r => (p + s.length) :: cutsD (p + s.length + 3) r
theorem at_dot {l : List Nat} {hi i : Nat} (h : IsAt l dots hi i) : l[i]? = some 46 := by
  have := congrArg (fun t => t[0]?) h.2
  simpa [dots, List.getElem?_take] using this
theorem at_here {a t b : List Nat} {hi : Nat} (h : a.length + t.length ≤ hi) : IsAt (a ++ (t ++ b)) t hi a.length := ⟨h, by simp⟩
theorem no_dot {A s B : List Nat} {hi k : Nat} (hs : 46 ∉ s) (h1 : A.length ≤ k) (h2 : k < A.length + s.length) : ¬ IsAt (A ++ (s ++ B)) dots hi k := fun h => by
  have := at_dot h
  rw [List.getElem?_append_right h1, List.getElem?_append_left (by omega)] at this
  exact hs (List.mem_of_getElem? this)
theorem split_run {limit : Nat} : ∀ (segs : List (List Nat)) (A : List Nat) (arr : Array Nat), (∀ s ∈ segs, 46 ∉ s) → segs ≠ [] → arr.size + segs.length ≤ limit →
    (forIn (List.range' A.length ((joinD segs).length + 1)) (arr, A.length) (occBody (S (A ++ joinD segs)) (S dots) (A ++ joinD segs).length limit)).run.1.toList = arr.toList ++ cutsD A.length segs
  | [], _, _, _, h, _ => absurd rfl h
  | [s], A, arr, hs, _, _ => by
    show (forIn (List.range' A.length (s.length + 1)) _ (occBody (S (A ++ s)) (S dots) (A ++ s).length limit)).run.1.toList = _
    rw [show s.length + 1 = (s.length + 1) + 0 from rfl, occ_skip _ _ _ _ _ _ _ _ fun k h1 h2 _ _ hA => ?_]
    · simp [cutsD]
    · have hA' := at_iff.mp hA
      have hb := hA'.1
      rw [List.length_append] at hb
      have := no_dot (A := A) (s := s) (B := []) (hi := (A ++ s).length) (hs s List.mem_cons_self) h1 (by have : dots.length = 3 := rfl; omega)
      rw [List.append_nil] at this
      exact this hA'
  | s :: s2 :: r, A, arr, hs, _, hl => by
    have e : joinD (s :: s2 :: r) = s ++ (dots ++ joinD (s2 :: r)) := by show s ++ dots ++ _ = _; rw [List.append_assoc]
    have hd : (S dots).length = 3 := rfl
    rw [e]
    have e1 : (s ++ (dots ++ joinD (s2 :: r))).length + 1 = s.length + ((2 + ((joinD (s2 :: r)).length + 1)) + 1) := by simp [dots]; omega
    have h3 : IsAt (A ++ (s ++ (dots ++ joinD (s2 :: r)))) dots (A ++ (s ++ (dots ++ joinD (s2 :: r)))).length (A.length + s.length) := by
      have := at_here (a := A ++ s) (t := dots) (b := joinD (s2 :: r)) (hi := (A ++ (s ++ (dots ++ joinD (s2 :: r)))).length) (by simp only [List.length_append]; omega)
      rwa [List.append_assoc, show (A ++ s).length = A.length + s.length from List.length_append] at this
    rw [e1, occ_skip _ _ _ _ _ _ _ _ fun k h1 h2 _ _ hA => no_dot (hs s List.mem_cons_self) h1 h2 (at_iff.mp hA),
      occ_hit _ _ _ _ _ _ _ (by simp at hl ⊢; omega) (by simp) (at_iff.mpr h3), occ_skip _ _ _ _ _ _ _ _ fun k h1 h2 _ h4 => by rw [hd] at h4; simp at h4; omega]
    have ih := split_run (limit := limit) (s2 :: r) (A ++ (s ++ dots)) (arr.push (A.length + s.length)) (fun t ht => hs t (List.mem_cons_of_mem _ ht)) (List.cons_ne_nil _ _) (by simp at hl ⊢; omega)
    have e2 : A ++ (s ++ dots) ++ joinD (s2 :: r) = A ++ (s ++ (dots ++ joinD (s2 :: r))) := by simp
    have e3 : (A ++ (s ++ dots)).length = A.length + s.length + 1 + 2 := by simp [dots]; omega
    rw [e2, e3] at ih
    rw [hd]
    refine ih.trans ?_
    show _ = arr.toList ++ ((A.length + s.length) :: cutsD (A.length + s.length + 3) (s2 :: r))
    simp
theorem parts_run : ∀ (segs : List (List Nat)) (A : List Nat), segs ≠ [] → partsFrom (S (A ++ joinD segs)) 3 A.length (cutsD A.length segs) = segs.map S
  | [], _, h => absurd rfl h
  | [s], A, _ => by
    show [strSub (S (A ++ s)) A.length (S (A ++ s)).length] = [S s]
    congr 1
    rw [S_of (strSub _ _ _), strSub_toList, S_len, S_lst]
    congr 1; simp
  | s :: s2 :: r, A, _ => by
    have e : joinD (s :: s2 :: r) = s ++ (dots ++ joinD (s2 :: r)) := by show s ++ dots ++ _ = _; rw [List.append_assoc]
    rw [e]
    show strSub _ A.length (A.length + s.length) :: partsFrom _ 3 (A.length + s.length + 3) (cutsD (A.length + s.length + 3) (s2 :: r)) = S s :: (s2 :: r).map S
    have ih := parts_run (s2 :: r) (A ++ (s ++ dots)) (List.cons_ne_nil _ _)
    have e2 : A ++ (s ++ dots) ++ joinD (s2 :: r) = A ++ (s ++ (dots ++ joinD (s2 :: r))) := by simp
    have e3 : (A ++ (s ++ dots)).length = A.length + s.length + 3 := by simp [dots]; omega
    rw [e2, e3] at ih
    rw [ih]
    congr 1
    rw [S_of (strSub _ _ _), strSub_toList, S_lst]
    congr 1; simp
theorem split_dots {segs : List (List Nat)} (hs : ∀ s ∈ segs, 46 ∉ s) (hn : 2 ≤ segs.length) : Txt.split (S (joinD segs)) (S dots) = segs.map S := by
  have hj : 3 + segs.length ≤ (joinD segs).length + 2 ∧ (joinD segs).length = (joinD segs).length := by
    refine ⟨?_, rfl⟩
    clear hs
    induction segs with
    | nil => simp at hn
    | cons s r ih =>
      cases r with
      | nil => simp at hn
      | cons s2 r =>
        have : (joinD (s :: s2 :: r)).length = s.length + 3 + (joinD (s2 :: r)).length := by show (s ++ dots ++ joinD (s2 :: r)).length = _; simp [dots]; omega
        cases r with
        | nil => simp only [List.length_cons, List.length_nil] at *; omega
        | cons s3 r => have := ih (by simp); simp only [List.length_cons] at *; omega
  have ho : occurrences (S (joinD segs)) (S dots) 0 (S (joinD segs)).length ((S (joinD segs)).length + 1) = cutsD 0 segs := by
    have h := split_run (limit := (S (joinD segs)).length + 1) segs [] #[] hs (by intro q; rw [q] at hn; simp at hn) (by rw [S_len]; simp; omega)
    rw [occ_eq, S_len]
    rw [S_len] at h
    simpa using h
  have hc : ∃ a c, cutsD 0 segs = a :: c := by
    cases segs with
    | nil => simp at hn
    | cons s r =>
      cases r with
      | nil => simp at hn
      | cons s2 r => exact ⟨_, _, rfl⟩
  (refine xe2_1 hc ?_; (try clear hc); intro a c hc)
  unfold Txt.split
  rw [ho]
  have hk : Builtin.Str.strKind (S dots) = 1 := by decide +kernel
  have h1 := strKind_pos (S (joinD segs))
  have hd : (S dots).length = 3 := rfl
  rw [if_neg, if_neg, partsBetween_eq, hd]
  · have := parts_run segs [] (by intro q; rw [q] at hn; simp at hn)
    simpa using this
  · rw [hc]; simp
  · rw [hk, hd, S_len]
    have h2 : (joinD segs).length = (joinD segs).length := rfl
    simp only [Bool.or_eq_true, decide_eq_true_eq]
    omega
theorem has_dots {segs : List (List Nat)} (hn : 2 ≤ segs.length) : Txt.contains (S (joinD segs)) (S dots) = true := by
  refine (found_iff _ _).mpr ?_
  cases segs with
  | nil => simp at hn
  | cons s r =>
    cases r with
    | nil => simp at hn
    | cons s2 r =>
      have e : joinD (s :: s2 :: r) = s ++ (dots ++ joinD (s2 :: r)) := by show s ++ dots ++ _ = _; rw [List.append_assoc]
      rw [e]
      have := at_here (a := s) (t := dots) (b := joinD (s2 :: r)) (hi := (S (s ++ (dots ++ joinD (s2 :: r)))).length) (by rw [S_len]; simp)
      exact ⟨s.length, at_iff.mpr this⟩
theorem no_dots {l : List Nat} (h : 46 ∉ l) : Txt.contains (S l) (S dots) = false := by
  rw [Bool.eq_false_iff]
  intro q
  (refine xe1_1 ((found_iff _ _).mp q) ?_; intro i hi)
  have := at_dot (at_iff.mp (show At (S l) (S dots) (S l).length i from hi))
  exact h (List.mem_of_getElem? this)
end Mine
end

section
open PySem PySem.W PyProof.Rows
set_option tactic.hygienic false
open PySem.StrLaws
namespace Mine
open Builtin.Str (occurrences subAt strSub partsBetween)
noncomputable def toksL (w : List Nat) : List Nat := w.flatMap tokL
theorem toks_nil : toksL [] = [] := rfl
theorem toks_cons (a : Nat) (w : List Nat) : toksL (a :: w) = tokL a ++ toksL w := rfl
theorem toks_app (u v : List Nat) : toksL (u ++ v) = toksL u ++ toksL v := List.flatMap_append
theorem rep_code {c : Nat} (hc : c ≠ 32) : ∀ {a b : Nat} {x y : List Nat}, List.replicate a 32 ++ c :: x = List.replicate b 32 ++ c :: y → a = b ∧ x = y
  | 0, 0, x, y, h => ⟨rfl, (List.cons.inj h).2⟩
  | 0, b + 1, x, y, h => absurd (List.cons.inj h).1 hc
  | a + 1, 0, x, y, h => absurd (List.cons.inj h).1.symm hc
  | a + 1, b + 1, x, y, h => by
    (refine xe0_2 (rep_code hc (List.cons.inj h).2) ?_; intro h1 h2)
    exact ⟨by rw [h1], h2⟩
theorem tok_code {a b : Nat} {x y : List Nat} (h : tokL a ++ x = tokL b ++ y) : a = b ∧ x = y := by
  have h1 : (List.replicate a 32 ++ [9, 125]) ++ x = (List.replicate b 32 ++ [9, 125]) ++ y := (List.cons.inj h).2
  rw [List.append_assoc, List.append_assoc] at h1
  (refine xe0_2 (rep_code (by decide) (show List.replicate a 32 ++ 9 :: (125 :: x) = List.replicate b 32 ++ 9 :: (125 :: y) from h1)) ?_; intro h2 h3)
  exact ⟨h2, (List.cons.inj h3).2⟩
theorem tok_rev (a : Nat) (x : List Nat) : (x ++ tokL a).reverse = 125 :: 9 :: (List.replicate a 32 ++ 123 :: x.reverse) := by simp [tokL]
theorem tok_codeR {a b : Nat} {x y : List Nat} (h : x ++ tokL a = y ++ tokL b) : a = b ∧ x = y := by
  have h1 := congrArg List.reverse h
  rw [tok_rev, tok_rev] at h1
  (refine xe0_2 (rep_code (by decide) (List.cons.inj (List.cons.inj h1).2).2) ?_; intro h2 h3)
  exact ⟨h2, List.reverse_inj.mp h3⟩
theorem toks_pre {l : List Nat} (hl : 123 ∉ l) : ∀ {f w : List Nat}, toksL f <+: toksL w ++ l ↔ f <+: w
  | [], w => ⟨fun _ => List.nil_prefix, fun _ => List.nil_prefix⟩
  | a :: f, [] => by
    refine ⟨fun ⟨t, h⟩ => ?_, fun h => by simp at h⟩
    have : (123 :: _ : List Nat) = l := h
    exact absurd (by rw [← this]; exact List.mem_cons_self) hl
  | a :: f, b :: w => by
    constructor
    · rintro ⟨t, h⟩
      rw [toks_cons, toks_cons, List.append_assoc, List.append_assoc] at h
      (refine xe0_2 (tok_code h) ?_; intro hq0; rcases hq0 with rfl; intro h2)
      (refine xe1_1 ((toks_pre hl).mp ⟨t, h2⟩) ?_; intro t' ht)
      exact ⟨t', by rw [← ht]; rfl⟩
    · rintro ⟨t, h⟩
      (refine xe0_2 (List.cons.inj h) ?_; intro hq0; rcases hq0 with rfl; intro h2)
      (refine xe1_1 ((toks_pre hl).mpr ⟨t, h2⟩) ?_; intro t' ht)
      exact ⟨t', by rw [toks_cons, toks_cons, List.append_assoc, List.append_assoc, ht]⟩
theorem toks_inj {l : List Nat} (hl : 123 ∉ l) {f w : List Nat} (h : toksL f ++ l = toksL w ++ l) : f = w := by
  have h1 := (toks_pre hl).mp ⟨l, h⟩
  have h2 := (toks_pre hl).mp ⟨l, h.symm⟩
  exact h1.eq_of_length_le h2.length_le
theorem toks_snoc (w : List Nat) (a : Nat) : toksL (w ++ [a]) = toksL w ++ tokL a := by rw [toks_app]; simp [toksL]
theorem toks_suf {e w : List Nat} : toksL e <:+ toksL w ↔ e <:+ w := by
  constructor
  · generalize hn : e.length = n
    induction n generalizing e w with
    | zero => intro _; rw [List.length_eq_zero_iff.mp hn]; exact List.nil_suffix
    | succ n ih =>
      rintro ⟨t, h⟩
      have he : e ≠ [] := fun q => by rw [q] at hn; cases hn
      have hw : w ≠ [] := fun q => by
        subst q
        have h1 := congrArg List.length h
        rw [← List.dropLast_concat_getLast he, toks_snoc] at h1
        simp [toks_nil, tokL_len] at h1
      rw [← List.dropLast_concat_getLast he, ← List.dropLast_concat_getLast hw, toks_snoc, toks_snoc, ← List.append_assoc] at h
      (refine xe0_2 (tok_codeR h) ?_; intro h1 h2)
      (refine xe1_1 (ih (e := e.dropLast) (w := w.dropLast) (by rw [List.length_dropLast, hn]; rfl) ⟨t, h2⟩) ?_; intro t' ht)
      refine ⟨t', ?_⟩
      rw [← List.dropLast_concat_getLast he, ← List.dropLast_concat_getLast hw, ← List.append_assoc, ht, h1]
  · rintro ⟨t, rfl⟩
    exact ⟨toksL t, (toks_app _ _).symm⟩
noncomputable def after (a : Nat) : List Nat → Option (List Nat)
  | [] => none
  | b :: v => if a = b then some v else after a v
noncomputable def subO : List (Option Nat) → List Nat → Bool
  | [], _ => true
  | none :: r, v => subO r v
  | some a :: r, v => match after a v with
    | none => false
    | some v' => subO r v'
noncomputable def segL : Option Nat → List Nat
  | none => []
  | some a => tokL a
theorem is_brace {l : List Nat} {a hi i : Nat} (h : IsAt l (tokL a) hi i) : l[i]? = some 123 := by
  have h2 := h.2
  rw [tokL_len] at h2
  have := congrArg (fun t => t[0]?) h2
  simpa [tokL, List.getElem?_take] using this
theorem is_tok {A B : List Nat} {a b hi : Nat} (h : IsAt (A ++ (tokL b ++ B)) (tokL a) hi A.length) : a = b := by
  have h2 := h.2
  rw [List.drop_left] at h2
  have h3 := List.take_append_drop (tokL a).length (tokL b ++ B)
  rw [h2] at h3
  exact (tok_code h3).1
theorem in_tok {A B : List Nat} {a b hi k : Nat} (h1 : A.length < k) (h2 : k < A.length + (b + 3)) : ¬ IsAt (A ++ (tokL b ++ B)) (tokL a) hi k := fun h => by
  have h3 := is_brace h
  rw [List.getElem?_append_right (by omega), List.getElem?_append_left (by rw [tokL_len]; omega)] at h3
  obtain ⟨j, hj⟩ : ∃ j, k - A.length = j + 1 := ⟨k - A.length - 1, by omega⟩
  rw [hj] at h3
  have : (123 : Nat) ∈ List.replicate b 32 ++ [9, 125] := List.mem_of_getElem? h3
  simp at this
theorem find_tok {a hi : Nat} : ∀ (v A B : List Nat), (A ++ toksL v).length ≤ hi → (∀ i, (A ++ toksL v).length ≤ i → i < hi → (A ++ (toksL v ++ B))[i]? ≠ some 123) →
    match after a v with
    | none => ∀ i, A.length ≤ i → ¬ IsAt (A ++ (toksL v ++ B)) (tokL a) hi i
    | some v' => ∃ u, v = u ++ a :: v' ∧ IsAt (A ++ (toksL v ++ B)) (tokL a) hi (A ++ toksL u).length ∧ ∀ i, A.length ≤ i → i < (A ++ toksL u).length → ¬ IsAt (A ++ (toksL v ++ B)) (tokL a) hi i
  | [], A, B, hh, hb => by
    intro i h1 h2
    rw [toks_nil, List.append_nil] at hb
    have := h2.1
    rw [tokL_len] at this
    exact hb i h1 (by omega) (is_brace h2)
  | b :: v, A, B, hh, hb => by
    have e1 : A ++ (toksL (b :: v) ++ B) = A ++ (tokL b ++ (toksL v ++ B)) := by rw [toks_cons, List.append_assoc]
    have e2 : A ++ (toksL (b :: v) ++ B) = (A ++ tokL b) ++ (toksL v ++ B) := by rw [e1, List.append_assoc]
    have e3 : A ++ toksL (b :: v) = (A ++ tokL b) ++ toksL v := by rw [toks_cons, List.append_assoc]
    unfold after
    by_cases q : a = b
    · subst q
      rw [if_pos rfl]
      refine ⟨[], rfl, ?_, fun i h1 h2 => ?_⟩
      · rw [toks_nil, List.append_nil, e1]
        refine at_here ?_
        rw [toks_cons, List.length_append, List.length_append] at hh; omega
      · rw [toks_nil, List.append_nil] at h2; omega
    · rw [if_neg q]
      rw [e3] at hh
      rw [e2, e3] at hb
      have ih := find_tok (a := a) v (A ++ tokL b) B hh hb
      have hno : ∀ i, A.length ≤ i → i < (A ++ tokL b).length → ¬ IsAt (A ++ (toksL (b :: v) ++ B)) (tokL a) hi i := fun i h1 h2 => by
        rw [e1]
        rw [List.length_append, tokL_len] at h2
        rcases Nat.lt_or_ge A.length i with h3 | h3
        · exact in_tok h3 h2
        · rw [show i = A.length by omega]; exact fun h => q (is_tok h)
      rw [e2] at hno ⊢
      cases hv : after a v with
      | none =>
        rw [hv] at ih
        intro i h1
        rcases Nat.lt_or_ge i (A ++ tokL b).length with h2 | h2
        · exact hno i h1 h2
        · exact ih i h2
      | some v' =>
        rw [hv] at ih
        (refine xe1_3 ih ?_; (try clear ih); intro u h1 h2 h3)
        have e4 : A ++ toksL (b :: u) = A ++ tokL b ++ toksL u := by rw [toks_cons, List.append_assoc]
        refine ⟨b :: u, by rw [h1]; rfl, by rw [e4]; exact h2, fun i h4 h5 => ?_⟩
        rw [e4] at h5
        rcases Nat.lt_or_ge i (A ++ tokL b).length with h6 | h6
        · exact hno i h4 h6
        · exact h3 i h6 h5
noncomputable def loopB (got : Str) (en : Nat) : List Str → Nat → Bool
  | [], _ => true
  | t :: r, st => match occurrences got t st en 1 with
    | [] => false
    | k :: _ => loopB got en r (k + t.length)
theorem loop_toks {en : Nat} {B : List Nat} : ∀ (ws : List (Option Nat)) (A v : List Nat), (A ++ toksL v).length ≤ en → (∀ i, (A ++ toksL v).length ≤ i → i < en → (A ++ (toksL v ++ B))[i]? ≠ some 123) →
    loopB (S (A ++ (toksL v ++ B))) en (ws.map fun o => S (segL o)) A.length = subO ws v
  | [], A, v, _, _ => rfl
  | none :: r, A, v, h1, h2 => by
    have ho : occurrences (S (A ++ (toksL v ++ B))) (S []) A.length en 1 = [A.length] :=
      occ_first (Nat.le_refl _) (at_iff.mpr ⟨by rw [List.length_append] at h1; simp; omega, by simp⟩) fun i h3 h4 => by omega
    show (match occurrences _ (S []) A.length en 1 with | [] => false | k :: _ => loopB _ en (r.map fun o => S (segL o)) (k + (S []).length)) = subO r v
    rw [ho]
    exact loop_toks r A v h1 h2
  | some a :: r, A, v, h1, h2 => by
    have key := find_tok (a := a) v A B h1 h2
    show (match occurrences _ (S (tokL a)) A.length en 1 with | [] => false | k :: _ => loopB _ en (r.map fun o => S (segL o)) (k + (S (tokL a)).length)) = (match after a v with | none => false | some v' => subO r v')
    cases hv : after a v with
    | none =>
      rw [hv] at key
      rw [occ_no fun i h3 h4 => key i h3 (at_iff.mp h4)]
    | some v' =>
      rw [hv] at key
      (refine xe1_3 key ?_; (try clear key); intro u h3 h4 h5)
      rw [occ_first (by rw [List.length_append]; omega) (at_iff.mpr h4) fun i h6 h7 h8 => h5 i h6 h7 (at_iff.mp h8)]
      dsimp only
      have e1 : A ++ (toksL v ++ B) = (A ++ toksL u ++ tokL a) ++ (toksL v' ++ B) := by rw [h3, toks_app, toks_cons]; simp
      have e2 : A ++ toksL v = (A ++ toksL u ++ tokL a) ++ toksL v' := by rw [h3, toks_app, toks_cons]; simp
      have e3 : (A ++ toksL u).length + (S (tokL a)).length = (A ++ toksL u ++ tokL a).length := by rw [S_len, List.length_append (bs := tokL a)]
      rw [e3, e1]
      rw [e2] at h1
      rw [e1, e2] at h2
      exact loop_toks r _ v' h1 h2
end Mine
end

section
open PySem PySem.W PyProof.Rows
set_option tactic.hygienic false
open PySem.StrLaws
namespace Mine
open Builtin.Str (occurrences subAt strSub partsBetween)
noncomputable abbrev mcx (k : Nat) : Cx := cxAt k "_ellipsis_match" (stAt 3)
noncomputable abbrev mBody : List Stmt := dBody (stAt 3)
noncomputable def mR (w g : Str) (x a b : Slot) (t : Str) : Sc := [(nm "want", .fr (.str w)), (nm "got", .fr (.str g)), (nm "ws", x), (nm "startpos", a), (nm "endpos", b), (nm "w", .fr (.str t))]
noncomputable abbrev mTurn (k : Nat) : D → Sc → (Fl → Sc → Prop) → Prop := fun d ρ' => wX 49 (mcx k) (upd ρ' (nm "w") (.fr d)) (forB (stmtAt mBody 9))
noncomputable abbrev iS (i : Int) : Slot := .fr (.int i)
section
variable {k : Nat} {w g t t0 : Str}
theorem m_turn {x : D} {a b : Int} {K : Fl → Sc → Prop} : (Y (callM (mcx k) (nm "find") (.str g) [.str t, .int a, .int b]) fun y => Y (cmpD .Lt y (.int 0)) fun y1 => If y1 (K (.ret (.bool false)) (mR w g (.fr x) (.fr y) (iS b) t))
    (Y (lenD (.str t)) fun y2 => Y (augName .Add y2 (.fr y)) fun z => K .next (mR w g (.fr x) z (iS b) t))) = mTurn k (.str t) (mR w g (.fr x) (iS a) (iS b) t0) K := by kernel_rfl
theorem m_end {x : D} {a b : Int} {K : Fl → Sc → Prop} : K (.ret (.bool true)) (mR w g (.fr x) (iS a) (iS b) t) = wX 50 (mcx k) (mR w g (.fr x) (iS a) (iS b) t) (mBody.drop 10) K := by kernel_rfl
theorem m_9 {l : List D} {a b : Int} {K : Fl → Sc → Prop} : wLoop (mTurn k) l (mR w g (.fr (.lst l)) (iS a) (iS b) t) (kSeq (fun ρ' => wX 50 (mcx k) ρ' (mBody.drop 10) K) K) = wX 51 (mcx k) (mR w g (.ol l) (iS a) (iS b) t) (mBody.drop 9) K := by kernel_rfl
theorem m_8 {l : List D} {a b : Int} {K : Fl → Sc → Prop} : (If (decide (b < a)) (K (.ret (.bool false)) (mR w g (.ol l) (iS a) (iS b) t)) (wX 51 (mcx k) (mR w g (.ol l) (iS a) (iS b) t) (mBody.drop 9) K)) = wX 52 (mcx k) (mR w g (.ol l) (iS a) (iS b) t) (mBody.drop 8) K := by kernel_rfl
theorem m_7 {l : List D} {a b : Int} {K : Fl → Sc → Prop} : (Y (truthD (.str t)) fun y => If y (Y (callM (mcx k) (nm "endswith") (.str g) [.str t]) fun y => Y (truthD y) fun y => If y (Y (lenD (.str t)) fun y => Y (augName .Sub y (iS b)) fun z => Y (delItem (.int (-1)) (.ol l)) fun x =>
    wX 52 (mcx k) (mR w g x (iS a) z t) (mBody.drop 8) K) (K (.ret (.bool false)) (mR w g (.ol l) (iS a) (iS b) t))) (wX 52 (mcx k) (mR w g (.ol l) (iS a) (iS b) t) (mBody.drop 8) K)) = wX 53 (mcx k) (mR w g (.ol l) (iS a) (iS b) t) (mBody.drop 7) K := by kernel_rfl
theorem m_6 {l : List D} {a b : Int} {K : Fl → Sc → Prop} : (Y (subD (.lst l) (.int (-1))) fun y => wX 53 (mcx k) [(nm "want", .fr (.str w)), (nm "got", .fr (.str g)), (nm "ws", .ol l), (nm "startpos", iS a), (nm "endpos", iS b), (nm "w", .fr y)] (mBody.drop 7) K) = wX 54 (mcx k) (mR w g (.ol l) (iS a) (iS b) t) (mBody.drop 6) K := by kernel_rfl
theorem m_5 {l : List D} {b : Int} {K : Fl → Sc → Prop} : (Y (truthD (.str t)) fun y => If y (Y (callM (mcx k) (nm "startswith") (.str g) [.str t]) fun y => Y (truthD y) fun y => If y (Y (lenD (.str t)) fun y => Y (delItem (.int 0) (.ol l)) fun x =>
    wX 54 (mcx k) (mR w g x (.fr y) (iS b) t) (mBody.drop 6) K) (K (.ret (.bool false)) (mR w g (.ol l) (iS 0) (iS b) t))) (wX 54 (mcx k) (mR w g (.ol l) (iS 0) (iS b) t) (mBody.drop 6) K)) = wX 55 (mcx k) (mR w g (.ol l) (iS 0) (iS b) t) (mBody.drop 5) K := by kernel_rfl
theorem m_1 {K : Fl → Sc → Prop} : (If (!Txt.contains w (nm "...")) (K (.ret (.bool (w == g))) [(nm "want", .fr (.str w)), (nm "got", .fr (.str g))]) (Y (callM (mcx k) (nm "split") (.str w) [.str (nm "...")]) fun y => wX 58 (mcx k) [(nm "want", .fr (.str w)), (nm "got", .fr (.str g)), (nm "ws", toOwn y)] (mBody.drop 2) K)) =
    wX 60 (mcx k) [(nm "want", .fr (.str w)), (nm "got", .fr (.str g))] mBody K := by kernel_rfl
theorem m_2 {l : List D} {K : Fl → Sc → Prop} : (Y (lenD (.lst l)) fun y => Y (cmpD .GtE y (.int 2)) fun y => Cd y (Y (lenD (.str g)) fun y => Y (subD (.lst l) (.int 0)) fun z => wX 55 (mcx k) [(nm "want", .fr (.str w)), (nm "got", .fr (.str g)), (nm "ws", .ol l), (nm "startpos", iS 0), (nm "endpos", .fr y), (nm "w", .fr z)] (mBody.drop 5) K)) =
    wX 58 (mcx k) [(nm "want", .fr (.str w)), (nm "got", .fr (.str g)), (nm "ws", .ol l)] (mBody.drop 2) K := by kernel_rfl
theorem c_find {c : Cx} {a b : Int} : callM c (nm "find") (.str g) [.str t, .int a, .int b] = findD g t [a, b] := by kernel_rfl
theorem c_sw {c : Cx} : callM c (nm "startswith") (.str g) [.str t] = some (.bool (Txt.startswith g t)) := by kernel_rfl
theorem c_ew {c : Cx} : callM c (nm "endswith") (.str g) [.str t] = some (.bool (Txt.endswith g t)) := by kernel_rfl
theorem c_split {c : Cx} (h1 : t.length ≠ 0) (h2 : g.length ≤ 100000) : callM c (nm "split") (.str g) [.str t] = some (.lst ((Txt.split g t).map .str)) :=
  (show callM c (nm "split") (.str g) [.str t] = if t.length ≠ 0 ∧ g.length ≤ 100000 then some (.lst ((Txt.split g t).map .str)) else none by kernel_rfl).trans (if_pos ⟨h1, h2⟩)
theorem truth_str (h : t.length ≤ 100000) : truthD (.str t) = some ((t.length : Int) != 0) := if_pos (by omega)
theorem len_str (h : t.length ≤ 100000) : lenD (.str t) = some (.int t.length) := if_pos (by omega)
theorem find_nat {a b : Nat} (ha : a ≤ g.length) (hb : b ≤ g.length) : findD g t [a, b] = some (.int (match occurrences g t a b 1 with | k :: _ => (k : Int) | [] => -1)) := by
  have e : findD g t [(a : Int), b] = if 0 ≤ (a : Int) ∧ (a : Int) ≤ g.length ∧ 0 ≤ (b : Int) ∧ (b : Int) ≤ g.length then
      some (.int (match occurrences g t (a : Int).toNat (b : Int).toNat 1 with | k :: _ => (k : Int) | [] => -1)) else none := rfl
  rw [e, if_pos ⟨by omega, by omega, by omega, by omega⟩, Int.toNat_natCast, Int.toNat_natCast]
theorem m_loop {x : D} {en : Nat} (he : en ≤ g.length) : ∀ (ws : List Str) (st : Nat) (t : Str), (∀ u ∈ ws, u.length ≤ 100000) → st ≤ en →
    Pf (wLoop (mTurn k) (ws.map .str) (mR w g (.fr x) (iS st) (iS en) t) (kSeq (fun ρ' => wX 50 (mcx k) ρ' (mBody.drop 10) (kFin (· = .bool (loopB g en ws st)))) (kFin (· = .bool (loopB g en ws st)))))
  | [], st, t, _, _ => .stop (.seq (wcv m_end ⟨rfl⟩))
  | u :: r, st, t, hu, hs => by
    have h1 := hu u List.mem_cons_self
    refine .turn (wcv m_turn (.y (c_find.trans (find_nat (a := st) (b := en) (by omega) he)) ?_))
    cases ho : occurrences g u st en 1 with
    | nil =>
      refine .y (a := true) rfl (.t rfl (.ret ⟨?_⟩))
      show D.bool false = .bool (match occurrences g u st en 1 with | [] => false | k :: _ => loopB g en r (k + u.length))
      rw [ho]
    | cons p q =>
      have hp := (occ_spec g u st en 1 p (by rw [ho]; exact List.mem_cons_self)).1
      have hl : loopB g en (u :: r) st = loopB g en r (p + u.length) := by
        show (match occurrences g u st en 1 with | [] => false | k :: _ => loopB g en r (k + u.length)) = _
        rw [ho]
      rw [hl]
      refine .y (a := decide ((p : Int) < 0)) rfl (.f (decide_eq_false (by omega)) (.y (len_str h1) (.y (a := iS ((p + u.length : Nat) : Int)) ?_ (.next ?_))))
      · rfl
      · exact m_loop he r (p + u.length) u (fun v hv => hu v (List.mem_cons_of_mem _ hv)) hp
end
end Mine
end

section
open PySem PySem.W PyProof.Rows
set_option tactic.hygienic false
open PySem.StrLaws
namespace Mine
open Builtin.Str (occurrences subAt strSub partsBetween)
section
variable {k : Nat}
theorem seq_last (n : Nat) : seqIndex? (-1) (n + 1) = some n := by
  unfold seqIndex?
  have e : (-1 : Int) + ((n + 1 : Nat) : Int) = n := by omega
  rw [show (if (-1 : Int) < 0 then (-1 : Int) + ((n + 1 : Nat) : Int) else -1) = n from e]
  simp; omega
theorem del_first {d : D} {l : List D} (h : l.length ≤ 1000) : delItem (.int 0) (.ol (d :: l)) = some (.ol l) := by
  have e : delItem (.int 0) (.ol (d :: l)) = if (d :: l).length ≤ 1000000 then (eraseAt (d :: l) 0).map .ol else none := rfl
  rw [e, if_pos (by rw [List.length_cons]; omega)]
  have e2 : seqIndex? 0 (d :: l).length = some 0 := by unfold seqIndex?; simp
  have e3 : eraseAt (d :: l) 0 = (seqIndex? 0 (d :: l).length).map fun j => (d :: l).eraseIdx j := rfl
  rw [e3, e2]; rfl
theorem del_last {d : D} {l : List D} (h : l.length ≤ 1000) : delItem (.int (-1)) (.ol (l ++ [d])) = some (.ol l) := by
  have e : delItem (.int (-1)) (.ol (l ++ [d])) = if (l ++ [d]).length ≤ 1000000 then (eraseAt (l ++ [d]) (-1)).map .ol else none := rfl
  have e3 : eraseAt (l ++ [d]) (-1) = (seqIndex? (-1) (l ++ [d]).length).map fun j => (l ++ [d]).eraseIdx j := rfl
  have e4 : (l ++ [d]).length = l.length + 1 := List.length_append
  rw [e, e3, if_pos (by omega), e4, seq_last]
  show some (Slot.ol ((l ++ [d]).eraseIdx l.length)) = _
  rw [List.eraseIdx_append_of_length_le (Nat.le_refl _), Nat.sub_self]
  simp
theorem sub_last {d : D} {l : List D} : subD (.lst (l ++ [d])) (.int (-1)) = some d := by
  have e3 : subD (.lst (l ++ [d])) (.int (-1)) = (seqIndex? (-1) (l ++ [d]).length).bind fun j => (l ++ [d])[j]? := rfl
  have e4 : (l ++ [d]).length = l.length + 1 := List.length_append
  rw [e3, e4, seq_last]
  simp
noncomputable def sD (x : List Nat) : D := .str (S x)
theorem ne_len {x : List Nat} : (((S x).length : Int) != 0) = !x.isEmpty := by
  rw [S_len]; cases x <;> simp <;> omega
theorem sD_map (l : List (List Nat)) : l.map sD = (l.map S).map .str := by rw [List.map_map]; rfl
noncomputable def tailB (G E : List Nat) (Pre : List (List Nat)) (st : Nat) : Bool :=
  (E.isEmpty || E.isSuffixOf G) && (decide (st + E.length ≤ G.length) && loopB (S G) (G.length - E.length) ((Pre ++ if E.isEmpty then [[]] else []).map S) st)
theorem m_rest {w : Str} {G t : List Nat} {L : List (List Nat)} {st en : Nat} {b : Bool} (hL : ∀ u ∈ L, u.length ≤ 10000) (he : en ≤ G.length) (hb : b = (decide (st ≤ en) && loopB (S G) en (L.map S) st)) :
    Pf (wX 52 (mcx k) (mR w (S G) (.ol (L.map sD)) (iS st) (iS en) (S t)) (mBody.drop 8) (kFin (· = .bool b))) := by
  refine wcv m_8 (.ite (fun q => ?_) fun q => ?_)
  · have : ¬ st ≤ en := by have := of_decide_eq_true q; omega
    rw [decide_eq_false this] at hb
    subst hb; exact ⟨rfl⟩
  · have : st ≤ en := by have := of_decide_eq_false q; omega
    rw [decide_eq_true this] at hb
    rw [show b = loopB (S G) en (L.map S) st from hb]
    refine wcv m_9 ?_
    rw [sD_map]
    refine m_loop (by rw [S_len]; exact he) _ _ _ (fun u hu => ?_) this
    (refine xe1_2 (List.mem_map.mp hu) ?_; intro x hx hq2; rcases hq2 with rfl)
    rw [S_len]; have := hL x hx; omega
theorem m_tail {w : Str} {G E t : List Nat} {Pre : List (List Nat)} {st : Nat} (hL : ∀ u ∈ Pre ++ [E], u.length ≤ 10000) (hn : Pre.length ≤ 100) :
    Pf (wX 54 (mcx k) (mR w (S G) (.ol ((Pre ++ [E]).map sD)) (iS st) (iS G.length) (S t)) (mBody.drop 6) (kFin (· = .bool (tailB G E Pre st)))) := by
  have hE := hL E (by simp)
  have hm : (Pre ++ [E]).map sD = Pre.map sD ++ [sD E] := by simp
  refine wcv m_6 ?_
  rw [hm]
  refine .y sub_last (wcv (m_7 (t := S E)) (.y (truth_str (by rw [S_len]; omega)) ?_))
  rw [ne_len]
  unfold tailB
  cases hE0 : E.isEmpty with
  | true =>
    refine .f rfl ?_
    rw [← hm, Bool.true_or, Bool.true_and, List.isEmpty_iff.mp hE0]
    exact m_rest (by rw [List.isEmpty_iff.mp hE0] at hL; exact hL) (Nat.le_refl _) rfl
  | false =>
    refine .t rfl (.y c_ew (.y (a := Txt.endswith (S G) (S E)) rfl ?_))
    rw [Bool.false_or]
    by_cases q : E <:+ G
    · rw [(ew_iff G E).mpr q, List.isSuffixOf_iff_suffix.mpr q]
      have h1 := q.length_le
      refine .t rfl (.y (len_str (by rw [S_len]; omega)) (.y (a := iS ((G.length - E.length : Nat) : Int)) ?_ (.y (del_last (by rw [List.length_map]; omega)) ?_)))
      · rw [S_len]
        show some (iS ((G.length : Int) - E.length)) = _
        rw [show ((G.length : Int) - E.length) = ((G.length - E.length : Nat) : Int) by omega]
      · rw [show (Pre ++ if false = true then [[]] else []) = Pre by simp]
        refine m_rest (fun u hu => hL u (List.mem_append_left _ hu)) (Nat.sub_le _ _) ?_
        rw [Bool.true_and]
        congr 1
        rw [Bool.eq_iff_iff, decide_eq_true_eq, decide_eq_true_eq]; omega
    · have h1 : Txt.endswith (S G) (S E) = false := Bool.eq_false_iff.mpr fun h => q ((ew_iff G E).mp h)
      have h2 : E.isSuffixOf G = false := Bool.eq_false_iff.mpr fun h => q (List.isSuffixOf_iff_suffix.mp h)
      rw [h1, h2]
      exact .f rfl ⟨rfl⟩
noncomputable def emB (G F E : List Nat) (M : List (List Nat)) : Bool := (F.isEmpty || F.isPrefixOf G) && tailB G E ((if F.isEmpty then [[]] else []) ++ M) F.length
theorem em_gen {G F E : List Nat} {M : List (List Nat)} (hd : ∀ u ∈ F :: (M ++ [E]), 46 ∉ u) (hL : ∀ u ∈ F :: (M ++ [E]), u.length ≤ 10000) (hn : M.length ≤ 50) (hW : (joinD (F :: (M ++ [E]))).length ≤ 100000) (hG : G.length ≤ 10000) :
    callT (k + 1) "_ellipsis_match" [.str (S (joinD (F :: (M ++ [E])))), .str (S G)] = some (.bool (emB G F E M)) := by
  have h2 : 2 ≤ (F :: (M ++ [E])).length := by simp
  have hdot : nm "..." = S dots := rfl
  have hF := hL F List.mem_cons_self
  refine call_go "_ellipsis_match" (stAt 3) [(nm "want", .fr (.str (S (joinD (F :: (M ++ [E])))))), (nm "got", .fr (.str (S G)))] (by kernel_rfl) (by kernel_rfl) (by kernel_rfl) (wcv m_1 ?_)
  have hsp : callM (mcx k) (nm "split") (.str (S (joinD (F :: (M ++ [E]))))) [.str (nm "...")] = some (.lst ((F :: (M ++ [E])).map sD)) := by
    rw [hdot, c_split (by decide) (by rw [S_len]; exact hW), split_dots hd h2, sD_map]
  refine .f (by rw [hdot, has_dots h2]; rfl) (.y hsp (wcv m_2 ?_))
  have hlen : ((F :: (M ++ [E])).map sD).length = M.length + 2 := by simp
  refine .y (len_lst (by omega)) (.y (a := true) ?_ (.cd rfl (.y (len_str (by rw [S_len]; omega)) (.y (a := sD F) ?_ ?_))))
  · rw [hlen]; exact congrArg some (decide_eq_true (by omega))
  · exact (item_nat (l := (F :: (M ++ [E])).map sD) (i := 0) (by omega) (by omega)).trans rfl
  rw [S_len]
  refine wcv (m_5 (t := S F)) (.y (truth_str (by rw [S_len]; omega)) ?_)
  rw [ne_len]
  unfold emB
  cases hF0 : F.isEmpty with
  | true =>
    refine .f rfl ?_
    have hF1 := List.isEmpty_iff.mp hF0
    subst hF1
    exact m_tail (Pre := [] :: M) (st := 0) hL (by rw [List.length_cons]; omega)
  | false =>
    refine .t rfl (.y c_sw (.y (a := Txt.startswith (S G) (S F)) rfl ?_))
    rw [Bool.false_or]
    by_cases q : F <+: G
    · rw [(sw_iff G F).mpr q, List.isPrefixOf_iff_prefix.mpr q]
      refine .t rfl (.y (len_str (by rw [S_len]; omega)) (.y (del_first (by simp; omega)) ?_))
      rw [S_len]
      exact m_tail (Pre := M) (fun u hu => hL u (List.mem_cons_of_mem _ hu)) (by omega)
    · have h1 : Txt.startswith (S G) (S F) = false := Bool.eq_false_iff.mpr fun h => q ((sw_iff G F).mp h)
      have h3 : F.isPrefixOf G = false := Bool.eq_false_iff.mpr fun h => q (List.isPrefixOf_iff_prefix.mp h)
      rw [h1, h3]
      exact .f rfl ⟨rfl⟩
theorem em_eq0 {W G : List Nat} (h : 46 ∉ W) : callT (k + 1) "_ellipsis_match" [.str (S W), .str (S G)] = some (.bool (W == G)) := by
  refine call_go "_ellipsis_match" (stAt 3) [(nm "want", .fr (.str (S W))), (nm "got", .fr (.str (S G)))] (by kernel_rfl) (by kernel_rfl) (by kernel_rfl) (wcv m_1 (.t ?_ ⟨?_⟩))
  · rw [show nm "..." = S dots from rfl, no_dots h]; rfl
  · show D.bool (S W == S G) = _
    rw [S_eq]
end
end Mine
end

section
open PySem PySem.W PyProof.Rows
set_option tactic.hygienic false
open PySem.StrLaws
namespace Mine
structure Tail (l : List Nat) : Prop where
  open_ : 123 ∉ l
  close : 125 ∉ l
  dot : 46 ∉ l
  ne : l ≠ []
  len : l.length ≤ 50
noncomputable def matchT (f : List Nat) (mid : List (Option Nat)) (e : List Nat) (c : Bool) (w : List Nat) : Bool :=
  f.isPrefixOf w && (e.isSuffixOf w && ((c || e.isEmpty) && (decide (f.length + e.length ≤ w.length) && subO mid ((w.drop f.length).take (w.length - f.length - e.length)))))
theorem subO_none : ∀ (ws : List (Option Nat)) (v : List Nat), subO (ws ++ [none]) v = subO ws v
  | [], _ => rfl
  | none :: r, v => subO_none r v
  | some a :: r, v => by
    show (match after a v with | none => false | some v' => subO (r ++ [none]) v') = (match after a v with | none => false | some v' => subO r v')
    cases after a v with
    | none => rfl
    | some v' => exact subO_none r v'
theorem subO_pre (b : Bool) (ws : List (Option Nat)) (v : List Nat) : subO ((if b = true then [none] else []) ++ ws) v = subO ws v := by cases b <;> rfl
theorem seg_pre (b : Bool) : (if b = true then [[]] else []) = (if b = true then [none] else []).map segL := by cases b <;> rfl
theorem toks_empty : ∀ f : List Nat, (toksL f).isEmpty = f.isEmpty
  | [] => rfl
  | a :: f => rfl
theorem toks_mem {c : Nat} (hc : c ≠ 123) (hc2 : c ≠ 32) (hc3 : c ≠ 9) (hc4 : c ≠ 125) (w : List Nat) : c ∉ toksL w := fun h => by
  (refine xe1_2 (List.mem_flatMap.mp h) ?_; intro a _ ha)
  simp [tokL, hc, hc2, hc3, hc4] at ha
theorem app_suf {x y l : List Nat} : x ++ l <:+ y ++ l ↔ x <:+ y := by
  constructor
  · rintro ⟨t, h⟩
    rw [← List.append_assoc] at h
    exact ⟨t, List.append_cancel_right h⟩
  · rintro ⟨t, rfl⟩
    exact ⟨t, by rw [List.append_assoc]⟩
theorem no_close {e w l : List Nat} (he : e ≠ []) (hl : Tail l) : ¬ toksL e <:+ toksL w ++ l := by
  rintro ⟨t, h⟩
  rw [← List.dropLast_concat_getLast he, toks_snoc] at h
  rw [← List.dropLast_concat_getLast hl.ne] at h
  have h1 := congrArg List.reverse h
  have h2 : (tokL (e.getLast he)).reverse = 125 :: 9 :: (List.replicate (e.getLast he) 32 ++ [123]) := by simp [tokL]
  simp only [List.reverse_append, h2, List.cons_append] at h1
  have h3 := (List.cons.inj h1).1
  exact hl.close (h3 ▸ List.getLast_mem hl.ne)
theorem len_le {f v : List Nat} (h : f <+: v) : (toksL f).length ≤ (toksL v).length := by
  (refine xe1_1 h ?_; (try clear h); intro t hq1; rcases hq1 with rfl)
  rw [toks_app, List.length_append]; omega
theorem len_lt {f v : List Nat} (h : f <+: v) (hn : f.length < v.length) : (toksL f).length < (toksL v).length := by
  (refine xe1_1 h ?_; (try clear h); intro t hq1; rcases hq1 with rfl)
  cases t with
  | nil => simp at hn
  | cons a t => rw [toks_app, List.length_append, toks_cons, List.length_append, tokL_len]; omega
theorem em_toks {l : List Nat} (hl : Tail l) (f e w : List Nat) (c : Bool) (mid : List (Option Nat)) :
    emB (toksL w ++ l) (toksL f) (toksL e ++ if c then l else []) (mid.map segL) = matchT f mid e c w := by
  unfold emB matchT
  by_cases hf : f <+: w
  · (refine xe1_1 hf ?_; (try clear hf); intro w1 hq1; rcases hq1 with rfl)
    have h1 : (toksL f).isPrefixOf (toksL (f ++ w1) ++ l) = true := List.isPrefixOf_iff_prefix.mpr ((toks_pre hl.open_).mpr (List.prefix_append _ _))
    rw [h1, Bool.or_true, List.isPrefixOf_iff_prefix.mpr (List.prefix_append f w1), Bool.true_and, Bool.true_and, seg_pre, ← List.map_append, toks_empty]
    generalize hws : (if f.isEmpty = true then [none] else []) ++ mid = ws
    have hw : ∀ v, subO ws v = subO mid v := fun v => by rw [← hws]; exact subO_pre _ _ _
    unfold tailB
    cases c with
    | true =>
      have hE : (toksL e ++ if true = true then l else []) = toksL e ++ l := rfl
      have hne : (toksL e ++ l).isEmpty = false := by
        rw [Bool.eq_false_iff]; intro q
        exact hl.ne (List.append_eq_nil_iff.mp (List.isEmpty_iff.mp q)).2
      rw [hE, hne, Bool.false_or, Bool.true_or, Bool.true_and]
      by_cases he : e <:+ f ++ w1
      · rw [List.isSuffixOf_iff_suffix.mpr he, List.isSuffixOf_iff_suffix.mpr (app_suf.mpr (toks_suf.mpr he)), Bool.true_and, Bool.true_and]
        (refine xe1_1 he ?_; (try clear he); intro w2 h2)
        have hp : f <+: w2 ++ e := h2 ▸ List.prefix_append f w1
        have hlen : (toksL f).length + (toksL e ++ l).length ≤ (toksL (f ++ w1) ++ l).length ↔ f.length + e.length ≤ (f ++ w1).length := by
          rw [← h2, toks_app]
          simp only [List.length_append]
          rcases Nat.lt_or_ge w2.length f.length with q | q
          · have := len_lt (List.prefix_of_prefix_length_le (List.prefix_append w2 e) hp (by omega)) q
            omega
          · have := len_le (List.prefix_of_prefix_length_le hp (List.prefix_append w2 e) q)
            omega
        by_cases hc : f.length + e.length ≤ (f ++ w1).length
        · rw [decide_eq_true hc, decide_eq_true (hlen.mpr hc), Bool.true_and, Bool.true_and]
          have q : f.length ≤ w2.length := by rw [← h2, List.length_append] at hc; omega
          (refine xe1_1 (List.prefix_of_prefix_length_le hp (List.prefix_append w2 e) q) ?_; intro v hq1; rcases hq1 with rfl)
          have e1 : toksL (f ++ w1) ++ l = toksL f ++ (toksL v ++ (toksL e ++ l)) := by rw [← h2, toks_app, toks_app]; simp
          have e2 : (toksL f ++ (toksL v ++ (toksL e ++ l))).length - (toksL e ++ l).length = (toksL f ++ toksL v).length := by simp only [List.length_append]; omega
          have e3 : ((f ++ w1).drop f.length).take ((f ++ w1).length - f.length - e.length) = v := by
            rw [← h2, List.append_assoc, List.drop_left]
            have : (f ++ (v ++ e)).length - f.length - e.length = v.length := by simp only [List.length_append]; omega
            rw [this, List.take_left]
          rw [e1, e2, e3, ← hw]
          show loopB _ _ ((ws.map segL ++ []).map S) _ = _
          rw [List.append_nil, List.map_map]
          exact loop_toks ws (toksL f) v (Nat.le_refl _) fun i h3 h4 => by omega
        · rw [decide_eq_false hc, decide_eq_false fun h => hc (hlen.mp h), Bool.false_and, Bool.false_and]
      · have h3 : (toksL e ++ l).isSuffixOf (toksL (f ++ w1) ++ l) = false := Bool.eq_false_iff.mpr fun h => he (toks_suf.mp (app_suf.mp (List.isSuffixOf_iff_suffix.mp h)))
        have h4 : e.isSuffixOf (f ++ w1) = false := Bool.eq_false_iff.mpr fun h => he (List.isSuffixOf_iff_suffix.mp h)
        rw [h3, h4, Bool.false_and, Bool.false_and]
    | false =>
      have hE : (toksL e ++ if false = true then l else []) = toksL e := List.append_nil _
      rw [hE, toks_empty, Bool.false_or]
      cases e with
      | nil =>
        have h3 : (toksL f).length + (toksL []).length ≤ (toksL (f ++ w1) ++ l).length := by rw [toks_app]; simp [toks_nil]
        have h4 : f.length + ([] : List Nat).length ≤ (f ++ w1).length := by simp
        have h5 : ([] : List Nat).isSuffixOf (f ++ w1) = true := List.isSuffixOf_iff_suffix.mpr List.nil_suffix
        rw [decide_eq_true h3, decide_eq_true h4, h5]
        show loopB _ _ ((ws.map segL ++ [none].map segL).map S) _ = subO mid _
        have e1 : toksL (f ++ w1) ++ l = toksL f ++ (toksL w1 ++ l) := by rw [toks_app, List.append_assoc]
        have e3 : ((f ++ w1).drop f.length).take ((f ++ w1).length - f.length - 0) = w1 := by
          rw [List.drop_left]
          have : (f ++ w1).length - f.length - 0 = w1.length := by simp only [List.length_append]; omega
          rw [this, List.take_length]
        rw [← List.map_append, List.map_map, e1, show ([] : List Nat).length = 0 from rfl, e3, ← hw, ← subO_none]
        refine loop_toks _ (toksL f) w1 (by simp [toks_nil]) fun i h6 h7 h8 => ?_
        rw [← List.append_assoc, List.getElem?_append_right h6] at h8
        exact hl.open_ (List.mem_of_getElem? h8)
      | cons a r =>
        have h3 : (toksL (a :: r)).isSuffixOf (toksL (f ++ w1) ++ l) = false := Bool.eq_false_iff.mpr fun h => no_close (List.cons_ne_nil _ _) hl (List.isSuffixOf_iff_suffix.mp h)
        rw [h3]
        show false = (_ && (false && _))
        rw [Bool.false_and, Bool.and_false]
  · have h1 : (toksL f).isPrefixOf (toksL w ++ l) = false := Bool.eq_false_iff.mpr fun h => hf ((toks_pre hl.open_).mp (List.isPrefixOf_iff_prefix.mp h))
    have h2 : f.isPrefixOf w = false := Bool.eq_false_iff.mpr fun h => hf (List.isPrefixOf_iff_prefix.mp h)
    have h3 : f ≠ [] := fun q => hf (q ▸ List.nil_prefix)
    have h4 : f.isEmpty = false := Bool.eq_false_iff.mpr fun q => h3 (List.isEmpty_iff.mp q)
    rw [h1, h2, toks_empty, h4, Bool.false_and]; rfl
theorem toks_len {B : Nat} : ∀ {w : List Nat}, (∀ a ∈ w, a ≤ B) → (toksL w).length ≤ w.length * (B + 3)
  | [], _ => Nat.zero_le _
  | a :: w, h => by
    have h1 := h a List.mem_cons_self
    have h2 := toks_len (w := w) fun b hb => h b (List.mem_cons_of_mem _ hb)
    rw [toks_cons, List.length_append, tokL_len, List.length_cons, Nat.add_mul]; omega
theorem joinD_len : ∀ (l : List (List Nat)), (∀ u ∈ l, u.length ≤ 10000) → (joinD l).length ≤ l.length * 10003
  | [], _ => Nat.zero_le _
  | [s], h => by have := h s List.mem_cons_self; show s.length ≤ _; simp; omega
  | s :: s2 :: r, h => by
    have h1 := h s List.mem_cons_self
    have h2 := joinD_len (s2 :: r) fun u hu => h u (List.mem_cons_of_mem _ hu)
    show (s ++ dots ++ joinD (s2 :: r)).length ≤ _
    rw [List.length_append, List.length_append, List.length_cons (a := s), Nat.add_mul]
    have : dots.length = 3 := rfl
    omega
theorem em_eq {k : Nat} {l : List Nat} (hl : Tail l) {f e w : List Nat} {c : Bool} {mid : List (Option Nat)} (hf : f.length ≤ 7) (he : e.length ≤ 7) (hw : w.length ≤ 7) (hm : mid.length ≤ 7)
    (bf : ∀ a ∈ f, a ≤ 100) (be : ∀ a ∈ e, a ≤ 100) (bw : ∀ a ∈ w, a ≤ 100) (bm : ∀ a, some a ∈ mid → a ≤ 100) :
    callT (k + 1) "_ellipsis_match" [.str (S (joinD (toksL f :: (mid.map segL ++ [toksL e ++ if c then l else []])))), .str (S (toksL w ++ l))] = some (.bool (matchT f mid e c w)) := by
  have hdot : ∀ w, 46 ∉ toksL w := toks_mem (by decide) (by decide) (by decide) (by decide)
  have h7 : ∀ {w : List Nat}, w.length ≤ 7 → (∀ a ∈ w, a ≤ 100) → (toksL w).length ≤ 721 := fun {w} h1 h2 => by
    have := toks_len h2
    have h3 : w.length * (100 + 3) ≤ 7 * (100 + 3) := Nat.mul_le_mul_right _ h1
    omega
  have hc : (if c = true then l else []).length ≤ 50 ∧ 46 ∉ (if c = true then l else []) := by cases c; exact ⟨Nat.zero_le _, by simp⟩; exact ⟨hl.len, hl.dot⟩
  have hL : ∀ u ∈ toksL f :: (mid.map segL ++ [toksL e ++ if c then l else []]), u.length ≤ 10000 ∧ 46 ∉ u := fun u hu => by
    rcases List.mem_cons.mp hu with rfl | hu
    · have := h7 hf bf; exact ⟨by omega, hdot f⟩
    · rcases List.mem_append.mp hu with hu | hu
      · (refine xe1_2 (List.mem_map.mp hu) ?_; intro o ho hq2; rcases hq2 with rfl)
        cases o with
        | none => exact ⟨Nat.zero_le _, by simp [segL]⟩
        | some a =>
          have h1 := bm a ho
          refine ⟨by show (tokL a).length ≤ _; rw [tokL_len]; omega, ?_⟩
          have := hdot [a]
          rwa [toks_cons, toks_nil, List.append_nil] at this
      · rw [List.mem_singleton.mp hu]
        have := h7 he be
        refine ⟨by rw [List.length_append]; omega, fun q => ?_⟩
        rcases List.mem_append.mp q with q | q
        · exact hdot e q
        · exact hc.2 q
  have h8 := h7 hw bw
  have hlen := hl.len
  have hj := joinD_len _ fun u hu => (hL u hu).1
  rw [List.length_cons, List.length_append, List.length_map, List.length_singleton] at hj
  have hj2 : (mid.length + 1 + 1) * 10003 ≤ 9 * 10003 := Nat.mul_le_mul_right _ (by omega)
  rw [em_gen (fun u hu => (hL u hu).2) (fun u hu => (hL u hu).1) (by rw [List.length_map]; omega) (by omega) (by rw [List.length_append]; omega), em_toks hl]
theorem em_plain {k : Nat} {l : List Nat} (hl : Tail l) {r w : List Nat} {c : Bool} :
    callT (k + 1) "_ellipsis_match" [.str (S (toksL r ++ if c then l else [])), .str (S (toksL w ++ l))] = some (.bool (c && r == w)) := by
  have hdot : ∀ w, 46 ∉ toksL w := toks_mem (by decide) (by decide) (by decide) (by decide)
  have hc : 46 ∉ (if c = true then l else []) := by cases c; simp; exact hl.dot
  rw [em_eq0 fun q => (List.mem_append.mp q).elim (hdot r) hc]
  congr 2
  rw [Bool.eq_iff_iff, beq_iff_eq, Bool.and_eq_true, beq_iff_eq]
  cases c with
  | true => exact ⟨fun h => ⟨rfl, toks_inj hl.open_ h⟩, fun h => by rw [h.2]; rfl⟩
  | false =>
    refine ⟨fun h => ?_, fun h => by cases h.1⟩
    rw [show (toksL r ++ if false = true then l else []) = toksL r from List.append_nil _] at h
    cases r with
    | nil =>
      have := (List.append_eq_nil_iff.mp h.symm).2
      exact absurd this hl.ne
    | cons a r => exact absurd ⟨[], h⟩ (no_close (e := a :: r) (w := w) (List.cons_ne_nil _ _) hl)
end Mine
end

section
open PySem PySem.W PyProof.Rows
set_option tactic.hygienic false
namespace Mine
noncomputable def chooseZ (n : Int) (k : Nat) : Int := (List.range k).foldl (fun (w : Int) (j : Nat) => Int.fdiv (w * (n - (j : Int))) ((j : Int) + 1)) 1
noncomputable def takenZ (n : Int) (k q : Nat) : Int := ((List.range ((n + 1).toNat - k)).map fun j => chooseZ n (k + j) * (q - 1 : Int) ^ (n - ((k + j : Nat) : Int)).toNat).sum
noncomputable def stepZ (n : Int) (k q : Nat) : Int := if (k : Int) ≤ n then chooseZ n k * (q - 1 : Int) ^ (n - k).toNat else 0
noncomputable def isI (o : Option D) (i : Int) : Bool := match o with
  | some (.int j) => i == j
  | _ => false
theorem isI_eq {o : Option D} {i : Int} (h : isI o i = true) : o = some (.int i) := by
  unfold isI at h
  split at h
  · rw [eq_of_beq h]
  · cases h
noncomputable def allN (p : Int → Nat → Nat → Bool) : Bool := [-1, 0, 1, 2, 3].all fun n => [0, 1, 2, 3, 4].all fun k => [2, 3].all fun q => p n k q
theorem allN_at {p : Int → Nat → Nat → Bool} (h : allN p = true) {n : Int} {k q : Nat} (h1 : -1 ≤ n ∧ n ≤ 3) (h2 : k ≤ 4) (h3 : q = 2 ∨ q = 3) : p n k q = true := by
  have a := List.all_eq_true.mp h n (by have : n = -1 ∨ n = 0 ∨ n = 1 ∨ n = 2 ∨ n = 3 := by omega
                                        rcases this with rfl | rfl | rfl | rfl | rfl <;> decide)
  have b := List.all_eq_true.mp a k (by have : k = 0 ∨ k = 1 ∨ k = 2 ∨ k = 3 ∨ k = 4 := by omega
                                        rcases this with rfl | rfl | rfl | rfl | rfl <;> decide)
  exact List.all_eq_true.mp b q (by rcases h3 with rfl | rfl <;> decide)
theorem taken_all {k' : Nat} : allN (fun n k q => isI (callT (k' + 1 + 1) "_law_taken" [.int n, .int k, .int q]) (takenZ n k q)) = true := by kernel_rfl
theorem step_all {k' : Nat} : allN (fun n k q => isI (callT (k' + 1 + 1) "_law_step" [.int n, .int k, .int q]) (stepZ n k q)) = true := by kernel_rfl
theorem taken_eq {k' : Nat} {n : Int} {k q : Nat} (h1 : -1 ≤ n ∧ n ≤ 3) (h2 : k ≤ 4) (h3 : q = 2 ∨ q = 3) : callT (k' + 1 + 1) "_law_taken" [.int n, .int k, .int q] = some (.int (takenZ n k q)) := isI_eq (allN_at taken_all h1 h2 h3)
theorem step_eq {k' : Nat} {n : Int} {k q : Nat} (h1 : -1 ≤ n ∧ n ≤ 3) (h2 : k ≤ 4) (h3 : q = 2 ∨ q = 3) : callT (k' + 1 + 1) "_law_step" [.int n, .int k, .int q] = some (.int (stepZ n k q)) := isI_eq (allN_at step_all h1 h2 h3)
end Mine
end

section
open PySem PySem.W PyProof.Rows
set_option tactic.hygienic false
namespace Mine
theorem mulZ {a b : Int} (h : a.natAbs < 2 ^ 64 ∨ b.natAbs < 2 ^ 64) : binD .Mult (.int a) (.int b) = some (.int (a * b)) := mul_ok (h.elim okMul_l okMul_r)
theorem fdivZ {a b : Int} (h0 : b ≠ 0) (h : a.natAbs < 2 ^ 64 ∨ b.natAbs < 2 ^ 64) : binD .FloorDiv (.int a) (.int b) = some (.int (Int.fdiv a b)) := fdiv_int h0 (h.elim div_l div_r)
theorem subZ (a b : Int) : binD .Sub (.int a) (.int b) = some (.int (a - b)) := rfl
theorem addZ (a b : Int) : binD .Add (.int a) (.int b) = some (.int (a + b)) := rfl
theorem intsOf_nD : ∀ l : List Nat, intsOf (nD l) = some (l.map fun (n : Nat) => (n : Int))
  | [] => rfl
  | a :: l => by
    show (intOf (.int a)).bind (fun i => (intsOf (nD l)).map (i :: ·)) = _
    rw [intsOf_nD l]; rfl
theorem count_nat (a : Nat) : ∀ l : List Nat, (l.map fun (n : Nat) => (n : Int)).count (a : Int) = l.count a
  | [] => rfl
  | b :: l => by
    rw [List.map_cons, List.count_cons, List.count_cons, count_nat a l]
    congr 1
    have : ((b : Int) == (a : Int)) = (b == a) := by rw [Bool.eq_iff_iff]; simp; omega
    rw [this]
theorem c_count {c : Cx} (l : List Nat) (a : Nat) : callM c (nm "count") (.lst (nD l)) [.int a] = some (.int (l.count a : Nat)) := by
  have e : callM c (nm "count") (.lst (nD l)) [.int a] = (intsOf (nD l)).map fun ns => .int (ns.count (a : Int)) := by kernel_rfl
  rw [e, intsOf_nD, ← count_nat]; rfl
theorem mulS (a : Nat) : Txt.mul (nm " ") (a : Int) = S (List.replicate a 32) := by
  unfold Txt.mul
  split
  · have : a = 0 := by omega
    subst this; rfl
  · split
    · rename_i h1 h2
      have e : ((nm " ").length == 0) = false := by decide
      rw [e, Bool.or_false] at h2
      have : a = 1 := by have := eq_of_beq h2; omega
      subst this; rfl
    · rw [Int.toNat_natCast]
      have : ∀ (n : Nat) (x : List Nat), (List.replicate n (nm " ").cps).foldl (· ++ ·) x.toArray = (x ++ List.replicate n 32).toArray := by
        intro n
        induction n with
        | zero => intro x; simp
        | succ m ih =>
          intro x
          rw [List.replicate_succ, List.foldl_cons, show x.toArray ++ (nm " ").cps = (x ++ [32]).toArray by rw [show (nm " ").cps = [32].toArray from rfl, List.append_toArray], ih, List.append_assoc]
          rfl
      show Str.mk ((List.replicate a (nm " ").cps).foldl (· ++ ·) #[]) = _
      rw [this a []]; rfl
theorem tok_add1 {a : Nat} (h : a ≤ 100) : binD .Add (.str (nm "{")) (.str (Txt.mul (nm " ") (a : Int))) = some (.str (S (123 :: List.replicate a 32))) := by
  rw [mulS, show nm "{" = S [123] from rfl, add_str (by rw [S_len, S_len]; simp; omega), S_app]; rfl
theorem tok_add2 {a : Nat} (h : a ≤ 100) : binD .Add (.str (S (123 :: List.replicate a 32))) (.str (nm "\t}")) = some (.str (tokS a)) := by
  rw [show nm "\t}" = S [9, 125] from rfl, add_str (by rw [S_len, S_len]; simp; omega), S_app]; rfl
noncomputable abbrev ucx (k : Nat) : Cx := cxAt k "_law_due" (stAt 14)
noncomputable abbrev uBody : List Stmt := dBody (stAt 14)
noncomputable abbrev uS (i : Nat) : Stmt := stmtAt (forB (stmtAt uBody 3)) i
noncomputable def lvS (b : Bool) (l0 l1 : D) : Slot := match b with
  | true => .ol [l0, l1]
  | false => .fr (.lst [l0, l1])
noncomputable def uP (n : D) (L fr he : List D) (b s0 s1 : D) (pair : Bool) (q kk tk st : D) (lv C : Slot) (r : Sc) : Sc :=
  (nm "n", .fr n) :: (nm "lengths", .fr (.lst L)) :: (nm "free", .fr (.lst fr)) :: (nm "held", .fr (.lst he)) :: (nm "blanks", .fr b) :: (nm "sizes", .fr (.lst [s0, s1])) :: (nm "pair", .fr (.bool pair)) :: (nm "q", .fr q) :: (nm "k", .fr kk) :: (nm "taken", .fr tk) :: (nm "step", .fr st) :: (nm "levels", lv) :: (nm "callers", C) :: r
noncomputable def uO : Option (Int × Int) → Sc
  | none => []
  | some (a, m) => [(nm "a", .fr (.int a)), (nm "amount", .fr (.int m))]
noncomputable abbrev uTurn (k : Nat) : D → Sc → (Fl → Sc → Prop) → Prop := fun d ρ' => wX 55 (ucx k) (upd ρ' (nm "a") (.fr d)) (forB (stmtAt uBody 3))
section
variable {k : Nat} {pair : Bool}
theorem u_head {n b s0 s1 : D} {L fr he : List D} {K : Fl → Sc → Prop} : (Y (lenD (.lst L)) fun q => Y (lenD (.lst fr)) fun kk => Y (callT k "_law_taken" [n, kk, q]) fun tk => Y (callT k "_law_step" [n, kk, q]) fun st => Y (binD .Mult b tk) fun y => Y (binD .Mult b tk) fun z =>
    wLoop (uTurn k) L (uP n L fr he b s0 s1 pair q kk tk st (lvS true y z) (.od []) (uO none)) (kSeq (fun ρ' => wX 56 (ucx k) ρ' (uBody.drop 4) K) K)) =
    wX 60 (ucx k) [(nm "n", .fr n), (nm "lengths", .fr (.lst L)), (nm "free", .fr (.lst fr)), (nm "held", .fr (.lst he)), (nm "blanks", .fr b), (nm "sizes", .fr (.lst [s0, s1])), (nm "pair", .fr (.bool pair))] uBody K := by kernel_rfl
theorem u_end {n b s0 s1 q kk st l0 l1 : D} {tk : D} {L fr he : List D} {C : List (Str × D)} {f : Bool} {o : Option (Int × Int)} {d : D} : (Y (lenD (.lst he)) fun y => Y (binD .Add n y) fun y => Y (binD .Mult y tk) fun y => D.tup [tk, y, l0, l1, .dct C] = d) =
    wX 56 (ucx k) (uP n L fr he b s0 s1 pair q kk tk st (lvS f l0 l1) (.od C) (uO o)) (uBody.drop 4) (kFin (· = d)) := by cases f <;> rcases o with _ | ⟨a, m⟩ <;> kernel_rfl
theorem u_x1 {n b s0 s1 q kk st tk a : D} {lv C : Slot} {L fr he : List D} {r : Sc} {K : D → Prop} :
    (Y (binD .Mult n tk) fun y => Y (callM (ucx k) (nm "count") (.lst fr) [a]) fun y1 => Y (binD .Mult q y1) fun y2 => Y (binD .Sub y2 kk) fun y3 => Y (binD .Mult y3 st) fun y4 => Y (binD .Add y y4) fun y => Y (binD .FloorDiv y q) fun y =>
      Y (callM (ucx k) (nm "count") (.lst he) [a]) fun y5 => Y (binD .Mult tk y5) fun y6 => Y (binD .Add y y6) fun y => K y) =
    wE 53 (ucx k) (frz (sreads (uS 0)) (uP n L fr he b s0 s1 pair q kk tk st lv C ((nm "a", .fr a) :: r))) (sE (uS 0) 0) K := by kernel_rfl
theorem u_z0 {n b s0 s1 q kk st tk : D} {a : Int} {lv C : Slot} {L fr he : List D} {o : Option (Int × Int)} :
    uP n L fr he b s0 s1 pair q kk tk st lv C ((nm "a", .fr (.int a)) :: (uO o).tail) = upd (uP n L fr he b s0 s1 pair q kk tk st lv C (uO o)) (nm "a") (.fr (.int a)) := by rcases o with _ | ⟨a, m⟩ <;> kernel_rfl
theorem u_z1 {n b s0 s1 q kk st tk : D} {a m : Int} {lv C : Slot} {L fr he : List D} {o : Option (Int × Int)} :
    uP n L fr he b s0 s1 pair q kk tk st lv C [(nm "a", .fr (.int a)), (nm "amount", .fr (.int m))] = upd (frz (sreads (uS 0)) (uP n L fr he b s0 s1 pair q kk tk st lv C ((nm "a", .fr (.int a)) :: (uO o).tail))) (nm "amount") (asSl (sE (uS 0) 0) (.int m)) := by rcases o with _ | ⟨a, m⟩ <;> kernel_rfl
theorem u_x2 {n b s0 s1 q kk st tk l0 l1 : D} {a m : Int} {f : Bool} {C : Slot} {L fr he : List D} {K : D → Prop} :
    (Y (binD .FloorDiv (.int a) s0) fun y => Y (binD .Add y (.int 1)) fun y => Y (binD .Mult (.int m) y) fun y => Y (binD .Mult y s0) fun y => Y (binD .Add l0 y) fun z0 =>
     Y (binD .FloorDiv (.int a) s1) fun y => Y (binD .Add y (.int 1)) fun y => Y (binD .Mult (.int m) y) fun y => Y (binD .Mult y s1) fun y => Y (binD .Add l1 y) fun z1 => K (.lst [z0, z1])) =
    wE 52 (ucx k) (frz (sreads (uS 1)) (uP n L fr he b s0 s1 pair q kk tk st (lvS f l0 l1) C [(nm "a", .fr (.int a)), (nm "amount", .fr (.int m))])) (sE (uS 1) 0) K := by cases f <;> kernel_rfl
theorem u_z2 {n b s0 s1 q kk st tk l0 l1 z0 z1 : D} {a m : Int} {f : Bool} {C : List (Str × D)} {L fr he : List D} :
    uP n L fr he b s0 s1 pair q kk tk st (lvS false z0 z1) (.od C) (uO (some (a, m))) =
   upd (frz (sreads (uS 1)) (uP n L fr he b s0 s1 pair q kk tk st (lvS f l0 l1) (.od C) [(nm "a", .fr (.int a)), (nm "amount", .fr (.int m))])) (nm "levels") (asSl (sE (uS 1) 0) (.lst [z0, z1])) := by cases f <;> kernel_rfl
theorem u_x3 {n b s0 s1 q kk st tk z0 z1 : D} {a m : Int} {C : List (Str × D)} {L fr he : List D} {K : Fl → Sc → Prop} :
    (If (decide ((0 : Int) < m)) (If pair (Y (binD .Mult (.int a) (.int m)) fun y => Y (binD .Mult (.str (nm " ")) (.int a)) fun y1 => Y (binD .Add (.str (nm "{")) y1) fun y1 => Y (binD .Add y1 (.str (nm "\t}"))) fun y1 => Y (storeItem y1 (.tup [.int m, y]) (.od C)) fun C' =>
       K .next (uP n L fr he b s0 s1 pair q kk tk st (lvS false z0 z1) C' (uO (some (a, m)))))
      (Y (binD .Mult (.str (nm " ")) (.int a)) fun y1 => Y (binD .Add (.str (nm "{")) y1) fun y1 => Y (binD .Add y1 (.str (nm "\t}"))) fun y1 => Y (storeItem y1 (.int m) (.od C)) fun C' =>
       K .next (uP n L fr he b s0 s1 pair q kk tk st (lvS false z0 z1) C' (uO (some (a, m))))))
      (K .next (uP n L fr he b s0 s1 pair q kk tk st (lvS false z0 z1) (.od C) (uO (some (a, m)))))) =
    wX 53 (ucx k) (uP n L fr he b s0 s1 pair q kk tk st (lvS false z0 z1) (.od C) (uO (some (a, m)))) ((forB (stmtAt uBody 3)).drop 2) K := by kernel_rfl
noncomputable def rowU (C : CT) (a A : Nat) : CT := if 0 < A then upN C a A else C
noncomputable def wtN (s a : Nat) : Nat := (a / s + 1) * s
noncomputable def amtZ (n : Int) (q kk : Nat) (tk st : Int) (cf ch : Nat) : Int := Int.fdiv (n * tk + ((q : Int) * cf - kk) * st) q + tk * ch
theorem mulN {a b : Nat} (h : a < 2 ^ 64) : binD .Mult (.int a) (.int b) = some (.int (a * b : Nat)) := mul_nat (.inl h)
theorem u_put {n b s0 s1 q kk st tk z0 z1 : D} {a A : Nat} {C : CT} {L fr he : List D} {K : Fl → Sc → Prop} (ha : a ≤ 100) (hC : C.length ≤ 100) (h : Pf (K .next (uP n L fr he b s0 s1 pair q kk tk st (lvS false z0 z1) (.od (cD pair (rowU C a A))) (uO (some (a, A)))))) :
    Pf (wX 53 (ucx k) (uP n L fr he b s0 s1 pair q kk tk st (lvS false z0 z1) (.od (cD pair C)) (uO (some (a, A)))) ((forB (stmtAt uBody 3)).drop 2) K) := by
  have hl : (cD pair C).length ≤ 1000 := by rw [cD_len]; omega
  refine wcv u_x3 (.ite (fun q => ?_) fun q => ?_)
  · have q' : 0 < A := by have := of_decide_eq_true q; omega
    rw [rowU, if_pos q', ← cD_upd] at h
    refine .ite (fun p => ?_) fun p => ?_
    · subst p
      exact .y (mulN (by omega)) (.y (mul_sp (by omega)) (.y (tok_add1 ha) (.y (tok_add2 ha) (.y (store_od _ _ hl) h))))
    · subst p
      exact .y (mul_sp (by omega)) (.y (tok_add1 ha) (.y (tok_add2 ha) (.y (store_od _ _ hl) h)))
  · have q' : ¬ 0 < A := by have := of_decide_eq_false q; omega
    rw [rowU, if_neg q'] at h; exact h
theorem wt_mul (A s a : Nat) : A * (a / s + 1) * s = A * wtN s a := Nat.mul_assoc _ _ _
theorem u_step {n : Int} {L fr he : List Nat} {b : D} {s0 s1 : Nat} {q kk : Nat} {tk st l0 l1 : Int} {a A : Nat} {C : CT} {f : Bool} {o : Option (Int × Int)} {K : Fl → Sc → Prop}
    (hq : 0 < q ∧ q ≤ 3) (hn : n.natAbs ≤ 10) (htk : tk.natAbs ≤ 1000) (hst : st.natAbs ≤ 1000) (hs0 : 0 < s0) (hs1 : 0 < s1) (ha : a ≤ 100) (hC : C.length ≤ 100) (hA : amtZ n q kk tk st (fr.count a) (he.count a) = A) (hA2 : A ≤ 1000)
    (h : Pf (K .next (uP (.int n) (nD L) (nD fr) (nD he) b (.int s0) (.int s1) pair (.int q) (.int kk) (.int tk) (.int st) (lvS false (.int (l0 + (A * wtN s0 a : Nat))) (.int (l1 + (A * wtN s1 a : Nat)))) (.od (cD pair (rowU C a A))) (uO (some (a, A)))))) :
    Pf (uTurn k (.int a) (uP (.int n) (nD L) (nD fr) (nD he) b (.int s0) (.int s1) pair (.int q) (.int kk) (.int tk) (.int st) (lvS f (.int l0) (.int l1)) (.od (cD pair C)) (uO o)) K) := by
  have d1 : ∀ s, a / s ≤ 100 := fun s => Nat.le_trans (Nat.div_le_self _ _) ha
  have d2 : ∀ s, A * (a / s + 1) ≤ 1000 * 101 := fun s => Nat.mul_le_mul hA2 (by have := d1 s; omega)
  refine .sc u_z0 (.st 0 (by decide +kernel) (.asg (x := nm "amount") (by kernel_rfl) (by kernel_rfl) (wcv u_x1 ?_)))
  refine .y (mulZ (.inl (by omega))) (.y (c_count fr a) (.y (mulZ (.inl (by omega))) (.y (subZ _ _) (.y (mulZ (.inr (by omega))) (.y (addZ _ _) (.y (fdivZ (by omega) (.inr (by omega))) (.y (c_count he a) (.y (mulZ (.inl (by omega))) (.y (a := .int (A : Int)) ?_ (.seq (.sc (u_z1 (o := o)) ?_)))))))))))
  · rw [← hA]; rfl
  refine .st 1 (by decide +kernel) (.asg (x := nm "levels") (by kernel_rfl) (by kernel_rfl) (wcv u_x2 ?_))
  refine .y (fdiv_nat hs0 (by omega)) (.y (addZ _ _) (.y (mulN (b := a / s0 + 1) (by omega)) (.y (mulN (by have := d2 s0; omega)) (.y (addZ _ _) ?_))))
  refine .y (fdiv_nat hs1 (by omega)) (.y (addZ _ _) (.y (mulN (b := a / s1 + 1) (by omega)) (.y (mulN (by have := d2 s1; omega)) (.y (addZ _ _) (.seq (.sc u_z2 ?_))))))
  rw [wt_mul, wt_mul]
  exact u_put ha hC h
noncomputable def dueC (A : Nat → Nat) (L : List Nat) (C : CT) : CT := L.foldl (fun C a => rowU C a (A a)) C
noncomputable def dueL (A : Nat → Nat) (s : Nat) (L : List Nat) : Nat := (L.map fun a => A a * wtN s a).sum
theorem rowU_len (C : CT) (a A : Nat) : (rowU C a A).length ≤ C.length + 1 := by
  unfold rowU; split
  · exact upN_len _ _ _
  · omega
theorem u_loop {n : Int} {L fr he : List Nat} {b : D} {s0 s1 : Nat} {q kk : Nat} {tk st : Int} {A : Nat → Nat} {K : Fl → Sc → Prop}
    (hq : 0 < q ∧ q ≤ 3) (hn : n.natAbs ≤ 10) (htk : tk.natAbs ≤ 1000) (hst : st.natAbs ≤ 1000) (hs0 : 0 < s0) (hs1 : 0 < s1) : ∀ (l : List Nat) (l0 l1 : Int) (C : CT) (f : Bool) (o : Option (Int × Int)), (∀ a ∈ l, a ≤ 100 ∧ amtZ n q kk tk st (fr.count a) (he.count a) = A a ∧ A a ≤ 1000) → C.length + l.length ≤ 100 →
    (∀ f o, Pf (K .next (uP (.int n) (nD L) (nD fr) (nD he) b (.int s0) (.int s1) pair (.int q) (.int kk) (.int tk) (.int st) (lvS f (.int (l0 + (dueL A s0 l : Nat))) (.int (l1 + (dueL A s1 l : Nat)))) (.od (cD pair (dueC A l C))) (uO o)))) →
    Pf (wLoop (uTurn k) (nD l) (uP (.int n) (nD L) (nD fr) (nD he) b (.int s0) (.int s1) pair (.int q) (.int kk) (.int tk) (.int st) (lvS f (.int l0) (.int l1)) (.od (cD pair C)) (uO o)) K)
  | [], l0, l1, C, f, o, _, _, h => .stop (by
      have := h f o
      rwa [show (dueL A s0 [] : Nat) = 0 from rfl, show (dueL A s1 [] : Nat) = 0 from rfl, show l0 + ((0 : Nat) : Int) = l0 by omega, show l1 + ((0 : Nat) : Int) = l1 by omega] at this)
  | a :: l, l0, l1, C, f, o, hl, hC, h => by
    (refine xe0_3 (hl a List.mem_cons_self) ?_; intro h1 h2 h3)
    rw [List.length_cons] at hC
    refine .turn (u_step hq hn htk hst hs0 hs1 h1 (by omega) h2 h3 (.next ?_))
    have hr := rowU_len C a (A a)
    refine u_loop hq hn htk hst hs0 hs1 l _ _ _ false _ (fun b hb => hl b (List.mem_cons_of_mem _ hb)) (by omega) fun f o => ?_
    have := h f o
    have e : ∀ s (z : Int), z + ((dueL A s (a :: l) : Nat) : Int) = z + ((A a * wtN s a : Nat) : Int) + (dueL A s l : Nat) := fun s z => by
      rw [show dueL A s (a :: l) = A a * wtN s a + dueL A s l from List.sum_cons, Int.natCast_add, Int.add_assoc]
    rw [e, e] at this
    exact this
theorem due_eq {n : Int} {L fr he : List Nat} {b s0 s1 : Nat} {tk st : Int} {A : Nat → Nat} (hq : 0 < L.length ∧ L.length ≤ 3) (hn : n.natAbs ≤ 10) (htk : tk.natAbs ≤ 1000) (hst : st.natAbs ≤ 1000) (hs0 : 0 < s0) (hs1 : 0 < s1) (hf : fr.length ≤ 10) (hh : he.length ≤ 10) (hb : b ≤ 10)
    (h1 : callT k "_law_taken" [.int n, .int fr.length, .int L.length] = some (.int tk)) (h2 : callT k "_law_step" [.int n, .int fr.length, .int L.length] = some (.int st))
    (hl : ∀ a ∈ L, a ≤ 100 ∧ amtZ n L.length fr.length tk st (fr.count a) (he.count a) = A a ∧ A a ≤ 1000) :
    callT (k + 1) "_law_due" [.int n, .lst (nD L), .lst (nD fr), .lst (nD he), .int b, .lst [.int s0, .int s1], .bool pair] = some (Tot.d pair ⟨tk, (n + he.length) * tk, b * tk + (dueL A s0 L : Nat), b * tk + (dueL A s1 L : Nat), dueC A L []⟩) := by
  refine call_go "_law_due" (stAt 14) [(nm "n", .fr (.int n)), (nm "lengths", .fr (.lst (nD L))), (nm "free", .fr (.lst (nD fr))), (nm "held", .fr (.lst (nD he))), (nm "blanks", .fr (.int b)), (nm "sizes", .fr (.lst [.int s0, .int s1])), (nm "pair", .fr (.bool pair))] (by kernel_rfl) (by kernel_rfl) (by kernel_rfl) (wcv u_head ?_)
  refine .y (len_lst (by rw [nD_len]; omega)) (.y (len_lst (by rw [nD_len]; omega)) ?_)
  rw [nD_len, nD_len]
  refine .y h1 (.y h2 (.y (mulZ (.inl (by omega))) (.y (mulZ (.inl (by omega))) ?_)))
  refine u_loop hq hn htk hst hs0 hs1 L _ _ [] true none hl (by show 0 + _ ≤ 100; omega) fun f o => .seq (wcv u_end ?_)
  refine .y (len_lst (by rw [nD_len]; omega)) (.y (addZ _ _) (.y (mulZ (.inl ?_)) ⟨?_⟩))
  · rw [nD_len]; omega
  · rw [nD_len]; rfl
end
end Mine
end

section
open PySem PySem.W PyProof.Rows
set_option tactic.hygienic false
namespace Mine
theorem join_flat : ∀ ls : List (List Nat), Str.join (S []) (ls.map S) = S ls.flatten
  | [] => rfl
  | [a] => by show S a = S (a ++ []); rw [List.append_nil]
  | a :: b :: r => by
    show S a ++ S [] ++ Str.join (S []) ((b :: r).map S) = _
    rw [join_flat (b :: r), S_app, S_app, List.append_nil]; rfl
theorem join_dots : ∀ ls : List (List Nat), Str.join (S dots) (ls.map S) = S (joinD ls)
  | [] => rfl
  | [a] => rfl
  | a :: b :: r => by
    show S a ++ S dots ++ Str.join (S dots) ((b :: r).map S) = _
    rw [join_dots (b :: r), S_app, S_app]; rfl
theorem strsOf_S : ∀ ls : List (List Nat), strsOf (ls.map sD) = some (ls.map S)
  | [] => rfl
  | a :: r => by
    show (strOf (.str (S a))).bind (fun i => (strsOf (r.map sD)).map (i :: ·)) = _
    rw [strsOf_S r]; rfl
theorem sumS_len (ls : List (List Nat)) : ((ls.map S).map (·.length)).sum = (ls.map (·.length)).sum := by
  rw [List.map_map]; congr 1
theorem c_join {c : Cx} {sep : List Nat} {ls : List (List Nat)} (h : (ls.map (·.length)).sum + ls.length * sep.length ≤ 10000) (hl : ls.length ≤ 1000) :
    callM c (nm "join") (.str (S sep)) [.lst (ls.map sD)] = some (.str (Str.join (S sep) (ls.map S))) := by
  have e : callM c (nm "join") (.str (S sep)) [.lst (ls.map sD)] = (strsOf (ls.map sD)).bind fun ts => if JoinOk (S sep) ts = true ∧ ts.length ≤ 1000000 then some (.str (Txt.join (S sep) ts)) else none := by kernel_rfl
  rw [e, strsOf_S]
  show (if JoinOk (S sep) (ls.map S) = true ∧ (ls.map S).length ≤ 1000000 then some (D.str (Txt.join (S sep) (ls.map S))) else none) = _
  rw [if_pos ⟨joinOk_of (by rw [sumS_len, List.length_map, S_len]; omega), by rw [List.length_map]; omega⟩]
  show some (D.str (Builtin.Str.glued (S sep) (ls.map S))) = _
  rw [StrLaws.glued_eq_join]
theorem c_cat {c : Cx} {ls : List (List Nat)} (h : (ls.map (·.length)).sum ≤ 10000) (hl : ls.length ≤ 1000) : callM c (nm "join") (.str (nm "")) [.lst (ls.map sD)] = some (sD ls.flatten) :=
  (c_join (sep := []) (by rw [show ([] : List Nat).length = 0 from rfl]; omega) hl).trans (by rw [join_flat]; rfl)
theorem c_dots {c : Cx} {ls : List (List Nat)} (h : (ls.map (·.length)).sum ≤ 5000) (hl : ls.length ≤ 1000) : callM c (nm "join") (.str (nm "...")) [.lst (ls.map sD)] = some (sD (joinD ls)) :=
  (c_join (sep := dots) (by rw [show dots.length = 3 from rfl]; omega) hl).trans (by rw [join_dots]; rfl)
noncomputable def runL (a : Nat) : List Nat := List.replicate a 32 ++ [9]
noncomputable def leadL (r : List Nat) : List Nat := (r.map runL).flatten
noncomputable def ldD : D → D
  | .int a => sD (runL a.toNat)
  | d => d
theorem Pf.flat {f : D → (List D → Prop) → Prop} {g : D → List D} : ∀ (l : List D) {K : List D → Prop}, (∀ d ∈ l, ∀ K', Pf (K' (g d)) → Pf (f d K')) → Pf (K (l.flatMap g)) → Pf (wGather f l K)
  | [], _, _, h => h
  | d :: r, K, hf, h => by
    refine hf d List.mem_cons_self (fun a => wGather f r fun b => K (a ++ b)) ?_
    exact Pf.flat r (K := fun b => K (g d ++ b)) (fun d' hd => hf d' (List.mem_cons_of_mem _ hd)) (by rw [List.flatMap_cons] at h; exact h)
noncomputable abbrev ecx (k : Nat) : Cx := cxAt k "_law_lead" (stAt 17)
noncomputable abbrev eBody : List Stmt := dBody (stAt 17)
noncomputable abbrev eX : Expr := xE (sE (stmtAt eBody 0) 0) 0
theorem run_sum {r : List Nat} (h : ∀ a ∈ r, a ≤ 100) : ((r.map runL).map (·.length)).sum ≤ r.length * 101 := by
  induction r with
  | nil => exact Nat.zero_le _
  | cons a r ih =>
    have h1 := h a List.mem_cons_self
    have h2 := ih fun b hb => h b (List.mem_cons_of_mem _ hb)
    have h3 : (runL a).length = a + 1 := by simp [runL]
    rw [List.map_cons, List.map_cons, List.sum_cons, List.length_cons, Nat.add_mul, h3]; omega
section
variable {k : Nat} {pair : Bool}
theorem e_cv {rs : List D} {K : Fl → Sc → Prop} : (wLC 55 (ecx k) [(nm "runs", .fr (.lst rs))] eX rs fun out => Cd (decide (out.length ≤ 1000000)) (Y (callM (ecx k) (nm "join") (.str (nm "")) [.lst out]) fun y => K (.ret y) [(nm "runs", .fr (.lst rs))])) = wX 60 (ecx k) [(nm "runs", .fr (.lst rs))] eBody K := by kernel_rfl
theorem e_g {rs : List D} {a : Int} {K : List D → Prop} : (Y (binD .Mult (.str (nm " ")) (.int a)) fun y => Y (binD .Add y (.str (nm "\t"))) fun y => K [y]) = wcOf 55 (ecx k) [(nm "runs", .fr (.lst rs))] eX (.int a) K := by kernel_rfl
theorem run_add {a : Nat} (h : a ≤ 100) : binD .Add (.str (Txt.mul (nm " ") (a : Int))) (.str (nm "\t")) = some (sD (runL a)) := by
  rw [mulS, show nm "\t" = S [9] from rfl, add_str (by rw [S_len, S_len]; simp; omega), S_app]; rfl
theorem ld_map (r : List Nat) : (nD r).map ldD = (r.map runL).map sD := by
  unfold nD; rw [List.map_map, List.map_map]; rfl
theorem lead_eq {r : List Nat} (hr : r.length ≤ 20) (ha : ∀ a ∈ r, a ≤ 100) : callT (k + 1) "_law_lead" [.lst (nD r)] = some (sD (leadL r)) := by
  refine call_go "_law_lead" (stAt 17) [(nm "runs", .fr (.lst (nD r)))] (by kernel_rfl) (by kernel_rfl) (by kernel_rfl) (wcv e_cv (.comp (g := ldD) _ (by kernel_rfl) (fun d hd K' hK => ?_) ?_))
  · (refine xe1_2 (List.mem_map.mp hd) ?_; intro a h hq2; rcases hq2 with rfl)
    have := ha a h
    exact wcv e_g (.y (mul_sp (by omega)) (.y (run_add (by omega)) hK))
  · have h1 := run_sum ha
    have h2 : r.length * 101 ≤ 20 * 101 := Nat.mul_le_mul_right _ hr
    refine .cd (decide_eq_true (by rw [List.length_map, nD_len]; omega)) ?_
    rw [ld_map]
    exact .y (c_cat (by omega) (by rw [List.length_map]; omega)) ⟨rfl⟩
theorem pick_nD (r : List Nat) : ∀ is : List Nat, is.filterMap ((nD r)[·]?) = nD (is.filterMap (r[·]?))
  | [] => rfl
  | i :: is => by
    have e : (nD r)[i]? = (r[i]?).map fun (n : Nat) => D.int n := List.getElem?_map ..
    rw [List.filterMap_cons, List.filterMap_cons, e]
    cases r[i]? with
    | none => exact pick_nD r is
    | some a => exact congrArg (D.int a :: ·) (pick_nD r is)
theorem pick_mem {r is : List Nat} {a : Nat} (h : a ∈ is.filterMap (r[·]?)) : a ∈ r := by
  (refine xe1_2 (List.mem_filterMap.mp h) ?_; intro i _ hi)
  exact List.mem_of_getElem? hi
theorem slice_nD {r : List Nat} {lo hi st : Option Int} (hs : st ≠ some 0) (hl : r.length ≤ 1000) : sliceD (.lst (nD r)) lo hi st = some (.lst (nD ((sliceIdx lo hi st r.length).filterMap (r[·]?)))) := by
  have e : sliceD (.lst (nD r)) lo hi st = if st ≠ some 0 ∧ (nD r).length ≤ 1000000 then some (.lst ((sliceIdx lo hi st (nD r).length).filterMap ((nD r)[·]?))) else none := rfl
  rw [e, if_pos ⟨hs, by rw [nD_len]; omega⟩, nD_len, pick_nD]
noncomputable abbrev ocx (k : Nat) : Cx := cxAt k "_law_other" (stAt 19)
noncomputable abbrev oBody : List Stmt := dBody (stAt 19)
theorem o_cv {rs L : List D} {d : Int} {x : D} : (Y (sliceD (.lst rs) none none (some (-1))) fun y => Y (cmpD .NotEq (slotD (toOwn y)) (.lst [])) fun y1 => If (y1 == false)
    (If y1 (Y (lenD (.lst L)) fun y2 => Y (binD .Mod (.int (Int.fdiv d 10)) y2) fun y3 => Y (subD (.lst L) y3) fun y4 => Y (lenD (slotD (toOwn y))) fun y5 => Y (binD .Mod (.int (Int.fdiv d 2)) y5) fun y6 => Y (storeItem y6 y4 (toOwn y)) fun y => slotD y = x) (slotD (toOwn y) = x))
    (If ((Int.fmod d 2 == 0) == false)
      (If (Int.fmod d 2 == 0) (Y (lenD (.lst L)) fun y2 => Y (binD .Mod (.int (Int.fdiv d 10)) y2) fun y3 => Y (subD (.lst L) y3) fun y4 => Y (lenD (slotD (toOwn y))) fun y5 => Y (binD .Mod (.int (Int.fdiv d 2)) y5) fun y6 => Y (storeItem y6 y4 (toOwn y)) fun y => slotD y = x) (slotD (toOwn y) = x))
      (Y (lenD (.lst L)) fun y2 => Y (binD .Mod (.int (Int.fdiv d 10)) y2) fun y3 => Y (subD (.lst L) y3) fun y4 => Y (lenD (slotD (toOwn y))) fun y5 => Y (binD .Mod (.int (Int.fdiv d 2)) y5) fun y6 => Y (storeItem y6 y4 (toOwn y)) fun y => slotD y = x))) =
    wX 60 (ocx k) [(nm "runs", .fr (.lst rs)), (nm "lengths", .fr (.lst L)), (nm "d", .fr (.int d))] oBody (kFin (· = x)) := by kernel_rfl
theorem fm_nat (a : Int) {n : Nat} (h : 0 < n) : ∃ i : Nat, Int.fmod a n = i ∧ i < n := by
  have h1 := Int.fmod_nonneg_of_pos a (b := n) (by omega)
  have h2 := Int.fmod_lt_of_pos a (b := n) (by omega)
  exact ⟨(Int.fmod a n).toNat, by omega, by omega⟩
theorem modZ {a b : Int} (h : b ≠ 0) : binD .Mod (.int a) (.int b) = some (.int (Int.fmod a b)) := if_pos h
theorem mod_nat (a : Int) {n : Nat} (h : 0 < n) : ∃ i : Nat, i < n ∧ binD .Mod (.int a) (.int n) = some (.int i) := by
  (refine xe1_2 (fm_nat a h) ?_; intro i h1 h2)
  exact ⟨i, h2, by rw [modZ (by omega), h1]⟩
theorem nD_at {l : List Nat} {i a : Nat} (h : l[i]? = some a) (hl : l.length ≤ 1000) : subD (.lst (nD l)) (.int i) = some (.int a) := by
  have hi := (List.getElem?_eq_some_iff.mp h).1
  rw [sub_lst, item_nat (by rw [nD_len]; exact hi) (by rw [nD_len]; omega)]
  show ((l.map fun (n : Nat) => D.int n)[i]?) = _
  rw [List.getElem?_map, h]; rfl
theorem rev_len {n : Nat} (h : n ≤ 5) : (sliceIdx none none (some (-1)) n).length ≤ n := by
  have : n = 0 ∨ n = 1 ∨ n = 2 ∨ n = 3 ∨ n = 4 ∨ n = 5 := by omega
  rcases this with rfl | rfl | rfl | rfl | rfl | rfl <;> decide +kernel
theorem other_eq {rs L : List Nat} {d : Int} (hr : rs.length ≤ 5) (hL : 0 < L.length ∧ L.length ≤ 3) (hm : ∀ a ∈ rs, a ∈ L) :
    ∃ oth : List Nat, oth.length ≤ rs.length ∧ (∀ a ∈ oth, a ∈ L) ∧ callT (k + 1) "_law_other" [.lst (nD rs), .lst (nD L), .int d] = some (.lst (nD oth)) := by
  have hs := slice_nD (r := rs) (lo := none) (hi := none) (st := some (-1)) (by decide) (by omega)
  have hlen : ((sliceIdx none none (some (-1)) rs.length).filterMap (rs[·]?)).length ≤ rs.length := Nat.le_trans (List.length_filterMap_le _ _) (rev_len hr)
  have hmem : ∀ a ∈ (sliceIdx none none (some (-1)) rs.length).filterMap (rs[·]?), a ∈ L := fun a ha => hm a (pick_mem ha)
  revert hs hlen hmem
  generalize (sliceIdx none none (some (-1)) rs.length).filterMap (rs[·]?) = o
  intro hs hlen hmem
  (refine xe1_2 (mod_nat (Int.fdiv d 10) hL.1) ?_; intro i hi ei)
  have go : ∀ oth : List Nat, oth.length ≤ rs.length → (∀ a ∈ oth, a ∈ L) → (Pf (wX 60 (ocx k) [(nm "runs", .fr (.lst (nD rs))), (nm "lengths", .fr (.lst (nD L))), (nm "d", .fr (.int d))] oBody (kFin (· = .lst (nD oth))))) → ∃ oth : List Nat, oth.length ≤ rs.length ∧ (∀ a ∈ oth, a ∈ L) ∧ callT (k + 1) "_law_other" [.lst (nD rs), .lst (nD L), .int d] = some (.lst (nD oth)) := fun oth h1 h2 h3 =>
    ⟨oth, h1, h2, call_go "_law_other" (stAt 19) [(nm "runs", .fr (.lst (nD rs))), (nm "lengths", .fr (.lst (nD L))), (nm "d", .fr (.int d))] (by kernel_rfl) (by kernel_rfl) (by kernel_rfl) h3⟩
  cases o with
  | nil => exact go [] (Nat.zero_le _) (fun _ h => nomatch h) (wcv o_cv (.y hs (.y (a := false) rfl (.t rfl (.f rfl ⟨rfl⟩)))))
  | cons a r =>
    (refine xe1_2 (mod_nat (Int.fdiv d 2) (n := (a :: r).length) (by simp)) ?_; intro j hj ej)
    cases hd : (Int.fmod d 2 == 0) with
    | false => exact go (a :: r) hlen hmem (wcv o_cv (.y hs (.y (a := true) rfl (.f rfl (.t (by rw [hd]; rfl) (.f hd ⟨rfl⟩))))))
    | true =>
      have hv : L[i]? = some L[i] := List.getElem?_eq_getElem hi
      refine go ((a :: r).set j L[i]) (by rw [List.length_set]; exact hlen) (fun b hb => ?_) (wcv o_cv (.y hs (.y (a := true) rfl (.f rfl (.f (by rw [hd]; rfl) ?_)))))
      · rcases List.mem_or_eq_of_mem_set hb with h | h
        · exact hmem b h
        · rw [h]; exact List.getElem_mem hi
      · have hl5 : (a :: r).length ≤ 5 := by omega
        refine .y (len_lst (by rw [nD_len]; omega)) ?_
        rw [nD_len]
        refine .y ei (.y (nD_at hv (by omega)) (.y (len_lst (l := nD (a :: r)) (by rw [nD_len]; omega)) ?_))
        rw [nD_len]
        refine .y ej (.y (a := .ol (nD ((a :: r).set j L[i]))) ?_ ⟨rfl⟩)
        show storeItem _ _ (.ol (nD (a :: r))) = _
        rw [store_ol, set_nat _ (by rw [nD_len]; exact hj) (by rw [nD_len]; omega)]
        unfold nD
        rw [List.map_set]; rfl
end
end Mine
end

section
open PySem PySem.W PyProof.Rows
set_option tactic.hygienic false
namespace Mine
noncomputable abbrev bcx (k : Nat) : Cx := cxAt k "_law_back" (stAt 18)
noncomputable abbrev bBody : List Stmt := dBody (stAt 18)
noncomputable abbrev bS (i : Nat) : Stmt := stmtAt (forB (stmtAt bBody 3)) i
noncomputable abbrev bX : Expr := xE (sE (stmtAt bBody 1) 0) 0
noncomputable def bQ (T m : D) (L : List D) (s : D) (pair : Bool) (q t : D) (r : Sc) : Sc := (nm "total", .fr T) :: (nm "m", .fr m) :: (nm "lengths", .fr (.lst L)) :: (nm "size", .fr s) :: (nm "pair", .fr (.bool pair)) :: (nm "q", .fr q) :: (nm "taken", .fr t) :: r
noncomputable def bP (T m : D) (L : List D) (s : D) (pair : Bool) (q t kk st : D) (rs : Slot) (rest : D) (r : Sc) : Sc := bQ T m L s pair q t ((nm "k", .fr kk) :: (nm "step", .fr st) :: (nm "runs", rs) :: (nm "rest", .fr rest) :: r)
noncomputable def bO : Option (Int × D) → Sc
  | none => []
  | some (a, m) => [(nm "a", .fr (.int a)), (nm "amount", .fr m)]
noncomputable abbrev bTurn (k : Nat) : D → Sc → (Fl → Sc → Prop) → Prop := fun d ρ' => wX 55 (bcx k) (upd ρ' (nm "a") (.fr d)) (forB (stmtAt bBody 3))
noncomputable def tD (t n l0 l1 : Int) (C : List (Str × D)) : D := .tup [.int t, .int n, .int l0, .int l1, .dct C]
section
variable {k : Nat} {pair : Bool}
theorem b_h0 {t n l0 l1 : Int} {s m : D} {C : List (Str × D)} {L : List D} {K : Fl → Sc → Prop} : (Y (lenD (.lst L)) fun q => K .next (bQ (tD t n l0 l1 C) m L s pair q (.int t) [])) =
    wS 59 (bcx k) [(nm "total", .fr (tD t n l0 l1 C)), (nm "m", .fr m), (nm "lengths", .fr (.lst L)), (nm "size", .fr s), (nm "pair", .fr (.bool pair))] (stmtAt bBody 0) K := by kernel_rfl
noncomputable abbrev bF (T m : D) (L : List D) (s : D) (pair : Bool) (q t : D) : Sc := frz (sreads (stmtAt bBody 1)) (bQ T m L s pair q t [])
theorem b_e1 {T s q t : D} {m : Int} {L : List D} {K : D → Prop} : (Y (rangeD [.int (m + 1)]) fun ds => wLC 54 (bcx k) (bF T (.int m) L s pair q t) bX ds fun out => Cd (decide (out.length ≤ 1000000)) (Y (builtK .max [.lst out]) K)) = wE 57 (bcx k) (bF T (.int m) L s pair q t) (sE (stmtAt bBody 1) 0) K := by kernel_rfl
theorem b_z {T m s q t : D} {kk : Int} {L : List D} : bQ T m L s pair q t [(nm "k", .fr (.int kk))] = upd (bF T m L s pair q t) (nm "k") (asSl (sE (stmtAt bBody 1) 0) (.int kk)) := by kernel_rfl
theorem b_h2 {t n l0 l1 : Int} {s m q kk : D} {C : List (Str × D)} {L : List D} {K : Fl → Sc → Prop} : (Y (callT k "_law_step" [m, kk, q]) fun st => K .next (bP (tD t n l0 l1 C) m L s pair q (.int t) kk st (.ol []) (.int l0) (bO none))) =
    wS 57 (bcx k) (bQ (tD t n l0 l1 C) m L s pair q (.int t) [(nm "k", .fr kk)]) (stmtAt bBody 2) K := by kernel_rfl
theorem b_h3 {T t m s q kk st : D} {rest : D} {L : List D} {K : Fl → Sc → Prop} : wLoop (bTurn k) L (bP T m L s pair q t kk st (.ol []) rest (bO none)) K = wS 56 (bcx k) (bP T m L s pair q t kk st (.ol []) rest (bO none)) (stmtAt bBody 3) K := by kernel_rfl
theorem b_g {T m s q t : D} {L : List D} {i : Int} {K : List D → Prop} : (Y (callT k "_law_taken" [m, .int i, q]) fun y => Y (cmpD .Eq y t) fun y => If y (K [.int i]) (K [])) = wcOf 54 (bcx k) (bF T m L s pair q t) bX (.int i) K := by kernel_rfl
theorem b_end {T m s q t kk st : D} {rs : List D} {rest : Int} {L : List D} {o : Option (Int × D)} {d : D} : (Y (callT k "_law_lead" [.lst rs]) fun y => Y (binD .FloorDiv (.int rest) t) fun y1 => Y (binD .Mult (.str (nm " ")) y1) fun y2 => Y (binD .Add y y2) fun y => y = d) =
    wX 56 (bcx k) (bP T m L s pair q t kk st (.ol rs) (.int rest) (bO o)) (bBody.drop 4) (kFin (· = d)) := by rcases o with _ | ⟨a, z⟩ <;> kernel_rfl
theorem b_z0 {T m s q t kk st : D} {rs : Slot} {rest : D} {a : Int} {L : List D} {o : Option (Int × D)} :
    bP T m L s pair q t kk st rs rest ((nm "a", .fr (.int a)) :: (bO o).tail) = upd (bP T m L s pair q t kk st rs rest (bO o)) (nm "a") (.fr (.int a)) := by rcases o with _ | ⟨a, z⟩ <;> kernel_rfl
theorem b_x0 {t n l0 l1 : Int} {m s q kk st tt : D} {rs : Slot} {rest : D} {a : Int} {C : List (Str × D)} {L : List D} {r : Sc} {K : D → Prop} :
    (Y (binD .Mult (.str (nm " ")) (.int a)) fun y => Y (binD .Add (.str (nm "{")) y) fun y => Y (binD .Add y (.str (nm "\t}"))) fun y => If pair (Y (callM (bcx k) (nm "get") (.dct C) [y, .tup [.int 0, .int 0]]) K) (Y (callM (bcx k) (nm "get") (.dct C) [y, .int 0]) K)) =
    wE 53 (bcx k) (frz (sreads (bS 0)) (bP (tD t n l0 l1 C) m L s pair q tt kk st rs rest ((nm "a", .fr (.int a)) :: r))) (sE (bS 0) 0) K := by kernel_rfl
theorem b_z1 {T m s q t kk st : D} {rs : Slot} {rest : D} {a : Int} {L : List D} {o : Option (Int × D)} {y : D} :
    bP T m L s pair q t kk st rs rest (bO (some (a, y))) = upd (frz (sreads (bS 0)) (bP T m L s pair q t kk st rs rest ((nm "a", .fr (.int a)) :: (bO o).tail))) (nm "amount") (asSl (sE (bS 0) 0) y) := by rcases o with _ | ⟨a, z⟩ <;> kernel_rfl
theorem b_x1 {T m s q t kk st : D} {rs : Slot} {rest : D} {a : Int} {L : List D} {y : D} {K : D → Prop} :
    (If pair (Y (subD y (.int 0)) K) (K y)) = wE 52 (bcx k) (frz (sreads (bS 1)) (bP T m L s pair q t kk st rs rest (bO (some (a, y))))) (sE (bS 1) 0) K := by kernel_rfl
theorem b_z2 {T m s q t kk st : D} {rs : Slot} {rest : D} {a z : Int} {L : List D} {y : D} :
    bP T m L s pair q t kk st rs rest (bO (some (a, .int z))) = upd (frz (sreads (bS 1)) (bP T m L s pair q t kk st rs rest (bO (some (a, y))))) (nm "amount") (asSl (sE (bS 1) 0) (.int z)) := by kernel_rfl
theorem b_x2 {T m q t kk st : D} {s : D} {rs : Slot} {rest : D} {a z : Int} {L : List D} {K : D → Prop} :
    (Y (binD .FloorDiv (.int a) s) fun y => Y (binD .Add y (.int 1)) fun y => Y (binD .Mult (.int z) y) fun y => Y (binD .Mult y s) fun y => Y (binD .Sub rest y) K) = wE 51 (bcx k) (frz (sreads (bS 2)) (bP T m L s pair q t kk st rs rest (bO (some (a, .int z))))) (sE (bS 2) 0) K := by kernel_rfl
theorem b_z3 {T m s q t kk st : D} {rs : Slot} {rest : D} {a z i : Int} {L : List D} :
    bP T m L s pair q t kk st rs (.int i) (bO (some (a, .int z))) = upd (frz (sreads (bS 2)) (bP T m L s pair q t kk st rs rest (bO (some (a, .int z))))) (nm "rest") (asSl (sE (bS 2) 0) (.int i)) := by kernel_rfl
theorem b_x3 {T m q t kk st : D} {s : D} {rs : List D} {rest : D} {a z : Int} {L : List D} {K : D → Prop} :
    (Y (binD .Mult q (.int z)) fun y => Y (binD .Mult m t) fun y1 => Y (binD .Sub y y1) fun y => Y (binD .Mult kk st) fun y1 => Y (binD .Add y y1) fun y => Y (binD .Mult q st) fun y1 => Y (binD .FloorDiv y y1) fun y => Y (repD [.int a] y) fun y => Y (binD .Add (.lst rs) y) K) =
    wE 50 (bcx k) (frz (sreads (bS 3)) (bP T m L s pair q t kk st (.ol rs) rest (bO (some (a, .int z))))) (sE (bS 3) 0) K := by kernel_rfl
theorem b_z4 {T m s q t kk st : D} {rs ws : List D} {rest : D} {a z : Int} {L : List D} :
    bP T m L s pair q t kk st (.ol ws) rest (bO (some (a, .int z))) = upd (frz (sreads (bS 3)) (bP T m L s pair q t kk st (.ol rs) rest (bO (some (a, .int z))))) (nm "runs") (asSl (sE (bS 3) 0) (.lst ws)) := by kernel_rfl
theorem c_get {c : Cx} {C : CT} {a : Nat} {dft : D} : callM c (nm "get") (.dct (cD pair C)) [.str (tokS a), dft] = some (((lkN C a).map (vD pair a)).getD dft) := by
  have e : callM c (nm "get") (.dct (cD pair C)) [.str (tokS a), dft] = some ((lkp (cD pair C) (tokS a)).getD dft) := by kernel_rfl
  rw [e, cD_lkp]
theorem rep_one {a : D} {n : Nat} (h : n ≤ 1000) : repD [a] (.int n) = some (.lst (List.replicate n a)) := by
  have : repD [a] (.int (n : Int)) = if -1000 ≤ (n : Int) ∧ (n : Int) ≤ 1000 ∧ [a].length ≤ 1000 then some (.lst (List.replicate (n : Int).toNat [a]).flatten) else none := rfl
  rw [this, if_pos ⟨by omega, by omega, by simp⟩, Int.toNat_natCast]
  congr 2
  clear h this
  induction n with
  | zero => rfl
  | succ m ih => rw [List.replicate_succ, List.flatten_cons, ih]; rfl
noncomputable abbrev cA (C : CT) (a : Nat) : Nat := (lkN C a).getD 0
theorem b_step {n l0 l1 : Int} {t m q kk s a N : Nat} {st : Int} {C : CT} {L : List D} {rs : List D} {rest : Int} {o : Option (Int × D)} {K : Fl → Sc → Prop}
    (hq : q ≤ 3) (hm : m ≤ 10) (hkk : kk ≤ 10) (hst : q * st ≠ 0 ∧ st.natAbs ≤ 1000) (hs : 0 < s) (ha : a ≤ 100) (hA : cA C a ≤ 1000) (hN : Int.fdiv (q * (cA C a : Nat) - m * t + kk * st) (q * st) = N) (hN2 : N ≤ 10) (hr : rs.length ≤ 100)
    (h : Pf (K .next (bP (tD t n l0 l1 (cD pair C)) (.int m) L (.int s) pair (.int q) (.int t) (.int kk) (.int st) (.ol (rs ++ List.replicate N (.int a))) (.int (rest - (cA C a * wtN s a : Nat))) (bO (some (a, .int (cA C a))))))) :
    Pf (bTurn k (.int a) (bP (tD t n l0 l1 (cD pair C)) (.int m) L (.int s) pair (.int q) (.int t) (.int kk) (.int st) (.ol rs) (.int rest) (bO o)) K) := by
  have d1 : a / s ≤ 100 := Nat.le_trans (Nat.div_le_self _ _) ha
  have d2 : cA C a * (a / s + 1) ≤ 1000 * 101 := Nat.mul_le_mul hA (by omega)
  have d3 : ((q : Int) * st).natAbs ≤ 3 * 1000 := by rw [Int.natAbs_mul]; exact Nat.mul_le_mul hq hst.2
  have rest_ok : ∀ y : D, Pf (If pair (Y (subD y (.int 0)) fun z => z = .int (cA C a)) (y = .int (cA C a))) →
      Pf (wX 54 (bcx k) (bP (tD t n l0 l1 (cD pair C)) (.int m) L (.int s) pair (.int q) (.int t) (.int kk) (.int st) (.ol rs) (.int rest) (bO (some (a, y)))) ((forB (stmtAt bBody 3)).drop 1) K) := fun y hy => by
    have tail : Pf (wX 53 (bcx k) (bP (tD t n l0 l1 (cD pair C)) (.int m) L (.int s) pair (.int q) (.int t) (.int kk) (.int st) (.ol rs) (.int rest) (bO (some (a, .int (cA C a))))) ((forB (stmtAt bBody 3)).drop 2) K) := by
      refine .st 2 (by decide +kernel) (.asg (x := nm "rest") (by kernel_rfl) (by kernel_rfl) (wcv b_x2 ?_))
      refine .y (fdiv_nat hs (by omega)) (.y (addZ _ _) (.y (mulN (b := a / s + 1) (by omega)) (.y (mulN (by omega)) (.y (subZ _ _) (.seq (.sc b_z3 ?_))))))
      rw [wt_mul]
      refine .st 3 (by decide +kernel) (.asg (x := nm "runs") (by kernel_rfl) (by kernel_rfl) (wcv b_x3 ?_))
      refine .y (mulZ (.inl (by omega))) (.y (mulZ (.inl (by omega))) (.y (subZ _ _) (.y (mulZ (.inl (by omega))) (.y (addZ _ _) (.y (mulZ (.inl (by omega))) (.y (fdivZ hst.1 (.inr (by omega))) ?_))))))
      rw [hN]
      refine .y (rep_one (by omega)) (.y (add_lst (by rw [List.length_replicate]; omega)) (.seq (.sc b_z4 h)))
    refine .st 1 (by decide +kernel) (.asg (x := nm "amount") (by kernel_rfl) (by kernel_rfl) (wcv b_x1 ?_))
    cases hp : pair with
    | true =>
      rw [hp] at hy
      (refine xe1_2 ((show Y (subD y (.int 0)) (fun z => z = .int (cA C a)) from hy.h).ex) ?_; intro z h1 h2)
      subst h2
      rw [hp] at tail
      exact .t rfl (.y h1 (.seq (.sc b_z2 tail)))
    | false =>
      rw [hp] at hy
      have h2 : y = .int (cA C a) := hy.h
      subst h2
      rw [hp] at tail
      exact .f rfl (.seq (.sc b_z2 tail))
  refine .sc b_z0 (.st 0 (by decide +kernel) (.asg (x := nm "amount") (by kernel_rfl) (by kernel_rfl) (wcv b_x0 ?_)))
  refine .y (mul_sp (by omega)) (.y (tok_add1 ha) (.y (tok_add2 ha) ?_))
  refine .ite (fun p => .y c_get (.seq (.sc b_z1 (rest_ok _ ?_)))) fun p => .y c_get (.seq (.sc b_z1 (rest_ok _ ?_)))
  · subst p
    refine .t rfl (.y (a := .int (cA C a)) ?_ ⟨rfl⟩)
    unfold cA
    cases lkN C a <;> rfl
  · subst p
    refine .f rfl ⟨?_⟩
    unfold cA
    cases lkN C a <;> rfl
theorem b_loop {n l0 l1 : Int} {t m q kk s : Nat} {st : Int} {C : CT} {L : List D} {N : Nat → Nat} {K : Fl → Sc → Prop}
    (hq : q ≤ 3) (hm : m ≤ 10) (hkk : kk ≤ 10) (hst : q * st ≠ 0 ∧ st.natAbs ≤ 1000) (hs : 0 < s) : ∀ (l : List Nat) (rs : List Nat) (rest : Int) (o : Option (Int × D)), (∀ a ∈ l, a ≤ 100 ∧ cA C a ≤ 1000 ∧ Int.fdiv (q * (cA C a : Nat) - m * t + kk * st) (q * st) = N a ∧ N a ≤ 10) → rs.length + 10 * l.length ≤ 100 →
    (∀ o, Pf (K .next (bP (tD t n l0 l1 (cD pair C)) (.int m) L (.int s) pair (.int q) (.int t) (.int kk) (.int st) (.ol (nD (rs ++ l.flatMap fun a => List.replicate (N a) a))) (.int (rest - (dueL (cA C) s l : Nat))) (bO o)))) →
    Pf (wLoop (bTurn k) (nD l) (bP (tD t n l0 l1 (cD pair C)) (.int m) L (.int s) pair (.int q) (.int t) (.int kk) (.int st) (.ol (nD rs)) (.int rest) (bO o)) K)
  | [], rs, rest, o, _, _, h => .stop (by
      have := h o
      rwa [List.flatMap_nil, List.append_nil, show (dueL (cA C) s [] : Nat) = 0 from rfl, show rest - ((0 : Nat) : Int) = rest by omega] at this)
  | a :: l, rs, rest, o, hl, hr, h => by
    (refine xe0_4 (hl a List.mem_cons_self) ?_; intro h1 h2 h3 h4)
    rw [List.length_cons] at hr
    have e1 : nD rs ++ List.replicate (N a) (.int a) = nD (rs ++ List.replicate (N a) a) := by unfold nD; rw [List.map_append, List.map_replicate]
    refine .turn (b_step hq hm hkk hst hs h1 h2 h3 h4 (by rw [nD_len]; omega) (.next ?_))
    rw [e1]
    refine b_loop hq hm hkk hst hs l _ _ _ (fun b hb => hl b (List.mem_cons_of_mem _ hb)) (by rw [List.length_append, List.length_replicate]; omega) fun o => ?_
    have := h o
    rw [show dueL (cA C) s (a :: l) = cA C a * wtN s a + dueL (cA C) s l from List.sum_cons, List.flatMap_cons, ← List.append_assoc, Int.natCast_add, ← Int.sub_sub] at this
    exact this
noncomputable def kPick (m q t : Nat) : D → List D
  | .int i => if takenZ m i.toNat q == t then [.int i] else []
  | _ => []
theorem kPick_flat (m q t : Nat) : ∀ l : List Nat, (l.map fun (i : Nat) => D.int i).flatMap (kPick m q t) = (l.filter fun i => takenZ m i q == t).map fun (i : Nat) => D.int i
  | [] => rfl
  | i :: l => by
    rw [List.map_cons, List.flatMap_cons, kPick_flat m q t l, List.filter_cons]
    show (if (takenZ m i q == t) = true then [D.int i] else []) ++ _ = _
    cases takenZ m i q == t <;> rfl
theorem back_eq {n l1 : Int} {t m kk s b : Nat} {st : Int} {C : CT} {L : List Nat} {N : Nat → Nat} (hL : L.length ≤ 3) (hm : m ≤ 10) (hkk : kk ≤ 10) (hst : (L.length : Int) * st ≠ 0 ∧ st.natAbs ≤ 1000) (hs : 0 < s) (ht : 0 < t ∧ t ≤ 1000) (hb : b ≤ 10)
    (h1 : ∀ i ≤ m, callT (k + 1) "_law_taken" [.int m, .int i, .int L.length] = some (.int (takenZ m i L.length))) (h2 : (List.range (m + 1)).filter (fun i => takenZ m i L.length == t) = [kk]) (h3 : callT (k + 1) "_law_step" [.int m, .int kk, .int L.length] = some (.int st))
    (h4 : ∀ a ∈ L, a ≤ 100 ∧ cA C a ≤ 1000 ∧ Int.fdiv ((L.length : Int) * (cA C a : Nat) - m * t + kk * st) (L.length * st) = N a ∧ N a ≤ 6) :
    callT (k + 1 + 1) "_law_back" [tD t n (b * t + (dueL (cA C) s L : Nat)) l1 (cD pair C), .int m, .lst (nD L), .int s, .bool pair] = some (sD (leadL (L.flatMap fun a => List.replicate (N a) a) ++ List.replicate b 32)) := by
  refine call_go (k := k + 1) "_law_back" (stAt 18) [(nm "total", .fr (tD t n (b * t + (dueL (cA C) s L : Nat)) l1 (cD pair C))), (nm "m", .fr (.int m)), (nm "lengths", .fr (.lst (nD L))), (nm "size", .fr (.int s)), (nm "pair", .fr (.bool pair))] (by kernel_rfl) (by kernel_rfl) (by kernel_rfl) ?_
  refine .st 0 (by decide +kernel) (wcv b_h0 (.y (len_lst (by rw [nD_len]; omega)) (.seq ?_)))
  rw [nD_len]
  refine .st 1 (by decide +kernel) (.asg (x := nm "k") (by kernel_rfl) (by kernel_rfl) (wcv b_e1 ?_))
  refine .y (range1 (b := m + 1) (by omega)) ⟨wLC_of (by kernel_rfl) (Pf.flat (g := kPick m L.length t) _ (fun d hd K' hK => ?_) ?_).h⟩
  · (refine xe1_2 (List.mem_map.mp hd) ?_; intro i hi hq2; rcases hq2 with rfl)
    have hi' := List.mem_range.mp hi
    refine wcv b_g (.y (h1 i (by omega)) (.y (a := takenZ m i L.length == t) rfl (.ite (fun q => ?_) fun q => ?_)))
    · have hK' : Pf (K' (if (takenZ m i L.length == t) = true then [.int i] else [])) := hK
      rwa [q] at hK'
    · have hK' : Pf (K' (if (takenZ m i L.length == t) = true then [.int i] else [])) := hK
      rwa [q] at hK'
  rw [kPick_flat, h2]
  refine .cd (decide_eq_true (by simp)) (.y (a := .int kk) rfl (.seq (.sc b_z ?_)))
  refine .st 2 (by decide +kernel) (wcv b_h2 (.y h3 (.seq (.st 3 (by decide +kernel) (wcv b_h3 ?_)))))
  refine b_loop (N := N) (rs := []) hL hm hkk hst hs L _ none (fun a ha => ?_) (by show 0 + _ ≤ 100; omega) fun o => .seq ?_
  · (refine xe0_4 (h4 a ha) ?_; intro x1 x2 x3 x4); exact ⟨x1, x2, x3, by omega⟩
  have hlen : ∀ l : List Nat, (∀ a ∈ l, N a ≤ 6) → (l.flatMap fun a => List.replicate (N a) a).length ≤ 6 * l.length := fun l => by
    induction l with
    | nil => intro _; exact Nat.zero_le _
    | cons a l ih =>
      intro h
      have x1 := ih fun b hb => h b (List.mem_cons_of_mem _ hb)
      have x2 := h a List.mem_cons_self
      rw [List.flatMap_cons, List.length_append, List.length_replicate, List.length_cons]; omega
  have hmem : ∀ a ∈ L.flatMap (fun a => List.replicate (N a) a), a ≤ 100 := fun a ha => by
    (refine xe1_2 (List.mem_flatMap.mp ha) ?_; intro c hc hr)
    rw [(List.mem_replicate.mp hr).2]; exact (h4 c hc).1
  have hlen2 := hlen L fun a ha => (h4 a ha).2.2.2
  refine wcv b_end (.y (lead_eq (by rw [List.nil_append]; omega) (by rw [List.nil_append]; exact hmem)) ?_)
  have e : ((b : Int) * t + (dueL (cA C) s L : Nat) - (dueL (cA C) s L : Nat)) = ((b * t : Nat) : Int) := by rw [Int.natCast_mul]; omega
  rw [e, List.nil_append]
  refine .y (fdiv_nat ht.1 (Nat.lt_of_le_of_lt (Nat.mul_le_mul hb ht.2) (by decide))) ?_
  rw [Nat.mul_div_cancel _ ht.1]
  have hll : (leadL (L.flatMap fun a => List.replicate (N a) a)).length ≤ 2000 := by
    have := run_sum hmem
    have x : (L.flatMap fun a => List.replicate (N a) a).length * 101 ≤ 18 * 101 := Nat.mul_le_mul_right _ (by omega)
    exact Nat.le_trans (Nat.le_of_eq List.length_flatten) (Nat.le_trans this (Nat.le_trans x (by decide)))
  refine .y (mul_sp (by omega)) (.y (a := sD (leadL (L.flatMap fun a => List.replicate (N a) a) ++ List.replicate b 32)) ?_ ⟨rfl⟩)
  rw [mulS]
  unfold sD
  rw [add_str (by rw [S_len, S_len, List.length_replicate]; omega), S_app]
end
end Mine
end

section
open PySem PySem.W PyProof.Rows
set_option tactic.hygienic false
namespace Mine
noncomputable def wordsN (L : List Nat) : Nat → List (List Nat)
  | 0 => [[]]
  | m + 1 => (wordsN L m).flatMap fun w => L.map fun a => w ++ [a]
noncomputable def LL : List (List Nat) := [0, 1, 2].flatMap fun a => [[a, a + 1], [a, a + 2], [a, a + 1, a + 2], [a, a + 1, a + 3], [a, a + 2, a + 3], [a, a + 2, a + 4]]
noncomputable def tot (a : Nat) (M : List (List Nat)) : Nat := (M.map fun w => w.count a).sum
noncomputable def chk (L : List Nat) (M : List (List Nat)) (n : Int) (free held : List Nat) : Bool :=
  (takenZ n free.length L.length == M.length) && L.all fun a => amtZ n L.length free.length (takenZ n free.length L.length) (stepZ n free.length L.length) (free.count a) (held.count a) == tot a M
noncomputable def frontB (b : Bool) (runs : List Nat) : Nat := if b && !runs.isEmpty then 1 else 0
noncomputable def endB (b c : Bool) (runs : List Nat) : Nat := if c && decide (frontB b runs < runs.length) then 1 else 0
noncomputable def pat1 (b c : Bool) (runs w : List Nat) : Bool :=
  matchT (runs.take (frontB b runs)) (if runs.isEmpty then [none] else ((runs.drop (frontB b runs)).take (runs.length - frontB b runs - endB b c runs)).map some) (runs.drop (runs.length - endB b c runs)) (endB b c runs == 1) w
noncomputable def chk1 (L : List Nat) (m : Nat) (runs : List Nat) : Bool := [true, false].all fun b => [true, false].all fun c =>
  chk L ((wordsN L m).filter (pat1 b c runs)) (m - frontB b runs - endB b c runs) ((runs.drop (frontB b runs)).take (runs.length - frontB b runs - endB b c runs)) (runs.take (frontB b runs) ++ runs.drop (runs.length - endB b c runs))
noncomputable def runsUpTo (L : List Nat) (n : Nat) : List (List Nat) := (List.range (n + 1)).flatMap (wordsN L)
noncomputable def forAll (p : List Nat → Nat → Bool) : Bool := LL.all fun L => (List.range (5 - L.length)).all fun m => p L (m + 1)
noncomputable def chk2 (L : List Nat) (m : Nat) (runs : List Nat) : Bool :=
  (if runs.length ≤ m then chk L ((wordsN L m).filter (matchT [] [] runs true)) (m - runs.length) [] runs else ((wordsN L m).filter (matchT [] [] runs true)).isEmpty) &&
  (if runs.length = m then chk L ((wordsN L m).filter (runs == ·)) 0 [] runs else ((wordsN L m).filter (runs == ·)).isEmpty)
noncomputable def chk3 (L : List Nat) (m : Nat) (o : List Nat) : Bool :=
  chk L ((wordsN L m).filter (matchT [] (o.map some) [] false)) m o [] && L.all fun a => Int.fdiv (L.length * (tot a ((wordsN L m).filter (matchT [] (o.map some) [] false)) : Nat) - m * (takenZ m o.length L.length) + o.length * (stepZ m o.length L.length)) (L.length * (stepZ m o.length L.length)) == o.count a
noncomputable def chk4 (m : Nat) : Bool := [2, 3].all fun q => (List.range (m + 1)).all fun k => decide ((List.range (m + 1)).filter (fun i => takenZ m i q == takenZ m k q) = [k] ∧ 0 < takenZ m k q ∧ 0 < stepZ m k q)
noncomputable def chk5 (n : Int) (k q : Nat) : Bool := decide ((takenZ n k q).natAbs ≤ 1000 ∧ (stepZ n k q).natAbs ≤ 1000)
theorem all2 : forAll (fun L m => (runsUpTo L (m + 1)).all (chk2 L m)) = true := by decide +kernel
theorem all3 : forAll (fun L m => (runsUpTo L m).all (chk3 L m)) = true := by decide +kernel
theorem all4 : [1, 2, 3].all chk4 = true := by decide +kernel
theorem all5 : allN chk5 = true := by decide +kernel
end Mine
end

section
open PySem PySem.W PyProof.Rows
namespace Mine
noncomputable abbrev keysC (C : CT) : List Nat := C.map Prod.fst
theorem lkN_up (x v a : Nat) : ∀ C : CT, lkN (upN C x v) a = if a = x then some v else lkN C a
  | [] => rfl
  | (y, t) :: r => by
    unfold upN
    by_cases h : x = y
    · rw [if_pos h]
      show (if a = y then some v else lkN r a) = if a = x then some v else if a = y then some t else lkN r a
      rw [h]; split <;> rfl
    · rw [if_neg h]
      show (if a = y then some t else lkN (upN r x v) a) = if a = x then some v else if a = y then some t else lkN r a
      rw [lkN_up x v a r]
      by_cases q : a = y
      · rw [if_pos q, if_neg fun (e : a = x) => h (e.symm.trans q), if_pos q]
      · rw [if_neg q, if_neg q]
theorem mem_up (x v a : Nat) : ∀ C : CT, a ∈ keysC (upN C x v) ↔ a = x ∨ a ∈ keysC C
  | [] => by simp [upN]
  | (y, t) :: r => by
    unfold upN
    by_cases h : x = y
    · rw [if_pos h]; simp [h]
    · rw [if_neg h]
      have := mem_up x v a r
      simp only [List.map_cons, List.mem_cons] at this ⊢
      rw [this]
      exact ⟨fun q => q.elim (.inr ∘ .inl) fun q => q.elim .inl (.inr ∘ .inr), fun q => q.elim (.inr ∘ .inl) fun q => q.elim .inl (.inr ∘ .inr)⟩
theorem nodup_up (x v : Nat) : ∀ C : CT, (keysC C).Nodup → (keysC (upN C x v)).Nodup
  | [], _ => by simp [upN]
  | (y, t) :: r, h => by
    have h' := List.nodup_cons.mp h
    unfold upN
    by_cases q : x = y
    · rw [if_pos q]; exact h
    · rw [if_neg q]
      exact List.nodup_cons.mpr ⟨fun m => ((mem_up x v y r).mp m).elim (fun e => q e.symm) h'.1, nodup_up x v r h'.2⟩
theorem lkN_none {a : Nat} : ∀ {C : CT}, lkN C a = none ↔ a ∉ keysC C
  | [] => by simp [lkN]
  | (y, t) :: r => by
    show (if a = y then some t else lkN r a) = none ↔ _
    by_cases h : a = y
    · rw [if_pos h]; simp [h]
    · rw [if_neg h, lkN_none (C := r)]; simp [h]
theorem lkN_mem {e : Nat × Nat} : ∀ {C : CT}, (keysC C).Nodup → e ∈ C → lkN C e.1 = some e.2
  | (y, t) :: r, h, m => by
    have h' := List.nodup_cons.mp h
    show (if e.1 = y then some t else lkN r e.1) = _
    rcases List.mem_cons.mp m with rfl | m
    · exact if_pos rfl
    · have hm : e.1 ∈ keysC r := List.mem_map_of_mem (f := Prod.fst) m
      rw [if_neg fun (q : e.1 = y) => by rw [q] at hm; exact h'.1 hm]
      exact lkN_mem h'.2 m
structure Cnt (C : CT) (f : Nat → Nat) : Prop where
  nd : (keysC C).Nodup
  at_ : ∀ a, lkN C a = if f a = 0 then none else some (f a)
theorem Cnt.nil : Cnt [] fun _ => 0 := ⟨List.nodup_nil, fun _ => rfl⟩
theorem Cnt.eqv {C : CT} {f g : Nat → Nat} (h : Cnt C f) (e : ∀ a, f a = g a) : Cnt C g := ⟨h.nd, fun a => by rw [h.at_, e]⟩
theorem Cnt.up {C : CT} {f : Nat → Nat} (h : Cnt C f) (x : Nat) {v : Nat} (hv : 0 < v) : Cnt (upN C x v) fun a => if a = x then v else f a :=
  ⟨nodup_up x v C h.nd, fun a => by
    rw [lkN_up, h.at_]
    by_cases q : a = x
    · rw [if_pos q, if_pos q, if_neg (by omega)]
    · rw [if_neg q, if_neg q]⟩
theorem Cnt.get {C : CT} {f : Nat → Nat} (h : Cnt C f) (a : Nat) : (lkN C a).getD 0 = f a := by
  rw [h.at_]; split
  · rename_i q; rw [q]; rfl
  · rfl
theorem Cnt.pos {C : CT} {f : Nat → Nat} (h : Cnt C f) {a v : Nat} (e : lkN C a = some v) : 0 < v := by
  rw [h.at_] at e; split at e
  · cases e
  · cases e; omega
theorem tail_lk {a t : Nat} {r : CT} (hn : (keysC ((a, t) :: r)).Nodup) {x v : Nat} (h : lkN r x = some v) : lkN ((a, t) :: r) x = some v ∧ x ≠ a := by
  have hx : x ≠ a := fun q => by
    have : lkN r a = none := lkN_none.mpr (List.nodup_cons.mp hn).1
    rw [q, this] at h; cases h
  exact ⟨(if_neg hx).trans h, hx⟩
theorem head_lk {a t : Nat} {r : CT} : lkN ((a, t) :: r) a = some t := if_pos rfl
theorem cons_lk {a t x : Nat} {r : CT} (h : x ≠ a) : lkN ((a, t) :: r) x = lkN r x := if_neg h
theorem fold_up : ∀ (A C : CT) (h : Nat → Nat), (keysC A).Nodup → (∀ a v, lkN A a = some v → 0 < v) → Cnt C h → Cnt (A.foldl (fun C e => upN C e.1 e.2) C) fun x => (lkN A x).getD (h x)
  | [], _, _, _, _, hc => hc
  | (a, t) :: r, C, h, hn, hp, hc => by
    refine (fold_up r (upN C a t) _ (List.nodup_cons.mp hn).2 (fun x v e => hp x v (tail_lk hn e).1) (hc.up a (hp a t head_lk))).eqv fun x => ?_
    by_cases q : x = a
    · subst q
      rw [head_lk, lkN_none.mpr (List.nodup_cons.mp hn).1]; exact if_pos rfl
    · rw [cons_lk q, if_neg q]
theorem fold_sum : ∀ (B C : CT) (h : Nat → Nat), (keysC B).Nodup → (∀ a v, lkN B a = some v → 0 < v) → Cnt C h → Cnt (B.foldl sumC C) fun x => h x + (lkN B x).getD 0
  | [], _, _, _, _, hc => hc
  | (a, t) :: r, C, h, hn, hp, hc => by
    have ht := hp a t head_lk
    have e : sumC C (a, t) = upN C a (t + h a) := by
      unfold sumC
      rw [hc.at_]
      by_cases q : h a = 0
      · rw [if_pos q, q]; rfl
      · rw [if_neg q]
    rw [List.foldl_cons, e]
    refine (fold_sum r (upN C a (t + h a)) _ (List.nodup_cons.mp hn).2 (fun x v e => hp x v (tail_lk hn e).1) (hc.up a (by omega))).eqv fun x => ?_
    by_cases q : x = a
    · subst q
      rw [head_lk, lkN_none.mpr (List.nodup_cons.mp hn).1, if_pos rfl]
      show t + h x + 0 = h x + t; omega
    · rw [cons_lk q, if_neg q]
theorem Cnt.merge {A B : CT} {f g : Nat → Nat} (ha : Cnt A f) (hb : Cnt B g) : Cnt (mergeC A B) fun x => f x + g x := by
  have h1 := fold_up A [] _ ha.nd (fun a v e => ha.pos e) Cnt.nil
  have h2 := h1.eqv (g := f) fun x => ha.get x
  exact (fold_sum B (copyC A) _ hb.nd (fun a v e => hb.pos e) h2).eqv fun x => by rw [hb.get]
theorem Cnt.due {A : Nat → Nat} : ∀ (L : List Nat) (C : CT) (h : Nat → Nat), L.Nodup → (∀ a ∈ L, h a = 0) → Cnt C h → Cnt (dueC A L C) fun x => if x ∈ L then A x else h x
  | [], C, h, _, _, hc => hc.eqv fun x => by simp
  | a :: L, C, h, hn, h0, hc => by
    have hn' := List.nodup_cons.mp hn
    have hu : Cnt (rowU C a (A a)) fun x => if x = a then A a else h x := by
      unfold rowU
      by_cases q : 0 < A a
      · rw [if_pos q]; exact hc.up a q
      · rw [if_neg q]
        refine hc.eqv fun x => ?_
        by_cases e : x = a
        · rw [if_pos e, e, h0 a List.mem_cons_self]; omega
        · rw [if_neg e]
    refine (Cnt.due L (rowU C a (A a)) _ hn'.2 (fun b hb => ?_) hu).eqv fun x => ?_
    · rw [if_neg fun (e : b = a) => hn'.1 (by rw [← e]; exact hb)]; exact h0 b (List.mem_cons_of_mem _ hb)
    · by_cases e : x = a
      · subst e
        rw [if_neg hn'.1, if_pos rfl, if_pos List.mem_cons_self]
      · by_cases q : x ∈ L
        · rw [if_pos q, if_pos (List.mem_cons_of_mem _ q)]
        · rw [if_neg q, if_neg e, if_neg fun m => (List.mem_cons.mp m).elim e q]
theorem vD_self (pair : Bool) (a n : Nat) : eqT (vD pair a n) (vD pair a n) = some true := by
  cases pair
  · show some ((n : Int) == n) = _; rw [beq_self_eq_true]
  · show (match some ((n : Int) == n), (match some (((a * n : Nat) : Int) == (a * n : Nat)), some true with | some a, some b => some (a && b) | _, _ => none) with | some a, some b => some (a && b) | _, _ => none).map (fun b => b && true) = _
    rw [beq_self_eq_true, beq_self_eq_true]; rfl
theorem eqK_sub (pair : Bool) {C : CT} : ∀ r : CT, (∀ e ∈ r, lkN C e.1 = some e.2) → eqK eqT (cD pair r) (cD pair C) = some true
  | [], _ => rfl
  | e :: r, h => by
    have h1 := h e List.mem_cons_self
    show (match lkp (cD pair C) (tokS e.1) with | none => some false | some y => match eqT (vD pair e.1 e.2) y, eqK eqT (cD pair r) (cD pair C) with | some a, some b => some (a && b) | _, _ => none) = _
    rw [cD_lkp, h1, eqK_sub pair r fun e he => h e (List.mem_cons_of_mem _ he)]
    show (match eqT (vD pair e.1 e.2) (vD pair e.1 e.2), some true with | some a, some b => some (a && b) | _, _ => none) = _
    rw [vD_self]; rfl
theorem Cnt.len {C C' : CT} {f : Nat → Nat} (h : Cnt C f) (h' : Cnt C' f) : C.length = C'.length := by
  have := ((List.perm_ext_iff_of_nodup h.nd h'.nd).mpr fun a => by
    have e : lkN C a = none ↔ lkN C' a = none := by rw [h.at_, h'.at_]
    rw [lkN_none, lkN_none] at e
    exact ⟨fun m => Classical.byContradiction fun q => e.mpr q m, fun m => Classical.byContradiction fun q => e.mp q m⟩).length_eq
  rwa [List.length_map, List.length_map] at this
theorem Tot.eqv (pair : Bool) {t t' : Tot} {f : Nat → Nat} (h1 : t.c = t'.c) (h2 : t.n = t'.n) (h3 : t.l0 = t'.l0) (h4 : t.l1 = t'.l1) (h : Cnt t.C f) (h' : Cnt t'.C f) : cmpD .NotEq (t.d pair) (t'.d pair) = some false := by
  have hk : eqD 4 (.dct (cD pair t.C)) (.dct (cD pair t'.C)) = some true := by
    show (if (cD pair t.C).length == (cD pair t'.C).length then eqK eqT (cD pair t.C) (cD pair t'.C) else some false) = _
    rw [cD_len, cD_len, h.len h', beq_self_eq_true, if_pos rfl]
    exact eqK_sub pair t.C fun e he => by rw [h'.at_, ← h.at_, lkN_mem h.nd he]
  obtain ⟨c, n, l0, l1, C⟩ := t
  obtain ⟨c', n', l0', l1', C'⟩ := t'
  dsimp only at h1 h2 h3 h4 hk
  subst h1; subst h2; subst h3; subst h4
  show ((eqL (eqD 4) [.int c, .int n, .int l0, .int l1, .dct (cD pair C)] [.int c, .int n, .int l0, .int l1, .dct (cD pair C')]).map fun b => b && true).map (!·) = _
  have hi : ∀ i : Int, eqD 4 (.int i) (.int i) = some true := fun i => by show some (i == i) = _; rw [beq_self_eq_true]
  unfold eqL eqL eqL eqL eqL
  rw [hi, hi, hi, hi, hk]; rfl
end Mine
end

section
open PySem PySem.W PyProof.Rows
set_option tactic.hygienic false
namespace Mine
noncomputable def normC (w : List Nat) : List Nat := w.foldl bump []
noncomputable def getN (c : List Nat) (i : Nat) : Nat := (c[i]?).getD 0
theorem get_ge {c : List Nat} {i : Nat} (h : c.length ≤ i) : getN c i = 0 := by unfold getN; rw [List.getElem?_eq_none h]; rfl
theorem get_lt {c : List Nat} {i : Nat} (h : i < c.length) : c[i]? = some (getN c i) := by unfold getN; rw [List.getElem?_eq_getElem h]; rfl
theorem get_bump (c : List Nat) (b i : Nat) : getN (bump c b) i = getN c i + if i = b then 1 else 0 := by
  unfold bump
  by_cases h : c.length ≤ b
  · rw [if_pos h]
    have hl : (c ++ List.replicate (b - c.length) 0).length = b := by simp; omega
    rcases Nat.lt_trichotomy i b with q | q | q
    · rw [if_neg (by omega)]
      show ((_ ++ [1])[i]?).getD 0 = _
      rw [List.getElem?_append_left (by omega)]
      by_cases q2 : i < c.length
      · rw [List.getElem?_append_left q2]; rfl
      · rw [List.getElem?_append_right (by omega), get_ge (c := c) (by omega), List.getElem?_replicate]; split <;> rfl
    · rw [if_pos q, get_ge (c := c) (by omega)]
      show ((_ ++ [1])[i]?).getD 0 = _
      rw [List.getElem?_append_right (by omega), hl, q, Nat.sub_self]; rfl
    · rw [if_neg (by omega), get_ge (c := c) (by omega), get_ge (c := c ++ List.replicate (b - c.length) 0 ++ [1]) (by rw [List.length_append, hl]; exact q)]
  · rw [if_neg h]
    show ((c.set b ((c[b]?).getD 0 + 1))[i]?).getD 0 = _
    rw [List.getElem?_set]
    by_cases q : b = i
    · subst q; rw [if_pos rfl, if_pos rfl, if_pos (by omega)]; rfl
    · rw [if_neg q, if_neg fun e => q e.symm]; rfl
theorem get_norm (i : Nat) : ∀ (w c : List Nat), getN (w.foldl bump c) i = getN c i + w.count i
  | [], c => rfl
  | a :: w, c => by
    rw [List.foldl_cons, get_norm i w, get_bump, List.count_cons]
    by_cases q : i = a
    · rw [if_pos q, if_pos (by rw [q]; exact beq_self_eq_true a)]; omega
    · rw [if_neg q, if_neg fun e => q (eq_of_beq e).symm]; omega
theorem norm_get (w : List Nat) (i : Nat) : getN (normC w) i = w.count i := by
  unfold normC; rw [get_norm]; exact Nat.zero_add _
theorem norm_len {B : Nat} : ∀ (w c : List Nat), (∀ a ∈ w, a ≤ B) → c.length ≤ B + 1 → (w.foldl bump c).length ≤ B + 1
  | [], _, _, h => h
  | a :: w, c, hw, h => norm_len w (bump c a) (fun b hb => hw b (List.mem_cons_of_mem _ hb)) (by have := hw a List.mem_cons_self; rw [bump_len]; omega)
theorem norm_top : ∀ (w c : List Nat), (∀ n, c.length = n + 1 → 0 < getN c n) → ∀ n, (w.foldl bump c).length = n + 1 → 0 < getN (w.foldl bump c) n
  | [], _, h => h
  | a :: w, c, h => norm_top w (bump c a) fun n hn => by
    rw [get_bump]
    rw [bump_len] at hn
    by_cases q : n = a
    · rw [if_pos q]; omega
    · have := h n (by omega)
      omega
theorem norm_eq {u v : List Nat} : normC u = normC v ↔ ∀ a, u.count a = v.count a := by
  constructor
  · intro h a; rw [← norm_get, ← norm_get, h]
  · intro h
    have hg : ∀ i, getN (normC u) i = getN (normC v) i := fun i => by rw [norm_get, norm_get, h]
    have key : ∀ u v : List Nat, (∀ i, getN (normC u) i = getN (normC v) i) → (normC u).length ≤ (normC v).length := fun u v hg => by
      refine Classical.byContradiction fun q => ?_
      have := norm_top u [] (fun n e => by cases e) ((normC u).length - 1) (by show (normC u).length = _; omega)
      rw [show getN (List.foldl bump [] u) = getN (normC u) from rfl, hg, get_ge (by omega)] at this
      exact Nat.lt_irrefl _ this
    refine List.ext_getElem? fun i => ?_
    have hl := Nat.le_antisymm (key u v hg) (key v u fun i => (hg i).symm)
    by_cases q : i < (normC u).length
    · rw [get_lt q, get_lt (by omega), hg]
    · rw [List.getElem?_eq_none (by omega), List.getElem?_eq_none (by omega)]
theorem norm_beq (u v : List Nat) : (normC u == normC v) = decide (u.Perm v) := by
  rw [Bool.eq_iff_iff, beq_iff_eq, decide_eq_true_eq, List.perm_iff_count]; exact norm_eq
noncomputable def dotL (f : Nat → Nat) : Nat → List Nat → Nat
  | _, [] => 0
  | k, x :: r => f k * x + dotL f (k + 1) r
theorem dot_app (f : Nat → Nat) : ∀ (a b : List Nat) (k : Nat), dotL f k (a ++ b) = dotL f k a + dotL f (k + a.length) b
  | [], b, k => by show _ = 0 + _; rw [Nat.zero_add]; rfl
  | x :: a, b, k => by
    show f k * x + dotL f (k + 1) (a ++ b) = f k * x + dotL f (k + 1) a + _
    rw [dot_app f a b, List.length_cons, show k + 1 + a.length = k + (a.length + 1) by omega, Nat.add_assoc]
theorem dot_zero (f : Nat → Nat) : ∀ (n k : Nat), dotL f k (List.replicate n 0) = 0
  | 0, _ => rfl
  | n + 1, k => by show f k * 0 + dotL f (k + 1) (List.replicate n 0) = 0; rw [dot_zero f n, Nat.mul_zero]
theorem dot_set (f : Nat → Nat) : ∀ (c : List Nat) (i k : Nat), i < c.length → dotL f k (c.set i (getN c i + 1)) = dotL f k c + f (k + i)
  | x :: c, 0, k, _ => by
    show f k * (x + 1) + dotL f (k + 1) c = f k * x + dotL f (k + 1) c + f k
    rw [Nat.mul_add, Nat.mul_one]; omega
  | x :: c, i + 1, k, h => by
    show f k * x + dotL f (k + 1) (c.set i (getN c i + 1)) = f k * x + dotL f (k + 1) c + f (k + (i + 1))
    rw [dot_set f c i (k + 1) (by simpa using h), show k + 1 + i = k + (i + 1) by omega, Nat.add_assoc]
theorem dot_bump (f : Nat → Nat) (c : List Nat) (a : Nat) : dotL f 0 (bump c a) = dotL f 0 c + f a := by
  unfold bump
  by_cases h : c.length ≤ a
  · rw [if_pos h, dot_app, dot_app, dot_zero]
    have hl : (c ++ List.replicate (a - c.length) 0).length = a := by simp; omega
    rw [hl, Nat.zero_add]
    show _ + 0 + (f a * 1 + 0) = _
    omega
  · rw [if_neg h]
    have := dot_set f c a 0 (by omega)
    rw [Nat.zero_add] at this
    exact this
theorem dot_norm (f : Nat → Nat) : ∀ (w c : List Nat), dotL f 0 (w.foldl bump c) = dotL f 0 c + (w.map f).sum
  | [], c => rfl
  | a :: w, c => by rw [List.foldl_cons, dot_norm f w, dot_bump, List.map_cons, List.sum_cons, Nat.add_assoc]
theorem dot_range (f : Nat → Nat) (c0 : List Nat) : ∀ (c : List Nat) (k : Nat), (∀ i, getN c0 (k + i) = getN c i) → ((List.range' k c.length).map fun i => f i * getN c0 i).sum = dotL f k c
  | [], k, _ => rfl
  | x :: c, k, h => by
    rw [List.length_cons, List.range'_succ, List.map_cons, List.sum_cons, dot_range f c0 c (k + 1) fun i => by rw [show k + 1 + i = k + (i + 1) by omega, h]; rfl]
    have := h 0
    rw [Nat.add_zero] at this
    rw [this]; rfl
theorem lvl_dot (s : Nat) (c : List Nat) : lvlSum s c (List.range' s (c.length - s)) = dotL (· / s) 0 c := by
  rw [← dot_range (· / s) c c 0 fun i => by rw [Nat.zero_add]]
  show ((List.range' s (c.length - s)).map fun i => i / s * getN c i).sum = _
  have hz : ∀ n, n ≤ s → ((List.range' 0 n).map fun i => i / s * getN c i).sum = 0 := fun n hn => by
    induction n with
    | zero => rfl
    | succ n ih =>
      rw [List.range'_concat, List.map_append, List.sum_append_nat, ih (by omega)]
      show 0 + ((0 + 1 * n) / s * getN c (0 + 1 * n) + 0) = 0
      rw [show 0 + 1 * n = n by omega, Nat.div_eq_of_lt (by omega), Nat.zero_mul]
  rcases Nat.le_total s c.length with h | h
  · have : List.range' 0 c.length = List.range' 0 s ++ List.range' s (c.length - s) := by
      have := List.range'_append_1 (s := 0) (m := s) (n := c.length - s)
      rw [Nat.zero_add] at this
      rw [this, show s + (c.length - s) = c.length by omega]
    rw [this, List.map_append, List.sum_append_nat, hz s (Nat.le_refl _), Nat.zero_add]
  · rw [show c.length - s = 0 by omega, hz _ h]; rfl
theorem wt_sum (s : Nat) : ∀ w : List Nat, (w.map (wtN s)).sum = s * ((w.map (· / s)).sum + w.length)
  | [] => by simp
  | a :: w => by
    rw [List.map_cons, List.map_cons, List.sum_cons, List.sum_cons, List.length_cons, wt_sum s w]
    show (a / s + 1) * s + _ = _
    rw [show a / s + (w.map (· / s)).sum + (w.length + 1) = (a / s + 1) + ((w.map (· / s)).sum + w.length) by omega, Nat.mul_add s (a / s + 1), Nat.mul_comm s (a / s + 1)]
theorem lvl_word (s b : Nat) (w : List Nat) : lvl s (normC w) b w.length = b + (w.map (wtN s)).sum := by
  unfold lvl
  rw [lvl_dot, wt_sum]
  unfold normC
  rw [dot_norm, show dotL (· / s) 0 [] = 0 from rfl, Nat.zero_add]
theorem rows_cnt (c : List Nat) : ∀ n, n ≤ c.length → Cnt ((List.range n).foldl (rowC c) []) fun a => if a < n then getN c a else 0
  | 0, _ => Cnt.nil.eqv fun a => by rw [if_neg (by omega)]
  | n + 1, h => by
    rw [List.range_succ, List.foldl_append]
    have ih := rows_cnt c n (by omega)
    have er : ∀ X, List.foldl (rowC c) X [n] = if getN c n = 0 then X else upN X n (getN c n) := fun X => rfl
    rw [er]
    by_cases q : getN c n = 0
    · rw [if_pos q]
      refine ih.eqv fun a => ?_
      by_cases e : a = n
      · subst e; rw [if_neg (by omega), if_pos (by omega), q]
      · by_cases e2 : a < n
        · rw [if_pos e2, if_pos (by omega)]
        · rw [if_neg e2, if_neg (by omega)]
    · rw [if_neg q]
      refine (ih.up n (v := getN c n) (by omega)).eqv fun a => ?_
      by_cases e : a = n
      · subst e; rw [if_pos rfl, if_pos (by omega)]
      · rw [if_neg e]
        by_cases e2 : a < n
        · rw [if_pos e2, if_pos (by omega)]
        · rw [if_neg e2, if_neg (by omega)]
theorem norm_rows (w : List Nat) : Cnt (rowsC (normC w)) fun a => w.count a := by
  refine (rows_cnt (normC w) _ (Nat.le_refl _)).eqv fun a => ?_
  rw [← norm_get]
  split
  · rfl
  · exact (get_ge (by omega)).symm
theorem ws_blank : ∀ (n b : Nat) (c : List Nat) (k t : Nat), (List.replicate n 32).foldl Ws.step ⟨c, b, k, t⟩ = ⟨c, b + n, k + n, t⟩
  | 0, b, c, k, t => rfl
  | n + 1, b, c, k, t => by
    rw [List.replicate_succ, List.foldl_cons]
    show (List.replicate n 32).foldl Ws.step ⟨c, b + 1, k + 1, t⟩ = _
    rw [ws_blank n, show b + 1 + n = b + (n + 1) by omega, show k + 1 + n = k + (n + 1) by omega]
theorem ws_lead : ∀ (w c : List Nat) (k t : Nat), (leadL w).foldl Ws.step ⟨c, 0, k, t⟩ = ⟨w.foldl bump c, 0, k + (leadL w).length, t + w.length⟩
  | [], c, k, t => rfl
  | a :: w, c, k, t => by
    have e : leadL (a :: w) = List.replicate a 32 ++ (9 :: leadL w) := by
      show runL a ++ leadL w = _
      unfold runL; rw [List.append_assoc]; rfl
    rw [e, List.foldl_append, ws_blank, List.foldl_cons]
    show (leadL w).foldl Ws.step ⟨bump c (0 + a), 0, k + a + 1, t + 1⟩ = _
    rw [ws_lead w, Nat.zero_add, List.length_append, List.length_replicate, List.length_cons, List.length_cons, List.foldl_cons]
    congr 1 <;> omega
theorem ws_line (w : List Nat) (b : Nat) : (leadL w ++ List.replicate b 32).foldl Ws.step ⟨[], 0, 0, 0⟩ = ⟨normC w, b, 0 + (leadL w).length + b, w.length⟩ := by
  rw [List.foldl_append, ws_lead, ws_blank, Nat.zero_add b, Nat.zero_add w.length]; rfl
theorem lead_ch {w : List Nat} {b ch : Nat} (h : ch ∈ leadL w ++ List.replicate b 32) : ch = 32 ∨ ch = 9 := by
  rcases List.mem_append.mp h with h | h
  · (refine xe1_2 (List.mem_flatten.mp h) ?_; intro l hl hc)
    (refine xe1_2 (List.mem_map.mp hl) ?_; intro a _ hq2; rcases hq2 with rfl)
    rcases List.mem_append.mp hc with h | h
    · exact .inl (List.mem_replicate.mp h).2
    · exact .inr (List.mem_singleton.mp h)
  · exact .inl (List.mem_replicate.mp h).2
theorem lead_len {w : List Nat} (h : ∀ a ∈ w, a ≤ 6) : (leadL w).length ≤ w.length * 7 := by
  induction w with
  | nil => exact Nat.zero_le _
  | cons a w ih =>
    have h1 := h a List.mem_cons_self
    have h2 := ih fun b hb => h b (List.mem_cons_of_mem _ hb)
    have e : leadL (a :: w) = runL a ++ leadL w := rfl
    have h3 : (runL a).length = a + 1 := by simp [runL]
    rw [e, List.length_append, List.length_cons, Nat.add_mul, h3]; omega
section
variable {k : Nat} {pair : Bool}
noncomputable def entT (s0 s1 b : Nat) (w : List Nat) : Tot := ⟨1, w.length, (b + (w.map (wtN s0)).sum : Nat), (b + (w.map (wtN s1)).sum : Nat), rowsC (normC w)⟩
theorem ent_eq {w : List Nat} {b s0 s1 : Nat} (hw : w.length ≤ 6) (ha : ∀ a ∈ w, a ≤ 6) (hb : b ≤ 10) (h0 : 0 < s0) (h1 : 0 < s1) :
    callT (k + 1 + 1) "_law_entry" [sD (leadL w ++ List.replicate b 32 ++ [120, 32, 9]), .lst [.int s0, .int s1], .bool pair] = some ((entT s0 s1 b w).d pair) := by
  have hl := lead_len ha
  have h2 : w.length * 7 ≤ 6 * 7 := Nat.mul_le_mul_right _ hw
  have hn := norm_len (B := 6) w [] ha (Nat.zero_le _)
  have hcnt : ∀ x ∈ normC w, x ≤ 1000 := fun x hx => by
    (refine xe1_1 (List.getElem?_of_mem hx) ?_; intro i hi)
    have : getN (normC w) i = x := by unfold getN; rw [hi]; rfl
    rw [← this, norm_get]
    have := List.count_le_length (a := i) (l := w); omega
  have := entry_eq (k := k) (pair := pair) (s := S (leadL w ++ List.replicate b 32 ++ [120, 32, 9])) (u := leadL w ++ List.replicate b 32) (rest := [120, 32, 9]) (s0 := s0) (s1 := s1) (S_lst _) (.inr ⟨_, rfl⟩) (fun ch h => lead_ch h) (by simp; omega) (ws_line w b) hn hcnt (by show w.length ≤ 1000; omega) h0 h1
  rw [lvl_word, lvl_word] at this
  exact this
theorem read_eq {w : List Nat} {b : Nat} {rest : List Nat} (hr : rest = [] ∨ ∃ r, rest = 120 :: r) (hw : w.length ≤ 13) (ha : ∀ a ∈ w, a ≤ 6) (hb : b ≤ 9) :
    callT (k + 1) "Whitespace" [sD (leadL w ++ List.replicate b 32 ++ rest)] = some (.inst (wsI (S (leadL w ++ List.replicate b 32 ++ rest)) ⟨normC w, b, 0 + (leadL w).length + b, w.length⟩)) := by
  have hl := lead_len ha
  have := ws_new (k := k) (s := S (leadL w ++ List.replicate b 32 ++ rest)) (u := leadL w ++ List.replicate b 32) (rest := rest) (S_lst _) hr (fun ch h => lead_ch h) (by simp; omega)
  rw [ws_line] at this
  exact this
end
end Mine
end

section
open PySem PySem.W PyProof.Rows
set_option tactic.hygienic false
namespace Mine
theorem words_mem {L : List Nat} : ∀ {m : Nat} {w : List Nat}, w ∈ wordsN L m → w.length = m ∧ ∀ a ∈ w, a ∈ L
  | 0, w, h => by rw [List.mem_singleton.mp h]; exact ⟨rfl, fun _ h => nomatch h⟩
  | m + 1, w, h => by
    (refine xe1_2 (List.mem_flatMap.mp h) ?_; intro v hv h)
    (refine xe1_2 (List.mem_map.mp h) ?_; intro a ha hq2; rcases hq2 with rfl)
    (refine xe0_2 (words_mem hv) ?_; intro h1 h2)
    refine ⟨by rw [List.length_append, h1]; rfl, fun x hx => ?_⟩
    rcases List.mem_append.mp hx with q | q
    · exact h2 x q
    · rw [List.mem_singleton.mp q]; exact ha
theorem sum_add {α : Type} (f g : α → Nat) : ∀ l : List α, (l.map fun x => f x + g x).sum = (l.map f).sum + (l.map g).sum
  | [] => rfl
  | a :: l => by simp only [List.map_cons, List.sum_cons]; rw [sum_add f g l]; omega
theorem sum_zero {α : Type} {f : α → Nat} : ∀ {l : List α}, (∀ x ∈ l, f x = 0) → (l.map f).sum = 0
  | [], _ => rfl
  | a :: l, h => by rw [List.map_cons, List.sum_cons, h a List.mem_cons_self, sum_zero fun x hx => h x (List.mem_cons_of_mem _ hx)]
theorem sum_one (g : Nat → Nat) {a : Nat} : ∀ {L : List Nat}, L.Nodup → a ∈ L → (L.map fun x => if x = a then g x else 0).sum = g a
  | b :: L, hn, h => by
    have hn' := List.nodup_cons.mp hn
    rw [List.map_cons, List.sum_cons]
    rcases List.mem_cons.mp h with rfl | h
    · rw [if_pos rfl, sum_zero fun x hx => if_neg fun e => hn'.1 (by rw [← e]; exact hx)]; omega
    · rw [if_neg fun e => hn'.1 (by rw [e]; exact h), sum_one g hn'.2 h]; omega
theorem word_sum (g : Nat → Nat) {L : List Nat} (hL : L.Nodup) : ∀ {w : List Nat}, (∀ a ∈ w, a ∈ L) → (w.map g).sum = (L.map fun a => w.count a * g a).sum
  | [], _ => (sum_zero fun x _ => by rw [List.count_nil, Nat.zero_mul]).symm
  | a :: w, h => by
    rw [List.map_cons, List.sum_cons, word_sum g hL fun b hb => h b (List.mem_cons_of_mem _ hb), ← sum_one g hL (h a List.mem_cons_self), ← sum_add]
    congr 1
    refine List.map_congr_left fun x _ => ?_
    by_cases e : x = a
    · subst e
      rw [if_pos rfl, List.count_cons_self, Nat.add_mul, Nat.one_mul, Nat.add_comm]
    · rw [if_neg e, List.count_cons_of_ne fun q => e q.symm, Nat.zero_add]
theorem words_sum (g : Nat → Nat) {L : List Nat} (hL : L.Nodup) : ∀ {M : List (List Nat)}, (∀ w ∈ M, ∀ a ∈ w, a ∈ L) → (M.map fun w => (w.map g).sum).sum = (L.map fun a => tot a M * g a).sum
  | [], _ => (sum_zero fun x _ => Nat.zero_mul _).symm
  | w :: M, h => by
    rw [List.map_cons, List.sum_cons, words_sum g hL fun v hv => h v (List.mem_cons_of_mem _ hv), word_sum g hL (h w List.mem_cons_self), ← sum_add]
    congr 1
    refine List.map_congr_left fun x _ => ?_
    show _ = (w.count x + tot x M) * g x
    rw [Nat.add_mul]
theorem sumT_words (s0 s1 b m : Nat) (f : List Nat → Bool) : ∀ (ws : List (List Nat)) (t : Tot) (h : Nat → Nat), (∀ w ∈ ws, w.length = m) → Cnt t.C h →
    ∃ C, sumT t (ws.map fun w => (f w, entT s0 s1 b w)) = ⟨t.c + (ws.filter f).length, t.n + (m * (ws.filter f).length : Nat), t.l0 + (b * (ws.filter f).length + ((ws.filter f).map fun w => (w.map (wtN s0)).sum).sum : Nat), t.l1 + (b * (ws.filter f).length + ((ws.filter f).map fun w => (w.map (wtN s1)).sum).sum : Nat), C⟩ ∧ Cnt C fun a => h a + tot a (ws.filter f)
  | [], t, h, _, hc => ⟨t.C, by obtain ⟨c, n, l0, l1, C⟩ := t; simp [sumT], hc⟩
  | w :: ws, t, h, hw, hc => by
    have hw' : ∀ v ∈ ws, v.length = m := fun v hv => hw v (List.mem_cons_of_mem _ hv)
    rw [List.map_cons, List.filter_cons]
    show ∃ C, sumT (if f w = true then t.add (entT s0 s1 b w) else t) (ws.map fun w => (f w, entT s0 s1 b w)) = _ ∧ _
    cases hf : f w with
    | false => exact sumT_words s0 s1 b m f ws t h hw' hc
    | true =>
      rw [if_pos rfl, if_pos rfl]
      (refine xe1_2 (sumT_words s0 s1 b m f ws (t.add (entT s0 s1 b w)) _ hw' ((norm_rows w).merge hc)) ?_; intro C h1 h2)
      refine ⟨C, h1.trans ?_, h2.eqv fun a => ?_⟩
      · have hm := hw w List.mem_cons_self
        rw [List.length_cons, List.map_cons, List.sum_cons, List.map_cons, List.sum_cons, Nat.mul_add, Nat.mul_add]
        unfold Tot.add entT
        rw [hm]
        simp only [Int.natCast_add, Nat.mul_one]
        congr 1 <;> omega
      · show w.count a + h a + tot a (ws.filter f) = h a + (w.count a + tot a (ws.filter f))
        omega
section
variable {k : Nat} {pair : Bool}
noncomputable def txt (l w : List Nat) : Str := S (toksL w ++ l)
theorem law_sum {L : List Nat} {m s0 s1 b : Nat} {l pat : List Nat} {f : List Nat → Bool} (hn : (wordsN L m).length ≤ 10) (hm : m ≤ 6) (ha : ∀ a ∈ L, a ≤ 6)
    (hf : ∀ w ∈ wordsN L m, callT (k + 1 + 1) "_ellipsis_match" [sD pat, .str (txt l w)] = some (.bool (f w))) :
    ∃ C, callT (k + 1 + 1 + 1) "_law_sum" [sD pat, .lst ((wordsN L m).map fun w => .str (txt l w)), .lst ((wordsN L m).map fun w => (entT s0 s1 b w).d pair)] =
      some (Tot.d pair ⟨((wordsN L m).filter f).length, (m * ((wordsN L m).filter f).length : Nat), (b * ((wordsN L m).filter f).length + (((wordsN L m).filter f).map fun w => (w.map (wtN s0)).sum).sum : Nat), (b * ((wordsN L m).filter f).length + (((wordsN L m).filter f).map fun w => (w.map (wtN s1)).sum).sum : Nat), C⟩) ∧ Cnt C fun a => tot a ((wordsN L m).filter f) := by
  classical
  (refine xe1_2 (sumT_words s0 s1 b m f (wordsN L m) ⟨0, 0, 0, 0, []⟩ _ (fun w hw => (words_mem hw).1) Cnt.nil) ?_; intro C h1 h2)
  refine ⟨C, ?_, h2.eqv fun a => Nat.zero_add _⟩
  let f' : Str → Bool := fun t => decide (callT (k + 1 + 1) "_ellipsis_match" [sD pat, .str t] = some (.bool true))
  have hf' : ∀ w ∈ wordsN L m, f' (txt l w) = f w := fun w hw => by
    show decide (_ = _) = _
    rw [hf w hw]
    cases f w
    · exact decide_eq_false fun q => by cases q
    · exact decide_eq_true rfl
  have hs := sum_eq (k := k) (pair := pair) (pat := S pat) (texts := (wordsN L m).map (txt l)) (ents := (wordsN L m).map (entT s0 s1 b)) (f := f') (by rw [List.length_map, List.length_map]) (by rw [List.length_map]; exact hn) (fun e he => ?_) fun t ht => ?_
  · rw [List.map_map, List.map_map] at hs
    have hz : (((wordsN L m).map (txt l)).map f').zip ((wordsN L m).map (entT s0 s1 b)) = (wordsN L m).map fun w => (f w, entT s0 s1 b w) := by
      rw [List.map_map, List.zip_map', ]
      exact List.map_congr_left fun w hw => by rw [← hf' w hw]; rfl
    rw [hz, h1] at hs
    simp only [Int.zero_add] at hs
    exact hs
  · (refine xe1_2 (List.mem_map.mp he) ?_; intro w hw hq2; rcases hq2 with rfl)
    (refine xe0_2 (words_mem hw) ?_; intro hl hm')
    have h3 := norm_len (B := 6) w [] (fun a h => ha a (hm' a h)) (Nat.zero_le _)
    have h4 : (rowsC (normC w)).length ≤ (normC w).length := by
      have : ∀ n, ((List.range n).foldl (rowC (normC w)) []).length ≤ n := fun n => by
        induction n with
        | zero => exact Nat.le_refl _
        | succ n ih =>
          rw [List.range_succ, List.foldl_append]
          have er : ∀ X, List.foldl (rowC (normC w)) X [n] = if getN (normC w) n = 0 then X else upN X n (getN (normC w) n) := fun X => rfl
          rw [er]
          split
          · omega
          · have := upN_len n (getN (normC w) n) ((List.range n).foldl (rowC (normC w)) []); omega
      exact this _
    exact Nat.le_trans h4 h3
  · (refine xe1_2 (List.mem_map.mp ht) ?_; intro w hw hq2; rcases hq2 with rfl)
    show callT (k + 1 + 1) "_ellipsis_match" [sD pat, .str (txt l w)] = _
    rw [hf w hw, hf' w hw]
end
end Mine
end

section
open PySem PySem.W PyProof.Rows
set_option tactic.hygienic false
namespace Mine
structure Okp (L : List Nat) (m b s0 s1 : Nat) (l : List Nat) : Prop where
  nd : L.Nodup
  q : L.length = 2 ∨ L.length = 3
  le : ∀ a ∈ L, a ≤ 6
  m1 : m + L.length ≤ 5
  b : b ≤ 3
  s0 : 0 < s0
  s1 : 0 < s1
  l : Tail l
theorem words_len (L : List Nat) : ∀ m, (wordsN L m).length = L.length ^ m
  | 0 => rfl
  | m + 1 => by
    show ((wordsN L m).flatMap fun w => L.map fun a => w ++ [a]).length = _
    rw [Nat.pow_succ, ← words_len L m]
    induction wordsN L m with
    | nil => simp
    | cons w r ih => rw [List.flatMap_cons, List.length_append, ih, List.length_map, List.length_cons, Nat.add_mul]; omega
section
variable {k : Nat} {pair : Bool} {L : List Nat} {m b s0 s1 : Nat} {l : List Nat}
theorem Okp.few (o : Okp L m b s0 s1 l) : (wordsN L m).length ≤ 10 := by
  rw [words_len]
  have h := o.m1
  rcases o.q with q | q
  · rw [q] at h ⊢
    exact Nat.le_trans (Nat.pow_le_pow_right (by decide) (show m ≤ 3 by omega)) (by decide)
  · rw [q] at h ⊢
    exact Nat.le_trans (Nat.pow_le_pow_right (by decide) (show m ≤ 2 by omega)) (by decide)
noncomputable def sumR (L : List Nat) (m b s0 s1 : Nat) (M : List (List Nat)) (C : CT) : Tot := ⟨M.length, (m * M.length : Nat), (b * M.length + dueL (tot · M) s0 L : Nat), (b * M.length + dueL (tot · M) s1 L : Nat), C⟩
theorem sum_is (o : Okp L m b s0 s1 l) {pat : List Nat} (f : List Nat → Bool) (hf : ∀ w ∈ wordsN L m, callT (k + 1 + 1) "_ellipsis_match" [sD pat, .str (txt l w)] = some (.bool (f w))) :
    ∃ C, Cnt C (tot · ((wordsN L m).filter f)) ∧ callT (k + 1 + 1 + 1) "_law_sum" [sD pat, .lst ((wordsN L m).map fun w => .str (txt l w)), .lst ((wordsN L m).map fun w => (entT s0 s1 b w).d pair)] = some ((sumR L m b s0 s1 ((wordsN L m).filter f) C).d pair) := by
  (refine xe1_2 (law_sum (s0 := s0) (s1 := s1) (b := b) (pair := pair) o.few (by have := o.m1; omega) o.le hf) ?_; intro C h1 h2)
  have hm : ∀ w ∈ (wordsN L m).filter f, ∀ a ∈ w, a ∈ L := fun w hw => (words_mem (List.mem_filter.mp hw).1).2
  refine ⟨C, h2, ?_⟩
  rw [words_sum (wtN s0) o.nd hm, words_sum (wtN s1) o.nd hm] at h1
  exact h1
theorem tot_out {M : List (List Nat)} (hM : ∀ w ∈ M, ∀ a ∈ w, a ∈ L) {x : Nat} (hx : x ∉ L) : tot x M = 0 :=
  sum_zero fun w hw => List.count_eq_zero_of_not_mem fun h => hx (hM w hw x h)
theorem tot_le : ∀ {M : List (List Nat)}, (∀ w ∈ M, w.length ≤ 6) → ∀ x, tot x M ≤ M.length * 6
  | [], _, _ => Nat.zero_le _
  | w :: M, h, x => by
    have h1 := tot_le (fun v hv => h v (List.mem_cons_of_mem _ hv)) x
    have h2 := h w List.mem_cons_self
    have h3 := List.count_le_length (a := x) (l := w)
    show w.count x + tot x M ≤ _
    rw [List.length_cons, Nat.add_mul]; omega
theorem due_is (o : Okp L m b s0 s1 l) (f : List Nat → Bool) {n : Int} {fr he : List Nat} (hc : chk L ((wordsN L m).filter f) n fr he = true) (hn : -1 ≤ n ∧ n ≤ 3) (hfr : fr.length ≤ 4) (hh : he.length ≤ 4) (hnm : n + he.length = m) :
    callT (k + 1 + 1 + 1) "_law_due" [.int n, .lst (nD L), .lst (nD fr), .lst (nD he), .int b, .lst [.int s0, .int s1], .bool pair] = some ((sumR L m b s0 s1 ((wordsN L m).filter f) (dueC (tot · ((wordsN L m).filter f)) L [])).d pair) := by
  have hw : ∀ w ∈ (wordsN L m).filter f, w.length ≤ 6 := fun w hw => by have := (words_mem (List.mem_filter.mp hw).1).1; have := o.m1; omega
  have hlen : ((wordsN L m).filter f).length ≤ 10 := Nat.le_trans (List.length_filter_le _ _) o.few
  have hle := tot_le hw
  unfold chk at hc
  revert hc hlen hle
  generalize (wordsN L m).filter f = M
  intro hc hlen hle
  rw [Bool.and_eq_true, beq_iff_eq, List.all_eq_true] at hc
  (refine xe0_2 hc ?_; (try clear hc); intro h1 h2)
  have h5 := of_decide_eq_true (allN_at (p := chk5) all5 hn hfr o.q)
  have hq : 0 < L.length ∧ L.length ≤ 3 := by rcases o.q with q | q <;> omega
  have := due_eq (k := k + 1 + 1) (pair := pair) (n := n) (L := L) (fr := fr) (he := he) (b := b) (s0 := s0) (s1 := s1) (A := fun a => tot a M) hq (by omega) h5.1 h5.2 o.s0 o.s1 (by omega) (by omega) (by have := o.b; omega)
    (taken_eq hn hfr o.q) (step_eq hn hfr o.q) fun a ha => ⟨by have := o.le a ha; omega, eq_of_beq (h2 a ha), by have := hle a; omega⟩
  rw [this, h1, hnm, ← Int.natCast_mul, ← Int.natCast_mul, ← Int.natCast_add, ← Int.natCast_add]
  rfl
theorem same_is (o : Okp L m b s0 s1 l) (f : List Nat → Bool) {C : CT} (h : Cnt C (tot · ((wordsN L m).filter f))) :
    cmpD .NotEq ((sumR L m b s0 s1 ((wordsN L m).filter f) C).d pair) ((sumR L m b s0 s1 ((wordsN L m).filter f) (dueC (tot · ((wordsN L m).filter f)) L [])).d pair) = some false := by
  refine Tot.eqv pair rfl rfl rfl rfl h ((Cnt.due (A := (tot · ((wordsN L m).filter f))) L [] _ o.nd (fun _ _ => rfl) Cnt.nil).eqv fun x => ?_)
  by_cases q : x ∈ L
  · rw [if_pos q]
  · rw [if_neg q, tot_out (fun w hw => (words_mem (List.mem_filter.mp hw).1).2) q]
theorem none_is (f : List Nat → Bool) {C : CT} (h : Cnt C (tot · ((wordsN L m).filter f))) (h0 : (wordsN L m).filter f = []) : cmpD .NotEq ((sumR L m b s0 s1 ((wordsN L m).filter f) C).d pair) (.tup [.int 0, .int 0, .int 0, .int 0, .dct []]) = some false := by
  rw [h0] at h ⊢
  have hz : ∀ s, dueL (tot · []) s L = 0 := fun s => sum_zero fun a _ => Nat.zero_mul _
  have hs : ∀ s, ((b * ([] : List (List Nat)).length + dueL (tot · []) s L : Nat) : Int) = 0 := fun s => by rw [hz]; rfl
  exact Tot.eqv pair (t' := ⟨0, 0, 0, 0, []⟩) rfl rfl (hs s0) (hs s1) h (Cnt.nil.eqv fun a => rfl)
end
end Mine
end

section
open PySem PySem.W PyProof.Rows
set_option tactic.hygienic false
namespace Mine
noncomputable def lcIt : Expr → Expr
  | .ListComp _ (⟨_, it, _, _⟩ :: _) _ _ => it
  | _ => anyE
theorem Pf.lc {n : Nat} {c : Cx} {ρ : Sc} {e : Expr} {K : D → Prop} (h1 : (e, compOk c (lcS e)) = (.ListComp (lcE e) (⟨lcT (lcG e), lcIt e, lcI (lcG e), 0⟩ :: (lcG e).tail) (lcS e) e.pos, true)) (h : Pf (wI n c ρ (lcIt e) fun ds => wLC n c ρ e ds fun out => Cd (decide (out.length ≤ 1000000)) (K (.lst out)))) : Pf (wE (n + 1) c ρ e K) := by
  have e1 := congrArg Prod.fst h1
  refine Eq.mpr (congrArg (fun T => Pf (wE (n + 1) c ρ T K)) e1) (Pf.cd (b := decide (compOk c (lcS e) = true ∧ 0 = 0)) (decide_eq_true ⟨congrArg Prod.snd h1, rfl⟩) ?_)
  exact Eq.mp (congrArg (fun T => Pf (wI n c ρ (lcIt e) fun ds => wLC n c ρ T ds fun out => Cd (decide (out.length ≤ 1000000)) (K (.lst out)))) e1) h
theorem gather_ex {f : D → (List D → Prop) → Prop} {P : D → Prop} : ∀ (l : List D) {K : List D → Prop}, (∀ d ∈ l, ∃ y, P y ∧ ∀ K', Pf (K' [y]) → Pf (f d K')) → (∀ ys, ys.length = l.length → (∀ y ∈ ys, P y) → Pf (K ys)) → Pf (wGather f l K)
  | [], _, _, h => h [] rfl fun _ h => nomatch h
  | d :: r, K, hf, h => by
    (refine xe1_2 (hf d List.mem_cons_self) ?_; intro y hy hk)
    refine hk (fun a => wGather f r fun b => K (a ++ b)) (gather_ex r (K := fun b => K ([y] ++ b)) (fun d' hd => hf d' (List.mem_cons_of_mem _ hd)) fun ys h1 h2 => h (y :: ys) (by rw [List.length_cons, List.length_cons, h1]) fun z hz => ?_)
    rcases List.mem_cons.mp hz with rfl | hz
    · exact hy
    · exact h2 z hz
theorem Pf.compE {n : Nat} {c : Cx} {ρ : Sc} {e : Expr} {P : D → Prop} {K : List D → Prop} (l : List D) (ho : lcOk e = true) (hf : ∀ d ∈ l, ∃ y, P y ∧ ∀ K', Pf (K' [y]) → Pf (wcOf n c ρ e d K')) (h : ∀ ys, ys.length = l.length → (∀ y ∈ ys, P y) → Pf (K ys)) : Pf (wLC n c ρ e l K) := ⟨wLC_of ho (gather_ex l hf h).h⟩
noncomputable abbrev vcx (k : Nat) : Cx := cxAt k "law" (stAt 20)
noncomputable abbrev vB : List Stmt := dBody (stAt 20)
noncomputable abbrev vS (i : Nat) : Stmt := stmtAt vB i
noncomputable def vN : List String := ["script", "d", "q", "lengths", "j", "m", "runs", "front", "end", "other", "blanks", "path", "name", "pair", "sizes", "words", "written", "last", "texts", "entries", "closing", "pieces", "pattern", "free", "held", "due", "whole", "dots", "left", "total", "read", "far", "alike"]
noncomputable def lw (l : List Slot) : Sc := List.zipWith (fun n s => (nm n, s)) vN l
structure Dr where
  a0 : Int
  a1 : Int
  a2 : Int
  a3 : Int
  a4 : Int
  a5 : Int
  a6 : Int
  a7 : Int
  a8 : Int
noncomputable def Dr.D (x : Dr) : D := .lst [.int x.a0, .int x.a1, .int x.a2, .int x.a3, .int x.a4, .int x.a5, .int x.a6, .int x.a7, .int x.a8]
noncomputable abbrev vE (i : Nat) : Expr := sE (vS i) 0
noncomputable abbrev vF (i : Nat) (l : List Slot) : Sc := frz (sreads (vS i)) (lw l)
noncomputable abbrev vT3 (k : Nat) : D → Sc → (Fl → Sc → Prop) → Prop := fun d ρ' => wX 55 (vcx k) (upd ρ' (nm "j") (.fr d)) (forB (vS 3))
end Mine
end

section
open PySem PySem.W PyProof.Rows
set_option tactic.hygienic false
namespace Mine
section
variable {k : Nat} {s jj : D} {x : Dr} {q m j i a : Int} {l rs : List D} {o : Option Slot} {d y : D}
theorem v_i0 {K : List D → Prop} : (Y (rangeD [.int 9]) K) = wI 57 (vcx k) (vF 0 [.fr s]) (lcIt (vE 0)) K := by kernel_rfl
theorem v_g0 {K : List D → Prop} : (Y (subD (.lst [.int 2, .int 1, .int 2, .int 2, .int 4, .int 0, .int 12, .int 5, .int 2]) (.int i)) fun a => Y (sliceD s none (some 63) none) fun y => Y (sliceD y (some i) none (some 9)) fun z => Y (builtK .sum [z]) fun w => Y (binD .Add a w) fun v => K [v]) = wcOf 57 (vcx k) (vF 0 [.fr s]) (vE 0) (.int i) K := by kernel_rfl
theorem v_z0 : lw [.fr s, .fr d] = upd (vF 0 [.fr s]) (nm "d") (asSl (vE 0) d) := by kernel_rfl
theorem v_1 {K : Fl → Sc → Prop} : (wX 57 (vcx k) (lw [.fr s, .fr x.D, .fr (.int (2 + Int.fmod x.a0 2)), .ol [.int (Int.fmod x.a1 3)]]) (vB.drop 3) K) = wX 59 (vcx k) (lw [.fr s, .fr x.D]) (vB.drop 1) K := by kernel_rfl
theorem v_3 {K : Fl → Sc → Prop} : (Y (rangeD [.int 1, .int q]) fun ds => wLoop (vT3 k) ds (lw [.fr s, .fr x.D, .fr (.int q), .ol l]) (kSeq (fun ρ' => wX 56 (vcx k) ρ' (vB.drop 4) K) K)) = wX 57 (vcx k) (lw [.fr s, .fr x.D, .fr (.int q), .ol l]) (vB.drop 3) K := by kernel_rfl
theorem v_t3 {K : Fl → Sc → Prop} : (Y (subD (.lst l) (.int (-1))) fun z => Y (binD .Add z (.int 1)) fun z => Y (binD .FloorDiv (.int x.a1) (.int 3)) fun y => Y (binD .Pow (.int 2) (.int j)) fun p => Y (binD .FloorDiv y p) fun y => Y (binD .Mod y (.int 2)) fun y => Y (binD .Add z y) fun z => Y (appItem z (.ol l)) fun s' => K .next (lw [.fr s, .fr x.D, .fr (.int q), s', .fr (.int j)])) =
    vT3 k (.int j) (lw ([.fr s, .fr x.D, .fr (.int q), .ol l] ++ o.toList)) K := by cases o <;> kernel_rfl
theorem v_4 {K : Fl → Sc → Prop} : (Y (binD .Mod (.int x.a2) (.int (5 - q))) fun y => Y (binD .Add (.int 1) y) fun y => wX 55 (vcx k) (lw [.fr s, .fr x.D, .fr (.int q), .ol l, .fr jj, toOwn y]) (vB.drop 5) K) = wX 56 (vcx k) (lw [.fr s, .fr x.D, .fr (.int q), .ol l, .fr jj]) (vB.drop 4) K := by kernel_rfl
theorem v_i5 {K : List D → Prop} : (Y (binD .Mod (.int x.a3) (.int (m + 2))) fun y => Y (rangeD [y]) K) = wI 52 (vcx k) (vF 5 [.fr s, .fr x.D, .fr (.int q), .ol l, .fr jj, .fr (.int m)]) (lcIt (vE 5)) K := by kernel_rfl
theorem v_g5 {K : List D → Prop} : (Y (binD .Pow (.int q) (.int j)) fun y => Y (binD .FloorDiv (.int x.a4) y) fun y => Y (binD .Mod y (.int q)) fun y => Y (subD (.lst l) y) fun y => K [y]) = wcOf 52 (vcx k) (vF 5 [.fr s, .fr x.D, .fr (.int q), .ol l, .fr jj, .fr (.int m)]) (vE 5) (.int j) K := by kernel_rfl
theorem v_z5 : lw [.fr s, .fr x.D, .fr (.int q), .fr (.lst l), .fr jj, .fr (.int m), .fr d] = upd (vF 5 [.fr s, .fr x.D, .fr (.int q), .ol l, .fr jj, .fr (.int m)]) (nm "runs") (asSl (vE 5) d) := by kernel_rfl
end
end Mine
end

section
open PySem PySem.W PyProof.Rows
namespace Mine
structure En where
  s : D
  x : Dr
  q : Int
  l : List D
  m : Int
  rs : List D
  f : Int
  e : Int
  ot : List D
  b : Int
  p : Str
  n : Str
  pair : Bool
  z0 : Int
  z1 : Int
  ws : List D
  wr : List D
  la : Str
  ts : List D
  es : List D
  cl : Str
  ps : List D
  pat : Str
  fr : List D
  he : List D
  wh : Bool
  dt : Bool
  lf : Int
  tt : D
  rS : Str
  rW : Ws
  fa : Int
  al : Bool
noncomputable abbrev En.zO (E : En) : Slot := .ol [.int E.z0, .int E.z1]
noncomputable abbrev En.zF (E : En) : Slot := .fr (.lst [.int E.z0, .int E.z1])
noncomputable abbrev En.wF (E : En) : Slot := .fr (.lst E.ws)
noncomputable def w6 (E : En) (jj : D) : Sc := lw [.fr E.s, .fr E.x.D, .fr (.int E.q), .fr (.lst E.l), .fr jj, .fr (.int E.m), .fr (.lst E.rs)]
noncomputable def w12 (E : En) (jj : D) (wd : Slot) : Sc := lw [.fr E.s, .fr E.x.D, .fr (.int E.q), .fr (.lst E.l), .fr jj, .fr (.int E.m), .fr (.lst E.rs), .fr (.int E.f), .fr (.int E.e), .fr (.lst E.ot), .fr (.int E.b), .fr (.str E.p), .fr (.str E.n), .fr (.bool E.pair), E.zO, wd]
noncomputable def w16 (E : En) (jj : D) : Sc := lw [.fr E.s, .fr E.x.D, .fr (.int E.q), .fr (.lst E.l), .fr jj, .fr (.int E.m), .fr (.lst E.rs), .fr (.int E.f), .fr (.int E.e), .fr (.lst E.ot), .fr (.int E.b), .fr (.str E.p), .fr (.str E.n), .fr (.bool E.pair), E.zO, E.wF]
noncomputable def w17 (E : En) (jj : D) : Sc := lw [.fr E.s, .fr E.x.D, .fr (.int E.q), .fr (.lst E.l), .fr jj, .fr (.int E.m), .fr (.lst E.rs), .fr (.int E.f), .fr (.int E.e), .fr (.lst E.ot), .fr (.int E.b), .fr (.str E.p), .fr (.str E.n), .fr (.bool E.pair), E.zO, E.wF, .fr (.lst E.wr)]
noncomputable def w18 (E : En) (jj : D) : Sc := lw [.fr E.s, .fr E.x.D, .fr (.int E.q), .fr (.lst E.l), .fr jj, .fr (.int E.m), .fr (.lst E.rs), .fr (.int E.f), .fr (.int E.e), .fr (.lst E.ot), .fr (.int E.b), .fr (.str E.p), .fr (.str E.n), .fr (.bool E.pair), E.zO, E.wF, .fr (.lst E.wr), .fr (.str E.la)]
noncomputable def w19 (E : En) (jj : D) : Sc := lw [.fr E.s, .fr E.x.D, .fr (.int E.q), .fr (.lst E.l), .fr jj, .fr (.int E.m), .fr (.lst E.rs), .fr (.int E.f), .fr (.int E.e), .fr (.lst E.ot), .fr (.int E.b), .fr (.str E.p), .fr (.str E.n), .fr (.bool E.pair), E.zO, E.wF, .fr (.lst E.wr), .fr (.str E.la), .fr (.lst E.ts)]
noncomputable def w20 (E : En) (jj : D) : Sc := lw [.fr E.s, .fr E.x.D, .fr (.int E.q), .fr (.lst E.l), .fr jj, .fr (.int E.m), .fr (.lst E.rs), .fr (.int E.f), .fr (.int E.e), .fr (.lst E.ot), .fr (.int E.b), .fr (.str E.p), .fr (.str E.n), .fr (.bool E.pair), E.zF, E.wF, .fr (.lst E.wr), .fr (.str E.la), .fr (.lst E.ts), .fr (.lst E.es)]
noncomputable def w21 (E : En) (jj : D) : Sc := lw [.fr E.s, .fr E.x.D, .fr (.int E.q), .fr (.lst E.l), .fr jj, .fr (.int E.m), .fr (.lst E.rs), .fr (.int E.f), .fr (.int E.e), .fr (.lst E.ot), .fr (.int E.b), .fr (.str E.p), .fr (.str E.n), .fr (.bool E.pair), E.zF, E.wF, .fr (.lst E.wr), .fr (.str E.la), .fr (.lst E.ts), .fr (.lst E.es), .fr (.str E.cl)]
noncomputable def w22 (E : En) (jj : D) : Sc := lw [.fr E.s, .fr E.x.D, .fr (.int E.q), .fr (.lst E.l), .fr jj, .fr (.int E.m), .fr (.lst E.rs), .fr (.int E.f), .fr (.int E.e), .fr (.lst E.ot), .fr (.int E.b), .fr (.str E.p), .fr (.str E.n), .fr (.bool E.pair), E.zF, E.wF, .fr (.lst E.wr), .fr (.str E.la), .fr (.lst E.ts), .fr (.lst E.es), .fr (.str E.cl), .fr (.lst E.ps)]
noncomputable def w23 (E : En) (jj : D) : Sc := lw [.fr E.s, .fr E.x.D, .fr (.int E.q), .fr (.lst E.l), .fr jj, .fr (.int E.m), .fr (.lst E.rs), .fr (.int E.f), .fr (.int E.e), .fr (.lst E.ot), .fr (.int E.b), .fr (.str E.p), .fr (.str E.n), .fr (.bool E.pair), E.zF, E.wF, .fr (.lst E.wr), .fr (.str E.la), .fr (.lst E.ts), .fr (.lst E.es), .fr (.str E.cl), .fr (.lst E.ps), .fr (.str E.pat)]
noncomputable def w25 (E : En) (jj : D) : Sc := lw [.fr E.s, .fr E.x.D, .fr (.int E.q), .fr (.lst E.l), .fr jj, .fr (.int E.m), .fr (.lst E.rs), .fr (.int E.f), .fr (.int E.e), .fr (.lst E.ot), .fr (.int E.b), .fr (.str E.p), .fr (.str E.n), .fr (.bool E.pair), E.zF, E.wF, .fr (.lst E.wr), .fr (.str E.la), .fr (.lst E.ts), .fr (.lst E.es), .fr (.str E.cl), .fr (.lst E.ps), .fr (.str E.pat), .ol E.fr, .ol E.he]
noncomputable def w26 (E : En) (jj du : D) : Sc := lw [.fr E.s, .fr E.x.D, .fr (.int E.q), .fr (.lst E.l), .fr jj, .fr (.int E.m), .fr (.lst E.rs), .fr (.int E.f), .fr (.int E.e), .fr (.lst E.ot), .fr (.int E.b), .fr (.str E.p), .fr (.str E.n), .fr (.bool E.pair), E.zF, E.wF, .fr (.lst E.wr), .fr (.str E.la), .fr (.lst E.ts), .fr (.lst E.es), .fr (.str E.cl), .fr (.lst E.ps), .fr (.str E.pat), .fr (.lst E.fr), .fr (.lst E.he), .fr du]
noncomputable def w29 (E : En) (jj du : D) : Sc := lw [.fr E.s, .fr E.x.D, .fr (.int E.q), .fr (.lst E.l), .fr jj, .fr (.int E.m), .fr (.lst E.rs), .fr (.int E.f), .fr (.int E.e), .fr (.lst E.ot), .fr (.int E.b), .fr (.str E.p), .fr (.str E.n), .fr (.bool E.pair), E.zF, E.wF, .fr (.lst E.wr), .fr (.str E.la), .fr (.lst E.ts), .fr (.lst E.es), .fr (.str E.cl), .fr (.lst E.ps), .fr (.str E.pat), .fr (.lst E.fr), .fr (.lst E.he), .fr du, .fr (.bool E.wh), .fr (.bool E.dt), .fr (.int E.lf)]
noncomputable def w30 (E : En) (jj du : D) : Sc := lw [.fr E.s, .fr E.x.D, .fr (.int E.q), .fr (.lst E.l), .fr jj, .fr (.int E.m), .fr (.lst E.rs), .fr (.int E.f), .fr (.int E.e), .fr (.lst E.ot), .fr (.int E.b), .fr (.str E.p), .fr (.str E.n), .fr (.bool E.pair), E.zF, E.wF, .fr (.lst E.wr), .fr (.str E.la), .fr (.lst E.ts), .fr (.lst E.es), .fr (.str E.cl), .fr (.lst E.ps), .fr (.str E.pat), .fr (.lst E.fr), .fr (.lst E.he), .fr du, .fr (.bool E.wh), .fr (.bool E.dt), .fr (.int E.lf), .fr E.tt]
noncomputable def w31 (E : En) (jj du : D) : Sc := lw [.fr E.s, .fr E.x.D, .fr (.int E.q), .fr (.lst E.l), .fr jj, .fr (.int E.m), .fr (.lst E.rs), .fr (.int E.f), .fr (.int E.e), .fr (.lst E.ot), .fr (.int E.b), .fr (.str E.p), .fr (.str E.n), .fr (.bool E.pair), E.zF, E.wF, .fr (.lst E.wr), .fr (.str E.la), .fr (.lst E.ts), .fr (.lst E.es), .fr (.str E.cl), .fr (.lst E.ps), .fr (.str E.pat), .fr (.lst E.fr), .fr (.lst E.he), .fr du, .fr (.bool E.wh), .fr (.bool E.dt), .fr (.int E.lf), .fr E.tt, .fr (.inst (wsI E.rS E.rW))]
noncomputable def w32 (E : En) (jj du : D) : Sc := lw [.fr E.s, .fr E.x.D, .fr (.int E.q), .fr (.lst E.l), .fr jj, .fr (.int E.m), .fr (.lst E.rs), .fr (.int E.f), .fr (.int E.e), .fr (.lst E.ot), .fr (.int E.b), .fr (.str E.p), .fr (.str E.n), .fr (.bool E.pair), E.zF, E.wF, .fr (.lst E.wr), .fr (.str E.la), .fr (.lst E.ts), .fr (.lst E.es), .fr (.str E.cl), .fr (.lst E.ps), .fr (.str E.pat), .fr (.lst E.fr), .fr (.lst E.he), .fr du, .fr (.bool E.wh), .fr (.bool E.dt), .fr (.int E.lf), .fr E.tt, .fr (.inst (wsI E.rS E.rW)), .fr (.int E.fa)]
noncomputable def w33 (E : En) (jj du : D) : Sc := lw [.fr E.s, .fr E.x.D, .fr (.int E.q), .fr (.lst E.l), .fr jj, .fr (.int E.m), .fr (.lst E.rs), .fr (.int E.f), .fr (.int E.e), .fr (.lst E.ot), .fr (.int E.b), .fr (.str E.p), .fr (.str E.n), .fr (.bool E.pair), E.zF, E.wF, .fr (.lst E.wr), .fr (.str E.la), .fr (.lst E.ts), .fr (.lst E.es), .fr (.str E.cl), .fr (.lst E.ps), .fr (.str E.pat), .fr (.lst E.fr), .fr (.lst E.he), .fr du, .fr (.bool E.wh), .fr (.bool E.dt), .fr (.int E.lf), .fr E.tt, .fr (.inst (wsI E.rS E.rW)), .fr (.int E.fa), .fr (.bool E.al)]
noncomputable abbrev fz (i : Nat) (ρ : Sc) : Sc := frz (sreads (vS i)) ρ
noncomputable abbrev vT12 (k : Nat) : D → Sc → (Fl → Sc → Prop) → Prop := fun d ρ' => wX 46 (vcx k) (upd ρ' (nm "j") (.fr d)) (forB (vS 12))
noncomputable abbrev S12 : Stmt := stmtAt (forB (vS 12)) 0
noncomputable abbrev v15i : Expr := xE (xE (lcE (vE 15)) 0) 0
noncomputable abbrev v26i : Expr := xE (xE (xE (vE 26) 0) 1) 0
section
variable {k : Nat} {E : En} {jj d du y : D} {wd : Slot} {i a b c : Int} {w : List D} {K : Fl → Sc → Prop} {KD : D → Prop} {KL : List D → Prop}
theorem v_6 : (Y (lenD (.lst E.rs)) fun y => Y (builtK .min [.int (Int.fmod E.x.a5 2), y]) fun f => Y (lenD (.lst E.rs)) fun z => Y (binD .Sub z f) fun z => Y (builtK .min [.int (Int.fmod (Int.fdiv E.x.a5 2) 2), z]) fun e =>
  Y (sliceD (.lst E.rs) none (some E.m) none) fun y => Y (callT k "_law_other" [y, .lst E.l, .int E.x.a6]) fun ot =>
  Y (subD (.str (nm "~a")) (.int (Int.fmod (Int.fdiv E.x.a7 4) 2))) fun p => Y (subD (.lst [.str (nm "<x"), .str (nm "x>")]) (.int (Int.fmod (Int.fdiv E.x.a7 8) 2))) fun n => Y (subD (.lst E.l) (.int (-1))) fun z => Y (rangeD [.int E.m]) fun ds =>
  wLoop (vT12 k) ds (lw [.fr E.s, .fr E.x.D, .fr (.int E.q), .fr (.lst E.l), .fr jj, .fr (.int E.m), .fr (.lst E.rs), .fr f, .fr e, .fr ot, .fr (.int (Int.fmod E.x.a7 4)), .fr p, .fr n, .fr (.bool (Int.fmod E.x.a8 2 == 1)), .ol [z, .int (1 + if E.x.a8 < 0 then -E.x.a8 else E.x.a8)], .ol [.lst []]]) (kSeq (fun ρ' => wX 47 (vcx k) ρ' (vB.drop 13) K) K)) =
  wX 54 (vcx k) (w6 E jj) (vB.drop 6) K := by kernel_rfl
theorem v_i12o {ws : List D} : KL ws = wI 43 (vcx k) (frz (sreads S12) (upd (w12 E jj (.ol ws)) (nm "j") (.fr d))) (lcIt (sE S12 0)) KL := by kernel_rfl
theorem v_i12f {ws : List D} : KL ws = wI 43 (vcx k) (frz (sreads S12) (upd (w12 E jj (.fr (.lst ws))) (nm "j") (.fr d))) (lcIt (sE S12 0)) KL := by kernel_rfl
theorem v_g12a (h : E.l = [.int a, .int b]) : (Y (binD .Add (.lst w) (.lst [.int a])) fun y => Y (binD .Add (.lst w) (.lst [.int b])) fun z => KL [y, z]) = wcOf 43 (vcx k) (frz (sreads S12) (upd (w12 E jj wd) (nm "j") (.fr d))) (sE S12 0) (.lst w) KL := by
  obtain ⟨s, x, q, l, m, rs, f, e, ot, b, p, n, pair, z0, z1, ws, wr, la, ts, es, cl, ps, pat, fr, he, wh, dt, lf, tt, rS, rW, fa, al⟩ := E
  cases h; kernel_rfl
theorem v_g12b (h : E.l = [.int a, .int b, .int c]) : (Y (binD .Add (.lst w) (.lst [.int a])) fun y => Y (binD .Add (.lst w) (.lst [.int b])) fun z => Y (binD .Add (.lst w) (.lst [.int c])) fun z2 => KL [y, z, z2]) = wcOf 43 (vcx k) (frz (sreads S12) (upd (w12 E jj wd) (nm "j") (.fr d))) (sE S12 0) (.lst w) KL := by
  obtain ⟨s, x, q, l, m, rs, f, e, ot, b, p, n, pair, z0, z1, ws, wr, la, ts, es, cl, ps, pat, fr, he, wh, dt, lf, tt, rS, rW, fa, al⟩ := E
  cases h; kernel_rfl
theorem v_i13 : (Y (subD (.lst E.l) (.int (-1))) fun y => Y (binD .Add y (.int 1)) fun y => Y (rangeD [y]) KL) = wI 44 (vcx k) (fz 13 (w16 E jj)) (lcIt (vE 13)) KL := by kernel_rfl
theorem v_g13 : (Y (binD .Mult (.str (nm " ")) (.int a)) fun y => Y (binD .Add (.str (nm "<")) y) fun y => Y (binD .Add y (.str (nm "\t>"))) fun y => Y (callT k "func_std_string" [.tup [.str (nm "~"), .int 0, y]]) fun y => KL [y]) = wcOf 44 (vcx k) (fz 13 (w16 E jj)) (vE 13) (.int a) KL := by kernel_rfl
theorem v_z13 : w17 E jj = upd (fz 13 (w16 E jj)) (nm "written") (asSl (vE 13) (.lst E.wr)) := by kernel_rfl
theorem v_14 : (Y (callT k "func_std_string" [.tup [.str E.p, .int E.b, .str E.n]]) KD) = wE 44 (vcx k) (fz 14 (w17 E jj)) (vE 14) KD := by kernel_rfl
theorem v_z14 : w18 E jj = upd (fz 14 (w17 E jj)) (nm "last") (asSl (vE 14) (.str E.la)) := by kernel_rfl
theorem v_i15 : KL E.ws = wI 42 (vcx k) (fz 15 (w18 E jj)) (lcIt (vE 15)) KL := by kernel_rfl
theorem v_g15 : (wLC 37 ((vcx k).inner (lcS (vE 15))) (upd (dropL (lcS (vE 15)) (fz 15 (w18 E jj))) (nm "word") (.fr (.lst w))) v15i w fun out => Cd (decide (out.length ≤ 1000000)) (Y (callM ((vcx k).inner (lcS (vE 15))) (nm "join") (.str (nm "")) [.lst out]) fun y => Y (binD .Add y (.str E.la)) fun y => KL [y])) = wcOf 42 (vcx k) (fz 15 (w18 E jj)) (vE 15) (.lst w) KL := by kernel_rfl
theorem v_g15i : (Y (subD (.lst E.wr) (.int a)) fun y => KL [y]) = wcOf 37 ((vcx k).inner (lcS (vE 15))) (upd (dropL (lcS (vE 15)) (fz 15 (w18 E jj))) (nm "word") (.fr (.lst w))) v15i (.int a) KL := by kernel_rfl
theorem v_z15 : w19 E jj = upd (fz 15 (w18 E jj)) (nm "texts") (asSl (vE 15) (.lst E.ts)) := by kernel_rfl
theorem v_i16 : KL E.ws = wI 41 (vcx k) (fz 16 (w19 E jj)) (lcIt (vE 16)) KL := by kernel_rfl
theorem v_g16 : (Y (callT k "_law_lead" [.lst w]) fun y => Y (binD .Mult (.str (nm " ")) (.int E.b)) fun z => Y (binD .Add y z) fun y => Y (binD .Add y (.str (nm "x \t"))) fun y => Y (callT k "_law_entry" [y, .lst [.int E.z0, .int E.z1], .bool E.pair]) fun y => KL [y]) = wcOf 41 (vcx k) (fz 16 (w19 E jj)) (vE 16) (.lst w) KL := by kernel_rfl
theorem v_z16 : w20 E jj = upd (fz 16 (w19 E jj)) (nm "entries") (asSl (vE 16) (.lst E.es)) := by kernel_rfl
theorem v_z17 : w21 E jj = upd (fz 17 (w20 E jj)) (nm "closing") (asSl (vE 17) (.str E.cl)) := by kernel_rfl
theorem v_i18 : KL E.rs = wI 39 (vcx k) (fz 18 (w21 E jj)) (lcIt (vE 18)) KL := by kernel_rfl
theorem v_g18 : (Y (binD .Mult (.str (nm " ")) (.int a)) fun y => Y (binD .Add (.str (nm "{")) y) fun y => Y (binD .Add y (.str (nm "\t}"))) fun y => KL [y]) = wcOf 39 (vcx k) (fz 18 (w21 E jj)) (vE 18) (.int a) KL := by kernel_rfl
theorem v_z18 : w22 E jj = upd (fz 18 (w21 E jj)) (nm "pieces") (asSl (vE 18) (.lst E.ps)) := by kernel_rfl
noncomputable def pS (i : Nat) : Str := if i = 0 then nm "~" else nm "a"
noncomputable def nL (i : Nat) : List Nat := if i = 0 then [60, 120] else [120, 62]
noncomputable def lastL (i b j : Nat) : List Nat := if i = 0 ∧ b = 0 then nL j else [if i = 0 then 126 else 97, 58, 48 + b, 40] ++ nL j ++ [41]
theorem tAnd {b1 b2 : Bool} {W1 W2 : (Bool → Prop) → Prop} {K : Bool → Prop} (A : ∀ K, Pf (K b1) → Pf (W1 K)) (B : ∀ K, Pf (K b2) → Pf (W2 K)) (h : Pf (K (b1 && b2))) : Pf (W1 fun x => If (x == (BoolOp.And == BoolOp.Or)) (K x) (W2 fun y => If (y == (BoolOp.And == BoolOp.Or)) (K y) (K (BoolOp.And == BoolOp.And)))) := by
  refine A _ ?_
  cases b1
  · exact h
  · refine B _ ?_
    cases b2 <;> exact h
theorem tOr {b1 b2 : Bool} {W1 W2 : (Bool → Prop) → Prop} {K : Bool → Prop} (A : ∀ K, Pf (K b1) → Pf (W1 K)) (B : ∀ K, Pf (K b2) → Pf (W2 K)) (h : Pf (K (b1 || b2))) : Pf (W1 fun x => If (x == (BoolOp.Or == BoolOp.Or)) (K x) (W2 fun y => If (y == (BoolOp.Or == BoolOp.Or)) (K y) (K (BoolOp.Or == BoolOp.And)))) := by
  refine A _ ?_
  cases b1
  · refine B _ ?_
    cases b2 <;> exact h
  · exact h
theorem Pf.bo {n : Nat} {cx : Cx} {ρ : Sc} {e : Expr} {op : BoolOp} {KB : Bool → Prop} (h1 : e = .BoolOp op [xE e 0, xE e 1] e.pos) (h : Pf (wT (n + 2) cx ρ (xE e 0) fun x => If (x == (op == BoolOp.Or)) (KB x) (wT (n + 1) cx ρ (xE e 1) fun y => If (y == (op == BoolOp.Or)) (KB y) (KB (op == BoolOp.And))))) : Pf (wT (n + 4) cx ρ e KB) :=
  Eq.mpr (congrArg (fun T => Pf (wT (n + 4) cx ρ T KB)) h1) h
theorem Pf.ifS {n : Nat} {cx : Cx} {ρ : Sc} {T : Stmt} {K : Fl → Sc → Prop} (h1 : T = .If (sE T 0) (thenB T) (elseB T) T.pos) (h : Pf (wT n cx (frz (sreads T) ρ) (sE T 0) fun x => If x (wX n cx (frz (sreads T) ρ) (thenB T) K) (wX n cx (frz (sreads T) ρ) (elseB T) K))) : Pf (wS (n + 1) cx ρ T K) :=
  Eq.mpr (congrArg (fun U => Pf (wS (n + 1) cx ρ U K)) h1) (Eq.mp (congrArg (fun U => Pf (wT n cx (frz (sreads U) ρ) (sE T 0) fun x => If x (wX n cx (frz (sreads U) ρ) (thenB T) K) (wX n cx (frz (sreads U) ρ) (elseB T) K))) h1) h)
noncomputable abbrev t17 : Expr := xE (vE 17) 0
theorem v_17a {KB : Bool → Prop} : KB (E.p == nm "~") = wT 38 (vcx k) (fz 17 (w20 E jj)) (xE t17 0) KB := by kernel_rfl
theorem v_17b {KB : Bool → Prop} : KB (E.b == 0) = wT 37 (vcx k) (fz 17 (w20 E jj)) (xE t17 1) KB := by kernel_rfl
theorem v_17n : KD (.str E.n) = wE 40 (vcx k) (fz 17 (w20 E jj)) (xE (vE 17) 1) KD := by kernel_rfl
theorem v_17p : (Y (binD .Add (.str E.p) (.str (nm ":"))) fun y => Y (builtK .str [.int E.b]) fun z => Y (binD .Add y z) fun y => Y (binD .Add y (.str (nm "("))) fun y => Y (binD .Add y (.str E.n)) fun y => Y (binD .Add y (.str (nm ")"))) KD) = wE 40 (vcx k) (fz 17 (w20 E jj)) (xE (vE 17) 2) KD := by kernel_rfl
theorem fss2 {i b j : Nat} (h1 : i = 0 ∨ i = 1) (h2 : b = 0 ∨ b = 1 ∨ b = 2 ∨ b = 3) (h3 : j = 0 ∨ j = 1) : callT (k + 1) "func_std_string" [.tup [.str (pS i), .int b, .str (S (nL j))]] = some (.str (S (lastL i b j))) := by
  rcases h1 with h1 | h1 <;> rcases h2 with h2 | h2 | h2 | h2 <;> rcases h3 with h3 | h3 <;> subst h1 <;> subst h2 <;> subst h3 <;> kernel_rfl
theorem last_tail {i b j : Nat} (h1 : i = 0 ∨ i = 1) (h2 : b = 0 ∨ b = 1 ∨ b = 2 ∨ b = 3) (h3 : j = 0 ∨ j = 1) : Tail (lastL i b j) := by
  rcases h1 with h1 | h1 <;> rcases h2 with h2 | h2 | h2 | h2 <;> rcases h3 with h3 | h3 <;> subst h1 <;> subst h2 <;> subst h3 <;> exact ⟨by decide, by decide, by decide, by decide, by decide⟩
theorem v_19 : (If (E.f != 0) (Y (callM (vcx k) (nm "join") (.str (nm "...")) [.lst E.ps]) fun y => Y (binD .Add (.str (nm "")) y) fun y => If (E.e != 0) (Y (binD .Add y (.str E.cl)) KD) (Y (binD .Add y (.str (nm "..."))) KD))
    (Y (callM (vcx k) (nm "join") (.str (nm "...")) [.lst E.ps]) fun y => Y (binD .Add (.str (nm "...")) y) fun y => If (E.e != 0) (Y (binD .Add y (.str E.cl)) KD) (Y (binD .Add y (.str (nm "..."))) KD))) = wE 39 (vcx k) (fz 19 (w22 E jj)) (vE 19) KD := by kernel_rfl
theorem v_z19 : w23 E jj = upd (fz 19 (w22 E jj)) (nm "pattern") (asSl (vE 19) (.str E.pat)) := by kernel_rfl
theorem v_20 : (Y (lenD (.lst E.rs)) fun n => Y (binD .Sub n (.int E.e)) fun y => Y (intOf y) fun i => Y (sliceD (.lst E.rs) (some E.f) (some i) none) fun x1 => Y (sliceD (.lst E.rs) none (some E.f) none) fun x2 => Y (lenD (.lst E.rs)) fun n => Y (binD .Sub n (.int E.e)) fun y => Y (intOf y) fun i => Y (sliceD (.lst E.rs) (some i) none none) fun x3 => Y (binD .Add x2 x3) fun x2 =>
    K .next (lw [.fr E.s, .fr E.x.D, .fr (.int E.q), .fr (.lst E.l), .fr jj, .fr (.int E.m), .fr (.lst E.rs), .fr (.int E.f), .fr (.int E.e), .fr (.lst E.ot), .fr (.int E.b), .fr (.str E.p), .fr (.str E.n), .fr (.bool E.pair), E.zF, E.wF, .fr (.lst E.wr), .fr (.str E.la), .fr (.lst E.ts), .fr (.lst E.es), .fr (.str E.cl), .fr (.lst E.ps), .fr (.str E.pat), toOwn x1, toOwn x2])) = wS 39 (vcx k) (w23 E jj) (vS 20) K := by kernel_rfl
theorem v_21 : (Y (callT k "_law_due" [.int (E.m - E.f - E.e), .lst E.l, .lst E.fr, .lst E.he, .int E.b, .lst [.int E.z0, .int E.z1], .bool E.pair]) fun y => K .next (w26 E jj y)) = wS 38 (vcx k) (w25 E jj) (vS 21) K := by kernel_rfl
theorem v_22 : (Y (callT k "_law_sum" [.str E.pat, .lst E.ts, .lst E.es]) fun y => Y (cmpD .NotEq y du) fun y => If y (K (.ret (.bool false)) (w26 E jj du)) (K .next (w26 E jj du))) = wS 37 (vcx k) (w26 E jj du) (vS 22) K := by kernel_rfl
theorem v_23 : (Y (lenD (.lst E.rs)) fun y => Y (binD .Sub (.int E.m) y) fun y => K .next (lw [.fr E.s, .fr E.x.D, .fr (.int E.q), .fr (.lst E.l), .fr jj, .fr (.int E.m), .fr (.lst E.rs), .fr (.int E.f), .fr (.int E.e), .fr (.lst E.ot), .fr (.int E.b), .fr (.str E.p), .fr (.str E.n), .fr (.bool E.pair), E.zF, E.wF, .fr (.lst E.wr), .fr (.str E.la), .fr (.lst E.ts), .fr (.lst E.es), .fr (.str E.cl), .fr (.lst E.ps), .fr (.str E.pat), .fr (.lst E.fr), .fr (.lst E.he), .fr (.tup [.int 0, .int 0, .int 0, .int 0, .dct []]), .fr (.bool (Int.fmod (Int.fdiv E.x.a8 2) 2 == 1)), .fr (.bool (Int.fmod (Int.fdiv E.x.a8 8) 2 == 1)), toOwn y])) = wS 36 (vcx k) (w26 E jj du) (vS 23) K := by kernel_rfl
noncomputable def cnd (wh dt re : Bool) (lf : Int) : Bool := (wh || dt && re) && (lf == 0 || dt && decide (0 < lf))
noncomputable abbrev t24 : Expr := sE (vS 24) 0
theorem v_241 {KB : Bool → Prop} : KB E.wh = wT 30 (vcx k) (fz 24 (w29 E jj du)) (xE (xE t24 0) 0) KB := by kernel_rfl
theorem v_242 {KB : Bool → Prop} : KB E.dt = wT 27 (vcx k) (fz 24 (w29 E jj du)) (xE (xE (xE t24 0) 1) 0) KB := by kernel_rfl
theorem v_243 {KB : Bool → Prop} : (Y (cmpD .Eq (.lst E.rs) (.lst [])) KB) = wT 26 (vcx k) (fz 24 (w29 E jj du)) (xE (xE (xE t24 0) 1) 1) KB := by kernel_rfl
theorem v_244 {KB : Bool → Prop} : KB (E.lf == 0) = wT 29 (vcx k) (fz 24 (w29 E jj du)) (xE (xE t24 1) 0) KB := by kernel_rfl
theorem v_245 {KB : Bool → Prop} : KB E.dt = wT 26 (vcx k) (fz 24 (w29 E jj du)) (xE (xE (xE t24 1) 1) 0) KB := by kernel_rfl
theorem v_246 {KB : Bool → Prop} : KB (decide (0 < E.lf)) = wT 25 (vcx k) (fz 24 (w29 E jj du)) (xE (xE (xE t24 1) 1) 1) KB := by kernel_rfl
theorem nil_cmp (l : List D) : cmpD .Eq (.lst l) (.lst []) = some l.isEmpty := by cases l <;> rfl
theorem v_24c {KB : Bool → Prop} (h : Pf (KB (cnd E.wh E.dt E.rs.isEmpty E.lf))) : Pf (wT 34 (vcx k) (fz 24 (w29 E jj du)) t24 KB) :=
  Pf.bo (op := .And) (by kernel_rfl) (tAnd (fun _ h => Pf.bo (op := .Or) (by kernel_rfl) (tOr (fun _ h => wcv v_241 h) (fun _ h => Pf.bo (op := .And) (by kernel_rfl) (tAnd (fun _ h => wcv v_242 h) (fun _ h => wcv v_243 (.y (nil_cmp _) h)) h)) h)) (fun _ h => Pf.bo (op := .Or) (by kernel_rfl) (tOr (fun _ h => wcv v_244 h) (fun _ h => Pf.bo (op := .And) (by kernel_rfl) (tAnd (fun _ h => wcv v_245 h) (fun _ h => wcv v_246 h) h)) h)) h)
theorem v_24y : (Y (callT k "_law_due" [.int E.lf, .lst E.l, .lst [], .lst E.rs, .int E.b, .lst [.int E.z0, .int E.z1], .bool E.pair]) fun y => K .next (w29 E jj y)) = wX 34 (vcx k) (fz 24 (w29 E jj du)) (thenB (vS 24)) K := by kernel_rfl
theorem v_24n : K .next (w29 E jj du) = wX 34 (vcx k) (fz 24 (w29 E jj du)) (elseB (vS 24)) K := by kernel_rfl
theorem v_25 : (If E.dt (Y (callM (vcx k) (nm "join") (.str (nm "")) [.lst E.ps]) fun y => Y (binD .Add (.str (nm "...")) y) fun y => If E.wh
    (Y (binD .Add y (.str E.cl)) fun y => Y (callT k "_law_sum" [y, .lst E.ts, .lst E.es]) fun y => Y (cmpD .NotEq y du) fun y => If y (K (.ret (.bool false)) (w29 E jj du)) (K .next (w29 E jj du)))
    (Y (binD .Add y (.str (nm ""))) fun y => Y (callT k "_law_sum" [y, .lst E.ts, .lst E.es]) fun y => Y (cmpD .NotEq y du) fun y => If y (K (.ret (.bool false)) (w29 E jj du)) (K .next (w29 E jj du))))
    (Y (callM (vcx k) (nm "join") (.str (nm "")) [.lst E.ps]) fun y => Y (binD .Add (.str (nm "")) y) fun y => If E.wh
    (Y (binD .Add y (.str E.cl)) fun y => Y (callT k "_law_sum" [y, .lst E.ts, .lst E.es]) fun y => Y (cmpD .NotEq y du) fun y => If y (K (.ret (.bool false)) (w29 E jj du)) (K .next (w29 E jj du)))
    (Y (binD .Add y (.str (nm ""))) fun y => Y (callT k "_law_sum" [y, .lst E.ts, .lst E.es]) fun y => Y (cmpD .NotEq y du) fun y => If y (K (.ret (.bool false)) (w29 E jj du)) (K .next (w29 E jj du))))) = wS 34 (vcx k) (w29 E jj du) (vS 25) K := by kernel_rfl
theorem v_26 : (wLC 26 (vcx k) (fz 26 (w29 E jj du)) v26i E.ot fun out => Cd (decide (out.length ≤ 1000000)) (Y (callM (vcx k) (nm "join") (.str (nm "")) [.lst out]) fun y => Y (binD .Add (.str (nm "...")) y) fun y => Y (callT k "_law_sum" [y, .lst E.ts, .lst E.es]) KD)) = wE 32 (vcx k) (fz 26 (w29 E jj du)) (vE 26) KD := by kernel_rfl
theorem v_g26 : (Y (binD .Mult (.str (nm " ")) (.int a)) fun y => Y (binD .Add (.str (nm "{")) y) fun y => Y (binD .Add y (.str (nm "	}..."))) fun y => KL [y]) = wcOf 26 (vcx k) (fz 26 (w29 E jj du)) v26i (.int a) KL := by kernel_rfl
theorem v_z26 : w30 E jj du = upd (fz 26 (w29 E jj du)) (nm "total") (asSl (vE 26) E.tt) := by kernel_rfl
theorem v_27 : (Y (callT k "_law_due" [.int E.m, .lst E.l, .lst E.ot, .lst [], .int E.b, .lst [.int E.z0, .int E.z1], .bool E.pair]) fun y => Y (cmpD .NotEq E.tt y) fun y => If y (K (.ret (.bool false)) (w30 E jj du)) (K .next (w30 E jj du))) = wS 32 (vcx k) (w30 E jj du) (vS 27) K := by kernel_rfl
theorem v_28 : (Y (callT k "_law_back" [E.tt, .int E.m, .lst E.l, .int E.z0, .bool E.pair]) fun y => Y (callT k "Whitespace" [y]) KD) = wE 30 (vcx k) (fz 28 (w30 E jj du)) (vE 28) KD := by kernel_rfl
theorem v_z28 : w31 E jj du = upd (fz 28 (w30 E jj du)) (nm "read") (asSl (vE 28) (.inst (wsI E.rS E.rW))) := by kernel_rfl
theorem v_29 : K .next (lw [.fr E.s, .fr E.x.D, .fr (.int E.q), .fr (.lst E.l), .fr jj, .fr (.int E.m), .fr (.lst E.rs), .fr (.int E.f), .fr (.int E.e), .fr (.lst E.ot), .fr (.int E.b), .fr (.str E.p), .fr (.str E.n), .fr (.bool E.pair), E.zF, E.wF, .fr (.lst E.wr), .fr (.str E.la), .fr (.lst E.ts), .fr (.lst E.es), .fr (.str E.cl), .fr (.lst E.ps), .fr (.str E.pat), .fr (.lst E.fr), .fr (.lst E.he), .fr du, .fr (.bool E.wh), .fr (.bool E.dt), .fr (.int E.lf), .fr E.tt, .fr (.inst (wsI E.rS E.rW)), .fr (.int (Int.fmod (Int.fdiv E.x.a8 4) 2))]) = wS 30 (vcx k) (w31 E jj du) (vS 29) K := by kernel_rfl
theorem v_30 : (Y (builtK .sorted [.lst E.rs]) fun y => Y (builtK .sorted [.lst E.ot]) fun y1 => Y (cmpD .Eq y y1) fun y => If (y == (BoolOp.And == BoolOp.Or)) (KD (.bool y)) (KD (.bool (E.fa == 0)))) = wE 28 (vcx k) (fz 30 (w32 E jj du)) (vE 30) KD := by kernel_rfl
theorem v_z30 : w33 E jj du = upd (fz 30 (w32 E jj du)) (nm "alike") (asSl (vE 30) (.bool E.al)) := by kernel_rfl
theorem v_31 : (Y (callT k "_law_lead" [.lst E.ot]) fun y => Y (binD .Mult (.str (nm " ")) (.int E.b)) fun z => Y (binD .Add y z) fun y => Y (binD .Add y (.str (nm "x"))) fun y => Y (callT k "Whitespace" [y]) fun y => Y (callT k "Whitespace.equal" [.inst (wsI E.rS E.rW), y]) fun y => Y (cmpD .IsNot y (.bool true)) fun y => If y (K (.ret (.bool false)) (w33 E jj du)) (K .next (w33 E jj du))) = wS 28 (vcx k) (w33 E jj du) (vS 31) K := by kernel_rfl
theorem v_32 : (Y (callT k "_law_lead" [.lst E.rs]) fun y => Y (binD .Mult (.str (nm " ")) (.int (E.b + E.fa))) fun z => Y (binD .Add y z) fun y => Y (callT k "Whitespace" [y]) fun y => Y (callT k "Whitespace.equal" [.inst (wsI E.rS E.rW), y]) fun y => Y (cmpD .Is y (.bool E.al)) fun y => K (.ret (.bool y)) (w33 E jj du)) = wS 27 (vcx k) (w33 E jj du) (vS 32) K := by kernel_rfl
end
end Mine
end

section
open PySem PySem.W PyProof.Rows
namespace Mine
theorem all1 : forAll (fun L m => (runsUpTo L (m + 1)).all (chk1 L m)) = true := by decide +kernel
end Mine
end

section
open PySem PySem.W PyProof.Rows
set_option tactic.hygienic false
namespace Mine
theorem pick_int (r : List Int) : ∀ is : List Nat, is.filterMap ((r.map D.int)[·]?) = (is.filterMap (r[·]?)).map D.int
  | [] => rfl
  | i :: is => by
    have e : (r.map D.int)[i]? = (r[i]?).map D.int := List.getElem?_map ..
    rw [List.filterMap_cons, List.filterMap_cons, e]
    cases r[i]? with
    | none => exact pick_int r is
    | some a => exact congrArg (D.int a :: ·) (pick_int r is)
theorem ints_int : ∀ l : List Int, intsOf (l.map D.int) = some l
  | [] => rfl
  | a :: l => by
    show (intOf (.int a)).bind (fun i => (intsOf (l.map D.int)).map (i :: ·)) = _
    rw [ints_int l]; rfl
theorem sl_plain {α : Type} (r : List α) (lo hi : Option Int) : (sliceIdx lo hi none r.length).filterMap (r[·]?) = (r.drop (lo.elim 0 (clipAt r.length))).take (hi.elim r.length (clipAt r.length) - lo.elim 0 (clipAt r.length)) := by
  unfold sliceIdx
  rw [sliceBounds_plain]
  have := pick_run r.toArray (lo.elim 0 (clipAt r.length)) (hi.elim r.length (clipAt r.length) - lo.elim 0 (clipAt r.length))
  rw [← sliceRange_one] at this
  simpa using this
theorem slice1 {r : List Int} (hl : r.length ≤ 1000) : ∃ z : List Int, z.length ≤ 1000 ∧ sliceD (.lsw (r.map .int)) none (some 63) none = some (.lst (z.map .int)) := by
  refine ⟨(sliceIdx none (some 63) none r.length).filterMap (r[·]?), ?_, ?_⟩
  · rw [sl_plain]; exact Nat.le_trans (List.length_take_le' _ _) (by rw [List.length_drop]; omega)
  · have e : sliceD (.lsw (r.map .int)) none (some 63) none = if (none : Option Int) ≠ some 0 ∧ (r.map D.int).length ≤ 1000000 then some (.lst ((sliceIdx none (some 63) none (r.map D.int).length).filterMap ((r.map D.int)[·]?))) else none := rfl
    rw [e, if_pos ⟨by decide, by rw [List.length_map]; omega⟩, List.length_map, pick_int]
theorem slice2 {r : List Int} {i : Int} (hl : r.length ≤ 1000) : ∃ z : List Int, sliceD (.lst (r.map .int)) (some i) none (some 9) = some (.lst (z.map .int)) := by
  refine ⟨(sliceIdx (some i) none (some 9) r.length).filterMap (r[·]?), ?_⟩
  have e : sliceD (.lst (r.map .int)) (some i) none (some 9) = if (some 9 : Option Int) ≠ some 0 ∧ (r.map D.int).length ≤ 1000000 then some (.lst ((sliceIdx (some i) none (some 9) (r.map D.int).length).filterMap ((r.map D.int)[·]?))) else none := rfl
  rw [e, if_pos ⟨by decide, by rw [List.length_map]; omega⟩, List.length_map, pick_int]
theorem ys_ints : ∀ {ys : List D}, (∀ y ∈ ys, ∃ i, y = D.int i) → ∃ zs : List Int, ys = zs.map .int
  | [], _ => ⟨[], rfl⟩
  | y :: ys, h => by
    (refine xe1_1 (h y List.mem_cons_self) ?_; intro i hq1; rcases hq1 with rfl)
    (refine xe1_1 (ys_ints fun z hz => h z (List.mem_cons_of_mem _ hz)) ?_; intro zs hq1; rcases hq1 with rfl)
    exact ⟨i :: zs, rfl⟩
theorem ys_nats {L : List Nat} : ∀ {ys : List D}, (∀ y ∈ ys, ∃ a ∈ L, y = D.int (a : Nat)) → ∃ zs : List Nat, ys = nD zs ∧ ∀ a ∈ zs, a ∈ L
  | [], _ => ⟨[], rfl, fun _ h => nomatch h⟩
  | y :: ys, h => by
    (refine xe1_2 (h y List.mem_cons_self) ?_; intro a ha hq2; rcases hq2 with rfl)
    (refine xe1_2 (ys_nats fun z hz => h z (List.mem_cons_of_mem _ hz)) ?_; intro zs hq1; rcases hq1 with rfl; intro hz)
    exact ⟨a :: zs, rfl, fun b hb => (List.mem_cons.mp hb).elim (fun e => e ▸ ha) (hz b)⟩
section
variable {k : Nat} {ns : List Int} {K : Fl → Sc → Prop}
theorem r0 (hn : ns.length ≤ 63) (h : ∀ x : Dr, Pf (wX 59 (vcx k) (lw [.fr (.lsw (ns.map .int)), .fr x.D]) (vB.drop 1) K)) : Pf (wX 60 (vcx k) (lw [.fr (.lsw (ns.map .int))]) vB K) := by
  refine .st 0 (by decide +kernel) (.asg (x := nm "d") (by kernel_rfl) (by kernel_rfl) (.lc (by kernel_rfl) (wcv v_i0 (.y (range1 (b := 9) (by decide)) (.compE (P := fun y => ∃ i, y = .int i) _ (by kernel_rfl) (fun d hd => ?_) fun ys h1 h2 => .cd (decide_eq_true (by rw [h1]; decide)) (.seq (.sc v_z0 ?_)))))))
  · (refine xe1_2 (List.mem_map.mp hd) ?_; intro j hj hq2; rcases hq2 with rfl)
    have hj' := List.mem_range.mp hj
    (refine xe1_2 (slice1 (r := ns) (by omega)) ?_; intro z1 hz e1)
    (refine xe1_1 (slice2 (r := z1) (i := j) hz) ?_; intro z2 e2)
    obtain ⟨a, e0⟩ : ∃ a : Int, subD (.lst ([2, 1, 2, 2, 4, 0, 12, 5, 2].map D.int)) (.int (j : Int)) = some (.int a) :=
      ⟨_, by rw [sub_lst, item_nat hj' (by decide), List.getElem?_map, List.getElem?_eq_getElem (show j < ([2, 1, 2, 2, 4, 0, 12, 5, 2] : List Int).length from hj')]; rfl⟩
    refine ⟨.int (a + z2.sum), ⟨_, rfl⟩, fun K' h => wcv v_g0 (.y e0 (.y e1 (.y e2 (.y (a := .int z2.sum) ?_ (.y (addZ _ _) h)))))⟩
    show (intsOf (z2.map .int)).map (fun ns => D.int ns.sum) = _
    rw [ints_int]; rfl
  · (refine xe1_1 (ys_ints h2) ?_; intro zs hq1; rcases hq1 with rfl)
    have h9 : zs.length = 9 := by simpa using h1
    have e : zs = (List.range 9).map fun i => (zs[i]?).getD 0 := by
      refine List.ext_getElem? fun i => ?_
      rw [List.getElem?_map]
      by_cases q : i < 9
      · have hz : i < zs.length := by rw [h9]; exact q
        rw [List.getElem?_range q, List.getElem?_eq_getElem hz]; exact congrArg some (congrArg (·.getD 0) (List.getElem?_eq_getElem hz)).symm
      · rw [List.getElem?_eq_none (by rw [h9]; exact Nat.le_of_not_lt q), List.getElem?_eq_none (by rw [List.length_range]; exact Nat.le_of_not_lt q)]; rfl
    rw [e]
    exact h ⟨(zs[0]?).getD 0, (zs[1]?).getD 0, (zs[2]?).getD 0, (zs[3]?).getD 0, (zs[4]?).getD 0, (zs[5]?).getD 0, (zs[6]?).getD 0, (zs[7]?).getD 0, (zs[8]?).getD 0⟩
theorem last_at {l : List Nat} {z : Nat} : subD (.lst (nD (l ++ [z]))) (.int (-1)) = some (.int z) := by
  rw [show nD (l ++ [z]) = nD l ++ [.int z] by unfold nD; rw [List.map_append]; rfl]
  exact sub_last
theorem t3 {s : D} {x : Dr} {q : Int} {o : Option Slot} {l : List Nat} {z j : Nat} (hl : l.length ≤ 10) (hj : j = 1 ∨ j = 2) (h : ∀ c, c < 2 → Pf (K .next (lw [.fr s, .fr x.D, .fr (.int q), .ol (nD (l ++ [z] ++ [z + 1 + c])), .fr (.int j)]))) :
    Pf (vT3 k (.int j) (lw ([.fr s, .fr x.D, .fr (.int q), .ol (nD (l ++ [z]))] ++ o.toList)) K) := by
  have hp : ∃ p : Nat, 0 < p ∧ p ≤ 4 ∧ binD .Pow (.int 2) (.int j) = some (.int p) := by
    rcases hj with rfl | rfl
    · exact ⟨2, by decide, by decide, rfl⟩
    · exact ⟨4, by decide, by decide, rfl⟩
  (refine xe1_3 hp ?_; (try clear hp); intro p p0 p4 ep)
  (refine xe1_2 (mod_nat (Int.fdiv (Int.fdiv x.a1 3) p) (n := 2) (by decide)) ?_; intro c hc ec)
  refine wcv v_t3 (.y last_at (.y (addZ _ _) (.y (fdivZ (by decide) (.inr (by decide))) (.y ep (.y (fdivZ (by omega) (.inr (by omega))) (.y ec (.y (addZ _ _) (.y (a := .ol (nD (l ++ [z] ++ [z + 1 + c]))) ?_ (h c hc)))))))))
  have e : nD (l ++ [z] ++ [z + 1 + c]) = nD (l ++ [z]) ++ [.int ((z : Int) + 1 + c)] := by
    unfold nD; rw [List.map_append]; rfl
  rw [e]
  exact if_pos (by rw [nD_len, List.length_append]; show l.length + 1 ≤ _; omega)
theorem r3 {s : D} {x : Dr} (h : ∀ (L : List Nat) (jj : D), L ∈ LL → Pf (wX 56 (vcx k) (lw [.fr s, .fr x.D, .fr (.int L.length), .ol (nD L), .fr jj]) (vB.drop 4) K)) : Pf (wX 59 (vcx k) (lw [.fr s, .fr x.D]) (vB.drop 1) K) := by
  refine wcv v_1 ?_
  (refine xe1_2 (fm_nat x.a0 (n := 2) (by decide)) ?_; intro i e hi)
  (refine xe1_2 (fm_nat x.a1 (n := 3) (by decide)) ?_; intro a e' ha)
  rw [show Int.fmod x.a0 2 = i from e, show Int.fmod x.a1 3 = a from e']
  have ha3 : a = 0 ∨ a = 1 ∨ a = 2 := by omega
  refine wcv v_3 ?_
  have hi2 : i = 0 ∨ i = 1 := by omega
  have LL2 : ∀ c, c < 2 → [a, a + 1 + c] ∈ LL := fun c hc => by
    have : c = 0 ∨ c = 1 := by omega
    rcases ha3 with rfl | rfl | rfl <;> rcases this with rfl | rfl <;> decide
  have LL3 : ∀ c, c < 2 → ∀ d, d < 2 → [a, a + 1 + c, a + 1 + c + 1 + d] ∈ LL := fun c hc d hd => by
    have h1 : c = 0 ∨ c = 1 := by omega
    have h2 : d = 0 ∨ d = 1 := by omega
    rcases ha3 with rfl | rfl | rfl <;> rcases h1 with rfl | rfl <;> rcases h2 with rfl | rfl <;> decide
  rcases hi2 with rfl | rfl
  · refine .y (a := [.int (1 : Nat)]) rfl (.turn ?_)
    exact t3 (o := none) (l := []) (z := a) (j := 1) (Nat.zero_le _) (.inl rfl) fun c hc => .next (.stop (.seq (h [a, a + 1 + c] _ (LL2 c hc))))
  · refine .y (a := [.int (1 : Nat), .int (2 : Nat)]) rfl (.turn ?_)
    refine t3 (o := none) (l := []) (z := a) (j := 1) (Nat.zero_le _) (.inl rfl) fun c hc => .next (.turn ?_)
    exact t3 (o := some (.fr (.int (1 : Nat)))) (l := [a]) (z := a + 1 + c) (j := 2) (by show 1 ≤ 10; decide) (.inr rfl) fun d hd => .next (.stop (.seq (h [a, a + 1 + c, a + 1 + c + 1 + d] _ (LL3 c hc d hd))))
theorem LL_len {L : List Nat} (h : L ∈ LL) : L.length = 2 ∨ L.length = 3 := by
  have : ∀ L ∈ LL, L.length = 2 ∨ L.length = 3 := by decide
  exact this L h
theorem pow_q {q j : Nat} (hq : q = 2 ∨ q = 3) (hj : j ≤ 3) : ∃ p : Nat, 0 < p ∧ p ≤ 27 ∧ binD .Pow (.int q) (.int j) = some (.int p) := by
  have : j = 0 ∨ j = 1 ∨ j = 2 ∨ j = 3 := by omega
  rcases hq with rfl | rfl <;> rcases this with rfl | rfl | rfl | rfl
  · exact ⟨1, by decide, by decide, rfl⟩
  · exact ⟨2, by decide, by decide, rfl⟩
  · exact ⟨4, by decide, by decide, rfl⟩
  · exact ⟨8, by decide, by decide, rfl⟩
  · exact ⟨1, by decide, by decide, rfl⟩
  · exact ⟨3, by decide, by decide, rfl⟩
  · exact ⟨9, by decide, by decide, rfl⟩
  · exact ⟨27, by decide, by decide, rfl⟩
theorem r5 {s jj : D} {x : Dr} {L : List Nat} (hL : L ∈ LL) (h : ∀ (m : Nat) (R : List Nat), 1 ≤ m → m + L.length ≤ 5 → R.length ≤ m + 1 → (∀ a ∈ R, a ∈ L) → Pf (wX 54 (vcx k) (lw [.fr s, .fr x.D, .fr (.int L.length), .fr (.lst (nD L)), .fr jj, .fr (.int m), .fr (.lst (nD R))]) (vB.drop 6) K)) :
    Pf (wX 56 (vcx k) (lw [.fr s, .fr x.D, .fr (.int L.length), .ol (nD L), .fr jj]) (vB.drop 4) K) := by
  have hq := LL_len hL
  (refine xe1_2 (mod_nat x.a2 (n := 5 - L.length) (by omega)) ?_; intro i hi ei)
  refine wcv v_4 (.y (a := .int i) ?_ (.y (a := .int ((1 + i : Nat) : Int)) ?_ ?_))
  · rw [← ei]; congr 2; omega
  · exact congrArg (fun z => some (D.int z)) (by omega : (1 : Int) + i = ((1 + i : Nat) : Int))
  generalize hm : 1 + i = m
  (refine xe1_2 (mod_nat x.a3 (n := m + 2) (by omega)) ?_; intro c hc ec)
  refine .st 5 (by decide +kernel) (.asg (x := nm "runs") (by kernel_rfl) (by kernel_rfl) (.lc (by kernel_rfl) (wcv (v_i5 (m := m)) (.y (a := .int c) (by rw [← ec]; rfl) (.y (range1 (by omega)) (.compE (P := fun y => ∃ a ∈ L, y = .int (a : Nat)) _ (by kernel_rfl) (fun d hd => ?_) fun ys h1 h2 => ?_))))))
  · (refine xe1_2 (List.mem_map.mp hd) ?_; intro j hj hq2; rcases hq2 with rfl)
    have hj' := List.mem_range.mp hj
    (refine xe1_3 (pow_q (j := j) hq (by omega)) ?_; intro p p0 p1 ep)
    (refine xe1_2 (mod_nat (Int.fdiv x.a4 p) (n := L.length) (by omega)) ?_; intro y hy ey)
    exact ⟨.int (L[y] : Nat), ⟨_, List.getElem_mem hy, rfl⟩, fun K' hK => wcv v_g5 (.y ep (.y (fdivZ (by omega) (.inr (by omega))) (.y ey (.y (nD_at (List.getElem?_eq_getElem hy) (by omega)) hK))))⟩
  · rw [List.length_map, List.length_range] at h1
    (refine xe1_2 (ys_nats h2) ?_; intro R hq1; rcases hq1 with rfl; intro hR)
    rw [nD_len] at h1
    exact .cd (decide_eq_true (by rw [nD_len]; omega)) (.seq (.sc v_z5 (h m R (by omega) (by omega) (by omega) hR)))
end
end Mine
end

section
open PySem PySem.W PyProof.Rows
set_option tactic.hygienic false
namespace Mine
structure Par where
  s : D
  x : Dr
  L : List Nat
  R : List Nat
  o : List Nat
  m : Nat
  b : Nat
  i : Nat
  j : Nat
  s0 : Nat
  s1 : Nat
  bF : Bool
  cE : Bool
  pair : Bool
  wh : Bool
  dt : Bool
  fa : Nat
  C : CT
namespace Par
variable (p : Par)
noncomputable def l : List Nat := lastL p.i p.b p.j
noncomputable def f : Nat := frontB p.bF p.R
noncomputable def e : Nat := endB p.bF p.cE p.R
noncomputable def fr : List Nat := (p.R.drop p.f).take (p.R.length - p.f - p.e)
noncomputable def he : List Nat := p.R.take p.f ++ p.R.drop (p.R.length - p.e)
noncomputable def mid : List (Option Nat) := if p.R.isEmpty then [none] else p.fr.map some
noncomputable def pat : List Nat := joinD (toksL (p.R.take p.f) :: (p.mid.map segL ++ [toksL (p.R.drop (p.R.length - p.e)) ++ if p.e == 1 then p.l else []]))
noncomputable def W : List (List Nat) := wordsN p.L p.m
noncomputable def W3 : List (List Nat) := p.W.filter (matchT [] (p.o.map some) [] false)
noncomputable def back : List Nat := p.L.flatMap fun a => List.replicate (p.o.count a) a
noncomputable def ts : List D := p.W.map fun w => .str (txt p.l w)
noncomputable def es : List D := p.W.map fun w => (entT p.s0 p.s1 p.b w).d p.pair
noncomputable def sum (M : List (List Nat)) (C : CT) : D := (sumR p.L p.m p.b p.s0 p.s1 M C).d p.pair
noncomputable def E : En where
  s := p.s
  x := p.x
  q := p.L.length
  l := nD p.L
  m := p.m
  rs := nD p.R
  f := p.f
  e := p.e
  ot := nD p.o
  b := p.b
  p := pS p.i
  n := S (nL p.j)
  pair := p.pair
  z0 := p.s0
  z1 := p.s1
  ws := p.W.map fun w => .lst (nD w)
  wr := (List.range (p.s0 + 1)).map fun a => .str (tokS a)
  la := S p.l
  ts := p.ts
  es := p.es
  cl := S p.l
  ps := p.R.map fun a => .str (tokS a)
  pat := S p.pat
  fr := nD p.fr
  he := nD p.he
  wh := p.wh
  dt := p.dt
  lf := (p.m : Int) - p.R.length
  tt := p.sum p.W3 p.C
  rS := S (leadL p.back ++ List.replicate p.b 32)
  rW := ⟨normC p.back, p.b, 0 + (leadL p.back).length + p.b, p.back.length⟩
  fa := p.fa
  al := decide (p.R.Perm p.o) && p.fa == 0
end Par
noncomputable def pat3 (o : List Nat) : List Nat := joinD ([] :: ((o.map some).map segL ++ [[]]))
structure Fit (k : Nat) (p : Par) : Prop where
  L : p.L ∈ LL
  m : 1 ≤ p.m
  m5 : p.m + p.L.length ≤ 5
  R : p.R.length ≤ p.m + 1
  RL : ∀ a ∈ p.R, a ∈ p.L
  o : p.o.length ≤ p.m
  oL : ∀ a ∈ p.o, a ∈ p.L
  oc : callT k "_law_other" [.lst (nD (p.R.take p.m)), .lst (nD p.L), .int p.E.x.a6] = some (.lst (nD p.o))
  b : p.b = 0 ∨ p.b = 1 ∨ p.b = 2 ∨ p.b = 3
  i : p.i = 0 ∨ p.i = 1
  j : p.j = 0 ∨ p.j = 1
  s0 : p.s0 = p.L.getLastD 0
  s1 : 0 < p.s1
  fa : p.fa = 0 ∨ p.fa = 1
  a5 : Int.fmod p.E.x.a5 2 = (p.bF.toNat : Nat)
  a5' : Int.fmod (Int.fdiv p.E.x.a5 2) 2 = (p.cE.toNat : Nat)
  a7 : Int.fmod p.E.x.a7 4 = p.E.b
  a7i : Int.fmod (Int.fdiv p.E.x.a7 4) 2 = (p.i : Nat)
  a7j : Int.fmod (Int.fdiv p.E.x.a7 8) 2 = (p.j : Nat)
  a8 : (Int.fmod p.E.x.a8 2 == 1) = p.E.pair
  a8s : 1 + (if p.E.x.a8 < 0 then -p.E.x.a8 else p.E.x.a8) = p.E.z1
  a8w : (Int.fmod (Int.fdiv p.E.x.a8 2) 2 == 1) = p.E.wh
  a8d : (Int.fmod (Int.fdiv p.E.x.a8 8) 2 == 1) = p.E.dt
  a8f : Int.fmod (Int.fdiv p.E.x.a8 4) 2 = p.E.fa
  C : Cnt p.C (tot · p.W3)
  c3 : callT k "_law_sum" [sD (pat3 p.o), .lst p.ts, .lst p.es] = some (p.sum p.W3 p.C)
theorem Pf.compM {α : Type} {n : Nat} {c : Cx} {ρ : Sc} {e : Expr} {φ ψ : α → D} {K : List D → Prop} (A : List α) (ho : lcOk e = true) (hf : ∀ a ∈ A, ∀ K', Pf (K' [ψ a]) → Pf (wcOf n c ρ e (φ a) K')) (h : Pf (K (A.map ψ))) : Pf (wLC n c ρ e (A.map φ) K) := by
  refine ⟨wLC_of ho ?_⟩
  have : ∀ (A : List α) (K : List D → Prop), (∀ a ∈ A, ∀ K', Pf (K' [ψ a]) → Pf (wcOf n c ρ e (φ a) K')) → Pf (K (A.map ψ)) → wGather (wcOf n c ρ e) (A.map φ) K := fun A => by
    induction A with
    | nil => intro K _ h; exact h.h
    | cons a r ih => intro K hf h; exact (hf a List.mem_cons_self (fun x => wGather (wcOf n c ρ e) (r.map φ) fun y => K (x ++ y)) ⟨ih (fun y => K ([ψ a] ++ y)) (fun b hb => hf b (List.mem_cons_of_mem _ hb)) h⟩).h
  exact this A K hf h
theorem lt2 {n : Nat} (h : n < 2) : n = 0 ∨ n = 1 := by omega
theorem lt4 {n : Nat} (h : n < 4) : n = 0 ∨ n = 1 ∨ n = 2 ∨ n = 3 := by omega
theorem cut_len {α : Type} (r : List α) (a b : Nat) : ((r.drop a).take b).length ≤ r.length := Nat.le_trans (List.length_take_le' _ _) (by rw [List.length_drop]; exact Nat.sub_le _ _)
theorem len_nD {l : List Nat} (h : l.length ≤ 1000) : lenD (.lst (nD l)) = some (.int l.length) := by rw [len_lst (by rw [nD_len]; omega), nD_len]
theorem min_nat (a b : Nat) : builtK .min [.int a, .int b] = some (.int (min a b : Nat)) := by
  show some (D.int (if (b : Int) < a then (b : Int) else a)) = _
  congr 2; split <;> omega
theorem front_is (b : Bool) (R : List Nat) : min b.toNat R.length = frontB b R := by
  cases b <;> cases R <;> simp [frontB] <;> omega
theorem end_is (b c : Bool) (R : List Nat) : min c.toNat (R.length - frontB b R) = endB b c R := by
  unfold endB
  cases c
  · simp
  · by_cases h : frontB b R < R.length
    · rw [decide_eq_true h]; simp; omega
    · rw [decide_eq_false h]; simp; omega
theorem front_le (b : Bool) (R : List Nat) : frontB b R ≤ R.length := by rw [← front_is]; exact Nat.min_le_right _ _
theorem end_le (b c : Bool) (R : List Nat) : endB b c R + frontB b R ≤ R.length := by
  have := front_le b R
  rw [← end_is]; omega
theorem front_1 (b : Bool) (R : List Nat) : frontB b R ≤ 1 := by rw [← front_is]; cases b <;> simp <;> omega
theorem end_1 (b c : Bool) (R : List Nat) : endB b c R ≤ 1 := by rw [← end_is]; cases c <;> simp <;> omega
theorem sl_take {r : List Nat} (n : Nat) (hl : r.length ≤ 1000) : sliceD (.lst (nD r)) none (some n) none = some (.lst (nD (r.take n))) := by
  rw [slice_nD (by decide) hl, sl_plain]
  show some (D.lst (nD ((r.drop 0).take (clipAt r.length n - 0)))) = _
  rw [clipAt_nat, List.drop_zero, Nat.sub_zero]
  congr 3
  rcases Nat.le_total n r.length with h | h
  · rw [Nat.min_eq_left h]
  · rw [Nat.min_eq_right h, List.take_length, List.take_of_length_le h]
theorem sl_drop {r : List Nat} (n : Nat) (hl : r.length ≤ 1000) : sliceD (.lst (nD r)) (some n) none none = some (.lst (nD (r.drop n))) := by
  rw [slice_nD (by decide) hl, sl_plain]
  show some (D.lst (nD ((r.drop (clipAt r.length n)).take (r.length - clipAt r.length n)))) = _
  rw [clipAt_nat]
  congr 3
  rcases Nat.le_total n r.length with h | h
  · rw [Nat.min_eq_left h, List.take_of_length_le (by rw [List.length_drop]; omega)]
  · rw [Nat.min_eq_right h, Nat.sub_self, List.take_zero, List.drop_of_length_le h]
theorem sl_mid {r : List Nat} {a n : Nat} (hl : r.length ≤ 1000) (ha : a ≤ r.length) (hn : n ≤ r.length) : sliceD (.lst (nD r)) (some a) (some n) none = some (.lst (nD ((r.drop a).take (n - a)))) := by
  rw [slice_nD (by decide) hl, sl_plain]
  show some (D.lst (nD ((r.drop (clipAt r.length a)).take (clipAt r.length n - clipAt r.length a)))) = _
  rw [clipAt_nat, clipAt_nat, Nat.min_eq_left ha, Nat.min_eq_left hn]
theorem path_at {i : Nat} (h : i = 0 ∨ i = 1) : subD (.str (nm "~a")) (.int i) = some (.str (pS i)) := by rcases h with rfl | rfl <;> rfl
theorem name_at {j : Nat} (h : j = 0 ∨ j = 1) : subD (.lst [.str (nm "<x"), .str (nm "x>")]) (.int j) = some (.str (S (nL j))) := by rcases h with rfl | rfl <;> rfl
theorem LL_ne {L : List Nat} (h : L ∈ LL) : L ≠ [] := fun e => by have := LL_len h; rw [e] at this; simp at this
theorem last_L {L : List Nat} (h : L ≠ []) : subD (.lst (nD L)) (.int (-1)) = some (.int (L.getLastD 0 : Nat)) := by
  have e : L = L.dropLast ++ [L.getLastD 0] := by
    conv => lhs; rw [← List.dropLast_concat_getLast h]
    congr 2
    cases L with
    | nil => exact absurd rfl h
    | cons a r => rw [List.getLastD_cons]; simp [List.getLast_eq_getLastD]
  conv => lhs; rw [e]
  exact last_at
theorem LL_facts {L : List Nat} (h : L ∈ LL) : L.Nodup ∧ (∀ a ∈ L, a ≤ 6) ∧ 0 < L.getLastD 0 ∧ L.getLastD 0 ≤ 6 ∧ ∀ a ∈ L, a ≤ L.getLastD 0 := by
  have : ∀ L ∈ LL, L.Nodup ∧ (∀ a ∈ L, a ≤ 6) ∧ 0 < L.getLastD 0 ∧ L.getLastD 0 ≤ 6 ∧ ∀ a ∈ L, a ≤ L.getLastD 0 := by decide +kernel
  exact this L h
section
variable {k : Nat} {p : Par} (h : Fit k p)
include h
theorem Fit.ok : Okp p.L p.m p.b p.s0 p.s1 p.l := by
  (refine xe0_5 (LL_facts h.L) ?_; intro h1 h2 h3 h4 h5)
  exact ⟨h1, LL_len h.L, h2, h.m5, by have := h.b; omega, by rw [h.s0]; exact h3, h.s1, last_tail h.i h.b h.j⟩
theorem Fit.q : p.L.length = 2 ∨ p.L.length = 3 := LL_len h.L
theorem Fit.R4 : p.R.length ≤ 4 := by have := h.R; have := h.m5; have := h.q; omega
theorem Fit.m3 : p.m ≤ 3 := by have := h.m5; have := h.q; omega
theorem Fit.Ra : ∀ a ∈ p.R, a ≤ 6 := fun a ha => h.ok.le a (h.RL a ha)
theorem Fit.oa : ∀ a ∈ p.o, a ≤ 6 := fun a ha => h.ok.le a (h.oL a ha)
theorem Fit.Wf : ∀ w ∈ p.W, w.length = p.m ∧ ∀ a ∈ w, a ∈ p.L := fun w hw => words_mem hw
theorem Fit.W10 : p.W.length ≤ 10 := h.ok.few
end
end Mine
end

section
open PySem PySem.W PyProof.Rows
set_option tactic.hygienic false
namespace Mine
theorem v_nil {k : Nat} {ρ : Sc} {K : Fl → Sc → Prop} : K .next ρ = wX 45 (vcx k) ρ ((forB (vS 12)).drop 1) K := by kernel_rfl
theorem v_z12 {E : En} {jj d y : D} {wd : Slot} : w12 E d (.fr y) = upd (frz (sreads S12) (upd (w12 E jj wd) (nm "j") (.fr d))) (nm "words") (asSl (sE S12 0) y) := by kernel_rfl
noncomputable def wG (L : List Nat) (w : List Nat) : List D := L.map fun a => .lst (nD (w ++ [a]))
theorem Pf.flatM {α : Type} {n : Nat} {c : Cx} {ρ : Sc} {e : Expr} {φ : α → D} {ψ : α → List D} {K : List D → Prop} (A : List α) (ho : lcOk e = true) (hf : ∀ a ∈ A, ∀ K', Pf (K' (ψ a)) → Pf (wcOf n c ρ e (φ a) K')) (h : Pf (K (A.flatMap ψ))) : Pf (wLC n c ρ e (A.map φ) K) := by
  refine ⟨wLC_of ho ?_⟩
  have : ∀ (A : List α) (K : List D → Prop), (∀ a ∈ A, ∀ K', Pf (K' (ψ a)) → Pf (wcOf n c ρ e (φ a) K')) → Pf (K (A.flatMap ψ)) → wGather (wcOf n c ρ e) (A.map φ) K := fun A => by
    induction A with
    | nil => intro K _ h; exact h.h
    | cons a r ih => intro K hf h; exact (hf a List.mem_cons_self (fun x => wGather (wcOf n c ρ e) (r.map φ) fun y => K (x ++ y)) ⟨ih (fun y => K (ψ a ++ y)) (fun b hb => hf b (List.mem_cons_of_mem _ hb)) h⟩).h
  exact this A K hf h
theorem wG_words (L : List Nat) (t : Nat) : (wordsN L t).flatMap (wG L) = (wordsN L (t + 1)).map fun w => .lst (nD w) := by
  show _ = ((wordsN L t).flatMap fun w => L.map fun a => w ++ [a]).map _
  rw [List.map_flatMap]
  congr 1; funext w
  unfold wG; rw [List.map_map]; rfl
theorem add_one {w : List Nat} {a : Nat} (h : w.length ≤ 100) : binD .Add (.lst (nD w)) (.lst [.int a]) = some (.lst (nD (w ++ [a]))) := by
  rw [add_lst (by rw [nD_len]; show w.length + 1 ≤ _; omega)]
  unfold nD; rw [List.map_append]; rfl
theorem words_few {L : List Nat} {m : Nat} (hq : L.length = 2 ∨ L.length = 3) (hm : m ≤ 4) : (wordsN L m).length ≤ 81 := by
  rw [words_len]
  rcases hq with q | q <;> rw [q]
  · exact Nat.le_trans (Nat.pow_le_pow_right (by decide) hm) (by decide)
  · exact Nat.le_trans (Nat.pow_le_pow_right (by decide) hm) (by decide)
section
variable {k : Nat} {p : Par} (h : Fit k p) {jj : D} {K : Fl → Sc → Prop}
include h
theorem w_words {ws : List (List Nat)} {ρ : Sc} (hw : ∀ w ∈ ws, w.length ≤ 10) (hρ : ∀ {KL : List D → Prop} {w : List D} {a b : Int}, p.E.l = [.int a, .int b] → (Y (binD .Add (.lst w) (.lst [.int a])) fun y => Y (binD .Add (.lst w) (.lst [.int b])) fun z => KL [y, z]) = wcOf 43 (vcx k) ρ (sE S12 0) (.lst w) KL)
    (hρ' : ∀ {KL : List D → Prop} {w : List D} {a b c : Int}, p.E.l = [.int a, .int b, .int c] → (Y (binD .Add (.lst w) (.lst [.int a])) fun y => Y (binD .Add (.lst w) (.lst [.int b])) fun z => Y (binD .Add (.lst w) (.lst [.int c])) fun z2 => KL [y, z, z2]) = wcOf 43 (vcx k) ρ (sE S12 0) (.lst w) KL) {KL : List D → Prop} (hK : Pf (KL (ws.flatMap (wG p.L)))) :
    Pf (wLC 43 (vcx k) ρ (sE S12 0) (ws.map fun w => .lst (nD w)) KL) := by
  refine .flatM ws (by kernel_rfl) (fun w hm K' hK' => ?_) hK
  have hl := hw w hm
  rcases h.q with q | q
  · match hL : p.L, q with
    | [a, b], _ =>
      rw [hL] at hK'
      exact wcv (hρ (a := a) (b := b) (by show nD p.L = _; rw [hL]; rfl)) (.y (add_one (by omega)) (.y (add_one (by omega)) hK'))
  · match hL : p.L, q with
    | [a, b, c], _ =>
      rw [hL] at hK'
      exact wcv (hρ' (a := a) (b := b) (c := c) (by show nD p.L = _; rw [hL]; rfl)) (.y (add_one (by omega)) (.y (add_one (by omega)) (.y (add_one (by omega)) hK')))
theorem w_step {t : Nat} {d : D} (ht : t ≤ 3) {wd : Slot} (hwd : wd = .ol ((wordsN p.L t).map fun w => .lst (nD w)) ∨ wd = .fr (.lst ((wordsN p.L t).map fun w => .lst (nD w)))) (hK : Pf (K .next (w12 p.E d (.fr (.lst ((wordsN p.L (t + 1)).map fun w => .lst (nD w))))))) : Pf (vT12 k d (w12 p.E jj wd) K) := by
  have hw : ∀ w ∈ wordsN p.L t, w.length ≤ 10 := fun w hw => by rw [(words_mem hw).1]; omega
  have hlen := words_few (m := t + 1) h.q (by omega)
  refine .st 0 (by decide +kernel) (.asg (x := nm "words") (by kernel_rfl) (by kernel_rfl) (.lc (by kernel_rfl) ?_))
  have tail : ∀ out, out = (wordsN p.L t).flatMap (wG p.L) → Pf (Cd (decide (out.length ≤ 1000000)) (kSeq (fun ρ' => wX 45 (vcx k) ρ' ((forB (vS 12)).drop 1) K) K .next (upd (frz (sreads S12) (upd (w12 p.E jj wd) (nm "j") (.fr d))) (nm "words") (asSl (sE S12 0) (.lst out))))) := fun out e => by
    rw [e, wG_words]
    refine .cd (decide_eq_true (by rw [List.length_map]; omega)) (.seq (.sc v_z12 (wcv v_nil hK)))
  rcases hwd with rfl | rfl
  · exact wcv v_i12o (w_words h hw (fun e => v_g12a e) (fun e => v_g12b e) (tail _ rfl))
  · exact wcv v_i12f (w_words h hw (fun e => v_g12a e) (fun e => v_g12b e) (tail _ rfl))
theorem w_loop : ∀ (n t : Nat) (jj : D) (wd : Slot), t + n = p.m → (wd = .ol ((wordsN p.L t).map fun w => .lst (nD w)) ∧ 0 < n ∨ wd = .fr (.lst ((wordsN p.L t).map fun w => .lst (nD w)))) → (∀ jj, Pf (K .next (w12 p.E jj p.E.wF))) →
    Pf (wLoop (vT12 k) ((List.range' t n).map fun (i : Nat) => .int i) (w12 p.E jj wd) K)
  | 0, t, jj, wd, ht, hwd, hK => by
    rcases hwd with ⟨_, h0⟩ | rfl
    · omega
    · have e : t = p.m := by omega
      subst e
      exact .stop (hK jj)
  | n + 1, t, jj, wd, ht, hwd, hK => by
    have := h.m3
    rw [List.range'_succ, List.map_cons]
    exact .turn (w_step h (by omega) (hwd.imp And.left id) (.next (w_loop n (t + 1) _ _ (by omega) (.inr rfl) hK)))
theorem r12 (hK : ∀ jj, Pf (wX 47 (vcx k) (w16 p.E jj) (vB.drop 13) K)) : Pf (wX 54 (vcx k) (w6 p.E jj) (vB.drop 6) K) := by
  have hR := h.R4
  have hm := h.m3
  have hf := front_le p.bF p.R
  refine wcv v_6 (.y (len_nD (l := p.R) (by omega)) (.y (a := .int p.f) ?_ (.y (len_nD (l := p.R) (by omega)) (.y (a := .int (p.R.length - p.f : Nat)) ?_ (.y (a := .int p.e) ?_ (.y (sl_take (r := p.R) p.m (by omega)) (.y h.oc (.y (a := .str (pS p.i)) ?_ (.y (a := .str (S (nL p.j))) ?_ (.y (a := .int p.s0) ?_ (.y (range1 (b := p.m) (by omega)) ?_)))))))))))
  · rw [h.a5, min_nat, front_is]; rfl
  · show some (D.int ((p.R.length : Int) - (p.f : Nat))) = _
    congr 2
    have : p.f ≤ p.R.length := hf
    omega
  · rw [h.a5', min_nat]
    show some (D.int ((min p.cE.toNat (p.R.length - frontB p.bF p.R) : Nat) : Int)) = _
    rw [end_is]; rfl
  · rw [h.a7i]; exact path_at h.i
  · rw [h.a7j]; exact name_at h.j
  · rw [h.s0]; exact last_L (LL_ne h.L)
  · rw [h.a7, h.a8, h.a8s, List.range_eq_range']
    exact w_loop h p.m 0 jj (.ol [.lst []]) (Nat.zero_add _) (.inl ⟨rfl, h.m⟩) fun jj => .seq (hK jj)
end
end Mine
end

section
open PySem PySem.W PyProof.Rows
set_option tactic.hygienic false
namespace Mine
theorem toks_flat (w : List Nat) : (w.map tokL).flatten = toksL w := by unfold toksL; rw [List.flatMap_def]
theorem toks_sum {w : List Nat} (hw : w.length ≤ 10) (ha : ∀ a ∈ w, a ≤ 6) : ((w.map tokL).map (·.length)).sum ≤ 90 := by
  have : ∀ w : List Nat, (∀ a ∈ w, a ≤ 6) → ((w.map tokL).map (·.length)).sum ≤ w.length * 9 := fun w => by
    induction w with
    | nil => intro _; exact Nat.zero_le _
    | cons a r ih =>
      intro h
      have h1 := h a List.mem_cons_self
      have h2 := ih fun b hb => h b (List.mem_cons_of_mem _ hb)
      rw [List.map_cons, List.map_cons, List.sum_cons, List.length_cons, tokL_len, Nat.add_mul]; omega
  have := this w ha
  omega
theorem toks_D (w : List Nat) : (w.map fun a => D.str (tokS a)) = (w.map tokL).map sD := by rw [List.map_map]; rfl
theorem add_S {a b : List Nat} (h : a.length + b.length ≤ 10000) : binD .Add (.str (S a)) (.str (S b)) = some (.str (S (a ++ b))) := by
  rw [add_str (by rw [S_len, S_len]; exact h), S_app]
theorem txt_len {w l : List Nat} (hw : w.length ≤ 10) (ha : ∀ a ∈ w, a ≤ 6) : (toksL w).length ≤ 90 := by
  have := toks_len ha
  have h2 : w.length * (6 + 3) ≤ 10 * (6 + 3) := Nat.mul_le_mul_right _ hw
  omega
section
variable {k : Nat} {p : Par} {jj : D} {K : Fl → Sc → Prop}
theorem r13 (h : Fit (k + 1) p) (hK : Pf (wX 46 (vcx (k + 1)) (w17 p.E jj) (vB.drop 14) K)) : Pf (wX 47 (vcx (k + 1)) (w16 p.E jj) (vB.drop 13) K) := by
  (refine xe0_5 (LL_facts h.L) ?_; intro _ _ h3 h4 _)
  have hs := h.s0
  refine .st 13 (by decide +kernel) (.asg (x := nm "written") (by kernel_rfl) (by kernel_rfl) (.lc (by kernel_rfl) (wcv v_i13 (.y (a := .int p.s0) (by rw [hs]; exact last_L (LL_ne h.L)) (.y (a := .int (p.s0 + 1 : Nat)) rfl (.y (range1 (b := p.s0 + 1) (by omega)) (.compM (ψ := fun a => .str (tokS a)) _ (by kernel_rfl) (fun a ha K' hK' => ?_) (.cd (decide_eq_true (by rw [List.length_map, List.length_range]; omega)) (.seq (.sc v_z13 hK))))))))))
  have := List.mem_range.mp ha
  exact wcv v_g13 (.y (mul_sp (by omega)) (.y (add_str (by rw [mul_len]; show 1 + a ≤ 10000; omega)) (.y (add_str (by rw [str_len_append, mul_len]; show 1 + a + 2 ≤ 10000; omega)) (.y (fss a (by omega)) hK'))))
theorem r14 (h : Fit (k + 1) p) (hK : Pf (wX 45 (vcx (k + 1)) (w18 p.E jj) (vB.drop 15) K)) : Pf (wX 46 (vcx (k + 1)) (w17 p.E jj) (vB.drop 14) K) :=
  .st 14 (by decide +kernel) (.asg (x := nm "last") (by kernel_rfl) (by kernel_rfl) (wcv v_14 (.y (fss2 h.i h.b h.j) (.seq (.sc v_z14 hK)))))
theorem wr_at {n a : Nat} (h : a < n) (hn : n ≤ 1000) : subD (.lst ((List.range n).map fun a => D.str (tokS a))) (.int a) = some (.str (tokS a)) := by
  rw [sub_lst, item_nat (by rw [List.length_map, List.length_range]; exact h) (by rw [List.length_map, List.length_range]; omega), List.getElem?_map, List.getElem?_range h]; rfl
theorem r15 (h : Fit (k + 1) p) (hK : Pf (wX 44 (vcx (k + 1)) (w19 p.E jj) (vB.drop 16) K)) : Pf (wX 45 (vcx (k + 1)) (w18 p.E jj) (vB.drop 15) K) := by
  (refine xe0_5 (LL_facts h.L) ?_; intro _ h2 h3 h4 h5)
  have hs := h.s0
  have hW := h.W10
  have ht := h.ok.l.len
  refine .st 15 (by decide +kernel) (.asg (x := nm "texts") (by kernel_rfl) (by kernel_rfl) (.lc (by kernel_rfl) (wcv v_i15 (.compM (φ := fun w => .lst (nD w)) (ψ := fun w => .str (txt p.l w)) p.W (by kernel_rfl) (fun w hw K' hK' => ?_) (.cd (decide_eq_true (by rw [List.length_map]; omega)) (.seq (.sc v_z15 hK)))))))
  (refine xe0_2 (h.Wf w hw) ?_; intro hl ha)
  have hm := h.m3
  refine wcv v_g15 (.compM (φ := fun (a : Nat) => .int a) (ψ := fun a => .str (tokS a)) w (by kernel_rfl) (fun a hwa K2 hK2 => ?_) (.cd (decide_eq_true (by rw [List.length_map]; omega)) ?_))
  · have := h5 a (ha a hwa)
    exact wcv v_g15i (.y (wr_at (n := p.s0 + 1) (by omega) (by omega)) hK2)
  · rw [toks_D]
    have h6 := toks_sum (w := w) (by omega) fun a hwa => h2 a (ha a hwa)
    have h7 := txt_len (l := p.l) (w := w) (by omega) fun a hwa => h2 a (ha a hwa)
    refine .y (c_cat (by omega) (by rw [List.length_map]; omega)) ?_
    rw [toks_flat]
    exact .y (add_S (by show _ + (lastL p.i p.b p.j).length ≤ _; have : (lastL p.i p.b p.j).length ≤ 50 := ht; omega)) hK'
theorem r16 (h : Fit (k + 1 + 1) p) (hK : Pf (wX 43 (vcx (k + 1 + 1)) (w20 p.E jj) (vB.drop 17) K)) : Pf (wX 44 (vcx (k + 1 + 1)) (w19 p.E jj) (vB.drop 16) K) := by
  (refine xe0_5 (LL_facts h.L) ?_; intro _ h2 h3 h4 h5)
  have hs := h.s0
  have hW := h.W10
  have hb := h.ok.b
  refine .st 16 (by decide +kernel) (.asg (x := nm "entries") (by kernel_rfl) (by kernel_rfl) (.lc (by kernel_rfl) (wcv v_i16 (.compM (φ := fun w => .lst (nD w)) (ψ := fun w => (entT p.s0 p.s1 p.b w).d p.pair) p.W (by kernel_rfl) (fun w hw K' hK' => ?_) (.cd (decide_eq_true (by rw [List.length_map]; omega)) (.seq (.sc v_z16 hK)))))))
  (refine xe0_2 (h.Wf w hw) ?_; intro hl ha)
  have hm := h.m3
  have h6 := fun a hwa => h2 a (ha a hwa)
  have h7 := lead_len h6
  have h8 : w.length * 7 ≤ 3 * 7 := Nat.mul_le_mul_right _ (by omega)
  refine wcv v_g16 (.y (lead_eq (r := w) (by omega) fun a hwa => by have := h6 a hwa; omega) (.y (mul_sp (a := p.b) (by omega)) ?_))
  rw [mulS]
  refine .y (add_S (by rw [List.length_replicate]; omega)) (.y (a := sD (leadL w ++ List.replicate p.b 32 ++ [120, 32, 9])) ?_ (.y (ent_eq (w := w) (b := p.b) (s0 := p.s0) (s1 := p.s1) (pair := p.pair) (by omega) h6 (by omega) (by omega) h.s1) hK'))
  show binD .Add _ (.str (S [120, 32, 9])) = _
  exact add_S (by rw [List.length_append, List.length_replicate]; show _ + 3 ≤ _; omega)
theorem str_dig {b : Nat} (h : b = 0 ∨ b = 1 ∨ b = 2 ∨ b = 3) : builtK .str [.int b] = some (.str (S [48 + b])) := by rcases h with rfl | rfl | rfl | rfl <;> rfl
noncomputable def pC (i : Nat) : Nat := if i = 0 then 126 else 97
theorem pS_S (i : Nat) : pS i = S [pC i] := by unfold pS pC; split <;> rfl
theorem r17 (h : Fit k p) (hK : Pf (wX 42 (vcx k) (w21 p.E jj) (vB.drop 18) K)) : Pf (wX 43 (vcx k) (w20 p.E jj) (vB.drop 17) K) := by
  have hn : (nL p.j).length ≤ 2 := by unfold nL; split <;> decide
  have ht : (p.E.p == nm "~" && p.E.b == 0) = decide (p.i = 0 ∧ p.b = 0) := by
    show (pS p.i == nm "~" && (p.b : Int) == 0) = _
    rw [pS_S, show nm "~" = S [126] from rfl, S_eq]
    rcases h.i with q | q
    · rw [q]; simp [pC]; rw [Bool.eq_iff_iff]; simp
    · rw [q]; simp [pC]
  have hl : p.l = if p.i = 0 ∧ p.b = 0 then nL p.j else [pC p.i, 58, 48 + p.b, 40] ++ nL p.j ++ [41] := rfl
  have hz : Pf (kSeq (fun ρ' => wX 42 (vcx k) ρ' (vB.drop 18) K) K .next (upd (fz 17 (w20 p.E jj)) (nm "closing") (asSl (vE 17) (.str (S p.l))))) := .seq (.sc v_z17 hK)
  refine .st 17 (by decide +kernel) (.asg (x := nm "closing") (by kernel_rfl) (by kernel_rfl) (.ifE (by kernel_rfl) (Pf.bo (op := .And) (by kernel_rfl) (tAnd (b1 := p.E.p == nm "~") (b2 := p.E.b == 0) (fun _ h => wcv v_17a h) (fun _ h => wcv v_17b h) ?_))))
  rw [ht]
  by_cases q : p.i = 0 ∧ p.b = 0
  · rw [decide_eq_true q]
    rw [if_pos q] at hl
    rw [hl] at hz
    exact .t rfl (wcv v_17n hz)
  · rw [decide_eq_false q]
    rw [if_neg q] at hl
    rw [hl] at hz
    have e1 : binD .Add (.str (pS p.i)) (.str (S [58])) = some (.str (S [pC p.i, 58])) := by rw [pS_S]; exact add_S (a := [pC p.i]) (b := [58]) (by show 1 + 1 ≤ _; decide)
    have e2 : binD .Add (.str (S [pC p.i, 58])) (.str (S [48 + p.b])) = some (.str (S [pC p.i, 58, 48 + p.b])) := add_S (a := [pC p.i, 58]) (b := [48 + p.b]) (by show 2 + 1 ≤ _; decide)
    have e3 : binD .Add (.str (S [pC p.i, 58, 48 + p.b])) (.str (S [40])) = some (.str (S [pC p.i, 58, 48 + p.b, 40])) := add_S (a := [pC p.i, 58, 48 + p.b]) (b := [40]) (by show 3 + 1 ≤ _; decide)
    have e4 : binD .Add (.str (S [pC p.i, 58, 48 + p.b, 40])) (.str (S (nL p.j))) = some (.str (S ([pC p.i, 58, 48 + p.b, 40] ++ nL p.j))) := add_S (by show 4 + _ ≤ _; omega)
    have e5 : binD .Add (.str (S ([pC p.i, 58, 48 + p.b, 40] ++ nL p.j))) (.str (S [41])) = some (.str (S ([pC p.i, 58, 48 + p.b, 40] ++ nL p.j ++ [41]))) := add_S (by rw [List.length_append]; show 4 + _ + 1 ≤ _; omega)
    exact .f rfl (wcv v_17p (.y e1 (.y (str_dig h.b) (.y e2 (.y e3 (.y e4 (.y e5 hz)))))))
theorem r18 (h : Fit k p) (hK : Pf (wX 41 (vcx k) (w22 p.E jj) (vB.drop 19) K)) : Pf (wX 42 (vcx k) (w21 p.E jj) (vB.drop 18) K) := by
  have hR := h.R4
  refine .st 18 (by decide +kernel) (.asg (x := nm "pieces") (by kernel_rfl) (by kernel_rfl) (.lc (by kernel_rfl) (wcv v_i18 (.compM (φ := fun (a : Nat) => .int a) (ψ := fun a => .str (tokS a)) p.R (by kernel_rfl) (fun a ha K' hK' => ?_) (.cd (decide_eq_true (by rw [List.length_map]; omega)) (.seq (.sc v_z18 hK)))))))
  have := h.Ra a ha
  exact wcv v_g18 (.y (mul_sp (by omega)) (.y (tok_add1 (by omega)) (.y (tok_add2 (by omega)) hK')))
end
theorem joinD_snoc {x : List Nat} : ∀ {A : List (List Nat)}, A ≠ [] → joinD (A ++ [x]) = joinD A ++ (dots ++ x)
  | [], h => absurd rfl h
  | [a], _ => List.append_assoc a dots x
  | a :: b :: r, _ => by
    show a ++ dots ++ joinD (b :: r ++ [x]) = a ++ dots ++ joinD (b :: r) ++ (dots ++ x)
    rw [joinD_snoc (List.cons_ne_nil _ _), List.append_assoc (a ++ dots)]
theorem joinD_end {x l : List Nat} : ∀ {A : List (List Nat)}, joinD (A ++ [x ++ l]) = joinD (A ++ [x]) ++ l
  | [] => rfl
  | a :: r => by rw [joinD_snoc (List.cons_ne_nil _ _), joinD_snoc (List.cons_ne_nil _ _), List.append_assoc, List.append_assoc]
theorem joinD_nil {A : List (List Nat)} (h : A ≠ []) : joinD ([] :: A) = dots ++ joinD A := by
  cases A with
  | nil => exact absurd rfl h
  | cons a r => rfl
theorem segs_map (R : List Nat) : (R.map some).map segL = R.map tokL := by rw [List.map_map]; rfl
theorem toks_one (a : Nat) : toksL [a] = tokL a := List.append_nil _
theorem drop_last_one {α : Type} : ∀ {l : List α} (h : l ≠ []), l.drop (l.length - 1) = [l.getLast h]
  | [], h => absurd rfl h
  | [a], _ => rfl
  | a :: b :: r, _ => (drop_last_one (List.cons_ne_nil b r))
theorem pat_text (b c : Bool) (R l : List Nat) :
    (if frontB b R = 0 then dots else []) ++ joinD (R.map tokL) ++ (if endB b c R = 0 then dots else l) =
    joinD (toksL (R.take (frontB b R)) :: ((if R.isEmpty then [none] else ((R.drop (frontB b R)).take (R.length - frontB b R - endB b c R)).map some).map segL ++ [toksL (R.drop (R.length - endB b c R)) ++ if endB b c R == 1 then l else []])) := by
  have hf := front_1 b R
  have he := end_1 b c R
  have hs := end_le b c R
  revert hf he hs
  generalize frontB b R = f
  generalize endB b c R = e
  intro hf he hs
  have hf' : f = 0 ∨ f = 1 := by omega
  have he' : e = 0 ∨ e = 1 := by omega
  cases R with
  | nil =>
    have h1 : f = 0 := by simp at hs; omega
    have h2 : e = 0 := by simp at hs; omega
    subst h1; subst h2; rfl
  | cons a r =>
    rw [if_neg (show ¬ (a :: r).isEmpty = true from Bool.false_ne_true), segs_map]
    rcases hf' with rfl | rfl
    · rw [List.take_zero, List.drop_zero, Nat.sub_zero, if_pos rfl, toks_nil]
      rcases he' with rfl | rfl
      · rw [Nat.sub_zero, List.take_length, List.drop_length, joinD_nil (by simp), toks_nil, if_pos rfl, List.append_assoc]
        exact congrArg (dots ++ ·) (joinD_snoc (x := []) (List.cons_ne_nil _ _)).symm
      · have hz := List.dropLast_concat_getLast (List.cons_ne_nil a r)
        have e1 : (a :: r).take ((a :: r).length - 1) = (a :: r).dropLast := (List.dropLast_eq_take ..).symm
        have e2 : (a :: r).drop ((a :: r).length - 1) = [(a :: r).getLast (List.cons_ne_nil a r)] := drop_last_one (List.cons_ne_nil a r)
        rw [e1, e2, toks_one, if_neg (by decide), if_pos (show ((1 == 1) = true) from rfl), joinD_nil (by simp), joinD_end, List.append_assoc]
        conv => lhs; rw [← hz, List.map_append]
        rfl
    · rw [if_neg (by decide), List.take_succ_cons, List.take_zero, toks_one, List.drop_succ_cons, List.drop_zero, List.nil_append]
      rcases he' with rfl | rfl
      · rw [if_pos rfl, Nat.sub_zero, Nat.sub_zero, List.drop_length, List.length_cons, Nat.add_sub_cancel, List.take_length, toks_nil]
        exact (joinD_snoc (x := []) (List.cons_ne_nil (tokL a) (r.map tokL))).symm
      · cases r with
        | nil => simp at hs
        | cons a2 r =>
          have hz := List.dropLast_concat_getLast (List.cons_ne_nil a2 r)
          have e1 : (a2 :: r).take ((a :: a2 :: r).length - 1 - 1) = (a2 :: r).dropLast := (List.dropLast_eq_take ..).symm
          have e2 : (a :: a2 :: r).drop ((a :: a2 :: r).length - 1) = [(a2 :: r).getLast (List.cons_ne_nil a2 r)] := (drop_last_one (List.cons_ne_nil a (a2 :: r))).trans rfl
          rw [e1, e2, toks_one, if_neg (by decide), if_pos (show ((1 == 1) = true) from rfl), ← List.cons_append, joinD_end]
          conv => lhs; rw [← hz, List.map_cons, List.map_append]
          rfl
end Mine
end

section
open PySem PySem.W PyProof.Rows
set_option tactic.hygienic false
namespace Mine
theorem nat01 {n : Nat} (h : n ≤ 1) : (n : Int) = 0 ∨ (n : Int) = 1 := by omega
theorem mem_words {L : List Nat} : ∀ (n : Nat) (w : List Nat), w.length = n → (∀ a ∈ w, a ∈ L) → w ∈ wordsN L n
  | 0, w, h, _ => by rw [List.length_eq_zero_iff.mp h]; exact List.mem_singleton.mpr rfl
  | n + 1, w, h, ha => by
    have hw : w ≠ [] := fun e => by rw [e] at h; cases h
    refine List.mem_flatMap.mpr ⟨w.dropLast, mem_words n _ (by rw [List.length_dropLast, h]; rfl) fun a hm => ha a ((List.dropLast_sublist w).subset hm), List.mem_map.mpr ⟨w.getLast hw, ha _ (List.getLast_mem hw), List.dropLast_concat_getLast hw⟩⟩
theorem mem_upto {L : List Nat} {n : Nat} {w : List Nat} (h : w.length ≤ n) (ha : ∀ a ∈ w, a ∈ L) : w ∈ runsUpTo L n :=
  List.mem_flatMap.mpr ⟨w.length, List.mem_range.mpr (by omega), mem_words _ w rfl ha⟩
theorem forAll_at {f : List Nat → Nat → Bool} (h : forAll f = true) {L : List Nat} {m : Nat} (hL : L ∈ LL) (h1 : 1 ≤ m) (h2 : m + L.length ≤ 5) : f L m = true := by
  have a := List.all_eq_true.mp (List.all_eq_true.mp h L hL) (m - 1) (List.mem_range.mpr (by omega))
  rwa [show m - 1 + 1 = m by omega] at a
theorem bools (P : Bool → Bool) (h : [true, false].all P = true) (b : Bool) : P b = true := List.all_eq_true.mp h b (by cases b <;> decide)
section
variable {k : Nat} {p : Par} {jj : D} {K : Fl → Sc → Prop}
theorem Fit.chk1 (h : Fit k p) : chk p.L (p.W.filter (pat1 p.bF p.cE p.R)) ((p.m : Int) - p.f - p.e) p.fr p.he = true := by
  have a := List.all_eq_true.mp (forAll_at all1 h.L h.m h.m5) p.R (mem_upto h.R h.RL)
  exact bools _ (bools _ a p.bF) p.cE
theorem Fit.chk2 (h : Fit k p) : chk2 p.L p.m p.R = true := List.all_eq_true.mp (forAll_at all2 h.L h.m h.m5) p.R (mem_upto h.R h.RL)
theorem Fit.chk3 (h : Fit k p) : chk3 p.L p.m p.o = true := List.all_eq_true.mp (forAll_at all3 h.L h.m h.m5) p.o (mem_upto h.o h.oL)
theorem r19 (h : Fit k p) (hK : Pf (wX 40 (vcx k) (w23 p.E jj) (vB.drop 20) K)) : Pf (wX 41 (vcx k) (w22 p.E jj) (vB.drop 19) K) := by
  have hR := h.R4
  have f1 : p.f ≤ 1 := front_1 _ _
  have e1 : p.e ≤ 1 := end_1 _ _ _
  have hs := toks_sum (w := p.R) (by omega) h.Ra
  have hj : (joinD (p.R.map tokL)).length ≤ 200 := by
    have : ∀ ls : List (List Nat), (joinD ls).length ≤ (ls.map (·.length)).sum + 3 * ls.length := fun ls => by
      induction ls with
      | nil => exact Nat.zero_le _
      | cons a r ih =>
        cases r with
        | nil => show a.length ≤ _; simp
        | cons b r =>
          show (a ++ dots ++ joinD (b :: r)).length ≤ _
          rw [List.length_append, List.length_append, List.map_cons, List.sum_cons, List.length_cons]
          have : dots.length = 3 := rfl
          omega
    have := this (p.R.map tokL)
    rw [List.length_map] at this; omega
  have hl := h.ok.l.len
  have hj1 : callM (vcx k) (nm "join") (.str (nm "...")) [.lst p.E.ps] = some (sD (joinD (p.R.map tokL))) := by
    show callM _ _ _ [.lst (p.R.map fun a => D.str (tokS a))] = _
    rw [toks_D]
    exact c_dots (by omega) (by rw [List.length_map]; omega)
  have hd3 : (if p.f = 0 then dots else []).length ≤ 3 := by split <;> decide
  have h2 : (if p.e = 0 then dots else p.l).length ≤ 50 := by
    split
    · decide
    · exact hl
  have ef : (p.E.f != 0) = !(decide (p.f = 0)) := by show (((p.f : Nat) : Int) != 0) = _; rw [Bool.eq_iff_iff]; simp
  have ee : (p.E.e != 0) = !(decide (p.e = 0)) := by show (((p.e : Nat) : Int) != 0) = _; rw [Bool.eq_iff_iff]; simp
  have fin : ∀ KD : D → Prop, Pf (KD (.str (S p.pat))) → Pf (If (p.E.e != 0) (Y (binD .Add (.str (S ((if p.f = 0 then dots else []) ++ joinD (p.R.map tokL)))) (.str (S p.l))) KD) (Y (binD .Add (.str (S ((if p.f = 0 then dots else []) ++ joinD (p.R.map tokL)))) (.str (nm "..."))) KD)) := fun KD hK => by
    have hp := pat_text p.bF p.cE p.R p.l
    have add : ∀ x, x.length ≤ 50 → binD .Add (.str (S ((if p.f = 0 then dots else []) ++ joinD (p.R.map tokL)))) (.str (S x)) = some (.str (S ((if p.f = 0 then dots else []) ++ joinD (p.R.map tokL) ++ x))) := fun x hx => add_S (by rw [List.length_append]; omega)
    rw [ee]
    by_cases q : p.e = 0
    · rw [decide_eq_true q]
      rw [if_pos (show endB p.bF p.cE p.R = 0 from q)] at hp
      exact .f rfl (.y ((add dots (by decide)).trans (congrArg (fun t => some (D.str (S t))) hp)) hK)
    · rw [decide_eq_false q]
      rw [if_neg (show ¬ endB p.bF p.cE p.R = 0 from q)] at hp
      exact .t rfl (.y ((add p.l hl).trans (congrArg (fun t => some (D.str (S t))) hp)) hK)
  refine .st 19 (by decide +kernel) (.asg (x := nm "pattern") (by kernel_rfl) (by kernel_rfl) (wcv v_19 ?_))
  have fin' := fin (fun d => kSeq (fun ρ' => wX 40 (vcx k) ρ' (vB.drop 20) K) K .next (upd (fz 19 (w22 p.E jj)) (nm "pattern") (asSl (vE 19) d))) (.seq (.sc v_z19 hK))
  rw [ef]
  by_cases q : p.f = 0
  · rw [decide_eq_true q]
    rw [if_pos q] at fin'
    exact .f rfl (.y hj1 (.y (add_S (a := dots) (b := joinD (p.R.map tokL)) (by show 3 + _ ≤ _; omega)) fin'))
  · rw [decide_eq_false q]
    rw [if_neg q] at fin'
    exact .t rfl (.y hj1 (.y (add_S (a := []) (b := joinD (p.R.map tokL)) (by show 0 + _ ≤ _; omega)) fin'))
theorem r20 (h : Fit k p) (hK : Pf (wX 39 (vcx k) (w25 p.E jj) (vB.drop 21) K)) : Pf (wX 40 (vcx k) (w23 p.E jj) (vB.drop 20) K) := by
  have hR := h.R4
  have h1 : p.f ≤ p.R.length := front_le _ _
  have h2 : p.e + p.f ≤ p.R.length := end_le _ _ _
  have hn : binD .Sub (.int p.R.length) (.int p.e) = some (.int (p.R.length - p.e : Nat)) := by
    show some (D.int ((p.R.length : Int) - (p.e : Nat))) = _
    congr 2; omega
  have hl : ∀ x, (p.R.drop x).length ≤ 4 := fun x => by rw [List.length_drop]; omega
  refine .st 20 (by decide +kernel) (wcv v_20 (.y (len_nD (l := p.R) (by omega)) (.y hn (.y (a := ((p.R.length - p.e : Nat) : Int)) rfl (.y (sl_mid (r := p.R) (a := p.f) (by omega) h1 (by omega)) (.y (sl_take (r := p.R) p.f (by omega)) (.y (len_nD (l := p.R) (by omega)) (.y hn (.y (a := ((p.R.length - p.e : Nat) : Int)) rfl (.y (sl_drop (r := p.R) (p.R.length - p.e) (by omega)) (.y (a := .lst (nD p.he)) ?_ (.seq ?_))))))))))))
  · rw [add_lst (by rw [nD_len, nD_len, List.length_take]; have := hl (p.R.length - p.e); omega)]
    unfold Par.he nD; rw [List.map_append]
  · have e : (p.R.drop p.f).take (p.R.length - p.e - p.f) = p.fr := by unfold Par.fr; rw [Nat.sub_right_comm]
    rw [e]
    exact hK
theorem Fit.he4 (_h : Fit k p) : p.he.length = p.f + p.e := by
  have h1 : p.f ≤ p.R.length := front_le _ _
  have h2 : p.e ≤ p.R.length := Nat.le_trans (Nat.le_add_right _ _) (end_le p.bF p.cE p.R)
  unfold Par.he
  rw [List.length_append, List.length_take, List.length_drop, Nat.min_eq_left h1, Nat.sub_sub_self h2]
theorem Fit.fr4 (h : Fit k p) : p.fr.length ≤ 4 := Nat.le_trans (cut_len _ _ _) h.R4
theorem r21 (h : Fit (k + 1 + 1 + 1) p) (hK : Pf (wX 38 (vcx (k + 1 + 1 + 1)) (w26 p.E jj (p.sum (p.W.filter (pat1 p.bF p.cE p.R)) (dueC (tot · (p.W.filter (pat1 p.bF p.cE p.R))) p.L []))) (vB.drop 22) K)) : Pf (wX 39 (vcx (k + 1 + 1 + 1)) (w25 p.E jj) (vB.drop 21) K) := by
  have f1 : p.f ≤ 1 := front_1 _ _
  have e1 : p.e ≤ 1 := end_1 _ _ _
  have h1 := h.he4
  have h2 := h.m
  have h3 := h.m3
  exact .st 21 (by decide +kernel) (wcv v_21 (.y (due_is (k := k) (pair := p.pair) (n := (p.m : Int) - p.f - p.e) h.ok (pat1 p.bF p.cE p.R) h.chk1 (by omega) h.fr4 (by omega) (by omega)) (.seq hK)))
theorem em_pat {b c : Bool} {R w l : List Nat} (hl : Tail l) (hR : R.length ≤ 4) (ha : ∀ a ∈ R, a ≤ 6) (hw : w.length ≤ 6) (hwa : ∀ a ∈ w, a ≤ 6) :
    callT (k + 1) "_ellipsis_match" [.str (S (joinD (toksL (R.take (frontB b R)) :: ((if R.isEmpty then [none] else ((R.drop (frontB b R)).take (R.length - frontB b R - endB b c R)).map some).map segL ++ [toksL (R.drop (R.length - endB b c R)) ++ if endB b c R == 1 then l else []])))), .str (S (toksL w ++ l))] = some (.bool (pat1 b c R w)) := by
  refine em_eq hl (by rw [List.length_take]; omega) (by rw [List.length_drop]; omega) (by omega) ?_ (fun a h => by have := ha a (List.mem_of_mem_take h); omega) (fun a h => by have := ha a (List.mem_of_mem_drop h); omega) (fun a h => by have := hwa a h; omega) ?_
  · split
    · decide
    · rw [List.length_map]; exact Nat.le_trans (cut_len _ _ _) (Nat.le_trans hR (by decide))
  · intro a h
    split at h
    · simp at h
    · (refine xe1_2 (List.mem_map.mp h) ?_; intro x hx e)
      cases (e)
      have := ha a (List.mem_of_mem_drop (List.mem_of_mem_take hx)); omega
theorem r22 (h : Fit (k + 1 + 1 + 1) p) (hK : Pf (wX 37 (vcx (k + 1 + 1 + 1)) (w26 p.E jj (p.sum (p.W.filter (pat1 p.bF p.cE p.R)) (dueC (tot · (p.W.filter (pat1 p.bF p.cE p.R))) p.L []))) (vB.drop 23) K)) :
    Pf (wX 38 (vcx (k + 1 + 1 + 1)) (w26 p.E jj (p.sum (p.W.filter (pat1 p.bF p.cE p.R)) (dueC (tot · (p.W.filter (pat1 p.bF p.cE p.R))) p.L []))) (vB.drop 22) K) := by
  obtain ⟨C, hC, hs⟩ := sum_is (k := k) (pair := p.pair) h.ok (pat := p.pat) (pat1 p.bF p.cE p.R) fun w hw => by
    (refine xe0_2 (h.Wf w hw) ?_; intro h1 h2)
    have := h.m3
    exact em_pat h.ok.l h.R4 h.Ra (by omega) fun a ha => h.ok.le a (h2 a ha)
  exact .st 22 (by decide +kernel) (wcv v_22 (.y hs (.y (same_is h.ok _ hC) (.f rfl (.seq hK)))))
theorem r23 (h : Fit k p) {du : D} (hK : Pf (wX 36 (vcx k) (w29 p.E jj (.tup [.int 0, .int 0, .int 0, .int 0, .dct []])) (vB.drop 24) K)) : Pf (wX 37 (vcx k) (w26 p.E jj du) (vB.drop 23) K) := by
  have hR := h.R4
  refine .st 23 (by decide +kernel) (wcv v_23 (.y (len_nD (l := p.R) (by omega)) (.y (subZ _ _) (.seq ?_))))
  rw [h.a8w, h.a8d]
  exact hK
theorem r24 (h : Fit (k + 1 + 1 + 1) p) {g : List Nat → Bool} (hg : ∀ w ∈ p.W, callT (k + 1 + 1) "_ellipsis_match" [sD ((if p.dt then dots else []) ++ toksL p.R ++ (if p.wh then p.l else [])), .str (txt p.l w)] = some (.bool (g w)))
    (h1 : cnd p.wh p.dt p.R.isEmpty p.E.lf = true → chk p.L (p.W.filter g) p.E.lf [] p.R = true ∧ 0 ≤ p.E.lf) (h0 : cnd p.wh p.dt p.R.isEmpty p.E.lf = false → p.W.filter g = [])
    (hK : ∀ du, Pf (wX 34 (vcx (k + 1 + 1 + 1)) (w29 p.E jj du) (vB.drop 26) K)) : Pf (wX 36 (vcx (k + 1 + 1 + 1)) (w29 p.E jj (.tup [.int 0, .int 0, .int 0, .int 0, .dct []])) (vB.drop 24) K) := by
  have hR := h.R4
  have hm := h.m3
  have hm1 := h.m
  have hR2 := h.R
  have hlf : p.E.lf = (p.m : Int) - p.R.length := rfl
  have hl := h.ok.l.len
  have hs := toks_sum (w := p.R) (by omega) h.Ra
  have ht := txt_len (l := p.l) (w := p.R) (by omega) h.Ra
  (refine xe1_2 (sum_is (k := k) (pair := p.pair) (m := p.m) (s0 := p.s0) (s1 := p.s1) (b := p.b) h.ok (pat := (if p.dt then dots else []) ++ toksL p.R ++ (if p.wh then p.l else [])) g hg) ?_; intro C hC hsum)
  have hd3 : (if p.dt = true then dots else []).length ≤ 3 := by split <;> decide
  have hw5 : (if p.wh = true then p.l else []).length ≤ 50 := by
    split
    · exact hl
    · exact Nat.zero_le _
  have hj1 : callM (vcx (k + 1 + 1 + 1)) (nm "join") (.str (nm "")) [.lst p.E.ps] = some (sD (toksL p.R)) := by
    show callM _ _ _ [.lst (p.R.map fun a => D.str (tokS a))] = _
    rw [toks_D, c_cat (by omega) (by rw [List.length_map]; omega), toks_flat]
  have step25 : ∀ du, cmpD .NotEq (p.sum (p.W.filter g) C) du = some false → Pf (wX 35 (vcx (k + 1 + 1 + 1)) (w29 p.E jj du) (vB.drop 25) K) := fun du hdu => by
    have fin : ∀ pre : List Nat, pre.length ≤ 3 → callT (k + 1 + 1 + 1) "_law_sum" [sD (pre ++ toksL p.R ++ (if p.wh then p.l else [])), .lst p.ts, .lst p.es] = some (p.sum (p.W.filter g) C) → ∀ K : D → Prop, Pf (K (p.sum (p.W.filter g) C)) →
        Pf (If p.E.wh (Y (binD .Add (.str (S (pre ++ toksL p.R))) (.str p.E.cl)) fun y => Y (callT (k + 1 + 1 + 1) "_law_sum" [y, .lst p.E.ts, .lst p.E.es]) K) (Y (binD .Add (.str (S (pre ++ toksL p.R))) (.str (nm ""))) fun y => Y (callT (k + 1 + 1 + 1) "_law_sum" [y, .lst p.E.ts, .lst p.E.es]) K)) := fun pre hp hs K hK => by
      have add : ∀ x, x.length ≤ 50 → binD .Add (.str (S (pre ++ toksL p.R))) (.str (S x)) = some (sD (pre ++ toksL p.R ++ x)) := fun x hx => add_S (by rw [List.length_append]; omega)
      show Pf (If p.wh _ _)
      cases hw : p.wh
      · rw [hw] at hs; exact .f rfl (.y (add [] (Nat.zero_le _)) (.y hs hK))
      · rw [hw] at hs; exact .t rfl (.y (add p.l hl) (.y hs hK))
    refine .st 25 (by decide +kernel) (wcv v_25 ?_)
    show Pf (If p.dt _ _)
    cases hd : p.dt
    · rw [hd] at hsum
      refine .f rfl (.y hj1 (.y (add_S (a := []) (b := toksL p.R) (by show 0 + _ ≤ _; omega)) (fin [] (Nat.zero_le _) hsum _ ?_)))
      exact .y hdu (.f rfl (.seq (hK du)))
    · rw [hd] at hsum
      refine .t rfl (.y hj1 (.y (add_S (a := dots) (b := toksL p.R) (by show 3 + _ ≤ _; omega)) (fin dots (by decide) hsum _ ?_)))
      exact .y hdu (.f rfl (.seq (hK du)))
  refine .st 24 (by decide +kernel) (.ifS (by kernel_rfl) (v_24c (.ite (fun q => ?_) fun q => ?_)))
  · have q' : cnd p.wh p.dt p.R.isEmpty p.E.lf = true := by
      have e : p.E.rs.isEmpty = p.R.isEmpty := by show (nD p.R).isEmpty = _; cases p.R <;> rfl
      rw [← e]; exact q
    (refine xe0_2 (h1 q') ?_; intro hc h2)
    exact wcv v_24y (.y (due_is (k := k) (pair := p.pair) (n := (p.m : Int) - p.R.length) (fr := []) (he := p.R) h.ok g hc (by omega) (Nat.zero_le _) hR (by omega)) (.seq (step25 _ (same_is h.ok _ hC))))
  · have q' : cnd p.wh p.dt p.R.isEmpty p.E.lf = false := by
      have e : p.E.rs.isEmpty = p.R.isEmpty := by show (nD p.R).isEmpty = _; cases p.R <;> rfl
      rw [← e]; exact q
    exact wcv v_24n (.seq (step25 _ (none_is _ hC (h0 q'))))
end
end Mine
end

section
open PySem PySem.W PyProof.Rows
namespace Mine
theorem eqL_int : ∀ c c' : List Int, ∃ b, eqL eqF (c.map D.int) (c'.map D.int) = some b ∧ (b && c.length == c'.length) = (c == c')
  | [], [] => ⟨true, rfl, rfl⟩
  | [], a :: r => ⟨true, rfl, by simp⟩
  | a :: r, [] => ⟨true, rfl, by simp⟩
  | a :: r, a' :: r' => by
    (refine xe1_2 (eqL_int r r') ?_; intro b h1 h2)
    refine ⟨(a == a') && b, ?_, ?_⟩
    · show (match eqF (.int a) (.int a'), eqL eqF (r.map D.int) (r'.map D.int) with | some a, some b => some (a && b) | _, _ => none) = _
      rw [h1]; rfl
    · rw [Bool.and_assoc, List.length_cons, List.length_cons]
      have e2 : (r.length + 1 == r'.length + 1) = (r.length == r'.length) := by rw [Bool.eq_iff_iff]; simp
      rw [e2, h2]; rfl
theorem eq_lst (c c' : List Int) : cmpD .Eq (.lst (c.map .int)) (.lst (c'.map .int)) = some (c == c') := by
  (refine xe1_2 (eqL_int c c') ?_; intro b h1 h2)
  show (if (c.map D.int).length == (c'.map D.int).length then eqL eqF (c.map D.int) (c'.map D.int) else some false) = _
  rw [List.length_map, List.length_map, h1, ← h2]
  cases c.length == c'.length
  · rw [Bool.and_false]; rfl
  · rw [Bool.and_true]; rfl
noncomputable def srt (l : List Nat) : List Int := (l.map fun (n : Nat) => (n : Int)).mergeSort fun a b => decide (a ≤ b)
theorem sorted_is {l : List Nat} (h : l.length ≤ 60) : builtK .sorted [.lst (nD l)] = some (.lst ((srt l).map .int)) := by
  show (if (nD l).length ≤ 60 then (intsOf (nD l)).map fun ns => D.lst ((ns.mergeSort fun a b => decide (a ≤ b)).map .int) else none) = _
  rw [if_pos (by rw [nD_len]; exact h), intsOf_nD]; rfl
theorem cast_perm {u v : List Nat} (h : (u.map fun (n : Nat) => (n : Int)).Perm (v.map fun (n : Nat) => (n : Int))) : u.Perm v :=
  List.perm_iff_count.mpr fun a => by rw [← count_nat, ← count_nat]; exact List.perm_iff_count.mp h a
theorem srt_eq (u v : List Nat) : (srt u == srt v) = decide (u.Perm v) := by
  rw [Bool.eq_iff_iff, beq_iff_eq, decide_eq_true_eq]
  constructor
  · intro e
    have h1 := List.mergeSort_perm (u.map fun (n : Nat) => (n : Int)) fun a b => decide (a ≤ b)
    have h2 := List.mergeSort_perm (v.map fun (n : Nat) => (n : Int)) fun a b => decide (a ≤ b)
    rw [show (u.map fun (n : Nat) => (n : Int)).mergeSort (fun a b => decide (a ≤ b)) = srt v from e] at h1
    exact cast_perm (h1.symm.trans h2)
  · intro h
    have hs : ∀ l : List Int, List.Pairwise (fun a b => decide (a ≤ b) = true) (l.mergeSort fun a b => decide (a ≤ b)) := fun l =>
      List.pairwise_mergeSort (le := fun a b => decide (a ≤ b)) (fun a b c h1 h2 => decide_eq_true (Int.le_trans (of_decide_eq_true h1) (of_decide_eq_true h2))) (fun a b => by simp; omega) l
    refine List.Perm.eq_of_pairwise (fun a b _ _ h1 h2 => Int.le_antisymm (of_decide_eq_true h1) (of_decide_eq_true h2)) (hs _) (hs _) ?_
    exact (List.mergeSort_perm _ _).trans ((h.map _).trans (List.mergeSort_perm _ _).symm)
theorem count_back {f : Nat → Nat} {x : Nat} : ∀ {L : List Nat}, L.Nodup → (L.flatMap fun a => List.replicate (f a) a).count x = if x ∈ L then f x else 0
  | [], _ => rfl
  | a :: L, hn => by
    have hn' := List.nodup_cons.mp hn
    rw [List.flatMap_cons, List.count_append, count_back hn'.2, List.count_replicate]
    by_cases q : a = x
    · subst q
      rw [if_pos (beq_self_eq_true a), if_neg hn'.1, if_pos List.mem_cons_self]; rfl
    · rw [if_neg fun e => q (eq_of_beq e), Nat.zero_add]
      by_cases q2 : x ∈ L
      · rw [if_pos q2, if_pos (List.mem_cons_of_mem _ q2)]
      · rw [if_neg q2, if_neg fun m => (List.mem_cons.mp m).elim (fun e => q e.symm) q2]
theorem pat3_eq (o : List Nat) : dots ++ ((o.map fun a => tokL a ++ dots).flatten) = pat3 o := by
  have : ∀ (o s : List Nat), joinD (s :: ((o.map some).map segL ++ [[]])) = s ++ (dots ++ (o.map fun a => tokL a ++ dots).flatten) := fun o => by
    induction o with
    | nil => intro s; show s ++ dots ++ [] = _; rw [List.append_nil]; simp
    | cons a r ih =>
      intro s
      show s ++ dots ++ joinD (tokL a :: ((r.map some).map segL ++ [[]])) = _
      rw [ih, List.map_cons, List.flatten_cons]
      simp only [List.append_assoc]
  exact (this o []).symm
section
variable {k : Nat} {p : Par} {jj : D} {K : Fl → Sc → Prop}
theorem Fit.back (h : Fit k p) : p.back.Perm p.o := List.perm_iff_count.mpr fun a => by
  unfold Par.back
  rw [count_back h.ok.nd]
  by_cases q : a ∈ p.L
  · rw [if_pos q]
  · rw [if_neg q, List.count_eq_zero_of_not_mem fun m => q (h.oL a m)]
theorem em_dots {R w l : List Nat} {c : Bool} (hl : Tail l) (hR : R.length ≤ 7) (ha : ∀ a ∈ R, a ≤ 6) (hw : w.length ≤ 6) (hwa : ∀ a ∈ w, a ≤ 6) :
    callT (k + 1) "_ellipsis_match" [sD (dots ++ toksL R ++ if c then l else []), .str (txt l w)] = some (.bool (matchT [] [] R c w)) := by
  have := em_eq (k := k) hl (f := []) (e := R) (w := w) (c := c) (mid := []) (Nat.zero_le _) hR (by omega) (Nat.zero_le _) (fun _ h => nomatch h) (fun a h => by have := ha a h; omega) (fun a h => by have := hwa a h; omega) (fun _ h => nomatch h)
  rw [List.append_assoc]
  exact this
theorem r24a (h : Fit (k + 1 + 1 + 1) p) (hK : ∀ du, Pf (wX 34 (vcx (k + 1 + 1 + 1)) (w29 p.E jj du) (vB.drop 26) K)) : Pf (wX 36 (vcx (k + 1 + 1 + 1)) (w29 p.E jj (.tup [.int 0, .int 0, .int 0, .int 0, .dct []])) (vB.drop 24) K) := by
  have hc := h.chk2
  unfold Mine.chk2 at hc
  rw [Bool.and_eq_true] at hc
  (refine xe0_2 hc ?_; (try clear hc); intro c1 c2)
  have hm1 := h.m
  have hm := h.m3
  have hR := h.R4
  have hlf : p.E.lf = (p.m : Int) - p.R.length := rfl
  have hw := fun w hw => h.Wf w hw
  have hwa : ∀ w ∈ p.W, ∀ a ∈ w, a ≤ 6 := fun w hw a ha => h.ok.le a ((h.Wf w hw).2 a ha)
  cases hd : p.dt with
  | true =>
    refine r24 h (g := matchT [] [] p.R p.wh) (fun w hw' => ?_) (fun q => ?_) (fun q => ?_) hK
    · rw [hd]; exact em_dots h.ok.l (by omega) h.Ra (by have := (hw w hw').1; omega) (hwa w hw')
    · rw [hd] at q
      have q2 : p.R.length ≤ p.m ∧ matchT [] [] p.R p.wh = matchT [] [] p.R true := by
        cases hwh : p.wh with
        | true =>
          rw [hwh, hlf] at q
          refine ⟨?_, rfl⟩
          simp [cnd] at q; omega
        | false =>
          rw [hwh, hlf] at q
          cases hR0 : p.R with
          | nil => exact ⟨Nat.zero_le _, rfl⟩
          | cons a r => rw [hR0] at q; simp [cnd] at q
      rw [if_pos q2.1] at c1
      rw [q2.2]
      exact ⟨c1, by rw [hlf]; omega⟩
    · rw [hd] at q
      cases hwh : p.wh with
      | true =>
        rw [hwh, hlf] at q
        have : ¬ p.R.length ≤ p.m := fun h => by simp [cnd] at q; omega
        rw [if_neg this] at c1
        exact List.isEmpty_iff.mp c1
      | false =>
        rw [hwh, hlf] at q
        cases hR0 : p.R with
        | nil => rw [hR0] at q; simp [cnd] at q; try omega
        | cons a r =>
          refine List.filter_eq_nil_iff.mpr fun w _ => ?_
          unfold matchT
          simp
  | false =>
    refine r24 h (g := fun w => p.wh && p.R == w) (fun w hw' => ?_) (fun q => ?_) (fun q => ?_) hK
    · rw [hd]; exact em_plain h.ok.l
    · rw [hd] at q
      cases hwh : p.wh with
      | true =>
        rw [hwh, hlf] at q
        have e : p.R.length = p.m := by simp [cnd] at q; omega
        rw [if_pos e] at c2
        have : p.E.lf = 0 := by rw [hlf]; omega
        rw [this]
        exact ⟨c2, Int.le_refl _⟩
      | false => rw [hwh] at q; simp [cnd] at q
    · rw [hd] at q
      cases hwh : p.wh with
      | true =>
        rw [hwh, hlf] at q
        have e : ¬ p.R.length = p.m := fun e => by simp [cnd] at q; omega
        rw [if_neg e] at c2
        exact List.isEmpty_iff.mp c2
      | false => exact List.filter_eq_nil_iff.mpr fun w _ => by simp
end
end Mine
end

section
open PySem PySem.W PyProof.Rows
set_option tactic.hygienic false
namespace Mine
theorem chk4_at {m q k : Nat} (hm : m = 1 ∨ m = 2 ∨ m = 3) (hq : q = 2 ∨ q = 3) (hk : k ≤ m) : (List.range (m + 1)).filter (fun i => takenZ m i q == takenZ m k q) = [k] ∧ 0 < takenZ m k q ∧ 0 < stepZ m k q := by
  have a := List.all_eq_true.mp all4 m (by rcases hm with rfl | rfl | rfl <;> decide)
  have b := List.all_eq_true.mp a q (by rcases hq with rfl | rfl <;> decide)
  exact of_decide_eq_true (List.all_eq_true.mp b k (List.mem_range.mpr (by omega)))
section
variable {k : Nat} {p : Par} {jj du : D} {K : Fl → Sc → Prop}
theorem r26 (h : Fit k p) (hK : Pf (wX 33 (vcx k) (w30 p.E jj du) (vB.drop 27) K)) : Pf (wX 34 (vcx k) (w29 p.E jj du) (vB.drop 26) K) := by
  have ho := h.o
  have hm := h.m3
  have hs : ∀ l : List Nat, (∀ a ∈ l, a ≤ 6) → ((l.map fun a => tokL a ++ dots).map (·.length)).sum ≤ l.length * 12 := fun l => by
    induction l with
    | nil => intro _; exact Nat.zero_le _
    | cons a r ih =>
      intro h
      have h1 := h a List.mem_cons_self
      have h2 := ih fun b hb => h b (List.mem_cons_of_mem _ hb)
      have h3 : dots.length = 3 := rfl
      rw [List.map_cons, List.map_cons, List.sum_cons, List.length_cons, List.length_append, tokL_len, Nat.add_mul]; omega
  have hs' := hs p.o h.oa
  have hfl : ((p.o.map fun a => tokL a ++ dots).flatten).length ≤ p.o.length * 12 := by rw [List.length_flatten]; exact hs'
  refine .st 26 (by decide +kernel) (.asg (x := nm "total") (by kernel_rfl) (by kernel_rfl) (wcv v_26 (.compM (φ := fun (a : Nat) => .int a) (ψ := fun a => sD (tokL a ++ dots)) p.o (by kernel_rfl) (fun a ha K' hK' => ?_) (.cd (decide_eq_true (by rw [List.length_map]; omega)) (.y (a := sD ((p.o.map fun a => tokL a ++ dots).flatten)) ?_ (.y (a := sD (pat3 p.o)) ?_ (.y h.c3 (.seq (.sc v_z26 hK)))))))))
  · have := h.oa a ha
    refine wcv v_g26 (.y (mul_sp (by omega)) (.y (tok_add1 (by omega)) (.y (a := sD (tokL a ++ dots)) ?_ hK')))
    show binD .Add (.str (S (123 :: List.replicate a 32))) (.str (S [9, 125, 46, 46, 46])) = _
    rw [add_S (by simp; omega)]
    unfold sD tokL dots
    congr 3
    rw [List.cons_append, List.cons_append, List.append_assoc]; rfl
  · have e : (p.o.map fun a => sD (tokL a ++ dots)) = (p.o.map fun a => tokL a ++ dots).map sD := by rw [List.map_map]; rfl
    rw [e]
    exact c_cat (by omega) (by rw [List.length_map]; omega)
  · show binD .Add (.str (S dots)) (.str (S ((p.o.map fun a => tokL a ++ dots).flatten))) = _
    rw [add_S (by have : dots.length = 3 := rfl; omega), pat3_eq]; rfl
theorem Fit.chk3a (h : Fit k p) : chk p.L p.W3 p.m p.o [] = true := (Bool.and_eq_true_iff.mp h.chk3).1
theorem r27 (h : Fit (k + 1 + 1 + 1) p) (hK : Pf (wX 32 (vcx (k + 1 + 1 + 1)) (w30 p.E jj du) (vB.drop 28) K)) : Pf (wX 33 (vcx (k + 1 + 1 + 1)) (w30 p.E jj du) (vB.drop 27) K) := by
  have ho := h.o
  have hm := h.m3
  have hd := due_is (k := k) (pair := p.pair) (n := (p.m : Int)) (fr := p.o) (he := []) h.ok (matchT [] (p.o.map some) [] false) h.chk3a (by omega) (by omega) (Nat.zero_le _) (by show (p.m : Int) + 0 = _; omega)
  exact .st 27 (by decide +kernel) (wcv v_27 (.y hd (.y (same_is h.ok _ h.C) (.f rfl (.seq hK)))))
theorem r28 (h : Fit (k + 1 + 1 + 1) p) (hK : Pf (wX 31 (vcx (k + 1 + 1 + 1)) (w31 p.E jj du) (vB.drop 29) K)) : Pf (wX 32 (vcx (k + 1 + 1 + 1)) (w30 p.E jj du) (vB.drop 28) K) := by
  have ho := h.o
  have hm := h.m3
  have hm1 := h.m
  have hb := h.ok.b
  have hlen := h.W10
  (refine xe0_5 (LL_facts h.L) ?_; intro _ _ _ h6 _)
  have hs0 := h.ok.s0
  have h5 := of_decide_eq_true (allN_at (p := chk5) all5 (n := (p.m : Int)) (k := p.o.length) (q := p.L.length) (by omega) (by omega) h.q)
  (refine xe0_3 (chk4_at (m := p.m) (q := p.L.length) (k := p.o.length) (by omega) h.q ho) ?_; intro g1 g2 g3)
  have h3 := h.chk3
  unfold Mine.chk3 at h3
  rw [Bool.and_eq_true, List.all_eq_true] at h3
  have h3a := (Bool.and_eq_true_iff.mp h.chk3a).1
  have ht : takenZ p.m p.o.length p.L.length = (p.W3.length : Int) := eq_of_beq h3a
  have hW3 : p.W3.length ≤ 10 := Nat.le_trans (List.length_filter_le _ _) hlen
  have hw : ∀ w ∈ p.W3, w.length ≤ 6 := fun w hw => by have := (h.Wf w (List.mem_filter.mp hw).1).1; omega
  have htot := tot_le hw
  have hcA : ∀ a, cA p.C a = tot a p.W3 := fun a => h.C.get a
  have hdl : dueL (cA p.C) p.s0 p.L = dueL (tot · p.W3) p.s0 p.L := by unfold dueL; congr 1; exact List.map_congr_left fun a _ => by rw [hcA]
  have hcnt : ∀ a, p.o.count a ≤ 6 := fun a => Nat.le_trans List.count_le_length (by omega)
  have hpos : (p.L.length : Int) * stepZ p.m p.o.length p.L.length ≠ 0 := Int.ne_of_gt (Int.mul_pos (by have := h.q; omega) g3)
  have hback := back_eq (k := k + 1) (pair := p.pair) (n := (p.m * p.W3.length : Nat)) (l1 := (p.b * p.W3.length + dueL (tot · p.W3) p.s1 p.L : Nat)) (t := p.W3.length) (m := p.m) (kk := p.o.length) (s := p.s0) (b := p.b) (st := stepZ p.m p.o.length p.L.length) (C := p.C) (L := p.L) (N := fun a => p.o.count a)
    (by have := h.q; omega) (by omega) (by omega) ⟨hpos, h5.2⟩ hs0 (by rw [ht] at g2; omega) (by omega) (fun i hi => taken_eq (by omega) (by omega) h.q) (by rw [ht] at g1; exact g1) (step_eq (by omega) (by omega) h.q) (fun a ha => by
      refine ⟨by have := h.ok.le a ha; omega, by rw [hcA]; have := htot a; omega, ?_, hcnt a⟩
      have := eq_of_beq (h3.2 a ha)
      rw [hcA, ← ht]; exact this)
  have e : p.sum p.W3 p.C = tD (p.W3.length : Nat) (p.m * p.W3.length : Nat) ((p.b : Int) * (p.W3.length : Nat) + (dueL (cA p.C) p.s0 p.L : Nat)) (p.b * p.W3.length + dueL (tot · p.W3) p.s1 p.L : Nat) (cD p.pair p.C) := by
    rw [hdl, ← Int.natCast_mul, ← Int.natCast_add]; rfl
  have hbl : p.back.length ≤ 13 := by rw [h.back.length_eq]; omega
  have hread := read_eq (k := k + 1 + 1) (w := p.back) (b := p.b) (rest := []) (.inl rfl) hbl (fun a ha => h.oa a (h.back.subset ha)) (by omega)
  rw [List.append_nil] at hread
  refine .st 28 (by decide +kernel) (.asg (x := nm "read") (by kernel_rfl) (by kernel_rfl) (wcv v_28 (.y (a := sD (leadL p.back ++ List.replicate p.b 32)) ?_ (.y hread (.seq (.sc v_z28 hK))))))
  show callT (k + 1 + 1 + 1) "_law_back" [p.sum p.W3 p.C, .int p.m, .lst (nD p.L), .int p.s0, .bool p.pair] = _
  rw [e]
  exact hback
theorem r29 (h : Fit k p) (hK : Pf (wX 30 (vcx k) (w32 p.E jj du) (vB.drop 30) K)) : Pf (wX 31 (vcx k) (w31 p.E jj du) (vB.drop 29) K) := by
  refine .st 29 (by decide +kernel) (wcv v_29 (.seq ?_))
  rw [h.a8f]
  exact hK
theorem r30 (h : Fit k p) (hK : Pf (wX 29 (vcx k) (w33 p.E jj du) (vB.drop 31) K)) : Pf (wX 30 (vcx k) (w32 p.E jj du) (vB.drop 30) K) := by
  have hR := h.R4
  have ho := h.o
  have hm := h.m3
  have hfa : (p.E.fa == 0) = (p.fa == 0) := by show ((p.fa : Int) == 0) = _; rw [Bool.eq_iff_iff]; simp
  have hf : Pf (kSeq (fun ρ' => wX 29 (vcx k) ρ' (vB.drop 31) K) K .next (upd (fz 30 (w32 p.E jj du)) (nm "alike") (asSl (vE 30) (.bool (decide (p.R.Perm p.o) && p.fa == 0))))) := .seq (.sc v_z30 hK)
  refine .st 30 (by decide +kernel) (.asg (x := nm "alike") (by kernel_rfl) (by kernel_rfl) (wcv v_30 (.y (sorted_is (l := p.R) (by omega)) (.y (sorted_is (l := p.o) (by omega)) (.y (eq_lst _ _) ?_)))))
  rw [srt_eq]
  cases hp : decide (p.R.Perm p.o) with
  | false => rw [hp] at hf; exact .t rfl hf
  | true => rw [hp] at hf; exact .f rfl (by rw [hfa]; exact hf)
theorem read_cmp (h : Fit (k + 1) p) (w : List Nat) (b : Nat) (S2 : Str) (n : Nat) : callT (k + 1) "Whitespace.equal" [.inst (wsI p.E.rS p.E.rW), .inst (wsI S2 ⟨normC w, b, n, w.length⟩)] = some (.bool (decide (p.back.Perm w) && p.b == b)) := by
  rw [← norm_beq]
  exact equal_eq
theorem r31 (h : Fit (k + 1 + 1 + 1) p) (hK : Pf (wX 28 (vcx (k + 1 + 1 + 1)) (w33 p.E jj du) (vB.drop 32) K)) : Pf (wX 29 (vcx (k + 1 + 1 + 1)) (w33 p.E jj du) (vB.drop 31) K) := by
  have ho := h.o
  have hm := h.m3
  have hb := h.ok.b
  have hl := lead_len h.oa
  have hq := read_cmp (k := k + 1 + 1) h p.o p.b (S (leadL p.o ++ List.replicate p.b 32 ++ [120])) (0 + (leadL p.o).length + p.b)
  rw [decide_eq_true h.back, beq_self_eq_true] at hq
  refine .st 31 (by decide +kernel) (wcv v_31 (.y (lead_eq (r := p.o) (by omega) fun a ha => by have := h.oa a ha; omega) (.y (mul_sp (a := p.b) (by omega)) ?_)))
  rw [mulS]
  refine .y (add_S (by rw [List.length_replicate]; omega)) (.y (a := sD (leadL p.o ++ List.replicate p.b 32 ++ [120])) ?_ (.y (read_eq (k := k + 1 + 1) (w := p.o) (b := p.b) (rest := [120]) (.inr ⟨_, rfl⟩) (by omega) h.oa (by omega)) (.y hq (.y (a := false) rfl (.f rfl (.seq hK))))))
  show binD .Add _ (.str (S [120])) = _
  exact add_S (by rw [List.length_append, List.length_replicate]; show _ + 1 ≤ _; omega)
theorem r32 (h : Fit (k + 1 + 1 + 1) p) : Pf (wX 28 (vcx (k + 1 + 1 + 1)) (w33 p.E jj du) (vB.drop 32) (kFin (· = .bool true))) := by
  have hR := h.R4
  have hb := h.ok.b
  have hfa := h.fa
  have hl := lead_len h.Ra
  have hq := read_cmp (k := k + 1 + 1) h p.R (p.b + p.fa) (S (leadL p.R ++ List.replicate (p.b + p.fa) 32)) (0 + (leadL p.R).length + (p.b + p.fa))
  have hread := read_eq (k := k + 1 + 1) (w := p.R) (b := p.b + p.fa) (rest := []) (.inl rfl) (by omega) h.Ra (by omega)
  rw [List.append_nil] at hread
  have e : (decide (p.back.Perm p.R) && p.b == p.b + p.fa) = p.E.al := by
    show _ = (decide (p.R.Perm p.o) && p.fa == 0)
    congr 1
    · rw [Bool.eq_iff_iff, decide_eq_true_eq, decide_eq_true_eq]
      exact ⟨fun q => q.symm.trans h.back, fun q => h.back.trans q.symm⟩
    · rw [Bool.eq_iff_iff]; simp
  rw [e] at hq
  refine .st 32 (by decide +kernel) (wcv v_32 (.y (lead_eq (r := p.R) (by omega) fun a ha => by have := h.Ra a ha; omega) (.y (a := .str (S (List.replicate (p.b + p.fa) 32))) ?_ (.y (add_S (a := leadL p.R) (b := List.replicate (p.b + p.fa) 32) (by rw [List.length_replicate]; omega)) (.y hread (.y hq (.y (a := true) ?_ ⟨rfl⟩)))))))
  · rw [← mulS]; exact mul_sp (a := p.b + p.fa) (by omega)
  · show some (p.E.al == p.E.al) = _; rw [beq_self_eq_true]
theorem r6 (h : Fit (k + 1 + 1 + 1) p) : Pf (wX 54 (vcx (k + 1 + 1 + 1)) (w6 p.E jj) (vB.drop 6) (kFin (· = .bool true))) :=
  r12 h fun _ => r13 h (r14 h (r15 h (r16 h (r17 h (r18 h (r19 h (r20 h (r21 h (r22 h (r23 h (r24a h fun _ => r26 h (r27 h (r28 h (r29 h (r30 h (r31 h (r32 h)))))))))))))))))
end
end Mine
end

section
open PySem PySem.W PyProof.Rows
set_option tactic.hygienic false
namespace Mine
theorem em_open {k : Nat} {o w l : List Nat} (hl : Tail l) (ho : o.length ≤ 6) (ha : ∀ a ∈ o, a ≤ 6) (hw : w.length ≤ 6) (hwa : ∀ a ∈ w, a ≤ 6) :
    callT (k + 1) "_ellipsis_match" [sD (pat3 o), .str (txt l w)] = some (.bool (matchT [] (o.map some) [] false w)) := by
  refine em_eq (k := k) hl (f := []) (e := []) (w := w) (c := false) (mid := o.map some) (Nat.zero_le _) (Nat.zero_le _) (by omega) (by rw [List.length_map]; omega) (fun _ h => nomatch h) (fun _ h => nomatch h) (fun a h => by have := hwa a h; omega) (fun a h => ?_)
  (refine xe1_2 (List.mem_map.mp h) ?_; intro x hx e)
  cases (e)
  have := ha a hx; omega
theorem fm2 (a : Int) : ∃ b : Bool, Int.fmod a 2 = (b.toNat : Nat) := by
  (refine xe1_2 (fm_nat a (n := 2) (by decide)) ?_; intro i e hi)
  rcases lt2 hi with rfl | rfl
  · exact ⟨false, e⟩
  · exact ⟨true, e⟩
theorem law_true {k : Nat} {ns : List Int} (hn : ns.length ≤ 63) : callT (k + 1 + 1 + 1 + 1) "law" [.lsw (ns.map .int)] = some (.bool true) := by
  refine call_go (k := k + 1 + 1 + 1) "law" (stAt 20) (lw [.fr (.lsw (ns.map .int))]) (by kernel_rfl) (by kernel_rfl) (by kernel_rfl) (r0 hn fun x => r3 fun L jj hL => r5 hL fun m R h1 h2 h3 h4 => ?_)
  (refine xe0_5 (LL_facts hL) ?_; intro g1 g2 g3 g4 g5)
  have hq := LL_len hL
  (refine xe1_3 (other_eq (k := k + 1 + 1) (rs := R.take m) (L := L) (d := x.a6) (by rw [List.length_take]; omega) (by omega) fun a ha => h4 a (List.mem_of_mem_take ha)) ?_; intro o ho1 ho2 hoc)
  (refine xe1_1 (fm2 x.a5) ?_; intro bF e5)
  (refine xe1_1 (fm2 (Int.fdiv x.a5 2)) ?_; intro cE e5')
  (refine xe1_2 (fm_nat x.a7 (n := 4) (by decide)) ?_; intro b eb hb)
  (refine xe1_2 (fm_nat (Int.fdiv x.a7 4) (n := 2) (by decide)) ?_; intro i ei hi)
  (refine xe1_2 (fm_nat (Int.fdiv x.a7 8) (n := 2) (by decide)) ?_; intro j ej hj)
  (refine xe1_2 (fm_nat (Int.fdiv x.a8 4) (n := 2) (by decide)) ?_; intro fa ef hf)
  have hs1 : ∃ s1 : Nat, 0 < s1 ∧ 1 + (if x.a8 < 0 then -x.a8 else x.a8) = (s1 : Int) := ⟨1 + x.a8.natAbs, by omega, by split <;> omega⟩
  (refine xe1_2 hs1 ?_; (try clear hs1); intro s1 hs es)
  have ht := last_tail (i := i) (b := b) (j := j) (lt2 hi) (lt4 hb) (lt2 hj)
  have ok : Okp L m b (L.getLastD 0) s1 (lastL i b j) := ⟨g1, hq, g2, h2, by omega, g3, hs, ht⟩
  have ho3 : o.length ≤ m := by rw [List.length_take] at ho1; omega
  (refine xe1_2 (sum_is (k := k) (pair := Int.fmod x.a8 2 == 1) ok (pat := pat3 o) (matchT [] (o.map some) [] false) fun w hw => em_open ht (by omega) (fun a ha => g2 a (ho2 a ha)) (by rw [(words_mem hw).1]; omega) fun a ha => g2 a ((words_mem hw).2 a ha)) ?_; intro C hC hsum)
  refine r6 (k := k) (p := ⟨.lsw (ns.map .int), x, L, R, o, m, b, i, j, L.getLastD 0, s1, bF, cE, Int.fmod x.a8 2 == 1, Int.fmod (Int.fdiv x.a8 2) 2 == 1, Int.fmod (Int.fdiv x.a8 8) 2 == 1, fa, C⟩) ?_
  exact ⟨hL, h1, h2, h3, h4, ho3, ho2, hoc, lt4 hb, lt2 hi, lt2 hj, rfl, hs, lt2 hf, e5, e5', eb, ei, ej, rfl, es, rfl, rfl, ef, hC, hsum⟩
end Mine
set_option maxHeartbeats 8000000 in
theorem PySem.Challenge.cw_ph0158_01_holds : PySem.Challenge.rw_ph0158_01.Holds :=
  Mine.holds_of (fuel := 60) (k := 4) (by decide) fun ns h => Mine.law_true (k := 0) h
end

end

