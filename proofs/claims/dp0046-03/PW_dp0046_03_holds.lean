import PyProof.Rows.All
import Wide.All
import OpenK.AllK
import Wide.FinOn
import PySem.Challenge.RW_dp0046_03
open PySem PySem.W PyProof.Rows PySem.Calls
set_option Elab.async false
set_option maxRecDepth 100000
set_option maxHeartbeats 8000000
set_option linter.unusedVariables false
set_option linter.unusedSectionVars false
set_option linter.unusedSimpArgs false
set_option pp.deepTerms false
set_option pp.deepTerms.threshold 3
namespace Mine
/-- the statements of the text that the head's look keeps -/
def pick : List Bool → List Stmt → List Stmt
  | true :: bs, st :: r => st :: pick bs r
  | false :: bs, _ :: r => pick bs r
  | _, _ => []
def view : Program := { PySem.Challenge.rw_dp0046_03.prog with main := { PySem.Challenge.rw_dp0046_03.prog.main with body := pick [false, true, true, true, true, true, true, true, true, false, false, false, true, true, true, true] PySem.Challenge.rw_dp0046_03.prog.main.body } }
section
local macro_rules | `(tactic| o_head $H) => `(tactic| (refine holds_open (q := Mine.view) (loose := [PySem.Str.ofString "nsmallest", PySem.Str.ofString "nlargest"]) (Xt := fun s => xlAt Mine.view [] s && recOk [] s) (XP := XL Mine.view []) (Yf := Hook.obs $H) (Ya := Hook.val $H) (YP := Hook.says $H) (N := 1034) ?hl (Hook.of $H) (Hook.keeps $H) (fun s e => xl_of s (Bool.and_eq_true_iff.mp e).1) XL.keeps (by rfl) (by rfl) (by rfl) (fun s e => recFacts_of (Bool.and_eq_true_iff.mp e).2) (by rfl) (by assumption) (by decide +kernel) ⟨rfl, rfl, rfl, rfl, rfl, by decide +kernel⟩ ?hw ?hc; (case hl => (intro w; kernel_rfl))))
open_top hd03 for PySem.Challenge.rw_dp0046_03
end
example : (fun (_ : OpenLaw) (_ : Params → Frag) => True) PySem.Challenge.rw_dp0046_03 hd03.heap_39 := by k_fill; trivial
example : True := by w_top off; trivial
set_option maxHeartbeats 4000000
-- EX
theorem e0_3 {P0 P1 P2 : Prop} {G : Prop} (h : P0 ∧ P1 ∧ P2) (k : P0 → P1 → P2 → G) : G := k h.1 h.2.1 h.2.2
theorem e0_4 {P0 P1 P2 P3 : Prop} {G : Prop} (h : P0 ∧ P1 ∧ P2 ∧ P3) (k : P0 → P1 → P2 → P3 → G) : G := k h.1 h.2.1 h.2.2.1 h.2.2.2
theorem e0_5 {P0 P1 P2 P3 P4 : Prop} {G : Prop} (h : P0 ∧ P1 ∧ P2 ∧ P3 ∧ P4) (k : P0 → P1 → P2 → P3 → P4 → G) : G := k h.1 h.2.1 h.2.2.1 h.2.2.2.1 h.2.2.2.2
theorem e0_6 {P0 P1 P2 P3 P4 P5 : Prop} {G : Prop} (h : P0 ∧ P1 ∧ P2 ∧ P3 ∧ P4 ∧ P5) (k : P0 → P1 → P2 → P3 → P4 → P5 → G) : G := k h.1 h.2.1 h.2.2.1 h.2.2.2.1 h.2.2.2.2.1 h.2.2.2.2.2
theorem e1_2 {α0 : Type} {P0 P1 : α0 → Prop} {G : Prop} (h : ∃ a0, P0 a0 ∧ P1 a0) (k : ∀ a0, P0 a0 → P1 a0 → G) : G := h.elim fun a0 h => k a0 h.1 h.2
theorem e1_3 {α0 : Type} {P0 P1 P2 : α0 → Prop} {G : Prop} (h : ∃ a0, P0 a0 ∧ P1 a0 ∧ P2 a0) (k : ∀ a0, P0 a0 → P1 a0 → P2 a0 → G) : G := h.elim fun a0 h => k a0 h.1 h.2.1 h.2.2
theorem e1_4 {α0 : Type} {P0 P1 P2 P3 : α0 → Prop} {G : Prop} (h : ∃ a0, P0 a0 ∧ P1 a0 ∧ P2 a0 ∧ P3 a0) (k : ∀ a0, P0 a0 → P1 a0 → P2 a0 → P3 a0 → G) : G := h.elim fun a0 h => k a0 h.1 h.2.1 h.2.2.1 h.2.2.2
theorem e1_5 {α0 : Type} {P0 P1 P2 P3 P4 : α0 → Prop} {G : Prop} (h : ∃ a0, P0 a0 ∧ P1 a0 ∧ P2 a0 ∧ P3 a0 ∧ P4 a0) (k : ∀ a0, P0 a0 → P1 a0 → P2 a0 → P3 a0 → P4 a0 → G) : G := h.elim fun a0 h => k a0 h.1 h.2.1 h.2.2.1 h.2.2.2.1 h.2.2.2.2
theorem e1_6 {α0 : Type} {P0 P1 P2 P3 P4 P5 : α0 → Prop} {G : Prop} (h : ∃ a0, P0 a0 ∧ P1 a0 ∧ P2 a0 ∧ P3 a0 ∧ P4 a0 ∧ P5 a0) (k : ∀ a0, P0 a0 → P1 a0 → P2 a0 → P3 a0 → P4 a0 → P5 a0 → G) : G := h.elim fun a0 h => k a0 h.1 h.2.1 h.2.2.1 h.2.2.2.1 h.2.2.2.2.1 h.2.2.2.2.2
theorem e2_1 {α0 α1 : Type} {P0 : α0 → α1 → Prop} {G : Prop} (h : ∃ a0 a1, P0 a0 a1) (k : ∀ a0 a1, P0 a0 a1 → G) : G := h.elim fun a0 h => h.elim fun a1 h => k a0 a1 h
theorem e2_2 {α0 α1 : Type} {P0 P1 : α0 → α1 → Prop} {G : Prop} (h : ∃ a0 a1, P0 a0 a1 ∧ P1 a0 a1) (k : ∀ a0 a1, P0 a0 a1 → P1 a0 a1 → G) : G := h.elim fun a0 h => h.elim fun a1 h => k a0 a1 h.1 h.2
theorem e2_3 {α0 α1 : Type} {P0 P1 P2 : α0 → α1 → Prop} {G : Prop} (h : ∃ a0 a1, P0 a0 a1 ∧ P1 a0 a1 ∧ P2 a0 a1) (k : ∀ a0 a1, P0 a0 a1 → P1 a0 a1 → P2 a0 a1 → G) : G := h.elim fun a0 h => h.elim fun a1 h => k a0 a1 h.1 h.2.1 h.2.2
theorem e2_5 {α0 α1 : Type} {P0 P1 P2 P3 P4 : α0 → α1 → Prop} {G : Prop} (h : ∃ a0 a1, P0 a0 a1 ∧ P1 a0 a1 ∧ P2 a0 a1 ∧ P3 a0 a1 ∧ P4 a0 a1) (k : ∀ a0 a1, P0 a0 a1 → P1 a0 a1 → P2 a0 a1 → P3 a0 a1 → P4 a0 a1 → G) : G := h.elim fun a0 h => h.elim fun a1 h => k a0 a1 h.1 h.2.1 h.2.2.1 h.2.2.2.1 h.2.2.2.2
theorem e3_2 {α0 α1 α2 : Type} {P0 P1 : α0 → α1 → α2 → Prop} {G : Prop} (h : ∃ a0 a1 a2, P0 a0 a1 a2 ∧ P1 a0 a1 a2) (k : ∀ a0 a1 a2, P0 a0 a1 a2 → P1 a0 a1 a2 → G) : G := h.elim fun a0 h => h.elim fun a1 h => h.elim fun a2 h => k a0 a1 a2 h.1 h.2
theorem e3_3 {α0 α1 α2 : Type} {P0 P1 P2 : α0 → α1 → α2 → Prop} {G : Prop} (h : ∃ a0 a1 a2, P0 a0 a1 a2 ∧ P1 a0 a1 a2 ∧ P2 a0 a1 a2) (k : ∀ a0 a1 a2, P0 a0 a1 a2 → P1 a0 a1 a2 → P2 a0 a1 a2 → G) : G := h.elim fun a0 h => h.elim fun a1 h => h.elim fun a2 h => k a0 a1 a2 h.1 h.2.1 h.2.2
theorem e3_4 {α0 α1 α2 : Type} {P0 P1 P2 P3 : α0 → α1 → α2 → Prop} {G : Prop} (h : ∃ a0 a1 a2, P0 a0 a1 a2 ∧ P1 a0 a1 a2 ∧ P2 a0 a1 a2 ∧ P3 a0 a1 a2) (k : ∀ a0 a1 a2, P0 a0 a1 a2 → P1 a0 a1 a2 → P2 a0 a1 a2 → P3 a0 a1 a2 → G) : G := h.elim fun a0 h => h.elim fun a1 h => h.elim fun a2 h => k a0 a1 a2 h.1 h.2.1 h.2.2.1 h.2.2.2
theorem e3_5 {α0 α1 α2 : Type} {P0 P1 P2 P3 P4 : α0 → α1 → α2 → Prop} {G : Prop} (h : ∃ a0 a1 a2, P0 a0 a1 a2 ∧ P1 a0 a1 a2 ∧ P2 a0 a1 a2 ∧ P3 a0 a1 a2 ∧ P4 a0 a1 a2) (k : ∀ a0 a1 a2, P0 a0 a1 a2 → P1 a0 a1 a2 → P2 a0 a1 a2 → P3 a0 a1 a2 → P4 a0 a1 a2 → G) : G := h.elim fun a0 h => h.elim fun a1 h => h.elim fun a2 h => k a0 a1 a2 h.1 h.2.1 h.2.2.1 h.2.2.2.1 h.2.2.2.2
theorem e3_6 {α0 α1 α2 : Type} {P0 P1 P2 P3 P4 P5 : α0 → α1 → α2 → Prop} {G : Prop} (h : ∃ a0 a1 a2, P0 a0 a1 a2 ∧ P1 a0 a1 a2 ∧ P2 a0 a1 a2 ∧ P3 a0 a1 a2 ∧ P4 a0 a1 a2 ∧ P5 a0 a1 a2) (k : ∀ a0 a1 a2, P0 a0 a1 a2 → P1 a0 a1 a2 → P2 a0 a1 a2 → P3 a0 a1 a2 → P4 a0 a1 a2 → P5 a0 a1 a2 → G) : G := h.elim fun a0 h => h.elim fun a1 h => h.elim fun a2 h => k a0 a1 a2 h.1 h.2.1 h.2.2.1 h.2.2.2.1 h.2.2.2.2.1 h.2.2.2.2.2
theorem e4_3 {α0 α1 α2 α3 : Type} {P0 P1 P2 : α0 → α1 → α2 → α3 → Prop} {G : Prop} (h : ∃ a0 a1 a2 a3, P0 a0 a1 a2 a3 ∧ P1 a0 a1 a2 a3 ∧ P2 a0 a1 a2 a3) (k : ∀ a0 a1 a2 a3, P0 a0 a1 a2 a3 → P1 a0 a1 a2 a3 → P2 a0 a1 a2 a3 → G) : G := h.elim fun a0 h => h.elim fun a1 h => h.elim fun a2 h => h.elim fun a3 h => k a0 a1 a2 a3 h.1 h.2.1 h.2.2
theorem e4_10 {α0 α1 α2 α3 : Type} {P0 P1 P2 P3 P4 P5 P6 P7 P8 P9 : α0 → α1 → α2 → α3 → Prop} {G : Prop} (h : ∃ a0 a1 a2 a3, P0 a0 a1 a2 a3 ∧ P1 a0 a1 a2 a3 ∧ P2 a0 a1 a2 a3 ∧ P3 a0 a1 a2 a3 ∧ P4 a0 a1 a2 a3 ∧ P5 a0 a1 a2 a3 ∧ P6 a0 a1 a2 a3 ∧ P7 a0 a1 a2 a3 ∧ P8 a0 a1 a2 a3 ∧ P9 a0 a1 a2 a3) (k : ∀ a0 a1 a2 a3, P0 a0 a1 a2 a3 → P1 a0 a1 a2 a3 → P2 a0 a1 a2 a3 → P3 a0 a1 a2 a3 → P4 a0 a1 a2 a3 → P5 a0 a1 a2 a3 → P6 a0 a1 a2 a3 → P7 a0 a1 a2 a3 → P8 a0 a1 a2 a3 → P9 a0 a1 a2 a3 → G) : G := h.elim fun a0 h => h.elim fun a1 h => h.elim fun a2 h => h.elim fun a3 h => k a0 a1 a2 a3 h.1 h.2.1 h.2.2.1 h.2.2.2.1 h.2.2.2.2.1 h.2.2.2.2.2.1 h.2.2.2.2.2.2.1 h.2.2.2.2.2.2.2.1 h.2.2.2.2.2.2.2.2.1 h.2.2.2.2.2.2.2.2.2
theorem e5_3 {α0 α1 α2 α3 α4 : Type} {P0 P1 P2 : α0 → α1 → α2 → α3 → α4 → Prop} {G : Prop} (h : ∃ a0 a1 a2 a3 a4, P0 a0 a1 a2 a3 a4 ∧ P1 a0 a1 a2 a3 a4 ∧ P2 a0 a1 a2 a3 a4) (k : ∀ a0 a1 a2 a3 a4, P0 a0 a1 a2 a3 a4 → P1 a0 a1 a2 a3 a4 → P2 a0 a1 a2 a3 a4 → G) : G := h.elim fun a0 h => h.elim fun a1 h => h.elim fun a2 h => h.elim fun a3 h => h.elim fun a4 h => k a0 a1 a2 a3 a4 h.1 h.2.1 h.2.2
theorem e5_9 {α0 α1 α2 α3 α4 : Type} {P0 P1 P2 P3 P4 P5 P6 P7 P8 : α0 → α1 → α2 → α3 → α4 → Prop} {G : Prop} (h : ∃ a0 a1 a2 a3 a4, P0 a0 a1 a2 a3 a4 ∧ P1 a0 a1 a2 a3 a4 ∧ P2 a0 a1 a2 a3 a4 ∧ P3 a0 a1 a2 a3 a4 ∧ P4 a0 a1 a2 a3 a4 ∧ P5 a0 a1 a2 a3 a4 ∧ P6 a0 a1 a2 a3 a4 ∧ P7 a0 a1 a2 a3 a4 ∧ P8 a0 a1 a2 a3 a4) (k : ∀ a0 a1 a2 a3 a4, P0 a0 a1 a2 a3 a4 → P1 a0 a1 a2 a3 a4 → P2 a0 a1 a2 a3 a4 → P3 a0 a1 a2 a3 a4 → P4 a0 a1 a2 a3 a4 → P5 a0 a1 a2 a3 a4 → P6 a0 a1 a2 a3 a4 → P7 a0 a1 a2 a3 a4 → P8 a0 a1 a2 a3 a4 → G) : G := h.elim fun a0 h => h.elim fun a1 h => h.elim fun a2 h => h.elim fun a3 h => h.elim fun a4 h => k a0 a1 a2 a3 a4 h.1 h.2.1 h.2.2.1 h.2.2.2.1 h.2.2.2.2.1 h.2.2.2.2.2.1 h.2.2.2.2.2.2.1 h.2.2.2.2.2.2.2.1 h.2.2.2.2.2.2.2.2
theorem e6_10 {α0 α1 α2 α3 α4 α5 : Type} {P0 P1 P2 P3 P4 P5 P6 P7 P8 P9 : α0 → α1 → α2 → α3 → α4 → α5 → Prop} {G : Prop} (h : ∃ a0 a1 a2 a3 a4 a5, P0 a0 a1 a2 a3 a4 a5 ∧ P1 a0 a1 a2 a3 a4 a5 ∧ P2 a0 a1 a2 a3 a4 a5 ∧ P3 a0 a1 a2 a3 a4 a5 ∧ P4 a0 a1 a2 a3 a4 a5 ∧ P5 a0 a1 a2 a3 a4 a5 ∧ P6 a0 a1 a2 a3 a4 a5 ∧ P7 a0 a1 a2 a3 a4 a5 ∧ P8 a0 a1 a2 a3 a4 a5 ∧ P9 a0 a1 a2 a3 a4 a5) (k : ∀ a0 a1 a2 a3 a4 a5, P0 a0 a1 a2 a3 a4 a5 → P1 a0 a1 a2 a3 a4 a5 → P2 a0 a1 a2 a3 a4 a5 → P3 a0 a1 a2 a3 a4 a5 → P4 a0 a1 a2 a3 a4 a5 → P5 a0 a1 a2 a3 a4 a5 → P6 a0 a1 a2 a3 a4 a5 → P7 a0 a1 a2 a3 a4 a5 → P8 a0 a1 a2 a3 a4 a5 → P9 a0 a1 a2 a3 a4 a5 → G) : G := h.elim fun a0 h => h.elim fun a1 h => h.elim fun a2 h => h.elim fun a3 h => h.elim fun a4 h => h.elim fun a5 h => k a0 a1 a2 a3 a4 a5 h.1 h.2.1 h.2.2.1 h.2.2.2.1 h.2.2.2.2.1 h.2.2.2.2.2.1 h.2.2.2.2.2.2.1 h.2.2.2.2.2.2.2.1 h.2.2.2.2.2.2.2.2.1 h.2.2.2.2.2.2.2.2.2
theorem e7_5 {α0 α1 α2 α3 α4 α5 α6 : Type} {P0 P1 P2 P3 P4 : α0 → α1 → α2 → α3 → α4 → α5 → α6 → Prop} {G : Prop} (h : ∃ a0 a1 a2 a3 a4 a5 a6, P0 a0 a1 a2 a3 a4 a5 a6 ∧ P1 a0 a1 a2 a3 a4 a5 a6 ∧ P2 a0 a1 a2 a3 a4 a5 a6 ∧ P3 a0 a1 a2 a3 a4 a5 a6 ∧ P4 a0 a1 a2 a3 a4 a5 a6) (k : ∀ a0 a1 a2 a3 a4 a5 a6, P0 a0 a1 a2 a3 a4 a5 a6 → P1 a0 a1 a2 a3 a4 a5 a6 → P2 a0 a1 a2 a3 a4 a5 a6 → P3 a0 a1 a2 a3 a4 a5 a6 → P4 a0 a1 a2 a3 a4 a5 a6 → G) : G := h.elim fun a0 h => h.elim fun a1 h => h.elim fun a2 h => h.elim fun a3 h => h.elim fun a4 h => h.elim fun a5 h => h.elim fun a6 h => k a0 a1 a2 a3 a4 a5 a6 h.1 h.2.1 h.2.2.1 h.2.2.2.1 h.2.2.2.2
theorem e8_14 {α0 α1 α2 α3 α4 α5 α6 α7 : Type} {P0 P1 P2 P3 P4 P5 P6 P7 P8 P9 P10 P11 P12 P13 : α0 → α1 → α2 → α3 → α4 → α5 → α6 → α7 → Prop} {G : Prop} (h : ∃ a0 a1 a2 a3 a4 a5 a6 a7, P0 a0 a1 a2 a3 a4 a5 a6 a7 ∧ P1 a0 a1 a2 a3 a4 a5 a6 a7 ∧ P2 a0 a1 a2 a3 a4 a5 a6 a7 ∧ P3 a0 a1 a2 a3 a4 a5 a6 a7 ∧ P4 a0 a1 a2 a3 a4 a5 a6 a7 ∧ P5 a0 a1 a2 a3 a4 a5 a6 a7 ∧ P6 a0 a1 a2 a3 a4 a5 a6 a7 ∧ P7 a0 a1 a2 a3 a4 a5 a6 a7 ∧ P8 a0 a1 a2 a3 a4 a5 a6 a7 ∧ P9 a0 a1 a2 a3 a4 a5 a6 a7 ∧ P10 a0 a1 a2 a3 a4 a5 a6 a7 ∧ P11 a0 a1 a2 a3 a4 a5 a6 a7 ∧ P12 a0 a1 a2 a3 a4 a5 a6 a7 ∧ P13 a0 a1 a2 a3 a4 a5 a6 a7) (k : ∀ a0 a1 a2 a3 a4 a5 a6 a7, P0 a0 a1 a2 a3 a4 a5 a6 a7 → P1 a0 a1 a2 a3 a4 a5 a6 a7 → P2 a0 a1 a2 a3 a4 a5 a6 a7 → P3 a0 a1 a2 a3 a4 a5 a6 a7 → P4 a0 a1 a2 a3 a4 a5 a6 a7 → P5 a0 a1 a2 a3 a4 a5 a6 a7 → P6 a0 a1 a2 a3 a4 a5 a6 a7 → P7 a0 a1 a2 a3 a4 a5 a6 a7 → P8 a0 a1 a2 a3 a4 a5 a6 a7 → P9 a0 a1 a2 a3 a4 a5 a6 a7 → P10 a0 a1 a2 a3 a4 a5 a6 a7 → P11 a0 a1 a2 a3 a4 a5 a6 a7 → P12 a0 a1 a2 a3 a4 a5 a6 a7 → P13 a0 a1 a2 a3 a4 a5 a6 a7 → G) : G := h.elim fun a0 h => h.elim fun a1 h => h.elim fun a2 h => h.elim fun a3 h => h.elim fun a4 h => h.elim fun a5 h => h.elim fun a6 h => h.elim fun a7 h => k a0 a1 a2 a3 a4 a5 a6 a7 h.1 h.2.1 h.2.2.1 h.2.2.2.1 h.2.2.2.2.1 h.2.2.2.2.2.1 h.2.2.2.2.2.2.1 h.2.2.2.2.2.2.2.1 h.2.2.2.2.2.2.2.2.1 h.2.2.2.2.2.2.2.2.2.1 h.2.2.2.2.2.2.2.2.2.2.1 h.2.2.2.2.2.2.2.2.2.2.2.1 h.2.2.2.2.2.2.2.2.2.2.2.2.1 h.2.2.2.2.2.2.2.2.2.2.2.2.2
theorem e9_14 {α0 α1 α2 α3 α4 α5 α6 α7 α8 : Type} {P0 P1 P2 P3 P4 P5 P6 P7 P8 P9 P10 P11 P12 P13 : α0 → α1 → α2 → α3 → α4 → α5 → α6 → α7 → α8 → Prop} {G : Prop} (h : ∃ a0 a1 a2 a3 a4 a5 a6 a7 a8, P0 a0 a1 a2 a3 a4 a5 a6 a7 a8 ∧ P1 a0 a1 a2 a3 a4 a5 a6 a7 a8 ∧ P2 a0 a1 a2 a3 a4 a5 a6 a7 a8 ∧ P3 a0 a1 a2 a3 a4 a5 a6 a7 a8 ∧ P4 a0 a1 a2 a3 a4 a5 a6 a7 a8 ∧ P5 a0 a1 a2 a3 a4 a5 a6 a7 a8 ∧ P6 a0 a1 a2 a3 a4 a5 a6 a7 a8 ∧ P7 a0 a1 a2 a3 a4 a5 a6 a7 a8 ∧ P8 a0 a1 a2 a3 a4 a5 a6 a7 a8 ∧ P9 a0 a1 a2 a3 a4 a5 a6 a7 a8 ∧ P10 a0 a1 a2 a3 a4 a5 a6 a7 a8 ∧ P11 a0 a1 a2 a3 a4 a5 a6 a7 a8 ∧ P12 a0 a1 a2 a3 a4 a5 a6 a7 a8 ∧ P13 a0 a1 a2 a3 a4 a5 a6 a7 a8) (k : ∀ a0 a1 a2 a3 a4 a5 a6 a7 a8, P0 a0 a1 a2 a3 a4 a5 a6 a7 a8 → P1 a0 a1 a2 a3 a4 a5 a6 a7 a8 → P2 a0 a1 a2 a3 a4 a5 a6 a7 a8 → P3 a0 a1 a2 a3 a4 a5 a6 a7 a8 → P4 a0 a1 a2 a3 a4 a5 a6 a7 a8 → P5 a0 a1 a2 a3 a4 a5 a6 a7 a8 → P6 a0 a1 a2 a3 a4 a5 a6 a7 a8 → P7 a0 a1 a2 a3 a4 a5 a6 a7 a8 → P8 a0 a1 a2 a3 a4 a5 a6 a7 a8 → P9 a0 a1 a2 a3 a4 a5 a6 a7 a8 → P10 a0 a1 a2 a3 a4 a5 a6 a7 a8 → P11 a0 a1 a2 a3 a4 a5 a6 a7 a8 → P12 a0 a1 a2 a3 a4 a5 a6 a7 a8 → P13 a0 a1 a2 a3 a4 a5 a6 a7 a8 → G) : G := h.elim fun a0 h => h.elim fun a1 h => h.elim fun a2 h => h.elim fun a3 h => h.elim fun a4 h => h.elim fun a5 h => h.elim fun a6 h => h.elim fun a7 h => h.elim fun a8 h => k a0 a1 a2 a3 a4 a5 a6 a7 a8 h.1 h.2.1 h.2.2.1 h.2.2.2.1 h.2.2.2.2.1 h.2.2.2.2.2.1 h.2.2.2.2.2.2.1 h.2.2.2.2.2.2.2.1 h.2.2.2.2.2.2.2.2.1 h.2.2.2.2.2.2.2.2.2.1 h.2.2.2.2.2.2.2.2.2.2.1 h.2.2.2.2.2.2.2.2.2.2.2.1 h.2.2.2.2.2.2.2.2.2.2.2.2.1 h.2.2.2.2.2.2.2.2.2.2.2.2.2
theorem e10_14 {α0 α1 α2 α3 α4 α5 α6 α7 α8 α9 : Type} {P0 P1 P2 P3 P4 P5 P6 P7 P8 P9 P10 P11 P12 P13 : α0 → α1 → α2 → α3 → α4 → α5 → α6 → α7 → α8 → α9 → Prop} {G : Prop} (h : ∃ a0 a1 a2 a3 a4 a5 a6 a7 a8 a9, P0 a0 a1 a2 a3 a4 a5 a6 a7 a8 a9 ∧ P1 a0 a1 a2 a3 a4 a5 a6 a7 a8 a9 ∧ P2 a0 a1 a2 a3 a4 a5 a6 a7 a8 a9 ∧ P3 a0 a1 a2 a3 a4 a5 a6 a7 a8 a9 ∧ P4 a0 a1 a2 a3 a4 a5 a6 a7 a8 a9 ∧ P5 a0 a1 a2 a3 a4 a5 a6 a7 a8 a9 ∧ P6 a0 a1 a2 a3 a4 a5 a6 a7 a8 a9 ∧ P7 a0 a1 a2 a3 a4 a5 a6 a7 a8 a9 ∧ P8 a0 a1 a2 a3 a4 a5 a6 a7 a8 a9 ∧ P9 a0 a1 a2 a3 a4 a5 a6 a7 a8 a9 ∧ P10 a0 a1 a2 a3 a4 a5 a6 a7 a8 a9 ∧ P11 a0 a1 a2 a3 a4 a5 a6 a7 a8 a9 ∧ P12 a0 a1 a2 a3 a4 a5 a6 a7 a8 a9 ∧ P13 a0 a1 a2 a3 a4 a5 a6 a7 a8 a9) (k : ∀ a0 a1 a2 a3 a4 a5 a6 a7 a8 a9, P0 a0 a1 a2 a3 a4 a5 a6 a7 a8 a9 → P1 a0 a1 a2 a3 a4 a5 a6 a7 a8 a9 → P2 a0 a1 a2 a3 a4 a5 a6 a7 a8 a9 → P3 a0 a1 a2 a3 a4 a5 a6 a7 a8 a9 → P4 a0 a1 a2 a3 a4 a5 a6 a7 a8 a9 → P5 a0 a1 a2 a3 a4 a5 a6 a7 a8 a9 → P6 a0 a1 a2 a3 a4 a5 a6 a7 a8 a9 → P7 a0 a1 a2 a3 a4 a5 a6 a7 a8 a9 → P8 a0 a1 a2 a3 a4 a5 a6 a7 a8 a9 → P9 a0 a1 a2 a3 a4 a5 a6 a7 a8 a9 → P10 a0 a1 a2 a3 a4 a5 a6 a7 a8 a9 → P11 a0 a1 a2 a3 a4 a5 a6 a7 a8 a9 → P12 a0 a1 a2 a3 a4 a5 a6 a7 a8 a9 → P13 a0 a1 a2 a3 a4 a5 a6 a7 a8 a9 → G) : G := h.elim fun a0 h => h.elim fun a1 h => h.elim fun a2 h => h.elim fun a3 h => h.elim fun a4 h => h.elim fun a5 h => h.elim fun a6 h => h.elim fun a7 h => h.elim fun a8 h => h.elim fun a9 h => k a0 a1 a2 a3 a4 a5 a6 a7 a8 a9 h.1 h.2.1 h.2.2.1 h.2.2.2.1 h.2.2.2.2.1 h.2.2.2.2.2.1 h.2.2.2.2.2.2.1 h.2.2.2.2.2.2.2.1 h.2.2.2.2.2.2.2.2.1 h.2.2.2.2.2.2.2.2.2.1 h.2.2.2.2.2.2.2.2.2.2.1 h.2.2.2.2.2.2.2.2.2.2.2.1 h.2.2.2.2.2.2.2.2.2.2.2.2.1 h.2.2.2.2.2.2.2.2.2.2.2.2.2
-- CO
theorem mro_obj : mroOf (.type "object") = pure [.type "object"] := by kernel_rfl
theorem lk_obj_new : typeLookup (.type "object") "__new__" = pure (some (.builtin "object.__new__")) := by rw [typeLookup_type, builtinLookup_eq_fast]; kernel_rfl
theorem called_obj : TypeCalled "object" "object.__new__" "object.__init__" :=
  ⟨by decide +kernel, by decide +kernel, ⟨_, _, mro_obj⟩, madeBy_type mro_obj lk_obj_new (by decide +kernel), by decide +kernel, by rw [isSubtype_type]; kernel_rfl, F.slot_object_init⟩
theorem madeHere_obj : Bind.madeHere "object.__new__" (.type "object") = pure () := by kernel_rfl
section
variable {prog : Program} {w : World} {A : Around} {E : Value → Shared → Prop} {s : Shared}
theorem call_object {Q : Value → Shared → Prop} (h : Q (.ref s.heap.objs.size) { s with heap := s.heap.push { cls := .type "object" } }) :
    wpAny (model prog w) A (call (.type "object") []) Q E s := by
  refine callType_codes (Q₁ := fun obj s₁ => obj = .ref s.heap.objs.size ∧ s₁ = { s with heap := s.heap.push { cls := .type "object" } }) called_obj (by kernel_rfl) F.entry_object_init ?_ ?_
  · refine codeAny_call_builtin (by decide +kernel) F.entry_object_new (wpAny_of_eq (a := ()) (by kernel_rfl) ?_)
    unfold Builtin.«object.__new__»
    refine wpAny_bind (wpAny_of_eq (a := true) (by rfl) ?_)
    simp only [Bool.not_true, Bool.false_eq_true, if_false]
    have e1 : ((Manifest.find? "object").elim false fun x => x.mro.any fun t => (Manifest.find? t).elim false fun x => x.noNew) = false := by decide +kernel
    simp only [e1, Bool.false_eq_true, if_false, pure_bind]
    refine wpAny_bind (wpAny_of_eq madeHere_obj ?_)
    simp only [List.isEmpty_nil, Bool.not_true, Bool.or_self, Bool.false_eq_true, if_false, pure_bind]
    have e2 : typeHasDict (.type "object") = false := by decide +kernel
    simp only [e2, Bool.false_eq_true, if_false, pure_bind]
    refine wpAny_bind (wpAny_newObj_type ?_)
    have e3 : diesByItsTypesDel "object" = false := by decide +kernel
    simp only [e3, Bool.false_eq_true, if_false, pure_bind]
    exact wpAny_pure ⟨rfl, rfl⟩
  · rintro obj s₁ ⟨rfl, rfl⟩
    refine ⟨⟨_, Heap.get?_push_size _ rfl, rfl⟩, F.args_object_init_1 _, ?_⟩
    unfold Builtin.«object.__init__»
    exact wpAny_pure ⟨rfl, h⟩
end
-- B0

/-- an item of a heap: its value (a tuple's reference), its key as numbers, its place number, its element -/
structure It where
  v : Value
  k : List Int
  i : Int
  e : Value
def it0 : It := ⟨.none, [], 0, .none⟩

section
variable {prog : Program} {w : World} {A : Around} {s : Shared} {b : Heap} {K : Frag} {mg mb : Str → Option Value} {p : Program} {loose : List Str} {mean : ExcName → Option Value}

/-- entering one of the text's defs from any state over a base -/
theorem enter {R : Result → Shared → Prop} {name qual : Str} {params : Arguments} {body : List Stmt} {scope : Scope} {dV kV doc pm cdv ct oc : Value} {an od : Option Addr} {osl : Array (Option Value)} {f : Addr} {args : Args} {binds : List (Str × Value)}
    (st : b.StaysIn s.heap) (hsz : b.objs.size ≤ s.heap.objs.size) (X : K.In b) (T : Top p loose mean mg mb b)
    (ho : K.lookup f = some ⟨oc, od, .func (fnOf name qual params body scope dV kV doc pm an cdv ct), osl⟩) (hcd : codeIn K cdv qual = true) (hroom : A.depth < recursionLimit)
    (hbind : BindsTo s (fnOf name qual params body scope dV kV doc pm an cdv ct) args binds) (hloc : ∀ y ∈ binds, scope.names.lookup y.1 = some .local)
    (h : ∀ L' h₁, Fr b L' h₁ (fun y => binds.reverse.lookup y) → s.heap.StaysIn h₁ → (∀ x o, s.heap.get? x = some o → x < L') →
      wpAny (model prog w) (A.deeper (envOf qual scope L' f cdv)) (execs body (envOf qual scope L' f cdv))
        (fun fl s' => R (.ok (.ret (match fl with | .ret v => v | _ => .none))) s')
        (fun e s' => wpAny (model prog w) (A.deeper (envOf qual scope L' f cdv)) (leaving (envOf qual scope L' f cdv) e) (fun _ s'' => R (.error e) s'') (fun e' s'' => R (.error e') s'') s')
        { s with heap := h₁, toks := s.toks + binds.length })
    (hco : scope.isCoroutine = false) (hgen : scope.isGenerator = false) (hk : scope.kind = .function)
    (hcell : ∀ x ∈ scope.names, x.2 ≠ .cell) : codeAny (model prog w) A (.call (.ref f) args) R s := by
  refine codeAny_call_function hroom (st _ _ (X _ _ ho)) rfl hco hgen rfl (codeRec_of (X.keeps st) hcd) (hbind _ _ _ _ ?_)
  refine wpAny_newFunctionEnv hcell hloc (fun h₁ hns hsb => ⟨(T.nolimit.keeps st).fresh _ hsb, codeAny_func (h s.heap.objs.size h₁ ⟨hns, fun x o e => ?_, hsz⟩ (fun x o e => ?_) (fun x o e => Heap.lt_size e))⟩) hk
  · exact hsb.extBut x o (Nat.ne_of_lt (Heap.lt_size (st _ _ e))) (Heap.get?_push_of_some _ (st _ _ e))
  · exact hsb.extBut x o (Nat.ne_of_lt (Heap.lt_size e)) (Heap.get?_push_of_some _ e)
end

section
variable {prog : Program} {w : World} {A : Around} {E : Value → Shared → Prop} {s : Shared} {h₀ : Heap} {L D : Addr} {m : Str → Option Value} {news : List (Addr × Obj)} {n : Nat} {xs : List It}

theorem getD_map {k : Nat} (h : k < xs.length) : (xs.map It.v)[k]? = some (xs.getD k it0).v := by
  simp [h]

theorem sub_at {value slice : PySem.Expr} {k : Int} {u : Tok} {Q : Value → Shared → Prop} (N : News h₀ L s.heap news) (hm : (D, listOf (xs.map It.v).toArray n) ∈ news) (h0 : 0 ≤ k) (h1 : k < xs.length) (hfit : k < 2 ^ 63)
    (h : Q (xs.getD k.toNat it0).v s)
    (hs : subscripted slice false (.ref D) (.int k u) = operate [.ref D, .int k u] (getItem (.ref D) (.int k u)) := by with_unfolding_all rfl) :
    wpAny (model prog w) A (subscriptTail value slice (.ref D) (.int k u)) Q E s :=
  tail_any (PySem.IsL.isList (n := n) (N _ hm).1).typeIs slot_list_getitem.lookup
    (wpAny_getItem_list (PySem.IsL.isList (n := n) (N _ hm).1) h0 hfit (by simpa using getD_map (xs := xs) (k := k.toNat) (by lia)) h) hs

/-- the ledger with another object at D -/
def upd (D : Addr) (o : Obj) (news : List (Addr × Obj)) : List (Addr × Obj) := news.map fun p => if p.1 = D then (D, o) else p

theorem news_upd' {h h' : Heap} {o o' : Obj} (N : News h₀ L h news) (hm : (D, o) ∈ news) (hs : Heap.SameBut D h h') (ho : h'.get? D = some o') : News h₀ L h' (upd D o' news) := by
  intro p hp
  refine e1_2 (List.mem_map.mp hp) ?_
  intro q hq zr2
  first | subst zr2 | cases zr2
  by_cases e : q.1 = D
  · simp only [e, if_true]
    exact ⟨ho, (N _ hm).2⟩
  · simp only [e, if_false]
    exact ⟨(hs.2 _ e).trans (N _ hq).1, (N _ hq).2⟩

theorem fr_change {h h' : Heap} {o : Obj} (F : Fr h₀ L h m) (N : News h₀ L h news) (hm : (D, o) ∈ news) (hs : Heap.SameBut D h h') : Fr h₀ L h' m :=
  F.change hs (N _ hm).2.1 (N _ hm).2.2

theorem set_at {k : Int} {u : Tok} {v : It} {Q : Unit → Shared → Prop} (F : Fr h₀ L s.heap m) (N : News h₀ L s.heap news) (hm : (D, listOf (xs.map It.v).toArray n) ∈ news) (h0 : 0 ≤ k) (h1 : k < xs.length) (hfit : k < 2 ^ 63)
    (h : ∀ h', Fr h₀ L h' m → News h₀ L h' (upd D (listOf ((xs.set k.toNat v).map It.v).toArray n) news) → Q () { s with heap := h' }) :
    wpAny (model prog w) A (setItem (.ref D) (.int k u) v.v) Q E s := by
  refine ki_setAt (N _ hm).1 h0 hfit (by simpa using h1) (h _ (fr_change F N hm (Heap.SameBut.update ..)) (news_upd' N hm (Heap.SameBut.update ..) ?_))
  have q := PySem.IsL.update (N _ hm).1 (fun a : Array Value => a.setIfInBounds k.toNat v.v)
  have e : (xs.map It.v).toArray.setIfInBounds k.toNat v.v = ((xs.set k.toNat v).map It.v).toArray := by
    apply Array.toList_inj.mp; simp [List.map_set]
  simp only [e] at q
  rw [q]; simp

end

/-- the next turn's state: shut, so that the walk stops at it -/
def Next (I : Nat → Shared → Prop) (n : Nat) (s : Shared) : Prop := ∃ m, m < n ∧ I m s
theorem codeW {prog : Program} {w : World} {A : Around} {E : Value → Shared → Prop} {s : Shared} {test : PySem.Expr} {body orelse : List Stmt} {env : Env} {pos : Pos} {Q : Flow → Shared → Prop} (I : Nat → Shared → Prop) (n : Nat) (h : I n s)
    (turn : ∀ n s, I n s → wpAny (model prog w) A (isTrue test env (eval test env)) (fun b s₂ =>
        if b then wpAny (model prog w) A (execs body env) (fun f s₃ => match f with
            | .next | .cont => Next I n s₃
            | .brk => Q .next s₃
            | .ret v => Q (.ret v) s₃) (notedBy (model prog w) A env (cameBackBy (model prog w) A env E)) s₂
        else wpAny (model prog w) A (execs orelse env) Q (notedBy (model prog w) A env (cameBackBy (model prog w) A env E)) s₂)
        (notedBy (model prog w) A env (cameBackBy (model prog w) A env E)) s) :
    wpAny (model prog w) A (exec (.While test body orelse pos) env) Q E s :=
  wpAny_While (codeAny_whileLoop I (fun n s hI => turn n s hI) n h)
theorem rshift_half {prog : Program} {w : World} {A : Around} {E : Value → Shared → Prop} {s : Shared} {c : Nat} {t u : Tok} {Q : Value → Shared → Prop} (hc : 0 < c) (h : Q (.int (((c - 1) / 2 : Nat) : Int) s.toks) { s with toks := s.toks + 1 }) :
    wpAny (model prog w) A (binaryOp .RShift (.int ((c : Int) - 1) t) (.int 1 u)) Q E s := by
  refine rshift_int (by decide) ?_
  have e : ((c : Int) - 1).fdiv (2 ^ Int.toNat 1) = (((c - 1) / 2 : Nat) : Int) := by
    have : (2 : Int) ^ Int.toNat 1 = 2 := rfl
    rw [this, Int.fdiv_eq_ediv_of_nonneg _ (by decide)]
    lia
  rw [e]; exact h

theorem getD_mem {xs : List It} {k : Nat} (h : k < xs.length) : xs.getD k it0 ∈ xs := by
  rw [List.getD_eq_getElem?_getD, List.getElem?_eq_getElem h]; exact List.getElem_mem h

section
variable {h₀ h h' b : Heap} {L D : Addr} {m : Str → Option Value} {news : List (Addr × Obj)}
theorem stays_hide (st : b.StaysIn h) (hD : b.get? D = none) : b.StaysIn (hideAll h [D]) := fun x o e =>
  hideAll_get _ (st x o e) fun q => by
    rw [List.mem_singleton] at q; rw [q, hD] at e; cases e
/-- the frame behind a call that turned D alone -/
theorem fr_back (F : Fr h₀ L h m) (hL : L ≠ D) (hD : h₀.get? D = none) (st : (hideAll h [D]).StaysIn h') : Fr h₀ L h' m := by
  refine e3_2 (F.ns) ?_
  intro oL es ep hl r
  refine ⟨⟨oL, es, ep, st _ _ (hideAll_get _ hl fun q => hL (List.mem_singleton.mp q)), r⟩, fun x o e => st _ _ (stays_hide F.keep hD x o e), F.above⟩
theorem news_back {o o' : Obj} (N : News h₀ L h news) (hm : (D, o) ∈ news) (st : (hideAll h [D]).StaysIn h') (ho : h'.get? D = some o') : News h₀ L h' (upd D o' news) := by
  intro p hp
  refine e1_2 (List.mem_map.mp hp) ?_
  intro q hq zr2
  first | subst zr2 | cases zr2
  by_cases e : q.1 = D
  · simp only [e, if_true]
    exact ⟨ho, (N _ hm).2⟩
  · simp only [e, if_false]
    exact ⟨st _ _ (hideAll_get _ (N _ hq).1 fun z => e (List.mem_singleton.mp z)), (N _ hq).2⟩
end
theorem len_at {prog : Program} {w : World} {A : Around} {E : Value → Shared → Prop} {s : Shared} {h₀ : Heap} {L D : Addr} {news : List (Addr × Obj)} {n : Nat} {xs : List It} {Q : Value → Shared → Prop}
    (N : News h₀ L s.heap news) (hm : (D, listOf (xs.map It.v).toArray n) ∈ news) (hf : xs.length ≤ 1000000)
    (h : Q (.int (xs.length : Int) (s.toks + 1)) { s with toks := s.toks + 1 + 1 }) : wpAny (model prog w) A (call (.builtin "len") [.ref D]) Q E s := by
  refine len_list (PySem.IsL.isList (n := n) (N _ hm).1) ?_ ?_
  · simp only [List.size_toArray, List.length_map]; lia
  · simpa using h
-- B1
section
variable {prog : Program} {w : World} {A : Around} {E : Value → Shared → Prop} {s : Shared}

theorem range_fields {r : Addr} {a b c : Int} {t u v : Tok} {Q : Int × Int × Int → Shared → Prop} (hr : IsRange s.heap r a b c t u v) (h : Q (a, b, c) s) : wpAny (model prog w) A (Builtin.Range.rangeFields (.ref r)) Q E s := by
  unfold Builtin.Range.rangeFields
  refine wpAny_bind (wpAny_field hr rfl (x := .int a t) rfl ?_)
  refine wpAny_bind (wpAny_of_eq (a := some a) rfl ?_)
  refine wpAny_bind (wpAny_field hr rfl (x := .int b u) rfl ?_)
  refine wpAny_bind (wpAny_of_eq (a := some b) rfl ?_)
  refine wpAny_bind (wpAny_field hr rfl (x := .int c v) rfl ?_)
  refine wpAny_bind (wpAny_of_eq (a := some c) rfl ?_)
  exact wpAny_pure h

def revRange (a b c : Int) : Obj :=
  { cls := .type "range_iterator", data := .fields #[rawInt (a + (Builtin.Range.rangeSize a b c - 1) * c), rawInt (Builtin.Range.rangeSize a b c), rawInt (-c)] }
def revSmall (a b c : Int) : Bool := Builtin.Range.rangeFitsLong a && Builtin.Range.rangeFitsLong b && Builtin.Range.rangeFitsLong c && Builtin.Range.rangeFitsLong (-c) && Builtin.Range.rangeFitsLong (a - c) && Builtin.Range.rangeFitsLong (Builtin.Range.rangeSize a b c)

theorem call_range_reversed {r : Addr} {a b c : Int} {t u v : Tok} {Q : Value → Shared → Prop} (hr : IsRange s.heap r a b c t u v) (hsm : revSmall a b c = true)
    (h : Q (.ref s.heap.objs.size) { s with heap := s.heap.push (revRange a b c) }) : wpAny (model prog w) A (call (.builtin "range.__reversed__") [.ref r]) Q E s := by
  have hT : s.TypeIs (.ref r) "range" := ⟨_, hr, rfl⟩
  refine wpAny_call_entry F.slot_range_reversed hT F.entry_range_reversed ?_ (F.args_range_reversed_1 _)
  unfold Builtin.«range.__reversed__»
  refine wpAny_bind (wpAny_of_eq (a := Value.ref r) rfl ?_)
  refine wpAny_bind (range_fields hr ?_)
  dsimp only
  unfold revSmall at hsm
  simp only [hsm, Bool.not_true, Bool.false_eq_true, if_false, if_true]
  exact wpAny_bind (wpAny_newObj_type (wpAny_pure ⟨_, rfl, h⟩))

theorem code_reversed_range {r : Addr} {a b c : Int} {t u v : Tok} {Q₁ : Value → Shared → Prop} (hr : IsRange s.heap r a b c t u v) (hsm : revSmall a b c = true)
    (h : Q₁ (.ref s.heap.objs.size) { s with heap := s.heap.push (revRange a b c) }) :
    codeAny (model prog w) A (.call (.builtin "reversed.__new__") ⟨[.type "reversed", .ref r], []⟩) (wants Q₁ E) s := by
  have hT : s.TypeIs (.ref r) "range" := ⟨_, hr, rfl⟩
  refine codeAny_of_tree ?_
  show wpAny _ A.in1 (do checkBuiltinCall "reversed.__new__" ⟨[.type "reversed", .ref r], []⟩; again (.builtin "reversed.__new__" ⟨[.type "reversed", .ref r], []⟩)) _ _ s
  refine wpAny_bind (wpAny_of_eq (F.newCall_reversed_1 _) (wpAny_pure ⟨plainId_quiet F.plain_reversed_new _, codeAny_builtin F.entry_reversed_new ?_⟩))
  rw [Around.under_plainId F.plain_reversed_new _]
  unfold Builtin.«reversed.__new__»
  refine wpAny_bind (wpAny_of_eq (newClass_reversed _) ?_)
  try dsimp only
  refine wpAny_bind (wpAny_of_eq (a := ()) (by first | rfl | kernel_rfl) ?_)
  refine wpAny_bind (wpAny_of_eq (a := ()) (by first | rfl | kernel_rfl) ?_)
  try dsimp only
  refine wpAny_bind (wpAny_specialOf hT F.slot_range_reversed.lookup ?_)
  try dsimp only
  refine wpAny_bind (wpAny_of_eq (F.slot_range_reversed.bind _) ?_)
  try dsimp only
  first
  | rw [if_neg (show ¬ ((Value.builtin "range.__reversed__" == Value.none) = true) from Bool.false_ne_true)]
  | (show wpAny _ _ (if (Value.builtin "range.__reversed__" == Value.none) = true then _ else _) _ _ _; rw [if_neg (show ¬ ((Value.builtin "range.__reversed__" == Value.none) = true) from Bool.false_ne_true)])
  refine wpAny_bind (wpAny_rule ?_)
  refine wpAny_bind (m := runValue (.call (.builtin "range.__reversed__") ⟨[.ref r], []⟩)) (show wpAny _ _ (call (.builtin "range.__reversed__") [.ref r]) _ _ _ from call_range_reversed hr hsm ?_)
  first
  | exact wpAny_pure h
  | exact wpAny_bind (wpAny_pure (wpAny_pure h))

theorem sub_ri_reversed : isSubtype (.type "range_iterator") (.type "reversed") = pure false := by rw [isSubtype_type]; kernel_rfl
theorem call_reversed_range {r : Addr} {a b c : Int} {t u v : Tok} {Q : Value → Shared → Prop} (hr : IsRange s.heap r a b c t u v) (hsm : revSmall a b c = true)
    (h : Q (.ref s.heap.objs.size) { s with heap := s.heap.push (revRange a b c) }) : wpAny (model prog w) A (call (.type "reversed") [.ref r]) Q E s := by
  refine callType_other (U := "range_iterator") (Q₁ := fun obj s₁ => obj = .ref s.heap.objs.size ∧ s₁ = { s with heap := s.heap.push (revRange a b c) }) (by decide +kernel) F.create_reversed ⟨_, _, F.mro_reversed⟩ F.made_reversed sub_ri_reversed (F.typeCall_reversed_1 _) (code_reversed_range hr hsm ⟨rfl, rfl⟩) ?_
  rintro obj s₁ ⟨rfl, rfl⟩
  exact ⟨⟨_, Heap.get?_push_size _ rfl, rfl⟩, h⟩

theorem codeF {target : PySem.Expr} {it : Value} {body orelse : List Stmt} {env : Env} {Q : Flow → Shared → Prop} (I : Nat → Shared → Prop) (n : Nat) (h : I n s)
    (turn : ∀ n s, I n s → wpAny (model prog w) A (pyNext it) (fun r s₁ => match r with
      | none => wpAny (model prog w) A (execs orelse env) Q (notedBy (model prog w) A env (cameBackBy (model prog w) A env E)) s₁
      | some v => wpAny (model prog w) A (assign target env v) (fun _ s₂ => wpAny (model prog w) A (execs body env) (fun f s₃ => match f with
          | .next | .cont => Next I n s₃
          | .brk => Q .next s₃
          | .ret v => Q (.ret v) s₃) (notedBy (model prog w) A env (cameBackBy (model prog w) A env E)) s₂) (notedBy (model prog w) A env (cameBackBy (model prog w) A env E)) s₁) (notedBy (model prog w) A env (cameBackBy (model prog w) A env E)) s)
    (ht : ∀ v, letOwnedTupleGo target it v = pure () := by intro _; rfl) :
    codeAny (model prog w) A (.forLoop target it body orelse env) (fun r s' => match r with | .ok f => Q f s' | .error e => cameBackBy (model prog w) A env E e s') s :=
  codeAny_forLoop I (fun n s hI => turn n s hI) n h ht
end

section
variable {h₀ h h' : Heap} {L D : Addr} {m : Str → Option Value} {news : List (Addr × Obj)}
theorem fr_keeps (F : Fr h₀ L h m) (k : h.StaysIn h') : Fr h₀ L h' m :=
  ⟨F.ns.keeps k, fun x o e => k _ _ (F.keep x o e), F.above⟩
theorem news_keeps (N : News h₀ L h news) (k : h.StaysIn h') : News h₀ L h' news := fun p hp => ⟨k _ _ (N p hp).1, (N p hp).2⟩
/-- D alone is turned or lost; the rest is kept -/
theorem fr_ext (F : Fr h₀ L h m) (hL : L ≠ D) (hD : h₀.get? D = none) (k : Heap.ExtBut D h h') : Fr h₀ L h' m := by
  refine e3_2 (F.ns) ?_
  intro oL es ep hl r
  exact ⟨⟨oL, es, ep, k _ _ hL hl, r⟩, fun x o e => k _ _ (fun q => by rw [q, hD] at e; cases e) (F.keep x o e), F.above⟩
theorem news_ext (N : News h₀ L h news) (k : Heap.ExtBut D h h') (hn : ∀ p ∈ news, p.1 ≠ D) : News h₀ L h' news := fun p hp => ⟨k _ _ (hn p hp) (N p hp).1, (N p hp).2⟩
theorem news_same (N : News h₀ L h news) (k : Heap.SameBut D h h') (hn : ∀ p ∈ news, p.1 ≠ D) : News h₀ L h' news := news_ext N k.extBut hn
theorem news_cons {a : Addr} {o : Obj} (N : News h₀ L h news) (ho : h.get? a = some o) (hL : a ≠ L) (h0 : h₀.get? a = none) : News h₀ L h ((a, o) :: news) := fun p hp => by
  rcases List.mem_cons.mp hp with rfl | hp
  · exact ⟨ho, hL, h0⟩
  · exact N p hp
end
local macro_rules | `(tactic| walk_at "eval Name") => `(tactic| (k_here; (with_reducible show wpAny _ _ (eval (Expr.Name _ _) (envOf _ _ _ _ _)) _ _ _); k_dflt (refine' ld ?k1 ?k2 ?_; (case k1 => k_asm); (case k2 => first | (with_reducible assumption) | exact rfl | assumption); k_whole)))
local macro_rules | `(tactic| walk_at "eval Name") => `(tactic| (k_here; (with_reducible show wpAny _ _ (eval (Expr.Name _ _) (envOfC _ _ _ _ _)) _ _ _); k_dflt (refine' nameX_L ?F ?v ?_ ?a ?b; (case F => k_asm); (case a => rfl); (case b => rfl); (case v => first | (with_reducible assumption) | exact rfl | assumption); k_whole)))
local macro_rules | `(tactic| walk_at "binaryOp RShift int int") => `(tactic| (with_reducible refine rshift_half ?kr ?_; (case kr => lia)))
-- B2
section
variable {prog : Program} {w : World} {A : Around} {E : Value → Shared → Prop} {s : Shared}

/-- a sequence's comparison, item by item -/
def SeqLex (prog : Program) (w : World) (A : Around) (op : CmpOp) (fin : Bool) (Q E : Value → Shared → Prop) : List (Value × Value) → Shared → Prop
  | [], s => Q (.bool fin) s
  | (p, q) :: r, s => wpAny (model prog w) A (eqBool p q) (fun e s' => if e = true then SeqLex prog w A op fin Q E r s' else wpAny (model prog w) A (richCompare op p q) (fun v s'' => v ≠ .notImplemented ∧ Q v s'') E s') E s

theorem tuple_lt_tree (x y : Addr) : Builtin.«tuple.__lt__» ⟨[.ref x, .ref y], []⟩ = (do
    if !(← isInstance (.ref y) (.type "tuple")) then return ← ret .notImplemented
    let xs ← Builtin.Tuple.tupleItemsOf (.ref x)
    let ys ← Builtin.Tuple.tupleItemsOf (.ref y)
    for (x, y) in xs.toList.zip ys.toList do
      if !(← eqBool x y) then
        rule "tuple.compare.by-the-first-pair-that-differs"
        return ← ret (← richCompare .Lt x y)
    ret (Builtin.Tuple.tupleCompareSizes .Lt xs.size ys.size)) := rfl

theorem tup_loop {fin : Bool} {Q : Value → Shared → Prop} {R : Option PySem.Fin × Unit → Shared → Prop} {body : (Value × Value) → Option PySem.Fin × Unit → Sem (ForInStep (Option PySem.Fin × Unit))}
    (hb : ∀ p q (s : Shared) (R' : ForInStep (Option PySem.Fin × Unit) → Shared → Prop),
      wpAny (model prog w) A (eqBool p q) (fun e s' => if e = true then R' (.yield (none, ())) s' else wpAny (model prog w) A (richCompare .Lt p q) (fun v s'' => R' (.done (some (.done (.ret v)), ())) s'') E s') E s →
      wpAny (model prog w) A (body (p, q) (none, ())) R' E s)
    (h1 : ∀ s, Q (.bool fin) s → R (none, ()) s) (h2 : ∀ v s, v ≠ .notImplemented ∧ Q v s → R (some (.done (.ret v)), ()) s) :
    ∀ (l : List (Value × Value)) (s : Shared), SeqLex prog w A .Lt fin Q E l s → wpAny (model prog w) A (forIn l (none, ()) body) R E s
  | [], s, h => by rw [List.forIn_nil]; exact wpAny_pure (h1 s h)
  | (p, q) :: r, s, h => by
    rw [List.forIn_cons]
    refine wpAny_bind (hb p q s _ (wpAny_mono h (fun e s' he => ?_) fun _ _ x => x))
    cases e with
    | true =>
      simp only [if_true] at he ⊢
      exact tup_loop hb h1 h2 r s' he
    | false =>
      simp only [Bool.false_eq_true, if_false] at he ⊢
      exact wpAny_mono he (fun v s'' hv => wpAny_pure (h2 v s'' hv)) fun _ _ x => x

theorem tup_lt {x y : Addr} {xs ys : Array Value} {n k : Nat} {Q : Value → Shared → Prop} (hu : A.units < 9000) (hx : s.heap.get? x = some { cls := .type "tuple", data := .seq xs n }) (hy : s.heap.get? y = some { cls := .type "tuple", data := .seq ys k })
    (h : SeqLex prog w A.in1 .Lt (decide (xs.size < ys.size)) Q E (xs.toList.zip ys.toList) s) :
    wpAny (model prog w) A (compareOp .Lt (.ref x) (.ref y)) Q E s := by
  have tx : s.TypeIs (.ref x) "tuple" := ⟨_, hx, rfl⟩
  have ty : s.TypeIs (.ref y) "tuple" := ⟨_, hy, rfl⟩
  refine cmp_ofLt (wpAny_richCompare_same_room tx ty F.slot_tuple_lt (wpAny_call_entry F.slot_tuple_lt tx F.entry_tuple_lt ?_ (F.args_tuple_lt_2 _ _)) (Nat.lt_trans hu (by decide)))
  rw [tuple_lt_tree]
  refine wpAny_bind (wpAny_isInstance ty (b := true) (by rw [isSubtype_type]; kernel_rfl) ?_)
  simp only [Bool.not_true, Bool.false_eq_true, if_false]
  refine wpAny_bind (wpAny_tupleItemsOf hx rfl ?_)
  refine wpAny_bind (wpAny_tupleItemsOf hy rfl ?_)
  refine wpAny_bind (tup_loop (fin := decide (xs.size < ys.size)) (Q := Q) (fun p q s' R' h' => ?_) (fun s' hq => ?_) (fun v s' hq => ?_) _ s h)
  · dsimp only
    refine wpAny_bind (wpAny_mono h' (fun e s'' he => ?_) fun _ _ x => x)
    cases e with
    | true =>
      simp only [if_true] at he
      (try simp only [Bool.not_true, Bool.false_eq_true, if_false])
      exact wpAny_pure he
    | false =>
      simp only [Bool.false_eq_true, if_false] at he
      (try simp only [Bool.not_false, if_true])
      refine wpAny_bind (wpAny_rule ?_)
      exact wpAny_bind (wpAny_mono he (fun v s3 hv => wpAny_bind (wpAny_pure (wpAny_pure hv))) fun _ _ x => x)
  · exact wpAny_pure ⟨_, rfl, by unfold Builtin.Tuple.tupleCompareSizes; simp, hq⟩
  · exact wpAny_pure ⟨_, rfl, hq.1, hq.2⟩

/-- a list's comparison by Lt, item by item, the state the same until two items differ -/
def ListLexLt (prog : Program) (w : World) (A : Around) (fin : Bool) (Q E : Value → Shared → Prop) (s : Shared) : List (Value × Value) → Prop
  | [] => Q (.bool fin) s
  | (p, q) :: r => (MeetsSeq.EqGives p q true ∧ ListLexLt prog w A fin Q E s r) ∨ (MeetsSeq.EqGives p q false ∧ wpAny (model prog w) A (richCompare .Lt p q) Q E s)

theorem list_lt_tree (x y : Addr) : Builtin.«list.__lt__» ⟨[.ref x, .ref y], []⟩ = (do
    if !(← isInstance (.ref y) (.type "list")) then return ← ret .notImplemented
    again (.builtin "list.__eq__.loop" ⟨[.ref x, .ref y, rawInt 0, rawInt 0], []⟩)) := rfl
theorem list_lt_loop (a b : Addr) (i : Int) : Builtin.«list.__eq__.loop» ⟨[.ref a, .ref b, rawInt i, rawInt 0], []⟩ = (do
    let (some x, some y) := ((← Builtin.List.listItems (.ref a))[i.toNat]?, (← Builtin.List.listItems (.ref b))[i.toNat]?)
      | ret (.bool ((fun m n : Nat => decide (m < n)) (← Builtin.List.listItems (.ref a)).size (← Builtin.List.listItems (.ref b)).size))
    if ← eqBool x y then return ← again (.builtin "list.__eq__.loop" ⟨[.ref a, .ref b, rawInt (i + 1), rawInt 0], []⟩)
    let xs ← Builtin.List.listItems (.ref a)
    let ys ← Builtin.List.listItems (.ref b)
    match xs[i.toNat]?, ys[i.toNat]?, CmpOp.Lt with
    | some _, some _, .Eq => ret (.bool false)
    | some _, some _, .NotEq => ret (.bool true)
    | some x, some y, _ => ret (← richCompare .Lt x y)
    | _, _, _ => rule "list.compare.shrunk"; ret (.bool ((fun m n : Nat => decide (m < n)) xs.size ys.size))) := rfl

theorem list_lt_from {x y : Addr} {xs ys : Array Value} {n k : Nat} {R : Result → Shared → Prop} (hx : s.heap.get? x = some (listOf xs n)) (hy : s.heap.get? y = some (listOf ys k)) :
    ∀ (l : List (Value × Value)) (i : Nat), l = (xs.toList.drop i).zip (ys.toList.drop i) → ListLexLt prog w A.in1 ((fun m n : Nat => decide (m < n)) xs.size ys.size) (fun v s' => R (.ok (.ret v)) s') (fun e s' => R (.error e) s') s l →
      wpAny (model prog w) A.in1 (Builtin.«list.__eq__.loop» ⟨[.ref x, .ref y, rawInt (i : Int), rawInt 0], []⟩)
        (fun fin s' => match fin with
          | .done f => R (.ok f) s'
          | .again c' => c'.quiet = true ∧ codeAny (model prog w) A c' R s') (fun e s' => R (.error e) s') s := by
  intro l
  induction l with
  | nil =>
    intro i hl h
    rw [list_lt_loop]
    refine wpAny_bind (listItems_at hx rfl (wpAny_bind (listItems_at hy rfl ?_)))
    simp only [Int.toNat_natCast]
    have hn : xs[i]? = none ∨ ys[i]? = none := by
      have e := congrArg List.length hl
      simp only [List.length_nil, List.length_zip, List.length_drop, Array.length_toList] at e
      rcases Nat.lt_or_ge i xs.size with h1 | h1
      · rcases Nat.lt_or_ge i ys.size with h2 | h2
        · lia
        · right; simp [h2]
      · left; simp [h1]
    have fin : ∀ {P}, (P (PySem.Fin.done (.ret (.bool ((fun m n : Nat => decide (m < n)) xs.size ys.size)))) s) → wpAny (model prog w) A.in1 (do ret (.bool ((fun m n : Nat => decide (m < n)) (← Builtin.List.listItems (.ref x)).size (← Builtin.List.listItems (.ref y)).size))) P (fun e s' => R (.error e) s') s := fun hp =>
      wpAny_bind (listItems_at hx rfl (wpAny_bind (listItems_at hy rfl (wpAny_pure hp))))
    rcases hn with hn | hn
    · rw [hn]; exact fin h
    · rw [hn]
      cases xs[i]? with
      | none => exact fin h
      | some _ => exact fin h
  | cons pq r ih =>
    obtain ⟨p, q⟩ := pq
    intro i hl h
    have hlt : i < xs.size ∧ i < ys.size := by
      have e := congrArg List.length hl
      simp only [List.length_cons, List.length_zip, List.length_drop, Array.length_toList] at e
      lia
    have hxs : xs.toList.drop i = xs[i]'hlt.1 :: xs.toList.drop (i + 1) := by rw [List.drop_eq_getElem_cons (by simpa using hlt.1)]; simp
    have hys : ys.toList.drop i = ys[i]'hlt.2 :: ys.toList.drop (i + 1) := by rw [List.drop_eq_getElem_cons (by simpa using hlt.2)]; simp
    rw [hxs, hys, List.zip_cons_cons] at hl
    obtain ⟨h1, h2⟩ := List.cons.inj hl
    obtain ⟨rfl, rfl⟩ := Prod.mk.inj h1
    rw [list_lt_loop]
    refine wpAny_bind (listItems_at hx rfl (wpAny_bind (listItems_at hy rfl ?_)))
    have g1 : xs[((i : Nat) : Int).toNat]? = some (xs[i]'hlt.1) := by simp [hlt.1]
    have g2 : ys[((i : Nat) : Int).toNat]? = some (ys[i]'hlt.2) := by simp [hlt.2]
    rw [g1, g2]
    dsimp only
    rcases h with ⟨he, h⟩ | ⟨he, h⟩
    · refine wpAny_bind (he _ _ _ _ _ _ ?_)
      simp only [if_true]
      have hc : ((i : Int) + 1) = ((i + 1 : Nat) : Int) := by push_cast; rfl
      rw [hc]
      refine wpAny_bind (wpAny_pure (wpAny_pure ?_))
      refine ⟨plainId_quiet MeetsSeq3.plain_eq_loop _, codeAny_builtin MeetsSeq3.entry_eq_loop ?_⟩
      rw [Around.under_plainId MeetsSeq3.plain_eq_loop _]
      exact ih (i + 1) h2 h
    · refine wpAny_bind (he _ _ _ _ _ _ ?_)
      simp only [Bool.false_eq_true, if_false]
      refine wpAny_bind (listItems_at hx rfl (wpAny_bind (listItems_at hy rfl ?_)))
      rw [g1, g2]
      dsimp only
      exact wpAny_bind (wpAny_mono h (fun v s' hv => wpAny_pure hv) fun _ _ x => x)

theorem call_list_lt {x y : Addr} {xs ys : Array Value} {n k : Nat} {Q : Value → Shared → Prop} (hx : s.heap.get? x = some (listOf xs n)) (hy : s.heap.get? y = some (listOf ys k))
    (h : ListLexLt prog w A.in1 ((fun m n : Nat => decide (m < n)) xs.size ys.size) Q E s (xs.toList.zip ys.toList)) :
    wpAny (model prog w) A (call (.builtin "list.__lt__") [.ref x, .ref y]) Q E s := by
  have tx : s.TypeIs (.ref x) "list" := ⟨_, hx, rfl⟩
  have ty : s.TypeIs (.ref y) "list" := ⟨_, hy, rfl⟩
  refine wpAny_call (codeAny_call_builtin F.slot_list_lt.plain F.entry_list_lt (F.slot_list_lt.check _ _ _ _ _ _ _ _ tx (F.args_list_lt_2 _ _) ?_))
  rw [list_lt_tree]
  refine wpAny_bind (wpAny_isInstance ty (b := true) (by rw [isSubtype_type]; kernel_rfl) ?_)
  simp only [Bool.not_true, Bool.false_eq_true, if_false]
  refine wpAny_pure ⟨plainId_quiet MeetsSeq3.plain_eq_loop _, codeAny_builtin MeetsSeq3.entry_eq_loop ?_⟩
  rw [Around.under_plainId MeetsSeq3.plain_eq_loop _]
  exact list_lt_from (R := fun r s' => match r with
    | .ok (.ret v) => Q v s'
    | .ok _ => False
    | .error e => E e s') hx hy _ 0 rfl h

theorem list_lt {x y : Addr} {xs ys : Array Value} {n k : Nat} {Q : Value → Shared → Prop} (hu : A.units < 9000) (hx : s.heap.get? x = some (listOf xs n)) (hy : s.heap.get? y = some (listOf ys k))
    (h : ListLexLt prog w A.in1 ((fun m n : Nat => decide (m < n)) xs.size ys.size) (fun v s' => v ≠ .notImplemented ∧ Q v s') E s (xs.toList.zip ys.toList)) :
    wpAny (model prog w) A (compareOp .Lt (.ref x) (.ref y)) Q E s :=
  cmp_ofLt (wpAny_richCompare_same_room ⟨_, hx, rfl⟩ ⟨_, hy, rfl⟩ F.slot_list_lt (call_list_lt hx hy h) (Nat.lt_trans hu (by decide)))

/-- a list's comparison by Gt, item by item, the state the same until two items differ -/
def ListLexGt (prog : Program) (w : World) (A : Around) (fin : Bool) (Q E : Value → Shared → Prop) (s : Shared) : List (Value × Value) → Prop
  | [] => Q (.bool fin) s
  | (p, q) :: r => (MeetsSeq.EqGives p q true ∧ ListLexGt prog w A fin Q E s r) ∨ (MeetsSeq.EqGives p q false ∧ wpAny (model prog w) A (richCompare .Gt p q) Q E s)

theorem list_gt_tree (x y : Addr) : Builtin.«list.__gt__» ⟨[.ref x, .ref y], []⟩ = (do
    if !(← isInstance (.ref y) (.type "list")) then return ← ret .notImplemented
    again (.builtin "list.__eq__.loop" ⟨[.ref x, .ref y, rawInt 0, rawInt 4], []⟩)) := rfl
theorem list_gt_loop (a b : Addr) (i : Int) : Builtin.«list.__eq__.loop» ⟨[.ref a, .ref b, rawInt i, rawInt 4], []⟩ = (do
    let (some x, some y) := ((← Builtin.List.listItems (.ref a))[i.toNat]?, (← Builtin.List.listItems (.ref b))[i.toNat]?)
      | ret (.bool ((fun m n : Nat => decide (n < m)) (← Builtin.List.listItems (.ref a)).size (← Builtin.List.listItems (.ref b)).size))
    if ← eqBool x y then return ← again (.builtin "list.__eq__.loop" ⟨[.ref a, .ref b, rawInt (i + 1), rawInt 4], []⟩)
    let xs ← Builtin.List.listItems (.ref a)
    let ys ← Builtin.List.listItems (.ref b)
    match xs[i.toNat]?, ys[i.toNat]?, CmpOp.Gt with
    | some _, some _, .Eq => ret (.bool false)
    | some _, some _, .NotEq => ret (.bool true)
    | some x, some y, _ => ret (← richCompare .Gt x y)
    | _, _, _ => rule "list.compare.shrunk"; ret (.bool ((fun m n : Nat => decide (n < m)) xs.size ys.size))) := rfl

theorem list_gt_from {x y : Addr} {xs ys : Array Value} {n k : Nat} {R : Result → Shared → Prop} (hx : s.heap.get? x = some (listOf xs n)) (hy : s.heap.get? y = some (listOf ys k)) :
    ∀ (l : List (Value × Value)) (i : Nat), l = (xs.toList.drop i).zip (ys.toList.drop i) → ListLexGt prog w A.in1 ((fun m n : Nat => decide (n < m)) xs.size ys.size) (fun v s' => R (.ok (.ret v)) s') (fun e s' => R (.error e) s') s l →
      wpAny (model prog w) A.in1 (Builtin.«list.__eq__.loop» ⟨[.ref x, .ref y, rawInt (i : Int), rawInt 4], []⟩)
        (fun fin s' => match fin with
          | .done f => R (.ok f) s'
          | .again c' => c'.quiet = true ∧ codeAny (model prog w) A c' R s') (fun e s' => R (.error e) s') s := by
  intro l
  induction l with
  | nil =>
    intro i hl h
    rw [list_gt_loop]
    refine wpAny_bind (listItems_at hx rfl (wpAny_bind (listItems_at hy rfl ?_)))
    simp only [Int.toNat_natCast]
    have hn : xs[i]? = none ∨ ys[i]? = none := by
      have e := congrArg List.length hl
      simp only [List.length_nil, List.length_zip, List.length_drop, Array.length_toList] at e
      rcases Nat.lt_or_ge i xs.size with h1 | h1
      · rcases Nat.lt_or_ge i ys.size with h2 | h2
        · lia
        · right; simp [h2]
      · left; simp [h1]
    have fin : ∀ {P}, (P (PySem.Fin.done (.ret (.bool ((fun m n : Nat => decide (n < m)) xs.size ys.size)))) s) → wpAny (model prog w) A.in1 (do ret (.bool ((fun m n : Nat => decide (n < m)) (← Builtin.List.listItems (.ref x)).size (← Builtin.List.listItems (.ref y)).size))) P (fun e s' => R (.error e) s') s := fun hp =>
      wpAny_bind (listItems_at hx rfl (wpAny_bind (listItems_at hy rfl (wpAny_pure hp))))
    rcases hn with hn | hn
    · rw [hn]; exact fin h
    · rw [hn]
      cases xs[i]? with
      | none => exact fin h
      | some _ => exact fin h
  | cons pq r ih =>
    obtain ⟨p, q⟩ := pq
    intro i hl h
    have hlt : i < xs.size ∧ i < ys.size := by
      have e := congrArg List.length hl
      simp only [List.length_cons, List.length_zip, List.length_drop, Array.length_toList] at e
      lia
    have hxs : xs.toList.drop i = xs[i]'hlt.1 :: xs.toList.drop (i + 1) := by rw [List.drop_eq_getElem_cons (by simpa using hlt.1)]; simp
    have hys : ys.toList.drop i = ys[i]'hlt.2 :: ys.toList.drop (i + 1) := by rw [List.drop_eq_getElem_cons (by simpa using hlt.2)]; simp
    rw [hxs, hys, List.zip_cons_cons] at hl
    obtain ⟨h1, h2⟩ := List.cons.inj hl
    obtain ⟨rfl, rfl⟩ := Prod.mk.inj h1
    rw [list_gt_loop]
    refine wpAny_bind (listItems_at hx rfl (wpAny_bind (listItems_at hy rfl ?_)))
    have g1 : xs[((i : Nat) : Int).toNat]? = some (xs[i]'hlt.1) := by simp [hlt.1]
    have g2 : ys[((i : Nat) : Int).toNat]? = some (ys[i]'hlt.2) := by simp [hlt.2]
    rw [g1, g2]
    dsimp only
    rcases h with ⟨he, h⟩ | ⟨he, h⟩
    · refine wpAny_bind (he _ _ _ _ _ _ ?_)
      simp only [if_true]
      have hc : ((i : Int) + 1) = ((i + 1 : Nat) : Int) := by push_cast; rfl
      rw [hc]
      refine wpAny_bind (wpAny_pure (wpAny_pure ?_))
      refine ⟨plainId_quiet MeetsSeq3.plain_eq_loop _, codeAny_builtin MeetsSeq3.entry_eq_loop ?_⟩
      rw [Around.under_plainId MeetsSeq3.plain_eq_loop _]
      exact ih (i + 1) h2 h
    · refine wpAny_bind (he _ _ _ _ _ _ ?_)
      simp only [Bool.false_eq_true, if_false]
      refine wpAny_bind (listItems_at hx rfl (wpAny_bind (listItems_at hy rfl ?_)))
      rw [g1, g2]
      dsimp only
      exact wpAny_bind (wpAny_mono h (fun v s' hv => wpAny_pure hv) fun _ _ x => x)

theorem call_list_gt {x y : Addr} {xs ys : Array Value} {n k : Nat} {Q : Value → Shared → Prop} (hx : s.heap.get? x = some (listOf xs n)) (hy : s.heap.get? y = some (listOf ys k))
    (h : ListLexGt prog w A.in1 ((fun m n : Nat => decide (n < m)) xs.size ys.size) Q E s (xs.toList.zip ys.toList)) :
    wpAny (model prog w) A (call (.builtin "list.__gt__") [.ref x, .ref y]) Q E s := by
  have tx : s.TypeIs (.ref x) "list" := ⟨_, hx, rfl⟩
  have ty : s.TypeIs (.ref y) "list" := ⟨_, hy, rfl⟩
  refine wpAny_call (codeAny_call_builtin F.slot_list_gt.plain F.entry_list_gt (F.slot_list_gt.check _ _ _ _ _ _ _ _ tx (F.args_list_gt_2 _ _) ?_))
  rw [list_gt_tree]
  refine wpAny_bind (wpAny_isInstance ty (b := true) (by rw [isSubtype_type]; kernel_rfl) ?_)
  simp only [Bool.not_true, Bool.false_eq_true, if_false]
  refine wpAny_pure ⟨plainId_quiet MeetsSeq3.plain_eq_loop _, codeAny_builtin MeetsSeq3.entry_eq_loop ?_⟩
  rw [Around.under_plainId MeetsSeq3.plain_eq_loop _]
  exact list_gt_from (R := fun r s' => match r with
    | .ok (.ret v) => Q v s'
    | .ok _ => False
    | .error e => E e s') hx hy _ 0 rfl h

theorem list_gt {x y : Addr} {xs ys : Array Value} {n k : Nat} {Q : Value → Shared → Prop} (hu : A.units < 9000) (hx : s.heap.get? x = some (listOf xs n)) (hy : s.heap.get? y = some (listOf ys k))
    (h : ListLexGt prog w A.in1 ((fun m n : Nat => decide (n < m)) xs.size ys.size) (fun v s' => v ≠ .notImplemented ∧ Q v s') E s (xs.toList.zip ys.toList)) :
    wpAny (model prog w) A (compareOp .Gt (.ref x) (.ref y)) Q E s :=
  cmp_ofGt (wpAny_richCompare_same_room ⟨_, hx, rfl⟩ ⟨_, hy, rfl⟩ F.slot_list_gt (call_list_gt hx hy h) (Nat.lt_trans hu (by decide)))

theorem rich_lt_int {a b : Int} {t u : Tok} {Q : Value → Shared → Prop} (h : Q (.bool (decide (a < b))) s) : wpAny (model prog w) A (richCompare .Lt (.int a t) (.int b u)) Q E s := lt_int h
theorem rich_gt_int {a b : Int} {t u : Tok} {Q : Value → Shared → Prop} (h : Q (.bool (decide (b < a))) s) : wpAny (model prog w) A (richCompare .Gt (.int a t) (.int b u)) Q E s := PyProof.Rows.gt_int h

/-- lists of one int -/
theorem one_lt {x y : Addr} {a b : Int} {t u : Tok} {n k : Nat} {Q : Value → Shared → Prop} (hu : A.units < 9000) (hx : s.heap.get? x = some (listOf #[.int a t] n)) (hy : s.heap.get? y = some (listOf #[.int b u] k))
    (h : Q (.bool (decide (a < b))) s) : wpAny (model prog w) A (compareOp .Lt (.ref x) (.ref y)) Q E s := by
  refine list_lt hu hx hy ?_
  show (_ ∧ _) ∨ (_ ∧ _)
  by_cases e : a = b
  · subst e
    refine .inl ⟨by simpa using MeetsSeq.EqGives.int a a t u, ?_⟩
    show _ ∧ Q _ s
    simpa using h
  · refine .inr ⟨by have q := MeetsSeq.EqGives.int a b t u; rwa [show (a == b) = false from by simpa using e] at q, rich_lt_int ⟨by simp, h⟩⟩
theorem one_gt {x y : Addr} {a b : Int} {t u : Tok} {n k : Nat} {Q : Value → Shared → Prop} (hu : A.units < 9000) (hx : s.heap.get? x = some (listOf #[.int a t] n)) (hy : s.heap.get? y = some (listOf #[.int b u] k))
    (h : Q (.bool (decide (b < a))) s) : wpAny (model prog w) A (compareOp .Gt (.ref x) (.ref y)) Q E s := by
  refine list_gt hu hx hy ?_
  show (_ ∧ _) ∨ (_ ∧ _)
  by_cases e : a = b
  · subst e
    refine .inl ⟨by simpa using MeetsSeq.EqGives.int a a t u, ?_⟩
    show _ ∧ Q _ s
    simpa using h
  · refine .inr ⟨by have q := MeetsSeq.EqGives.int a b t u; rwa [show (a == b) = false from by simpa using e] at q, rich_gt_int ⟨by simp, h⟩⟩
theorem one_eqv (a b : Int) : PyData.eqv (.list [.int a]) (.list [.int b]) = decide (a = b) := by
  simp [PyData.eqv, PyData.eqvAll]
  by_cases h : a = b <;> simp [h]
theorem one_eq {x y : Addr} {a b : Int} {t u : Tok} {n k : Nat} {Q : Bool → Shared → Prop} (hu : A.units < 9000) (hx : s.heap.get? x = some (listOf #[.int a t] n)) (hy : s.heap.get? y = some (listOf #[.int b u] k))
    (h : Q (decide (a = b)) s) : wpAny (model prog w) A (eqBool (.ref x) (.ref y)) Q E s := by
  refine SeqAt.eqBoolOverData prog w A E s _ _ (.list [.int a]) (.list [.int b]) _ _ Q (reads_list_at hx rfl rfl (.cons (.int _ _) .nil)) (reads_list_at hy rfl rfl (.cons (.int _ _) .nil)) (by simp [PyData.canLay0, PyData.canLayAll0]) (by simp [PyData.canLay0, PyData.canLayAll0]) ?_ ?_
  · show A.units + _ < 9900
    have : min (PyData.depth (.list [.int a])) (PyData.depth (.list [.int b])) ≤ 10 := by simp [PyData.depth, PyData.depthAll]
    lia
  · rw [one_eqv]; exact h
end
-- B3
section
variable {prog : Program} {w : World} {A : Around} {s : Shared} {b : Heap} {K : Frag} {mg mb : Str → Option Value} {p : Program} {loose : List Str} {mean : ExcName → Option Value}

/-- entering a def some of whose names are cells -/
theorem enterC {R : Result → Shared → Prop} {name qual : Str} {params : Arguments} {body : List Stmt} {scope : Scope} {dV kV doc pm cdv ct oc : Value} {an od : Option Addr} {osl : Array (Option Value)} {f : Addr} {args : Args} {binds : List (Str × Value)}
    (st : b.StaysIn s.heap) (hsz : b.objs.size ≤ s.heap.objs.size) (X : K.In b) (T : Top p loose mean mg mb b)
    (ho : K.lookup f = some ⟨oc, od, .func (fnOf name qual params body scope dV kV doc pm an cdv ct), osl⟩) (hcd : codeIn K cdv qual = true) (hroom : A.depth < recursionLimit)
    (hbind : BindsTo s (fnOf name qual params body scope dV kV doc pm an cdv ct) args binds)
    (hkind : (binds.all fun y => scope.names.lookup y.1 == some .local || scope.names.lookup y.1 == some .cell) = true)
    (hnd : ((cellsFrom 0 scope.names []).map (·.1)).Nodup)
    (h : ∀ L' h₁ tk cells, Fr b L' h₁ (bindL (envOfC qual scope L' f cdv).kindOf binds fun _ => none) → News b L' h₁ cells →
      CellsAre (bindC (envOfC qual scope L' f cdv).kindOf binds fun _ => none) (cellsFrom (L' + 1) scope.names []) cells → s.heap.StaysIn h₁ → (∀ x o, s.heap.get? x = some o → x < L') →
      wpAny (model prog w) (A.deeper (envOfC qual scope L' f cdv)) (execs body (envOfC qual scope L' f cdv))
        (fun fl s' => R (.ok (.ret (match fl with | .ret v => v | _ => .none))) s')
        (fun e s' => wpAny (model prog w) (A.deeper (envOfC qual scope L' f cdv)) (leaving (envOfC qual scope L' f cdv) e) (fun _ s'' => R (.error e) s'') (fun e' s'' => R (.error e') s'') s')
        { s with heap := h₁, toks := tk })
    (hco : scope.isCoroutine = false) (hgen : scope.isGenerator = false) (hk : scope.kind = .function) : codeAny (model prog w) A (.call (.ref f) args) R s := by
  refine codeAny_call_function hroom (st _ _ (X _ _ ho)) rfl hco hgen rfl (codeRec_of (X.keeps st) hcd) (hbind _ _ _ _ ?_)
  refine wpAny_newFunctionEnv_cells hk (kindsX hkind _) fun env' he s' x => ?_
  subst he
  refine ⟨(T.nolimit.keeps st).keeps x.toInCall.keep, codeAny_func ?_⟩
  refine e2_2 (x.done) ?_
  intro h₁ tk zr2 _
  first | subst zr2 | cases zr2
  have hk₁ := x.toInCall.keep
  refine e1_2 (Cl.news (h₀ := s.heap) (Nat.le_refl _) fun n c hm => ⟨x.cell n c (lookup_of_mem_nodup (cellsFrom_names scope.names 0 (s.heap.objs.size + 1) [] [] rfl ▸ hnd) hm), x.above n c hm⟩) ?_
  intro cells NC Y
  refine h s.heap.objs.size h₁ tk cells ⟨x.toInCall.ns, fun y o e => hk₁ y o (st _ _ e), hsz⟩ (fun q hq => ⟨(NC q hq).1, (NC q hq).2.1, ?_⟩) Y (fun y o e => hk₁ y o e) fun y o e => Heap.lt_size e
  cases z : b.get? q.1 with
  | none => rfl
  | some o => have := st _ _ z; rw [(NC q hq).2.2] at this; cases this
end
-- PS

/-- the tree's answer to an oracle -/
def krun {α : Type} (f : Nat → Nat → Bool) : KasT α → α
  | .ret a => a
  | .ask i j k => krun f (k (f i j))
theorem krun_bind {α β : Type} (f : Nat → Nat → Bool) (g : α → KasT β) : ∀ t : KasT α, krun f (t.bind g) = krun f (g (krun f t))
  | .ret _ => rfl
  | .ask i j k => krun_bind f g (k (f i j))

section
variable {f : Nat → Nat → Bool}
/-- a strict weak order -/
structure SWO (f : Nat → Nat → Bool) : Prop where
  asym : ∀ a b, f a b = true → f b a = false
  ntr : ∀ a b c, f a b = false → f b c = false → f a c = false
theorem SWO.tr (o : SWO f) {a b c : Nat} (h1 : f a b = true) (h2 : f b c = true) : f a c = true := by
  cases h : f a c with
  | true => rfl
  | false =>
    have := o.ntr a c b h (o.asym _ _ h2)
    rw [h1] at this; cases this
theorem SWO.lt_le (o : SWO f) {a b c : Nat} (h1 : f a b = true) (h2 : f c b = false) : f a c = true := by
  cases h : f a c with
  | true => rfl
  | false =>
    have := o.ntr a c b h h2
    rw [h1] at this; cases this
theorem SWO.le_lt (o : SWO f) {a b c : Nat} (h1 : f b a = false) (h2 : f b c = true) : f a c = true := by
  cases h : f a c with
  | true => rfl
  | false =>
    have := o.ntr b a c h1 h
    rw [h2] at this; cases this

def lt2 (f : Nat → Nat → Bool) (a b : Nat) : Prop := f a b = true ∨ (f b a = false ∧ a < b)
theorem lt2_ok (o : SWO f) {a b : Nat} (h1 : f b a = false) (h2 : a < b) : lt2 f a b := .inr ⟨h1, h2⟩
theorem lt2_not (o : SWO f) {a b : Nat} (h : lt2 f a b) : f b a = false := h.elim (o.asym _ _) (·.1)
theorem lt2_tr (o : SWO f) {a b c : Nat} (h1 : lt2 f a b) (h2 : lt2 f b c) : lt2 f a c := by
  rcases h1 with h1 | ⟨h1, l1⟩
  · exact .inl (o.lt_le h1 (lt2_not o h2))
  · rcases h2 with h2 | ⟨h2, l2⟩
    · exact .inl (o.le_lt h1 h2)
    · exact .inr ⟨o.ntr _ _ _ h2 h1, Nat.lt_trans l1 l2⟩

abbrev g (p : Array Nat) (k : Nat) : Nat := p.getD k 0

/-- sorted up to n; the prefix closed, the rest as it was -/
structure Upto (f : Nat → Nat → Bool) (N : Nat) (p : Array Nat) (n : Nat) : Prop where
  size : p.size = N
  perm : p.Perm (List.range N).toArray
  asc : ∀ i j, i < j → j < n → lt2 f (g p i) (g p j)
  low : ∀ i, i < n → g p i < n
  rest : ∀ k, n ≤ k → k < N → g p k = k

theorem g_rev {p : Array Nat} {i j k : Nat} (hj : j ≤ p.size) : g (kas_rev p i j) k = if i ≤ k ∧ k < j then g p (i + j - 1 - k) else g p k := by
  have e := getElem?_mirror_all (i := i) hj k
  unfold g kas_rev
  rw [Array.getD_eq_getD_getElem?, e]
  split <;> rw [← Array.getD_eq_getD_getElem?]
theorem rev_perm {p : Array Nat} {i j : Nat} : (kas_rev p i j).Perm p := mirror_perm _ _ _ _
theorem rev_size {p : Array Nat} {i j : Nat} : (kas_rev p i j).size = p.size := mirror_size _ _ _ _
theorem g_bub {p : Array Nat} {src l k : Nat} (hs : src < p.size) (hl : l ≤ src) : g (bubble p src (src - l)) k = if k = l then g p src else if l < k ∧ k ≤ src then g p (k - 1) else g p k := by
  have e := getElem?_bubble hs (src - l) (Nat.sub_le _ _) k
  unfold g
  rw [Array.getD_eq_getD_getElem?, e]
  rw [show src - (src - l) = l by lia]
  simp only [Array.getD_eq_getD_getElem?]
  split
  · rfl
  · split <;> rfl

theorem asc_run (o : SWO f) {N : Nat} {p : Array Nat} : ∀ (fu n : Nat), 1 ≤ n → n + fu = N → Upto f N p n →
    let m := krun f (kas_asc p fu n)
    n ≤ m ∧ m ≤ N ∧ Upto f N p m ∧ (m = N ∨ f (g p m) (g p (m - 1)) = true)
  | 0, n, h1, hn, u => by simp only [kas_asc, krun]; exact ⟨Nat.le_refl _, by lia, u, .inl (by lia)⟩
  | fu + 1, n, h1, hn, u => by
    simp only [kas_asc, krun]
    cases hc : f (p.getD n 0) (p.getD (n - 1) 0) with
    | true =>
      simp only [if_true, krun]
      exact ⟨Nat.le_refl _, by lia, u, .inr hc⟩
    | false =>
      simp only [Bool.false_eq_true, if_false]
      have hr : g p n = n := u.rest n (Nat.le_refl _) (by lia)
      have u' : Upto f N p (n + 1) := by
        refine ⟨u.size, u.perm, fun i j hij hj => ?_, fun i hi => ?_, fun k hk hk' => u.rest k (by lia) hk'⟩
        · by_cases hjn : j < n
          · exact u.asc i j hij hjn
          · have : j = n := by lia
            subst this
            refine lt2_ok o ?_ (by rw [hr]; exact u.low i hij)
            by_cases hi : i = j - 1
            · subst hi; exact hc
            · exact o.ntr _ _ _ hc (lt2_not o (u.asc i (j - 1) (by lia) (by lia)))
        · by_cases hin : i < n
          · have := u.low i hin; lia
          · have : i = n := by lia
            subst this; lia
      refine e0_4 (asc_run o fu (n + 1) (by lia) (by lia) u') ?_
      intro a b c d
      exact ⟨by lia, b, c, d⟩

structure Down (f : Nat → Nat → Bool) (N : Nat) (p : Array Nat) (n q : Nat) : Prop where
  size : p.size = N
  perm : p.Perm (List.range N).toArray
  le : q + 1 ≤ n
  blk : ∀ i j, n - (q + 1) ≤ i → i < j → j < n → f (g p i) (g p j) = false ∧ f (g p j) (g p i) = false ∧ g p i < g p j
  cut : ∀ i j, i < n - (q + 1) → n - (q + 1) ≤ j → j < n → f (g p j) (g p i) = true
  dsc : ∀ i j, i < j → j < n - (q + 1) → lt2 f (g p j) (g p i)
  low : ∀ i, i < n → g p i < n
  rest : ∀ k, n ≤ k → k < N → g p k = k

/-- the trailing block turned about: falling throughout -/
theorem Down.turn (o : SWO f) {N : Nat} {p : Array Nat} {n q : Nat} (u : Down f N p n q) (hn : n ≤ N) :
    let p' := if q > 0 then kas_rev p (n - (q + 1)) n else p
    p'.size = N ∧ p'.Perm (List.range N).toArray ∧ (∀ i j, i < j → j < n → lt2 f (g p' j) (g p' i)) ∧ (∀ i, i < n → g p' i < n) ∧ (∀ k, n ≤ k → k < N → g p' k = k) := by
  have hs := u.size
  have hle := u.le
  intro p'
  by_cases hq : q > 0
  · have e : p' = kas_rev p (n - (q + 1)) n := if_pos hq
    have gk : ∀ k, g p' k = if n - (q + 1) ≤ k ∧ k < n then g p (n - (q + 1) + n - 1 - k) else g p k := fun k => by rw [e]; exact g_rev (by lia)
    refine ⟨by rw [e, rev_size]; exact hs, by rw [e]; exact rev_perm.trans u.perm, fun i j hij hj => ?_, fun i hi => ?_, fun k hk hk' => ?_⟩
    · rw [gk, gk]
      by_cases h1 : n - (q + 1) ≤ i
      · rw [if_pos (by lia), if_pos (by lia)]
        refine e0_3 (u.blk (n - (q + 1) + n - 1 - j) (n - (q + 1) + n - 1 - i) (by lia) (by lia) (by lia)) ?_
        intro a b c
        exact lt2_ok o b c
      · rw [if_neg (show ¬ (n - (q + 1) ≤ i ∧ i < n) by lia)]
        by_cases h2 : n - (q + 1) ≤ j
        · rw [if_pos (by lia)]
          exact .inl (u.cut i _ (by lia) (by lia) (by lia))
        · rw [if_neg (by lia)]
          exact u.dsc i j hij (by lia)
    · rw [gk]; split
      · exact u.low _ (by lia)
      · exact u.low i hi
    · rw [gk, if_neg (by lia)]; exact u.rest k hk hk'
  · have e : p' = p := if_neg hq
    have hq0 : q = 0 := by lia
    subst hq0
    rw [e]
    refine ⟨hs, u.perm, fun i j hij hj => ?_, u.low, u.rest⟩
    by_cases h2 : j < n - (0 + 1)
    · exact u.dsc i j hij h2
    · exact .inl (u.cut i j (by lia) (by lia) hj)

theorem desc_run (o : SWO f) {N : Nat} : ∀ (fu : Nat) (p : Array Nat) (n q : Nat), n + fu = N → Down f N p n q →
    let r := krun f (kas_desc fu p n q)
    n ≤ r.2.1 ∧ r.2.1 ≤ N ∧ Down f N r.1 r.2.1 r.2.2
  | 0, p, n, q, hn, u => by simp only [kas_desc, krun]; exact ⟨Nat.le_refl _, by lia, u⟩
  | fu + 1, p, n, q, hn, u => by
    have hle := u.le
    have hr : g p n = n := u.rest n (Nat.le_refl _) (by lia)
    -- the last one is the least
    have least : ∀ i, i < n → f (g p i) (g p (n - 1)) = false := fun i hi => by
      by_cases h1 : i < n - (q + 1)
      · exact o.asym _ _ (u.cut i (n - 1) h1 (by lia) (by lia))
      · by_cases h2 : i = n - 1
        · subst h2
          cases hh : f (g p (n - 1)) (g p (n - 1)) with
          | false => rfl
          | true => have := o.asym _ _ hh; rw [hh] at this; cases this
        · exact (u.blk i (n - 1) (by lia) (by lia) (by lia)).1
    simp only [kas_desc, krun]
    cases hc : f (p.getD n 0) (p.getD (n - 1) 0) with
    | true =>
      simp only [if_true]
      refine e0_5 (u.turn o (by lia)) ?_
      intro t1 t2 t3 t4 t5
      have hlast : ∀ i, i < n → ∃ i', i' < n ∧ g (if q > 0 then kas_rev p (n - (q + 1)) n else p) i = g p i' := fun i hi => by
        by_cases hq : q > 0
        · rw [if_pos hq, g_rev (by rw [u.size]; lia)]
          split
          · exact ⟨_, by lia, rfl⟩
          · exact ⟨i, hi, rfl⟩
        · rw [if_neg hq]; exact ⟨i, hi, rfl⟩
      have key : Down f N (if q > 0 then kas_rev p (n - (q + 1)) n else p) (n + 1) 0 := by
        have hn' : g (if q > 0 then kas_rev p (n - (q + 1)) n else p) n = n := t5 n (Nat.le_refl _) (by lia)
        refine ⟨t1, t2, by lia, fun i j h1 h2 h3 => by lia, fun i j h1 h2 h3 => ?_, fun i j h1 h2 => t3 i j h1 (by lia), fun i hi => ?_, fun k hk hk' => t5 k (by lia) hk'⟩
        · have : j = n := by lia
          subst this
          refine e1_2 (hlast i (by lia)) ?_
          intro i' hi' e
          rw [hn', e, ← hr]
          exact o.lt_le hc (least i' hi')
        · by_cases h : i < n
          · have := t4 i h; lia
          · have : i = n := by lia
            subst this; lia
      by_cases hq : q > 0
      · rw [if_pos hq] at key ⊢
        refine e0_3 (desc_run o fu _ (n + 1) 0 (by lia) key) ?_
        intro a b c
        exact ⟨by lia, b, c⟩
      · rw [if_neg hq] at key ⊢
        refine e0_3 (desc_run o fu _ (n + 1) 0 (by lia) key) ?_
        intro a b c
        exact ⟨by lia, b, c⟩
    | false =>
      simp only [Bool.false_eq_true, if_false, krun]
      cases hd : f (p.getD (n - 1) 0) (p.getD n 0) with
      | true =>
        simp only [if_true, krun]
        exact ⟨Nat.le_refl _, by lia, u⟩
      | false =>
        simp only [Bool.false_eq_true, if_false]
        have key : Down f N p (n + 1) (q + 1) := by
          have e : n + 1 - (q + 1 + 1) = n - (q + 1) := by lia
          refine ⟨u.size, u.perm, by lia, fun i j h1 h2 h3 => ?_, fun i j h1 h2 h3 => ?_, fun i j h1 h2 => u.dsc i j h1 (by lia), fun i hi => ?_, fun k hk hk' => u.rest k (by lia) hk'⟩
          · by_cases hj : j < n
            · exact u.blk i j (by lia) h2 hj
            · have : j = n := by lia
              subst this
              refine ⟨?_, ?_, by rw [hr]; exact u.low i (by lia)⟩
              · exact o.ntr _ _ _ (least i (by lia)) hd
              · refine o.ntr _ _ _ hc ?_
                by_cases h4 : i = j - 1
                · subst h4; exact least _ (by lia)
                · exact (u.blk i (j - 1) (by lia) (by lia) (by lia)).2.1
          · by_cases hj : j < n
            · exact u.cut i j (by lia) (by lia) hj
            · have : j = n := by lia
              subst this
              exact o.le_lt hd (u.cut i (j - 1) (by lia) (by lia) (by lia))
          · by_cases h : i < n
            · have := u.low i h; lia
            · have : i = n := by lia
              subst this; lia
        refine e0_3 (desc_run o fu p (n + 1) (q + 1) (by lia) key) ?_
        intro a b c
        exact ⟨by lia, b, c⟩

theorem tail3_run (o : SWO f) {N : Nat} {p : Array Nat} {n : Nat} (h1 : 1 ≤ n) (hn : n ≤ N) (hs : p.size = N) (hp : p.Perm (List.range N).toArray) (hd : ∀ i j, i < j → j < n → lt2 f (g p j) (g p i)) (hl : ∀ i, i < n → g p i < n) (hr : ∀ k, n ≤ k → k < N → g p k = k) :
    let r := krun f (kas_tail3 n N p)
    1 ≤ r.1 ∧ r.1 ≤ N ∧ Upto f N r.2 r.1 := by
  unfold kas_tail3
  rw [krun_bind]
  have gk : ∀ k, g (kas_rev p 0 n) k = if k < n then g p (n - 1 - k) else g p k := fun k => by
    rw [g_rev (by lia)]; simp only [Nat.zero_le, true_and, Nat.zero_add]
  have u : Upto f N (kas_rev p 0 n) n := by
    refine ⟨by rw [rev_size]; exact hs, rev_perm.trans hp, fun i j hij hj => ?_, fun i hi => ?_, fun k hk hk' => ?_⟩
    · rw [gk, gk, if_pos (by lia), if_pos hj]; exact hd _ _ (by lia) (by lia)
    · rw [gk, if_pos hi]; exact hl _ (by lia)
    · rw [gk, if_neg (by lia)]; exact hr k hk hk'
  refine e0_4 (asc_run o (N - n) n h1 (by lia) u) ?_
  intro a b c _
  simp only [krun]
  exact ⟨by lia, b, c⟩

theorem descPart_run (o : SWO f) {N : Nat} {p : Array Nat} {n : Nat} (hn : n + 1 ≤ N) (u : Down f N p (n + 1) 0) :
    let r := krun f (kas_descPart n N p)
    1 ≤ r.1 ∧ r.1 ≤ N ∧ Upto f N r.2 r.1 := by
  unfold kas_descPart
  rw [krun_bind]
  refine e0_3 (desc_run o (N - (n + 1)) p (n + 1) 0 (by lia) u) ?_
  intro a b c
  generalize krun f (kas_desc (N - (n + 1)) p (n + 1) 0) = r at a b c ⊢
  obtain ⟨p', m, q⟩ := r
  simp only at a b c ⊢
  refine e0_5 (c.turn o b) ?_
  intro t1 t2 t3 t4 t5
  by_cases hq : q > 0
  · rw [if_pos hq] at t1 t2 t3 t4 t5 ⊢
    exact tail3_run o (by lia) b t1 t2 t3 t4 t5
  · rw [if_neg hq] at t1 t2 t3 t4 t5 ⊢
    exact tail3_run o (by lia) b t1 t2 t3 t4 t5

theorem count_run (o : SWO f) {N : Nat} {p : Array Nat} (hN : 1 ≤ N) (u : Upto f N p 1) :
    let r := krun f (kas_count N p)
    1 ≤ r.1 ∧ r.1 ≤ N ∧ Upto f N r.2 r.1 := by
  unfold kas_count
  rw [krun_bind]
  refine e0_4 (asc_run o (N - 1) 1 (Nat.le_refl _) (by lia) u) ?_
  intro a b c d
  generalize krun f (kas_asc p (N - 1) 1) = n at a b c d ⊢
  by_cases e : n = N
  · rw [if_pos (by simpa using e)]
    simp only [krun]
    exact ⟨a, b, c⟩
  · rw [if_neg (by simpa using e)]
    have d' : f (g p n) (g p (n - 1)) = true := d.resolve_left e
    by_cases h1 : n > 1
    · rw [if_pos h1]
      simp only [krun]
      cases hc : f (p.getD 0 0) (p.getD (n - 1) 0) with
      | true => simp only [if_true, krun]; exact ⟨a, b, c⟩
      | false =>
        simp only [Bool.false_eq_true, if_false]
        refine descPart_run o (by lia) ?_
        have eq : ∀ i j, i < n → j < n → f (g p i) (g p j) = false := fun i j hi hj => by
          have x1 : f (g p i) (g p 0) = false ∨ i = 0 := by
            by_cases q : i = 0
            · exact .inr q
            · exact .inl (lt2_not o (c.asc 0 i (by lia) hi))
          have x2 : f (g p (n - 1)) (g p j) = false ∨ j = n - 1 := by
            by_cases q : j = n - 1
            · exact .inr q
            · exact .inl (lt2_not o (c.asc j (n - 1) (by lia) (by lia)))
          have y1 : f (g p i) (g p (n - 1)) = false := by
            rcases x1 with x1 | rfl
            · exact o.ntr _ _ _ x1 hc
            · exact hc
          rcases x2 with x2 | rfl
          · exact o.ntr _ _ _ y1 x2
          · exact y1
        have gk : ∀ k, g (kas_rev p 0 n) k = if k < n then g p (n - 1 - k) else g p k := fun k => by
          rw [g_rev (by rw [c.size]; lia)]; simp only [Nat.zero_le, true_and, Nat.zero_add]
        refine ⟨by rw [rev_size]; exact c.size, rev_perm.trans c.perm, by lia, fun i j h1 h2 h3 => by lia, fun i j h1 h2 h3 => ?_, fun i j h1 h2 => ?_, fun i hi => ?_, fun k hk hk' => ?_⟩
        · have : j = n := by lia
          subst this
          rw [gk, gk, if_neg (by lia), if_pos (by lia)]
          exact o.lt_le d' (eq _ _ (by lia) (by lia))
        · rw [gk, gk, if_pos (by lia), if_pos (by lia)]
          exact c.asc _ _ (by lia) (by lia)
        · rw [gk]; split
          · have := c.low (n - 1 - i) (by lia); lia
          · have : i = n := by lia
            subst this
            have := c.rest i (Nat.le_refl _) (by lia); lia
        · rw [gk, if_neg (by lia)]; exact c.rest k (by lia) hk'
    · rw [if_neg h1]
      have hn1 : n = 1 := by lia
      subst hn1
      refine descPart_run o (by lia) ⟨c.size, c.perm, by lia, fun i j h1 h2 h3 => by lia, fun i j h1 h2 h3 => ?_, fun i j h1 h2 => by lia, fun i hi => ?_, fun k hk hk' => c.rest k (by lia) hk'⟩
      · have : j = 1 := by lia
        have : i = 0 := by lia
        subst_vars
        exact d'
      · by_cases h : i < 1
        · have := c.low i h; lia
        · have : i = 1 := by lia
          subst this
          have := c.rest 1 (Nat.le_refl _) (by lia); lia

theorem place_run (o : SWO f) {p : Array Nat} {k : Nat} (asc : ∀ i j, i < j → j < k → lt2 f (g p i) (g p j)) : ∀ (fu l r : Nat), l ≤ r → r ≤ k → r - l ≤ fu →
    (∀ i, i < l → f (g p k) (g p i) = false) → (∀ i, r ≤ i → i < k → f (g p k) (g p i) = true) →
    let m := krun f (kas_place p k fu l r)
    m ≤ k ∧ (∀ i, i < m → f (g p k) (g p i) = false) ∧ (∀ i, m ≤ i → i < k → f (g p k) (g p i) = true)
  | 0, l, r, h1, h2, h3, a, b => by
    simp only [kas_place, krun]
    exact ⟨by lia, a, fun i hi => b i (by lia)⟩
  | fu + 1, l, r, h1, h2, h3, a, b => by
    simp only [kas_place]
    by_cases hlr : l ≥ r
    · rw [if_pos hlr]; simp only [krun]
      exact ⟨by lia, a, fun i hi => b i (by lia)⟩
    · rw [if_neg hlr]
      simp only [krun]
      cases hc : f (p.getD k 0) (p.getD ((l + r) / 2) 0) with
      | true =>
        simp only [if_true]
        refine place_run o asc fu l ((l + r) / 2) (by lia) (by lia) (by lia) a fun i hi hik => ?_
        by_cases e : i = (l + r) / 2
        · subst e; exact hc
        · exact o.lt_le hc (lt2_not o (asc _ i (by lia) hik))
      | false =>
        simp only [Bool.false_eq_true, if_false]
        refine place_run o asc fu ((l + r) / 2 + 1) r (by lia) h2 (by lia) (fun i hi => ?_) b
        by_cases e : i = (l + r) / 2
        · subst e; exact hc
        · exact o.ntr _ _ _ hc (lt2_not o (asc i _ (by lia) (by lia)))

theorem bin_run (o : SWO f) {N : Nat} : ∀ (fu : Nat) (p : Array Nat) (k : Nat), 1 ≤ k → k + fu = N → Upto f N p k → Upto f N (krun f (kas_bin fu p k)) N
  | 0, p, k, h1, hk, u => by
    simp only [kas_bin, krun]
    have : k = N := by lia
    subst this; exact u
  | fu + 1, p, k, h1, hk, u => by
    simp only [kas_bin]
    rw [krun_bind]
    obtain ⟨a, b, c⟩ := place_run o u.asc k 0 k (by lia) (Nat.le_refl _) (by lia) (fun i hi => by lia) (fun i hi hi' => by lia)
    generalize krun f (kas_place p k k 0 k) = l at a b c ⊢
    have hr : g p k = k := u.rest k (Nat.le_refl _) (by lia)
    have gk : ∀ i, g (bubble p k (k - l)) i = if i = l then g p k else if l < i ∧ i ≤ k then g p (i - 1) else g p i := fun i => g_bub (by rw [u.size]; lia) a
    refine bin_run o fu _ (k + 1) (by lia) (by lia) ⟨by rw [bubble_size]; exact u.size, (bubble_perm _ _ _).trans u.perm, fun i j hij hj => ?_, fun i hi => ?_, fun m hm hm' => ?_⟩
    · rw [gk, gk]
      by_cases hi : i = l
      · rw [if_pos hi, if_neg (by lia), if_pos (by lia)]
        exact .inl (c _ (by lia) (by lia))
      · rw [if_neg hi]
        by_cases hj' : j = l
        · rw [if_pos hj', if_neg (by lia)]
          exact lt2_ok o (b i (by lia)) (by rw [hr]; exact u.low i (by lia))
        · rw [if_neg hj']
          by_cases h2 : l < i
          · rw [if_pos (by lia), if_pos (by lia)]; exact u.asc _ _ (by lia) (by lia)
          · rw [if_neg (by lia)]
            by_cases h3 : l < j
            · rw [if_pos (by lia)]; exact u.asc _ _ (by lia) (by lia)
            · rw [if_neg (by lia)]; exact u.asc _ _ hij (by lia)
    · rw [gk]; split
      · lia
      · split
        · have := u.low (i - 1) (by lia); lia
        · have := u.low i (by lia); lia
    · rw [gk, if_neg (by lia), if_neg (by lia)]; exact u.rest m (by lia) hm'

theorem sort_run (o : SWO f) {N : Nat} (hN : 1 ≤ N) : Upto f N (krun f (kas_sort N)) N := by
  unfold kas_sort
  rw [krun_bind]
  have gr : ∀ k, k < N → g (List.toArray (List.range N)) k = k := fun k hk => by
    show (List.toArray (List.range N)).getD k 0 = k
    simp [Array.getD_eq_getD_getElem?, hk]
  have u : Upto f N (List.toArray (List.range N)) 1 := ⟨by simp, .refl _, fun i j h1 h2 => by lia, fun i hi => by rw [gr i (by lia)]; exact hi, fun k _ hk => gr k hk⟩
  refine e0_3 (count_run o hN u) ?_
  intro a b c
  generalize krun f (kas_count N (List.toArray (List.range N))) = r at a b c ⊢
  obtain ⟨m, p⟩ := r
  simp only at a b c ⊢
  by_cases h : m < N
  · rw [if_pos h]
    have e : max m 1 = m := by lia
    rw [e]
    exact bin_run o (N - m) p m a (by lia) c
  · rw [if_neg h]
    simp only [krun]
    have : m = N := by lia
    subst this; exact c

/-- all that is asked lies below N, and the leaves are P -/
def AsksP {α : Type} (N : Nat) (P : α → Prop) : KasT α → Prop
  | .ret a => P a
  | .ask i j k => i < N ∧ j < N ∧ ∀ b, AsksP N P (k b)
theorem AsksP.bind {α β : Type} {N : Nat} {P : α → Prop} {Q : β → Prop} {h : α → KasT β} (hq : ∀ a, P a → AsksP N Q (h a)) : ∀ {t : KasT α}, AsksP N P t → AsksP N Q (t.bind h)
  | .ret a, x => hq a x
  | .ask i j k, ⟨a, b, c⟩ => ⟨a, b, fun q => AsksP.bind hq (c q)⟩
theorem AsksP.ite {α : Type} {N : Nat} {P : α → Prop} {c : Prop} [Decidable c] {t u : KasT α} (h1 : AsksP N P t) (h2 : AsksP N P u) : AsksP N P (if c then t else u) := by split <;> assumption
def Low (N : Nat) (p : Array Nat) : Prop := p.size = N ∧ ∀ x ∈ p, x < N
theorem Low.g {N : Nat} {p : Array Nat} (hN : 0 < N) (h : Low N p) (k : Nat) : p.getD k 0 < N := by
  rw [Array.getD_eq_getD_getElem?]
  cases q : p[k]? with
  | none => exact hN
  | some x => exact h.2 x (Array.mem_of_getElem? q)
theorem Low.perm {N : Nat} {p q : Array Nat} (h : Low N p) (hp : q.Perm p) (hs : q.size = p.size) : Low N q := ⟨hs.trans h.1, fun x hx => h.2 x (hp.mem_iff.mp hx)⟩
theorem Low.rev {N : Nat} {p : Array Nat} {i j : Nat} (h : Low N p) : Low N (kas_rev p i j) := h.perm rev_perm rev_size
theorem Low.bub {N : Nat} {p : Array Nat} {i j : Nat} (h : Low N p) : Low N (bubble p i j) := h.perm (bubble_perm _ _ _) (bubble_size _ _ _)
theorem asks_asc {N : Nat} (hN : 0 < N) {p : Array Nat} (h : Low N p) : ∀ (fu n : Nat), AsksP N (fun _ => True) (kas_asc p fu n)
  | 0, _ => trivial
  | fu + 1, n => ⟨h.g hN _, h.g hN _, fun b => .ite trivial (asks_asc hN h fu (n + 1))⟩
theorem asks_desc {N : Nat} (hN : 0 < N) : ∀ (fu : Nat) (p : Array Nat) (n q : Nat), Low N p → AsksP N (fun r => Low N r.1) (kas_desc fu p n q)
  | 0, _, _, _, h => h
  | fu + 1, p, n, q, h => ⟨h.g hN _, h.g hN _, fun b => .ite (.ite (asks_desc hN fu _ _ _ h.rev) (asks_desc hN fu _ _ _ h)) ⟨h.g hN _, h.g hN _, fun d => .ite h (asks_desc hN fu _ _ _ h)⟩⟩
theorem asks_tail3 {N : Nat} (hN : 0 < N) {p : Array Nat} (h : Low N p) (n nrem : Nat) : AsksP N (fun r => Low N r.2) (kas_tail3 n nrem p) := by
  unfold kas_tail3
  refine AsksP.bind (P := fun _ => True) (fun _ _ => ?_) (asks_asc hN h.rev _ _)
  exact h.rev
theorem asks_descPart {N : Nat} (hN : 0 < N) {p : Array Nat} (h : Low N p) (n nrem : Nat) : AsksP N (fun r => Low N r.2) (kas_descPart n nrem p) := by
  unfold kas_descPart
  refine AsksP.bind (P := fun r : Array Nat × Nat × Nat => Low N r.1) (fun r hr => ?_) (asks_desc hN _ _ _ _ h)
  exact .ite (asks_tail3 hN hr.rev _ _) (asks_tail3 hN hr _ _)
theorem asks_count {N : Nat} (hN : 0 < N) {p : Array Nat} (h : Low N p) (nrem : Nat) : AsksP N (fun r => Low N r.2) (kas_count nrem p) := by
  unfold kas_count
  refine AsksP.bind (P := fun _ => True) (fun n _ => ?_) (asks_asc hN h _ _)
  have r : AsksP N (fun r : Nat × Array Nat => Low N r.2) (.ret (n, p)) := h
  refine .ite r (.ite ?_ (asks_descPart hN h _ _))
  exact ⟨h.g hN _, h.g hN _, fun b => .ite r (asks_descPart hN h.rev _ _)⟩
theorem asks_place {N : Nat} (hN : 0 < N) {p : Array Nat} (h : Low N p) (k : Nat) : ∀ (fu l r : Nat), AsksP N (fun _ => True) (kas_place p k fu l r)
  | 0, _, _ => trivial
  | fu + 1, l, r => .ite trivial ⟨h.g hN _, h.g hN _, fun b => .ite (asks_place hN h k fu _ _) (asks_place hN h k fu _ _)⟩
theorem asks_bin {N : Nat} (hN : 0 < N) : ∀ (fu : Nat) (p : Array Nat) (k : Nat), Low N p → AsksP N (Low N) (kas_bin fu p k)
  | 0, _, _, h => h
  | fu + 1, p, k, h => AsksP.bind (P := fun _ => True) (fun l _ => asks_bin hN fu _ _ h.bub) (asks_place hN h k _ _ _)
theorem asks_sort {N : Nat} (hN : 0 < N) : AsksP N (Low N) (kas_sort N) := by
  unfold kas_sort
  refine AsksP.bind (P := fun r : Nat × Array Nat => Low N r.2) (fun r hr => ?_) (asks_count hN ⟨by simp, fun x hx => by simpa using hx⟩ _)
  have q : AsksP N (Low N) (.ret r.2) := hr
  exact .ite (asks_bin hN _ _ _ hr) q

/-- a tree's walk by an oracle: the comparisons answer and keep the invariant -/
theorem kas_oracle {α : Type} {cmp : Nat → Nat → (Bool → Shared → Prop) → Shared → Prop} {N : Nat} {Inv : Shared → Prop} {P : α → Prop} {G : α → Shared → Prop}
    (hc : ∀ i j (C : Bool → Shared → Prop) s, i < N → j < N → Inv s → (∀ s', Inv s' → C (f i j) s') → cmp i j C s) :
    ∀ (t : KasT α) (s : Shared), AsksP N P t → Inv s → (∀ s', Inv s' → G (krun f t) s') → t.kasWp cmp G s
  | .ret a, s, _, hI, h => h s hI
  | .ask i j k, s, ⟨hi, hj, hk⟩, hI, h => hc i j _ s hi hj hI fun s' hI' => kas_oracle hc (k (f i j)) s' (hk _) hI' h
end
-- SO

/-- the sort's own end, behind the keys -/
def so_end (a : Addr) (b : Bool) (items : Array Value) (before : Nat) (keys : Array Value) (fin : SortSt → Sem Unit) : Sem PySem.Fin := do
  if b then rule "list.sort.reverse"
  let kind ← if items.size < 2 then pure general' else keyKind' keys
  let ((), s) ← (if items.size < 2 then pure () else sortRuns').run (SortSt.mk' kind (if b then (keys.zip items).reverse else keys.zip items) #[] 7 none)
  fin s
  let touched := (← seqEpoch a) != before
  Builtin.List.listUpdate (.ref a) fun _ => if b then ((arrOf s).map (·.2)).reverse else (arrOf s).map (·.2)
  if let some e := failedOf s then rule "list.sort.comparison-raised"; throw e
  if touched then rule "list.sort.modified"; raiseError "ValueError" "list modified during sort"
  ret .none

def so_plain (a : Addr) (b : Bool) : Sem PySem.Fin := do
  let items ← Builtin.List.listItems (.ref a)
  Builtin.List.listUpdate (.ref a) fun _ => #[]
  let before ← seqEpoch a
  let held ← newTuple items.toList
  let keyStore ← newList []
  holding [held, keyStore] (so_end a b items before items fun _ => pure ())
theorem so_p0 (a : Addr) : Builtin.«list.sort» ⟨[.ref a], []⟩ = so_plain a false := rfl
theorem so_p1 (a : Addr) (b : Bool) : Builtin.«list.sort» ⟨[.ref a], [(Str.ofString "reverse", .bool b)]⟩ = so_plain a b := rfl
theorem so_p2 (a : Addr) : Builtin.«list.sort» ⟨[.ref a], [(Str.ofString "key", .none)]⟩ = so_plain a false := rfl
theorem so_p3 (a : Addr) (b : Bool) : Builtin.«list.sort» ⟨[.ref a], [(Str.ofString "key", .none), (Str.ofString "reverse", .bool b)]⟩ = so_plain a b := rfl
theorem so_k1 (q a : Addr) : Builtin.«list.sort» ⟨[.ref a], [(Str.ofString "key", .ref q)]⟩ = ksk_tree a (.ref q) false := ksk_t1 q a
theorem so_k2 (q a : Addr) (b : Bool) : Builtin.«list.sort» ⟨[.ref a], [(Str.ofString "key", .ref q), (Str.ofString "reverse", .bool b)]⟩ = ksk_tree a (.ref q) b := ksk_t2 q a b
def so_let (keyStore : Value) (s : SortSt) : Sem Unit := do
  Builtin.List.listUpdate keyStore fun _ => #[]
  letGo ((arrOf s).map (·.1)).toList (failedOf s).toList
theorem so_kend (a : Addr) (b : Bool) (items : Array Value) (before : Nat) (keyStore : Value) (keys : Array Value) :
    ksk_end a b items before keyStore keys = so_end a b items before keys (so_let keyStore) := by
  unfold ksk_end so_end ksk_tail so_let
  cases b
  · simp only [bind_assoc, Bool.false_eq_true, if_false]
    by_cases hz : items.size < 2
    · simp only [if_pos hz]; rfl
    · simp only [if_neg hz]; rfl
  · simp only [bind_assoc, if_true]
    by_cases hz : items.size < 2
    · simp only [if_pos hz]; rfl
    · simp only [if_neg hz]; rfl

/-- the order that a sort gives: original places -/
def Ordered (lt : Nat → Nat → Bool) (rev : Bool) (N : Nat) (ord : List Nat) : Prop :=
  ord.Perm (List.range N) ∧ ord.Pairwise (lt2 (if rev then fun a b => lt b a else lt))

section
variable {prog : Program} {w : World} {A : Around} {E : Value → Shared → Prop} {s : Shared}

theorem upto_list {f : Nat → Nat → Bool} {N : Nat} {p : Array Nat} (u : Upto f N p N) : p.toList.Perm (List.range N) ∧ p.toList.Pairwise (lt2 f) := by
  refine ⟨by simpa using Array.perm_iff_toList_perm.mp u.perm, ?_⟩
  rw [List.pairwise_iff_getElem]
  intro i j hi hj hij
  have hj' : j < N := by simpa [u.size] using hj
  have hi' : i < N := by lia
  have e := u.asc i j hij hj'
  have gi : ∀ k (hk : k < p.toList.length), g p k = p.toList[k] := fun k hk => by
    show p.getD k 0 = _
    have hk' : k < p.size := by simpa using hk
    simp [Array.getD_eq_getD_getElem?, hk']
  rwa [gi i hi, gi j hj] at e

theorem SWO.flip {f : Nat → Nat → Bool} (o : SWO f) : SWO fun a b => f b a := ⟨fun a b h => o.asym _ _ h, fun a b c h1 h2 => o.ntr _ _ _ h2 h1⟩

/-- the reversed sort's order, told by the original places -/
theorem ordered_rev {lt : Nat → Nat → Bool} {N : Nat} {p : Array Nat} (u : Upto (fun i j => lt (N - 1 - i) (N - 1 - j)) N p N) : Ordered lt true N ((p.toList.map fun i => N - 1 - i).reverse) := by
  obtain ⟨h1, h2⟩ := upto_list u
  refine ⟨?_, ?_⟩
  · refine (List.reverse_perm _).trans ((h1.map _).trans ?_)
    have : (List.range N).map (fun i => N - 1 - i) = (List.range N).reverse := by
      apply List.ext_getElem
      · simp
      · intro i hi hj
        simp at hi
        simp [List.getElem_reverse]
    rw [this]; exact List.reverse_perm _
  · rw [List.pairwise_reverse, List.pairwise_map]
    have hm : ∀ x ∈ p.toList, x < N := fun x hx => by simpa using h1.mem_iff.mp hx
    refine List.Pairwise.imp_of_mem ?_ h2
    intro a b ha hb h
    have := hm a ha
    have := hm b hb
    simp only [if_true]
    rcases h with h | ⟨h, l⟩
    · exact .inl h
    · exact .inr ⟨h, by lia⟩
theorem ordered_fwd {lt : Nat → Nat → Bool} {N : Nat} {p : Array Nat} (u : Upto lt N p N) : Ordered lt false N p.toList := by
  obtain ⟨h1, h2⟩ := upto_list u
  exact ⟨h1, by simpa using h2⟩

theorem so_item {keys vs : List Value} (hl : keys.length = vs.length) {i : Nat} (hi : i < vs.length) : kas_item (keys.toArray.zip vs.toArray) i = (keys.getD i .none, vs.getD i .none) := by
  unfold kas_item
  have h1 : i < keys.length := by lia
  have h3 : i < (keys.zip vs).length := by rw [List.length_zip]; lia
  simp [Array.getD_eq_getD_getElem?, h1, hi, List.getElem?_eq_getElem h3]
theorem so_item_rev {keys vs : List Value} (hl : keys.length = vs.length) {i : Nat} (hi : i < vs.length) : kas_item (keys.toArray.zip vs.toArray).reverse i = (keys.getD (vs.length - 1 - i) .none, vs.getD (vs.length - 1 - i) .none) := by
  unfold kas_item
  have h1 : vs.length - 1 - i < keys.length := by lia
  have h2 : vs.length - 1 - i < vs.length := by lia
  simp [Array.getD_eq_getD_getElem?, hi, h1, h2, hl]

/-- fewer than two: nothing to turn -/
theorem so_short {keys vs : List Value} (hl : keys.length = vs.length) (h2 : vs.length < 2) (rev : Bool) :
    (if rev = true then (((if rev = true then (keys.toArray.zip vs.toArray).reverse else keys.toArray.zip vs.toArray)).map (·.2)).reverse else ((if rev = true then (keys.toArray.zip vs.toArray).reverse else keys.toArray.zip vs.toArray)).map (·.2)) = ((List.range vs.length).map fun i => vs.getD i .none).toArray := by
  cases vs with
  | nil =>
    cases keys with
    | nil => cases rev <;> simp
    | cons k ks => simp at hl
  | cons v r =>
    cases r with
    | nil =>
      cases keys with
      | nil => simp at hl
      | cons k ks =>
        cases ks with
        | nil => cases rev <;> simp
        | cons _ _ => simp at hl
    | cons _ _ => exact absurd h2 (by simp only [List.length_cons]; lia)

/-- the end of a sort of fewer than 64, its comparisons answering and turning nothing but the tokens -/
theorem so_end_wp {a : Addr} {rev : Bool} {keys vs : List Value} {e1 : Nat} {lt : Nat → Nat → Bool} {κ : SortKind} {fin : SortSt → Sem Unit} {P : PySem.Fin → Shared → Prop} (K : Heap → Prop)
    (hl : keys.length = vs.length) (h64 : vs.length < 64) (o : SWO lt)
    (hkind : 2 ≤ vs.length → ∀ Q : SortKind → Shared → Prop, Q κ s → wpAny (model prog w) A (keyKind' keys.toArray) Q E s)
    (hcmp : ∀ i j (Q : Bool → Shared → Prop) (s' : Shared), i < vs.length → j < vs.length → s'.heap = s.heap → (∀ tk, Q (lt i j) { s' with toks := tk }) → wpAny (model prog w) A (keyLt' κ (keys.getD i .none) (keys.getD j .none)) Q (fun _ _ => False) s')
    (hfin : ∀ st tk (Q : Unit → Shared → Prop), failedOf st = none → (∀ h', h'.get? a = some (listOf #[] e1) → K h' → Q () { s with heap := h', toks := tk }) → wpAny (model prog w) A (fin st) Q E { s with toks := tk })
    (h : ∀ ord h₂ h' tk c, Ordered lt rev vs.length ord → K h₂ → Heap.SameBut a h₂ h' → h'.get? a = some (listOf (ord.map fun i => vs.getD i .none).toArray c) → P (.done (.ret .none)) { s with heap := h', toks := tk }) :
    wpAny (model prog w) A (so_end a rev vs.toArray e1 keys.toArray fin) P E s := by
  -- the last rows, whatever the order
  obtain ⟨rest, hrest⟩ : ∃ rest : SortSt → Sem PySem.Fin, rest = fun st => (do
        fin st
        let touched := (← seqEpoch a) != e1
        Builtin.List.listUpdate (.ref a) fun _ => if rev then ((arrOf st).map (·.2)).reverse else (arrOf st).map (·.2)
        if let some e := failedOf st then rule "list.sort.comparison-raised"; throw e
        if touched then rule "list.sort.modified"; raiseError "ValueError" "list modified during sort"
        ret .none) := ⟨_, rfl⟩
  have last : ∀ (st : SortSt) (ord : List Nat) tk, failedOf st = none → Ordered lt rev vs.length ord → (if rev = true then ((arrOf st).map (·.2)).reverse else (arrOf st).map (·.2)) = (ord.map fun i => vs.getD i .none).toArray →
      wpAny (model prog w) A (rest st) P E { s with toks := tk } := by
    intro st ord tk hf ho he
    rw [hrest]
    refine wpAny_bind (hfin st tk _ hf fun h₂ ha hK => ?_)
    have hlen : ord.length = vs.length := by have := ho.1.length_eq; simpa using this
    refine wpAny_bind (seqEpoch_at ha rfl ?_)
    refine wpAny_bind (listUpdate_at ha rfl ?_ (Nat.zero_le _) ?_)
    · rw [hf]
      simp only [bne_self_eq_false, Bool.false_eq_true, if_false]
      obtain ⟨c, hc⟩ : ∃ c, (h₂.update a (Obj.mapSeq fun _ => (ord.map fun i => vs.getD i .none).toArray)).get? a = some (listOf (ord.map fun i => vs.getD i .none).toArray c) := ⟨_, get?_update_seq ha fun _ => _⟩
      refine wpAny_pure ?_
      simp only [he]
      exact h ord h₂ _ tk c ho hK (Heap.SameBut.update ..) hc
    · rw [he, List.size_toArray, List.length_map, hlen, sizeLine_eq]; lia
  unfold so_end
  have go : wpAny (model prog w) A (do
      let kind ← if vs.toArray.size < 2 then pure general' else keyKind' keys.toArray
      let ((), st) ← (if vs.toArray.size < 2 then pure () else sortRuns').run (SortSt.mk' kind (if rev then (keys.toArray.zip vs.toArray).reverse else keys.toArray.zip vs.toArray) #[] 7 none)
      fin st
      let touched := (← seqEpoch a) != e1
      Builtin.List.listUpdate (.ref a) fun _ => if rev then ((arrOf st).map (·.2)).reverse else (arrOf st).map (·.2)
      if let some e := failedOf st then rule "list.sort.comparison-raised"; throw e
      if touched then rule "list.sort.modified"; raiseError "ValueError" "list modified during sort"
      ret .none) P E s := by
    by_cases h2 : vs.length < 2
    · have hz : vs.toArray.size < 2 := by rw [List.size_toArray]; exact h2
      simp only [if_pos hz]
      refine wpAny_bind (wpAny_pure (wpAny_bind (wpAny_pure ?_)))
      have l0 := last (SortSt.mk' general' (if rev then (keys.toArray.zip vs.toArray).reverse else keys.toArray.zip vs.toArray) #[] 7 none) (List.range vs.length) s.toks rfl ⟨.refl _, ?_⟩ ?_
      · rw [hrest] at l0; exact l0
      · match hv : vs.length, h2 with
        | 0, _ => simp
        | 1, _ => simp
      · exact so_short hl h2 rev
    · have hz : ¬ vs.toArray.size < 2 := by rw [List.size_toArray]; exact h2
      simp only [if_neg hz]
      refine wpAny_bind (hkind (by lia) _ ?_)
      -- the run, for either way round
      have core : ∀ (it : Array Keyed) (f : Nat → Nat → Bool), it.size = vs.length → SWO f →
          (∀ i j (Q : Bool → Shared → Prop) (s' : Shared), i < vs.length → j < vs.length → s'.heap = s.heap → (∀ tk, Q (f i j) { s' with toks := tk }) → wpAny (model prog w) A (keyLt' κ (kas_item it i).1 (kas_item it j).1) Q (fun _ _ => False) s') →
          ∀ (G : SortSt → Shared → Prop), (∀ p st tk, Upto f vs.length p vs.length → arrOf st = p.map (kas_item it) → failedOf st = none → G st { s with toks := tk }) →
          wpAny (model prog w) A (sortRuns'.run (SortSt.mk' κ it #[] 7 none)) (fun r s' => G r.2 s') E s := by
        intro it f hsz of hc G hG
        have est : SortSt.mk' κ it #[] 7 none = kas_st κ it (List.toArray (List.range vs.length)) := by
          have e := kas_range it
          rw [hsz] at e
          unfold kas_st
          rw [e]
        rw [est]
        refine kas_runs (Q := fun _ st' s' => G st' s') (G := fun p s' => Upto f vs.length p vs.length ∧ ∃ tk, s' = { s with toks := tk }) (by lia) h64 (fun p' st' s' _ a2 a3 a4 => ?_) ?_
        · obtain ⟨u, tk, rfl⟩ := a4
          exact hG p' st' tk u a2 a3
        · refine kas_oracle (f := f) (N := vs.length) (Inv := fun s' => ∃ tk, s' = { s with toks := tk }) (P := Low vs.length) (fun i j C s' hi hj hI hC => ?_) _ s (asks_sort (by lia)) ⟨s.toks, rfl⟩ fun s' hI => ⟨sort_run of (by lia), hI⟩
          obtain ⟨tk, rfl⟩ := hI
          exact hc i j C _ hi hj rfl fun tk' => hC _ ⟨tk', rfl⟩
      refine wpAny_bind ?_
      cases hrev : rev with
      | false =>
        simp only [Bool.false_eq_true, if_false]
        refine wpAny_mono (core (keys.toArray.zip vs.toArray) lt (by simp [hl]) o (fun i j Q s' hi hj hs hq => ?_) (fun st s' => wpAny (model prog w) A (rest st) P E s') fun p st tk u har hf => ?_) (fun r s' hr => by obtain ⟨⟨⟩, st⟩ := r; rw [hrest, hrev] at hr; simpa using hr) fun _ _ e => e
        · rw [so_item hl hi, so_item hl hj]; exact hcmp i j Q s' hi hj hs hq
        · have ho := ordered_fwd u
          have hout : (arrOf st).map (·.2) = (p.toList.map fun i => vs.getD i .none).toArray := by
            apply Array.toList_inj.mp
            rw [har, Array.map_map, Array.toList_map]
            refine List.map_congr_left fun i hi => ?_
            have : i < vs.length := by simpa using ho.1.mem_iff.mp hi
            show (kas_item _ i).2 = _
            rw [so_item hl this]
          exact last st p.toList tk hf (by rw [hrev]; exact ho) (by rw [hrev]; simpa using hout)
      | true =>
        simp only [if_true]
        refine wpAny_mono (core (keys.toArray.zip vs.toArray).reverse (fun i j => lt (vs.length - 1 - i) (vs.length - 1 - j)) (by simp [hl]) ⟨fun a b => o.asym _ _, fun a b c => o.ntr _ _ _⟩ (fun i j Q s' hi hj hs hq => ?_) (fun st s' => wpAny (model prog w) A (rest st) P E s') fun p st tk u har hf => ?_) (fun r s' hr => by obtain ⟨⟨⟩, st⟩ := r; rw [hrest, hrev] at hr; simpa using hr) fun _ _ e => e
        · rw [so_item_rev hl hi, so_item_rev hl hj]; exact hcmp _ _ Q s' (by lia) (by lia) hs hq
        · have ho := ordered_rev u
          have hm : ∀ i ∈ p.toList, i < vs.length := fun i hi => by simpa using (upto_list u).1.mem_iff.mp hi
          have hout : ((arrOf st).map (·.2)).reverse = (((p.toList.map fun i => vs.length - 1 - i).reverse).map fun i => vs.getD i .none).toArray := by
            apply Array.toList_inj.mp
            rw [har, Array.toList_reverse, Array.map_map, Array.toList_map]
            simp only [List.map_reverse, List.map_map]
            congr 1
            refine List.map_congr_left fun i hi => ?_
            show (kas_item _ i).2 = _
            rw [so_item_rev hl (hm i hi)]
            rfl
          exact last st _ tk hf (by rw [hrev]; exact ho) (by rw [hrev]; simpa using hout)
  cases rev
  · simp only [Bool.false_eq_true, if_false] at go ⊢; exact go
  · simp only [if_true] at go ⊢; exact wpAny_bind (wpAny_rule go)
end
-- SC
section
variable {prog : Program} {w : World} {A : Around} {E : Value → Shared → Prop} {s : Shared}

theorem eqB_int {a b : Int} {t u : Tok} {Q : Bool → Shared → Prop} (h : Q (decide (a = b)) s) : wpAny (model prog w) A (eqBool (.int a t) (.int b u)) Q E s :=
  wpAny_eqBool_int (by have e : (a == b) = decide (a = b) := by by_cases h : a = b <;> simp [h]
                       rw [e]; exact h)
theorem eqB_self {v : Value} {Q : Bool → Shared → Prop} (h : Q true s) : wpAny (model prog w) A (eqBool v v) Q E s := by
  unfold eqBool
  refine wpAny_holding ?_
  rw [if_pos (by simp)]
  exact wpAny_bind (wpAny_rule (wpAny_pure h))

/-- two lists of one int, as a sort's keys -/
theorem oneLt_list {x y : Addr} {a b : Int} {t u : Tok} {n k : Nat} {Q : Bool → Shared → Prop} (hu : A.units < 9000) (hx : s.heap.get? x = some (listOf #[.int a t] n)) (hy : s.heap.get? y = some (listOf #[.int b u] k))
    (h : Q (decide (a < b)) s) : wpAny (model prog w) A (oneLt' true (.ref x) (.ref y)) Q E s := by
  rw [oneLt'_eq]
  simp only [if_true]
  refine wpAny_bind (wpAny_cRoomFor (Nat.lt_trans hu (by decide)) ?_)
  refine wpAny_bind (wpAny_callSpecialIfBound?_slot ⟨_, hx, rfl⟩ F.slot_list_lt (call_list_lt hx hy ?_))
  show (_ ∧ _) ∨ (_ ∧ _)
  by_cases e : a = b
  · subst e
    refine .inl ⟨by simpa using MeetsSeq.EqGives.int a a t u, ?_⟩
    show wpAny _ _ _ _ _ s
    refine wpAny_bind (wpAny_truthy_bool ?_)
    exact wpAny_pure (by simpa using h)
  · refine .inr ⟨by have q := MeetsSeq.EqGives.int a b t u; rwa [show (a == b) = false from by simpa using e] at q, rich_lt_int ?_⟩
    exact wpAny_bind (wpAny_truthy_bool (wpAny_pure h))
theorem oneLt_false_int {a b : Int} {t u : Tok} {Q : Bool → Shared → Prop} (h : Q (decide (a < b)) s) : wpAny (model prog w) A (oneLt' false (.int a t) (.int b u)) Q E s :=
  kat_one _ _ (lt_int h)

theorem hide_upd {h h' : Heap} {a : Addr} (k : Heap.ExtBut a h h') : (hideAll h [a]).StaysIn h' := fun x o e =>
  k x o (fun q => by have := hideAll_none [a] (h := h) (b := x) (by rw [q]; exact List.mem_singleton.mpr rfl); rw [this] at e; cases e) (of_hideAll _ e)

theorem so_plain_wp {a : Addr} {rev : Bool} {vs : List Value} {n : Nat} {lt : Nat → Nat → Bool} {κ : SortKind} {P : PySem.Fin → Shared → Prop}
    (ha : s.heap.get? a = some (listOf vs.toArray n)) (h64 : vs.length < 64) (o : SWO lt)
    (hkind : 2 ≤ vs.length → ∀ (s' : Shared) (Q : SortKind → Shared → Prop), (hideAll s.heap [a]).StaysIn s'.heap → Q κ s' → wpAny (model prog w) A (keyKind' vs.toArray) Q E s')
    (hcmp : ∀ i j (Q : Bool → Shared → Prop) (s' : Shared), i < vs.length → j < vs.length → (hideAll s.heap [a]).StaysIn s'.heap → (∀ tk, Q (lt i j) { s' with toks := tk }) → wpAny (model prog w) A (keyLt' κ (vs.getD i .none) (vs.getD j .none)) Q (fun _ _ => False) s')
    (h : ∀ ord h' tk c, Ordered lt rev vs.length ord → (hideAll s.heap [a]).StaysIn h' → h'.get? a = some (listOf (ord.map fun i => vs.getD i .none).toArray c) → P (.done (.ret .none)) { s with heap := h', toks := tk }) :
    wpAny (model prog w) A (so_plain a rev) P E s := by
  have s1 := Heap.SameBut.update s.heap a (Obj.mapSeq fun _ => (#[] : Array Value))
  obtain ⟨e1, ho1⟩ : ∃ e1, (s.heap.update a (Obj.mapSeq fun _ => (#[] : Array Value))).get? a = some (listOf #[] e1) := ⟨_, get?_update_seq ha fun _ => #[]⟩
  unfold so_plain
  refine wpAny_bind (listItems_at ha rfl ?_)
  refine wpAny_bind (listUpdate_at ha rfl ?_ (by rw [List.size_toArray, sizeLine_eq]; lia) (Nat.zero_le _))
  refine wpAny_bind (seqEpoch_at ho1 rfl ?_)
  refine wpAny_bind (wpAny_newTuple ?_ (by show vs.length ≤ _; rw [sizeLine_eq]; lia))
  refine wpAny_bind (wpAny_newList ?_ (Nat.zero_le _))
  refine wpAny_holding ?_
  have st : (hideAll s.heap [a]).StaysIn (((s.heap.update a (Obj.mapSeq fun _ => (#[] : Array Value))).push (seqObj "tuple" vs.toArray 0)).push (seqObj "list" #[] 0)) := hide_upd fun x o hx e => Heap.get?_push_of_some _ (Heap.get?_push_of_some _ (s1.extBut x o hx e))
  have ha3 : (((s.heap.update a (Obj.mapSeq fun _ => (#[] : Array Value))).push (seqObj "tuple" vs.toArray 0)).push (seqObj "list" #[] 0)).get? a = some (listOf #[] e1) := Heap.get?_push_of_some _ (Heap.get?_push_of_some _ ho1)
  show wpAny (model prog w) A _ P E { s with heap := ((s.heap.update a (Obj.mapSeq fun _ => (#[] : Array Value))).push (seqObj "tuple" vs.toArray 0)).push (seqObj "list" #[] 0) }
  generalize hH : ((s.heap.update a (Obj.mapSeq fun _ => (#[] : Array Value))).push (seqObj "tuple" vs.toArray 0)).push (seqObj "list" #[] 0) = H at st ha3
  refine so_end_wp (s := { s with heap := H }) (lt := lt) (κ := κ) (fun h' => h' = H) rfl h64 o (fun h2 Q q => hkind h2 _ Q st q) (fun i j Q s' hi hj hs hq => hcmp i j Q s' hi hj (by rw [hs]; exact st) hq) (fun st' tk Q hf hq => wpAny_pure (hq H ha3 rfl)) ?_
  rintro ord h₂ h' tk c ho rfl hsb hc
  exact h ord h' tk c ho (fun x o e => hsb.extBut x o (fun q => by have := hideAll_none [a] (h := s.heap) (b := x) (by rw [q]; exact List.mem_singleton.mpr rfl); rw [this] at e; cases e) (st x o e)) hc

/-- a sort by a key function that gives back ints -/
theorem so_keyed_wp {a fq : Addr} {rev : Bool} {vs : List Value} {ks : List Int} {n : Nat} {P : PySem.Fin → Shared → Prop}
    (ha : s.heap.get? a = some (listOf vs.toArray n)) (h64 : vs.length < 64) (hlk : ks.length = vs.length)
    (hkey : ∀ i (Q : Value → Shared → Prop) (E' : Value → Shared → Prop) (b' : Heap) (s' : Shared), i < vs.length → (hideAll s.heap [a]).StaysIn b' → b'.StaysIn s'.heap → b'.objs.size ≤ s'.heap.objs.size → (∀ t h' tk, b'.StaysIn h' → Q (.int (ks.getD i 0) t) { s' with heap := h', toks := tk }) → wpAny (model prog w) A (call (.ref fq) [vs.getD i .none]) Q E' s')
    (h : ∀ ord h' tk c, Ordered (fun i j => decide (ks.getD i 0 < ks.getD j 0)) rev vs.length ord → (hideAll s.heap [a]).StaysIn h' → h'.get? a = some (listOf (ord.map fun i => vs.getD i .none).toArray c) → P (.done (.ret .none)) { s with heap := h', toks := tk }) :
    wpAny (model prog w) A (ksk_tree a (.ref fq) rev) P E s := by
  have s1 := Heap.SameBut.update s.heap a (Obj.mapSeq fun _ => (#[] : Array Value))
  obtain ⟨e1, ho1⟩ : ∃ e1, (s.heap.update a (Obj.mapSeq fun _ => (#[] : Array Value))).get? a = some (listOf #[] e1) := ⟨_, get?_update_seq ha fun _ => #[]⟩
  unfold ksk_tree
  refine wpAny_bind (listItems_at ha rfl ?_)
  refine wpAny_bind (listUpdate_at ha rfl ?_ (by rw [List.size_toArray, sizeLine_eq]; lia) (Nat.zero_le _))
  refine wpAny_bind (seqEpoch_at ho1 rfl ?_)
  refine wpAny_bind (wpAny_newTuple ?_ (by show vs.length ≤ _; rw [sizeLine_eq]; lia))
  refine wpAny_bind (wpAny_newList ?_ (Nat.zero_le _))
  refine wpAny_holding ?_
  have st : (hideAll s.heap [a]).StaysIn (((s.heap.update a (Obj.mapSeq fun _ => (#[] : Array Value))).push (seqObj "tuple" vs.toArray 0)).push (seqObj "list" #[] 0)) := hide_upd fun x o hx e => Heap.get?_push_of_some _ (Heap.get?_push_of_some _ (s1.extBut x o hx e))
  have ha3 : (((s.heap.update a (Obj.mapSeq fun _ => (#[] : Array Value))).push (seqObj "tuple" vs.toArray 0)).push (seqObj "list" #[] 0)).get? a = some (listOf #[] e1) := Heap.get?_push_of_some _ (Heap.get?_push_of_some _ ho1)
  have hKS : (((s.heap.update a (Obj.mapSeq fun _ => (#[] : Array Value))).push (seqObj "tuple" vs.toArray 0)).push (seqObj "list" #[] 0)).get? ((s.heap.update a (Obj.mapSeq fun _ => (#[] : Array Value))).push (seqObj "tuple" vs.toArray 0)).objs.size = some (listOf #[] 0) := Heap.get?_push_size _ rfl
  have hlt : a < ((s.heap.update a (Obj.mapSeq fun _ => (#[] : Array Value))).push (seqObj "tuple" vs.toArray 0)).objs.size := by rw [Heap.size_push, Heap.size_update]; exact Nat.lt_succ_of_lt (Heap.lt_size ha)
  have hb0 : (hideAll s.heap [a]).get? ((s.heap.update a (Obj.mapSeq fun _ => (#[] : Array Value))).push (seqObj "tuple" vs.toArray 0)).objs.size = none := Heap.get?_none_of_le (by rw [hideAll_size, Heap.size_push, Heap.size_update]; exact Nat.le_succ _)
  show wpAny (model prog w) A (ksk_rest a (.ref fq) rev vs.toArray e1 (.ref ((s.heap.update a (Obj.mapSeq fun _ => (#[] : Array Value))).push (seqObj "tuple" vs.toArray 0)).objs.size)) P E { s with heap := ((s.heap.update a (Obj.mapSeq fun _ => (#[] : Array Value))).push (seqObj "tuple" vs.toArray 0)).push (seqObj "list" #[] 0) }
  generalize ((s.heap.update a (Obj.mapSeq fun _ => (#[] : Array Value))).push (seqObj "tuple" vs.toArray 0)).objs.size = KS at hKS hlt hb0
  generalize ((s.heap.update a (Obj.mapSeq fun _ => (#[] : Array Value))).push (seqObj "tuple" vs.toArray 0)).push (seqObj "list" #[] 0) = H at st ha3 hKS
  unfold ksk_rest
  refine wpAny_bind (wpAny_rule ?_)
  first
    | rw [List.forIn_toArray]
    | (rw [← Array.forIn_toList]; simp only [List.toList_toArray])
    | rw [← Array.forIn_toList]
  refine wpAny_bind (ksk_fold (fun i s' => ∃ h' tk kA e, s' = { s with heap := h', toks := tk } ∧ (hideAll s.heap [a]).StaysIn h' ∧ h'.get? a = some (listOf #[] e1) ∧ h'.get? KS = some (listOf kA e) ∧ IntsAre kA.toList (ks.take i)) vs 0 _
    ⟨H, s.toks, #[], 0, rfl, st, ha3, hKS, by simpa using IntsAre.nil⟩ ?step ?done)
  case step =>
    rintro j x s' hx ⟨h', tk, kA, e, rfl, st', ha', hK', hk⟩
    simp only [Nat.zero_add] at hk ⊢
    have hj : j < vs.length := (List.getElem?_eq_some_iff.mp hx).1
    have hz : kA.size ≤ vs.length := by
      have h1 := hk.length
      rw [Array.length_toList, List.length_take] at h1
      lia
    have hxv : vs.getD j .none = x := by simp [hx]
    refine wpAny_bind (wpAny_attempt ?_)
    rw [← hxv]
    refine hkey j _ _ h' { s with heap := h', toks := tk } hj st' (fun _ _ e => e) (Nat.le_refl _) ?_
    · intro t2 h2 tk2 st2
      dsimp only
      have na := st2 _ _ ha'
      have nk := st2 _ _ hK'
      have s1' := Heap.SameBut.update h2 KS (Obj.mapSeq (·.push (.int (ks.getD j 0) t2)))
      obtain ⟨c2, hc2⟩ : ∃ c2, (h2.update KS (Obj.mapSeq (·.push (.int (ks.getD j 0) t2)))).get? KS = some (listOf (kA.push (.int (ks.getD j 0) t2)) c2) := ⟨_, get?_update_seq nk (·.push (.int (ks.getD j 0) t2))⟩
      have ek : ks.take (j + 1) = ks.take j ++ [ks.getD j 0] := by rw [List.take_add_one]; simp [show j < ks.length by lia]
      have ea : (kA.push (Value.int (ks.getD j 0) t2)).toList = kA.toList ++ [Value.int (ks.getD j 0) t2] := by simp
      refine wpAny_bind (listUpdate_at nk rfl ?_ (by rw [sizeLine_eq]; lia) (Nat.le_trans (Nat.le_of_eq (Array.size_push ..)) (by rw [sizeLine_eq]; lia)))
      refine wpAny_pure ⟨rfl, _, _, kA.push (.int (ks.getD j 0) t2), c2, rfl, fun x o e => ?_, (s1'.2 a (Nat.ne_of_lt hlt)).trans na, hc2, by rw [ea, ek]; exact ksk_snoc hk⟩
      exact (s1'.2 x (fun q => by rw [q, hb0] at e; cases e)).trans (st2 _ _ (st' x o e))
  case done =>
    rintro s' ⟨h', tk, kA, e, rfl, st', ha', hK', hk⟩
    have hk' : IntsAre kA.toList ks := by
      have e3 : ks.take (0 + vs.length) = ks := List.take_of_length_le (by lia)
      rw [e3] at hk
      exact hk
    have hkl : kA.toList.length = vs.length := by rw [hk'.length]; lia
    refine wpAny_bind (listItems_at hK' rfl ?_)
    rw [so_kend]
    have hkA : kA = kA.toList.toArray := by simp
    rw [hkA]
    have hg : ∀ i, i < vs.length → ∃ t, kA.toList.getD i .none = .int (ks.getD i 0) t := fun i hi => by
      obtain ⟨t, ht⟩ := hk'.get i (ks.getD i 0) (by simp [show i < ks.length by lia])
      exact ⟨t, by simp only [List.getD_eq_getElem?_getD, ht]; rfl⟩
    refine so_end_wp (s := { s with heap := h', toks := tk }) (κ := oneType') (fun h'' => Heap.SameBut KS h' h'') hkl h64 (lt := fun i j => decide (ks.getD i 0 < ks.getD j 0)) ⟨fun i j h => by simp at h ⊢; lia, fun i j l h1 h2 => by simp at h1 h2 ⊢; lia⟩ (fun h2 Q q => ?_) (fun i j Q s' hi hj hs hq => ?_) (fun st tk' Q hf hq => ?_) ?_
    · rw [ksk_kind (kz := ks) (by simpa using hk') (by simpa using (by lia : 2 ≤ kA.toList.length))]
      exact wpAny_pure q
    · obtain ⟨t, e1⟩ := hg i hi
      obtain ⟨t', e2⟩ := hg j hj
      rw [e1, e2, keyLt'_oneType]
      exact oneLt_int (by simpa using hq s'.toks)
    · unfold so_let
      have s1' := Heap.SameBut.update h' KS (Obj.mapSeq fun _ => (#[] : Array Value))
      refine wpAny_bind (listUpdate_at hK' rfl ?_ (by
        have : kA.size = vs.length := by rw [← Array.length_toList]; exact hkl
        rw [this, sizeLine_eq]; lia) (Nat.zero_le _))
      exact wpAny_letGo (hq _ ((s1'.2 a (Nat.ne_of_lt hlt)).trans ha') s1')
    · rintro ord h₂ h3 tk3 c ho hK2 hsb hc
      refine h ord h3 tk3 c ho (fun x o e => hsb.extBut x o (fun q => ?_) (hK2.extBut x o (fun q => ?_) (st' x o e))) hc
      · have := hideAll_none [a] (h := s.heap) (b := x) (by rw [q]; exact List.mem_singleton.mpr rfl)
        rw [this] at e; cases e
      · rw [q, hb0] at e; cases e
end
section
local macro_rules | `(tactic| walk_at "setItem") => `(tactic| (k_here; (with_reducible show wpAny _ _ (setItem (Value.ref _) (Value.int _ _) (It.v _)) _ _ _); (with_unfolding_all refine' set_at ?k1 ?k2 ?k3 ?k4 ?k5 ?k6 ?_; (case k1 => k_asm); (case k2 => k_asm); (case k3 => k_mem); (case k4 => lia); (case k5 => lia); (case k6 => lia); k_whole); intro h' F' N'; (try k_sweep)))
local macro_rules | `(tactic| walk_at "subscriptTail Name Constant ref int") => `(tactic| (k_here; (with_reducible show wpAny _ _ (subscriptTail _ _ (Value.ref _) (Value.int _ _)) _ _ _); (with_unfolding_all refine' sub_at ?k1 ?k2 ?k3 ?k4 ?k5 ?_ ?k6; (case k1 => k_asm); (case k2 => k_mem); (case k3 => lia); (case k4 => lia); (case k5 => lia); (case k6 => with_unfolding_all rfl); k_whole)))
local macro_rules | `(tactic| walk_at "subscriptTail Name Name ref int") => `(tactic| (k_here; (with_reducible show wpAny _ _ (subscriptTail _ _ (Value.ref _) (Value.int _ _)) _ _ _); (with_unfolding_all refine' sub_at ?k1 ?k2 ?k3 ?k4 ?k5 ?_ ?k6; (case k1 => k_asm); (case k2 => k_mem); (case k3 => lia); (case k4 => lia); (case k5 => lia); (case k6 => with_unfolding_all rfl); k_whole)))
local macro_rules | `(tactic| walk_at "call builtin:len") => `(tactic| (k_here; (with_unfolding_all refine' len_at ?k1 ?k2 ?k3 ?_; (case k1 => k_asm); (case k2 => k_mem); (case k3 => lia); k_whole)))
-- SU
section
variable {prog : Program} {w : World} {A : Around} {s : Shared} {b : Heap} {mg mb : Str → Option Value} {mean : ExcName → Option Value} {p : Program} {loose : List Str}

def CmpLt (prog : Program) (w : World) (b : Heap) (S : It → Prop) (lt : It → It → Bool) : Prop :=
  ∀ u v, S u → S v → ∀ (A : Around) (Q : Value → Shared → Prop) (E : Value → Shared → Prop) (s : Shared), A.units ≤ 1000 → b.StaysIn s.heap →
    (∀ tk, Q (.bool (lt u v)) { s with toks := tk }) → wpAny (model prog w) A (compareOp .Lt u.v v.v) Q E s
theorem CmpLt.keeps {b b' : Heap} {S : It → Prop} {lt : It → It → Bool} (c : CmpLt prog w b S lt) (st : b.StaysIn b') : CmpLt prog w b' S lt :=
  fun u v hu hv A Q E s ha hs h => c u v hu hv A Q E s ha (fun x o e => hs _ _ (st _ _ e)) h

def sdown (lt : It → It → Bool) (xs : List It) (sp pos : Nat) (x : It) : List It :=
  if h : sp < pos then
    if lt x (xs.getD ((pos - 1) / 2) it0) then sdown lt (xs.set pos (xs.getD ((pos - 1) / 2) it0)) sp ((pos - 1) / 2) x
    else xs.set pos x
  else xs.set pos x
termination_by pos
decreasing_by lia

/-- the smaller child -/
def kid (lt : It → It → Bool) (xs : List It) (pos : Nat) : Nat :=
  if 2 * pos + 2 < xs.length ∧ lt (xs.getD (2 * pos + 1) it0) (xs.getD (2 * pos + 2) it0) = false then 2 * pos + 2 else 2 * pos + 1
theorem kid_gt {lt : It → It → Bool} {xs : List It} {pos : Nat} : pos < kid lt xs pos := by unfold kid; split <;> lia
theorem kid_lt {lt : It → It → Bool} {xs : List It} {pos : Nat} (h : 2 * pos + 1 < xs.length) : kid lt xs pos < xs.length := by unfold kid; split <;> lia

def sup (lt : It → It → Bool) (xs : List It) (sp pos : Nat) (x : It) : List It :=
  if h : 2 * pos + 1 < xs.length then sup lt (xs.set pos (xs.getD (kid lt xs pos) it0)) sp (kid lt xs pos) x
  else sdown lt (xs.set pos x) sp pos x
termination_by xs.length - pos
decreasing_by
  have := kid_gt (lt := lt) (xs := xs) (pos := pos)
  rw [List.length_set]; lia


theorem siftdown {Q E : Value → Shared → Prop} {D : Addr} {xs : List It} {n : Nat} {i j : Nat} {t u : Tok} {S : It → Prop} {lt : It → It → Bool}
    (hd : A.depth ≤ 500) (hu : A.units ≤ 500)
    (st : b.StaysIn s.heap) (hsz : b.objs.size ≤ s.heap.objs.size) (X : (hd03.heap_39 w.params).In b) (T : Top p loose mean mg mb b)
    (hD : s.heap.get? D = some (listOf (xs.map It.v).toArray n)) (hbD : b.get? D = none) (hS : ∀ v ∈ xs, S v) (hlt : CmpLt prog w b S lt)
    (h2 : j < xs.length) (h3 : xs.length ≤ 1000)
    (h : ∀ h' tk, b.StaysIn h' → h'.get? D = some (listOf ((sdown lt xs i j (xs.getD j it0)).map It.v).toArray n) → Q .none { s with heap := h', toks := tk }) :
    wpAny (model prog w) A (call (.ref 49) [.ref D, .int i t, .int j u]) Q E s := by
  refine wpAny_call ?_
  ((k_dflt (refine' enter ?k1 ?k2 ?k3 ?k4 ?k6 ?k7 ?k8 ?k9 ?kB ?_ ?c2 ?c3 ?c4 ?c5; (case k1 => assumption); (case k2 => assumption); (case k3 => assumption); (case k4 => assumption); (case k6 => k_is); (case k7 => k_is); (case k8 => exact Nat.lt_of_le_of_lt (by assumption) (by decide)); (case k9 => exact BindsTo.of_eq rfl); (case c5 => decide); (case kB => exact locs rfl); (case c2 => exact rfl); (case c3 => exact rfl); (case c4 => exact rfl))))
  intro L' h₁ F hk hs1
  have hu' : ∀ env, (A.deeper env).units ≤ 503 := fun env => by rw [Around.deeper_units]; lia
  have N : News b L' h₁ [(D, listOf (xs.map It.v).toArray n)] := fun p hp => by
    simp only [List.mem_singleton] at hp; subst hp; exact ⟨(hk _ _ hD), Nat.ne_of_lt (hs1 _ _ hD), hbD⟩
  (try k_fold)
  (repeat' (first | (k_unfold; (try dsimp only)) | ((fail_if_success (with_reducible show wpAny _ _ (exec (Stmt.While _ _ _ _) _) _ _ _)); (fail_if_success (with_reducible show wpAny _ _ (exec (Stmt.For _ _ _ _ _) _) _ _ _)); first | walk1 | (dsimp only; (with_reducible show wpAny _ _ _ _ _); walk1))))
  rename_i h₂ F₂ N₂
  refine codeW (fun c s' => ∃ ys h' tk m' u', s' = { s with heap := h', toks := tk } ∧ Fr b L' h' m' ∧ News b L' h' [(D, listOf (ys.map It.v).toArray n)] ∧ m' "heap" = some (.ref D) ∧ m' "startpos" = some (.int i t) ∧ m' "pos" = some (.int c u') ∧
    m' "newitem" = some (xs.getD j it0).v ∧ c < ys.length ∧ ys.length = xs.length ∧ (∀ v ∈ ys, S v) ∧ sdown lt ys i c (xs.getD j it0) = sdown lt xs i j (xs.getD j it0)) j ?_ ?_
  · exact ⟨xs, h₂, _, _, u, rfl, F₂, N₂, rfl, rfl, rfl, rfl, h2, rfl, hS, rfl⟩
  · rintro c s' ⟨ys, h', tk, m', u', rfl, F', N', e1, e2, e3, e4, hc, hlen, hS', hI⟩
    clear F₂ N₂
    (repeat' (first | (k_unfold; (try dsimp only)) | ((fail_if_success (with_reducible show wpAny _ _ (exec (Stmt.While _ _ _ _) _) _ _ _)); (fail_if_success (with_reducible show wpAny _ _ (exec (Stmt.For _ _ _ _ _) _) _ _ _)); first | walk1 | (dsimp only; (with_reducible show wpAny _ _ _ _ _); walk1))))
    · rename_i hic' h3' h4 F4 N4
      simp only [Int.toNat_natCast] at *
      have hS1 : S (xs.getD j it0) := hS _ (getD_mem h2)
      have hS2 : S (ys.getD ((c - 1) / 2) it0) := hS' _ (getD_mem (by lia))
      refine hlt _ _ hS1 hS2 _ _ _ _ (Nat.le_trans (hu' _) (by decide)) F4.keep (fun tk' => ?_)
      (repeat' (first | (k_unfold; (try dsimp only)) | ((fail_if_success (with_reducible show wpAny _ _ (exec (Stmt.While _ _ _ _) _) _ _ _)); (fail_if_success (with_reducible show wpAny _ _ (exec (Stmt.For _ _ _ _ _) _) _ _ _)); first | walk1 | (dsimp only; (with_reducible show wpAny _ _ _ _ _); walk1))))
      · rename_i hl h5 h6 F6 N6
        simp only [upd, List.map_cons, List.map_nil, if_true, Int.toNat_natCast] at N6
        refine ⟨(c - 1) / 2, by lia, _, _, _, _, _, rfl, F6, N6, by assumption, by assumption, rfl, by assumption, ?_, ?_, ?_, ?_⟩
        · rw [List.length_set]; lia
        · rw [List.length_set]; lia
        · intro v hv
          rcases List.mem_or_eq_of_mem_set hv with hv | rfl
          · exact hS' v hv
          · exact hS2
        · rw [← hI]
          conv => rhs; rw [sdown]
          rw [dif_pos (by lia), if_pos (by assumption)]
      · rename_i hl h5 F5 N5
        simp only [upd, List.map_cons, List.map_nil, if_true, Int.toNat_natCast] at N5
        refine h _ _ F5.keep ?_
        rw [← hI, sdown, dif_pos (by lia), if_neg (by simpa using hl)]
        exact (N5 _ (List.mem_singleton.mpr rfl)).1
    · rename_i hl h5 F5 N5
      simp only [upd, List.map_cons, List.map_nil, if_true, Int.toNat_natCast] at N5
      refine h _ _ F5.keep ?_
      rw [← hI, sdown, dif_neg (by lia)]
      exact (N5 _ (List.mem_singleton.mpr rfl)).1

theorem siftup {Q E : Value → Shared → Prop} {D : Addr} {xs : List It} {n : Nat} {i : Nat} {u : Tok} {S : It → Prop} {lt : It → It → Bool}
    (hd : A.depth ≤ 499) (hu : A.units ≤ 490)
    (st : b.StaysIn s.heap) (hsz : b.objs.size ≤ s.heap.objs.size) (X : (hd03.heap_39 w.params).In b) (T : Top p loose mean mg mb b)
    (hD : s.heap.get? D = some (listOf (xs.map It.v).toArray n)) (hbD : b.get? D = none) (hS : ∀ v ∈ xs, S v) (hlt : CmpLt prog w b S lt)
    (h2 : i < xs.length) (h3 : xs.length ≤ 1000)
    (h : ∀ h' tk, b.StaysIn h' → h'.get? D = some (listOf ((sup lt xs i i (xs.getD i it0)).map It.v).toArray n) → Q .none { s with heap := h', toks := tk }) :
    wpAny (model prog w) A (call (.ref 56) [.ref D, .int i u]) Q E s := by
  refine wpAny_call ?_
  ((k_dflt (refine' enter ?k1 ?k2 ?k3 ?k4 ?k6 ?k7 ?k8 ?k9 ?kB ?_ ?c2 ?c3 ?c4 ?c5; (case k1 => assumption); (case k2 => assumption); (case k3 => assumption); (case k4 => assumption); (case k6 => k_is); (case k7 => k_is); (case k8 => exact Nat.lt_of_le_of_lt (by assumption) (by decide)); (case k9 => exact BindsTo.of_eq rfl); (case c5 => decide); (case kB => exact locs rfl); (case c2 => exact rfl); (case c3 => exact rfl); (case c4 => exact rfl))))
  intro L' h₁ F hk hs1
  have hu' : ∀ env, (A.deeper env).units ≤ 493 := fun env => by rw [Around.deeper_units]; lia
  have hd' : ∀ env, (A.deeper env).depth ≤ 500 := fun env => Nat.succ_le_succ hd
  have N : News b L' h₁ [(D, listOf (xs.map It.v).toArray n)] := fun p hp => by
    simp only [List.mem_singleton] at hp; subst hp; exact ⟨(hk _ _ hD), Nat.ne_of_lt (hs1 _ _ hD), hbD⟩
  have hLD : L' ≠ D := Ne.symm (Nat.ne_of_lt (hs1 _ _ hD))
  (try k_fold)
  (repeat' (first | (k_unfold; (try dsimp only)) | ((fail_if_success (with_reducible show wpAny _ _ (exec (Stmt.While _ _ _ _) _) _ _ _)); (fail_if_success (with_reducible show wpAny _ _ (exec (Stmt.For _ _ _ _ _) _) _ _ _)); first | walk1 | (dsimp only; (with_reducible show wpAny _ _ _ _ _); walk1))))
  rename_i h₂ F₂ N₂
  refine codeW (fun c s' => ∃ ys pos h' tk m' u' u'' u3, s' = { s with heap := h', toks := tk } ∧ Fr b L' h' m' ∧ News b L' h' [(D, listOf (ys.map It.v).toArray n)] ∧ m' "heap" = some (.ref D) ∧ m' "startpos" = some (.int i u) ∧ m' "pos" = some (.int (pos : Nat) u') ∧
    m' "childpos" = some (.int (2 * ((pos : Nat) : Int) + 1) u'') ∧ m' "endpos" = some (.int (xs.length : Int) u3) ∧
    m' "newitem" = some (xs.getD i it0).v ∧ pos < ys.length ∧ ys.length = xs.length ∧ (∀ v ∈ ys, S v) ∧ sup lt ys i pos (xs.getD i it0) = sup lt xs i i (xs.getD i it0) ∧ c = xs.length - pos) (xs.length - i) ?_ ?_
  · exact ⟨xs, i, h₂, _, _, u, _, _, rfl, F₂, N₂, rfl, rfl, rfl, rfl, rfl, rfl, h2, rfl, hS, rfl, rfl⟩
  · rintro c s' ⟨ys, pos, h', tk, m', u', u'', u3, rfl, F', N', e1, e2, e3, e5, e6, e4, hc, hlen, hS', hI, rfl⟩
    clear F₂ N₂
    have fin : ∀ (q : Nat) (tk2 : Tok) (h2 : Heap) (m2 : Str → Option Value) (v1 v2 : Tok) (qi c : Int), q = kid lt ys pos → 2 * pos + 1 < xs.length → qi = q → c = 2 * (q : Int) + 1 → Fr b L' h2 m2 → News b L' h2 [(D, listOf ((ys.set pos (ys.getD q it0)).map It.v).toArray n)] → m2 "heap" = some (.ref D) →
        m2 "startpos" = some (.int i u) → m2 "pos" = some (.int qi v1) → m2 "childpos" = some (.int c v2) → m2 "endpos" = some (.int (xs.length : Int) u3) → m2 "newitem" = some (xs.getD i it0).v →
        Next (fun c s' => ∃ ys pos h' tk m' u' u'' u3, s' = { s with heap := h', toks := tk } ∧ Fr b L' h' m' ∧ News b L' h' [(D, listOf (ys.map It.v).toArray n)] ∧ m' "heap" = some (.ref D) ∧ m' "startpos" = some (.int i u) ∧ m' "pos" = some (.int (pos : Nat) u') ∧
    m' "childpos" = some (.int (2 * ((pos : Nat) : Int) + 1) u'') ∧ m' "endpos" = some (.int (xs.length : Int) u3) ∧
    m' "newitem" = some (xs.getD i it0).v ∧ pos < ys.length ∧ ys.length = xs.length ∧ (∀ v ∈ ys, S v) ∧ sup lt ys i pos (xs.getD i it0) = sup lt xs i i (xs.getD i it0) ∧ c = xs.length - pos) (xs.length - pos) { s with heap := h2, toks := tk2 } := by
      rintro q tk2 h2 m2 v1 v2 qi c rfl hle rfl rfl F2 N2 a1 a2 a3 a4 a5 a6
      have g1 := kid_gt (lt := lt) (xs := ys) (pos := pos)
      have g2 := kid_lt (lt := lt) (xs := ys) (pos := pos) (by lia)
      refine ⟨xs.length - kid lt ys pos, by lia, _, _, _, _, _, _, _, _, rfl, F2, N2, a1, a2, a3, a4, a5, a6, by rw [List.length_set]; exact g2, by rw [List.length_set]; exact hlen, fun v hv => ?_, ?_, rfl⟩
      · rcases List.mem_or_eq_of_mem_set hv with hv | rfl
        · exact hS' v hv
        · exact hS' _ (getD_mem g2)
      · rw [← hI]
        conv => rhs; rw [sup]
        rw [dif_pos (by lia)]
    (repeat' (first | (k_unfold; (try dsimp only)) | ((fail_if_success (with_reducible show wpAny _ _ (exec (Stmt.While _ _ _ _) _) _ _ _)); (fail_if_success (with_reducible show wpAny _ _ (exec (Stmt.For _ _ _ _ _) _) _ _ _)); first | walk1 | (dsimp only; (with_reducible show wpAny _ _ _ _ _); walk1))))
    · rename_i q1 h4 F4 N4 q2
      have n1 : (2 * (pos : Int) + 1).toNat = 2 * pos + 1 := by lia
      have n2 : (2 * (pos : Int) + 1 + 1).toNat = 2 * pos + 2 := by lia
      have hS1 : S (ys.getD (2 * pos + 1) it0) := hS' _ (getD_mem (by lia))
      have hS2 : S (ys.getD (2 * pos + 2) it0) := hS' _ (getD_mem (by lia))
      simp only [n1, n2]
      refine hlt _ _ hS1 hS2 _ _ _ _ (Nat.le_trans (hu' _) (by decide)) F4.keep (fun tk' => ?_)
      (repeat' (first | (k_unfold; (try dsimp only)) | ((fail_if_success (with_reducible show wpAny _ _ (exec (Stmt.While _ _ _ _) _) _ _ _)); (fail_if_success (with_reducible show wpAny _ _ (exec (Stmt.For _ _ _ _ _) _) _ _ _)); first | walk1 | (dsimp only; (with_reducible show wpAny _ _ _ _ _); walk1))))
      · rename_i q3 _ _ h5 F5 N5
        simp only [upd, List.map_cons, List.map_nil, if_true, Int.toNat_natCast, n1] at N5
        exact fin (2 * pos + 1) _ _ _ _ _ _ _ (by unfold kid; rw [if_neg]; rintro ⟨_, q⟩; exact absurd (q3.symm.trans q) (by decide)) (by lia) (by lia) (by lia) F5 N5 (by assumption) (by assumption) rfl rfl (by assumption) (by assumption)
      · rename_i q3 _ _ _ h5 F5 N5
        simp only [upd, List.map_cons, List.map_nil, if_true, Int.toNat_natCast, n2] at N5
        exact fin (2 * pos + 2) _ _ _ _ _ _ _ (by unfold kid; rw [if_pos]; exact ⟨by lia, q3⟩) (by lia) (by lia) (by lia) F5 N5 (by assumption) (by assumption) rfl rfl (by assumption) (by assumption)
    · rename_i q1 _ q2 tk3 _ _ h5 F5 N5
      have n1 : (2 * (pos : Int) + 1).toNat = 2 * pos + 1 := by lia
      simp only [upd, List.map_cons, List.map_nil, if_true, Int.toNat_natCast, n1] at N5
      exact fin (2 * pos + 1) _ _ _ _ _ _ _ (by unfold kid; rw [if_neg]; rintro ⟨q, _⟩; lia) (by lia) (by lia) (by lia) F5 N5 (by assumption) (by assumption) rfl rfl (by assumption) (by assumption)
    · rename_i q1 h4 F4 N4
      simp only [upd, List.map_cons, List.map_nil, if_true, Int.toNat_natCast] at N4
      have z := (N4 _ (List.mem_singleton.mpr rfl))
      refine siftdown (b := hideAll h4 [D]) (hd' _) (Nat.le_trans (hu' _) (by decide)) (fun x o e => of_hideAll _ e) (Nat.le_of_eq (hideAll_size _ _)) (X.keeps (stays_hide F4.keep hbD)) (T.keeps (stays_hide F4.keep hbD)) z.1 (hideAll_none _ (List.mem_singleton.mpr rfl))
        (S := S) (lt := lt) ?_ (hlt.keeps (stays_hide F4.keep hbD)) (by rw [List.length_set]; exact hc) (by rw [List.length_set]; lia) ?_
      · intro v hv
        rcases List.mem_or_eq_of_mem_set hv with hv | rfl
        · exact hS' v hv
        · exact hS _ (getD_mem h2)
      · intro h5 tk5 st5 hD5
        have F5 := fr_back F4 hLD hbD st5
        (repeat' (first | (k_unfold; (try dsimp only)) | ((fail_if_success (with_reducible show wpAny _ _ (exec (Stmt.While _ _ _ _) _) _ _ _)); (fail_if_success (with_reducible show wpAny _ _ (exec (Stmt.For _ _ _ _ _) _) _ _ _)); first | walk1 | (dsimp only; (with_reducible show wpAny _ _ _ _ _); walk1))))
        refine h _ _ F5.keep ?_
        rw [← hI, sup, dif_neg (by lia), hD5]
        simp [hc]

theorem siftdown_max {Q E : Value → Shared → Prop} {D : Addr} {xs : List It} {n : Nat} {i j : Nat} {t u : Tok} {S : It → Prop} {lt : It → It → Bool}
    (hd : A.depth ≤ 500) (hu : A.units ≤ 500)
    (st : b.StaysIn s.heap) (hsz : b.objs.size ≤ s.heap.objs.size) (X : (hd03.heap_39 w.params).In b) (T : Top p loose mean mg mb b)
    (hD : s.heap.get? D = some (listOf (xs.map It.v).toArray n)) (hbD : b.get? D = none) (hS : ∀ v ∈ xs, S v) (hlt : CmpLt prog w b S lt)
    (h2 : j < xs.length) (h3 : xs.length ≤ 1000)
    (h : ∀ h' tk, b.StaysIn h' → h'.get? D = some (listOf ((sdown (fun a b => lt b a) xs i j (xs.getD j it0)).map It.v).toArray n) → Q .none { s with heap := h', toks := tk }) :
    wpAny (model prog w) A (call (.ref 63) [.ref D, .int i t, .int j u]) Q E s := by
  refine wpAny_call ?_
  ((k_dflt (refine' enter ?k1 ?k2 ?k3 ?k4 ?k6 ?k7 ?k8 ?k9 ?kB ?_ ?c2 ?c3 ?c4 ?c5; (case k1 => assumption); (case k2 => assumption); (case k3 => assumption); (case k4 => assumption); (case k6 => k_is); (case k7 => k_is); (case k8 => exact Nat.lt_of_le_of_lt (by assumption) (by decide)); (case k9 => exact BindsTo.of_eq rfl); (case c5 => decide); (case kB => exact locs rfl); (case c2 => exact rfl); (case c3 => exact rfl); (case c4 => exact rfl))))
  intro L' h₁ F hk hs1
  have hu' : ∀ env, (A.deeper env).units ≤ 503 := fun env => by rw [Around.deeper_units]; lia
  have N : News b L' h₁ [(D, listOf (xs.map It.v).toArray n)] := fun p hp => by
    simp only [List.mem_singleton] at hp; subst hp; exact ⟨(hk _ _ hD), Nat.ne_of_lt (hs1 _ _ hD), hbD⟩
  (try k_fold)
  (repeat' (first | (k_unfold; (try dsimp only)) | ((fail_if_success (with_reducible show wpAny _ _ (exec (Stmt.While _ _ _ _) _) _ _ _)); (fail_if_success (with_reducible show wpAny _ _ (exec (Stmt.For _ _ _ _ _) _) _ _ _)); first | walk1 | (dsimp only; (with_reducible show wpAny _ _ _ _ _); walk1))))
  rename_i h₂ F₂ N₂
  refine codeW (fun c s' => ∃ ys h' tk m' u', s' = { s with heap := h', toks := tk } ∧ Fr b L' h' m' ∧ News b L' h' [(D, listOf (ys.map It.v).toArray n)] ∧ m' "heap" = some (.ref D) ∧ m' "startpos" = some (.int i t) ∧ m' "pos" = some (.int c u') ∧
    m' "newitem" = some (xs.getD j it0).v ∧ c < ys.length ∧ ys.length = xs.length ∧ (∀ v ∈ ys, S v) ∧ sdown (fun a b => lt b a) ys i c (xs.getD j it0) = sdown (fun a b => lt b a) xs i j (xs.getD j it0)) j ?_ ?_
  · exact ⟨xs, h₂, _, _, u, rfl, F₂, N₂, rfl, rfl, rfl, rfl, h2, rfl, hS, rfl⟩
  · rintro c s' ⟨ys, h', tk, m', u', rfl, F', N', e1, e2, e3, e4, hc, hlen, hS', hI⟩
    clear F₂ N₂
    (repeat' (first | (k_unfold; (try dsimp only)) | ((fail_if_success (with_reducible show wpAny _ _ (exec (Stmt.While _ _ _ _) _) _ _ _)); (fail_if_success (with_reducible show wpAny _ _ (exec (Stmt.For _ _ _ _ _) _) _ _ _)); first | walk1 | (dsimp only; (with_reducible show wpAny _ _ _ _ _); walk1))))
    · rename_i hic' h3' h4 F4 N4
      simp only [Int.toNat_natCast] at *
      have hS1 : S (xs.getD j it0) := hS _ (getD_mem h2)
      have hS2 : S (ys.getD ((c - 1) / 2) it0) := hS' _ (getD_mem (by lia))
      refine hlt _ _ hS2 hS1 _ _ _ _ (Nat.le_trans (hu' _) (by decide)) F4.keep (fun tk' => ?_)
      (repeat' (first | (k_unfold; (try dsimp only)) | ((fail_if_success (with_reducible show wpAny _ _ (exec (Stmt.While _ _ _ _) _) _ _ _)); (fail_if_success (with_reducible show wpAny _ _ (exec (Stmt.For _ _ _ _ _) _) _ _ _)); first | walk1 | (dsimp only; (with_reducible show wpAny _ _ _ _ _); walk1))))
      · rename_i hl h5 h6 F6 N6
        simp only [upd, List.map_cons, List.map_nil, if_true, Int.toNat_natCast] at N6
        refine ⟨(c - 1) / 2, by lia, _, _, _, _, _, rfl, F6, N6, by assumption, by assumption, rfl, by assumption, ?_, ?_, ?_, ?_⟩
        · rw [List.length_set]; lia
        · rw [List.length_set]; lia
        · intro v hv
          rcases List.mem_or_eq_of_mem_set hv with hv | rfl
          · exact hS' v hv
          · exact hS2
        · rw [← hI]
          conv => rhs; rw [sdown]
          rw [dif_pos (by lia), if_pos (by assumption)]
      · rename_i hl h5 F5 N5
        simp only [upd, List.map_cons, List.map_nil, if_true, Int.toNat_natCast] at N5
        refine h _ _ F5.keep ?_
        rw [← hI, sdown, dif_pos (by lia), if_neg (by simpa using hl)]
        exact (N5 _ (List.mem_singleton.mpr rfl)).1
    · rename_i hl h5 F5 N5
      simp only [upd, List.map_cons, List.map_nil, if_true, Int.toNat_natCast] at N5
      refine h _ _ F5.keep ?_
      rw [← hI, sdown, dif_neg (by lia)]
      exact (N5 _ (List.mem_singleton.mpr rfl)).1

theorem siftup_max {Q E : Value → Shared → Prop} {D : Addr} {xs : List It} {n : Nat} {i : Nat} {u : Tok} {S : It → Prop} {lt : It → It → Bool}
    (hd : A.depth ≤ 499) (hu : A.units ≤ 490)
    (st : b.StaysIn s.heap) (hsz : b.objs.size ≤ s.heap.objs.size) (X : (hd03.heap_39 w.params).In b) (T : Top p loose mean mg mb b)
    (hD : s.heap.get? D = some (listOf (xs.map It.v).toArray n)) (hbD : b.get? D = none) (hS : ∀ v ∈ xs, S v) (hlt : CmpLt prog w b S lt)
    (h2 : i < xs.length) (h3 : xs.length ≤ 1000)
    (h : ∀ h' tk, b.StaysIn h' → h'.get? D = some (listOf ((sup (fun a b => lt b a) xs i i (xs.getD i it0)).map It.v).toArray n) → Q .none { s with heap := h', toks := tk }) :
    wpAny (model prog w) A (call (.ref 70) [.ref D, .int i u]) Q E s := by
  refine wpAny_call ?_
  ((k_dflt (refine' enter ?k1 ?k2 ?k3 ?k4 ?k6 ?k7 ?k8 ?k9 ?kB ?_ ?c2 ?c3 ?c4 ?c5; (case k1 => assumption); (case k2 => assumption); (case k3 => assumption); (case k4 => assumption); (case k6 => k_is); (case k7 => k_is); (case k8 => exact Nat.lt_of_le_of_lt (by assumption) (by decide)); (case k9 => exact BindsTo.of_eq rfl); (case c5 => decide); (case kB => exact locs rfl); (case c2 => exact rfl); (case c3 => exact rfl); (case c4 => exact rfl))))
  intro L' h₁ F hk hs1
  have hu' : ∀ env, (A.deeper env).units ≤ 493 := fun env => by rw [Around.deeper_units]; lia
  have hd' : ∀ env, (A.deeper env).depth ≤ 500 := fun env => Nat.succ_le_succ hd
  have N : News b L' h₁ [(D, listOf (xs.map It.v).toArray n)] := fun p hp => by
    simp only [List.mem_singleton] at hp; subst hp; exact ⟨(hk _ _ hD), Nat.ne_of_lt (hs1 _ _ hD), hbD⟩
  have hLD : L' ≠ D := Ne.symm (Nat.ne_of_lt (hs1 _ _ hD))
  (try k_fold)
  (repeat' (first | (k_unfold; (try dsimp only)) | ((fail_if_success (with_reducible show wpAny _ _ (exec (Stmt.While _ _ _ _) _) _ _ _)); (fail_if_success (with_reducible show wpAny _ _ (exec (Stmt.For _ _ _ _ _) _) _ _ _)); first | walk1 | (dsimp only; (with_reducible show wpAny _ _ _ _ _); walk1))))
  rename_i h₂ F₂ N₂
  refine codeW (fun c s' => ∃ ys pos h' tk m' u' u'' u3, s' = { s with heap := h', toks := tk } ∧ Fr b L' h' m' ∧ News b L' h' [(D, listOf (ys.map It.v).toArray n)] ∧ m' "heap" = some (.ref D) ∧ m' "startpos" = some (.int i u) ∧ m' "pos" = some (.int (pos : Nat) u') ∧
    m' "childpos" = some (.int (2 * ((pos : Nat) : Int) + 1) u'') ∧ m' "endpos" = some (.int (xs.length : Int) u3) ∧
    m' "newitem" = some (xs.getD i it0).v ∧ pos < ys.length ∧ ys.length = xs.length ∧ (∀ v ∈ ys, S v) ∧ sup (fun a b => lt b a) ys i pos (xs.getD i it0) = sup (fun a b => lt b a) xs i i (xs.getD i it0) ∧ c = xs.length - pos) (xs.length - i) ?_ ?_
  · exact ⟨xs, i, h₂, _, _, u, _, _, rfl, F₂, N₂, rfl, rfl, rfl, rfl, rfl, rfl, h2, rfl, hS, rfl, rfl⟩
  · rintro c s' ⟨ys, pos, h', tk, m', u', u'', u3, rfl, F', N', e1, e2, e3, e5, e6, e4, hc, hlen, hS', hI, rfl⟩
    clear F₂ N₂
    have fin : ∀ (q : Nat) (tk2 : Tok) (h2 : Heap) (m2 : Str → Option Value) (v1 v2 : Tok) (qi c : Int), q = kid (fun a b => lt b a) ys pos → 2 * pos + 1 < xs.length → qi = q → c = 2 * (q : Int) + 1 → Fr b L' h2 m2 → News b L' h2 [(D, listOf ((ys.set pos (ys.getD q it0)).map It.v).toArray n)] → m2 "heap" = some (.ref D) →
        m2 "startpos" = some (.int i u) → m2 "pos" = some (.int qi v1) → m2 "childpos" = some (.int c v2) → m2 "endpos" = some (.int (xs.length : Int) u3) → m2 "newitem" = some (xs.getD i it0).v →
        Next (fun c s' => ∃ ys pos h' tk m' u' u'' u3, s' = { s with heap := h', toks := tk } ∧ Fr b L' h' m' ∧ News b L' h' [(D, listOf (ys.map It.v).toArray n)] ∧ m' "heap" = some (.ref D) ∧ m' "startpos" = some (.int i u) ∧ m' "pos" = some (.int (pos : Nat) u') ∧
    m' "childpos" = some (.int (2 * ((pos : Nat) : Int) + 1) u'') ∧ m' "endpos" = some (.int (xs.length : Int) u3) ∧
    m' "newitem" = some (xs.getD i it0).v ∧ pos < ys.length ∧ ys.length = xs.length ∧ (∀ v ∈ ys, S v) ∧ sup (fun a b => lt b a) ys i pos (xs.getD i it0) = sup (fun a b => lt b a) xs i i (xs.getD i it0) ∧ c = xs.length - pos) (xs.length - pos) { s with heap := h2, toks := tk2 } := by
      rintro q tk2 h2 m2 v1 v2 qi c rfl hle rfl rfl F2 N2 a1 a2 a3 a4 a5 a6
      have g1 := kid_gt (lt := (fun a b => lt b a)) (xs := ys) (pos := pos)
      have g2 := kid_lt (lt := (fun a b => lt b a)) (xs := ys) (pos := pos) (by lia)
      refine ⟨xs.length - kid (fun a b => lt b a) ys pos, by lia, _, _, _, _, _, _, _, _, rfl, F2, N2, a1, a2, a3, a4, a5, a6, by rw [List.length_set]; exact g2, by rw [List.length_set]; exact hlen, fun v hv => ?_, ?_, rfl⟩
      · rcases List.mem_or_eq_of_mem_set hv with hv | rfl
        · exact hS' v hv
        · exact hS' _ (getD_mem g2)
      · rw [← hI]
        conv => rhs; rw [sup]
        rw [dif_pos (by lia)]
    (repeat' (first | (k_unfold; (try dsimp only)) | ((fail_if_success (with_reducible show wpAny _ _ (exec (Stmt.While _ _ _ _) _) _ _ _)); (fail_if_success (with_reducible show wpAny _ _ (exec (Stmt.For _ _ _ _ _) _) _ _ _)); first | walk1 | (dsimp only; (with_reducible show wpAny _ _ _ _ _); walk1))))
    · rename_i q1 h4 F4 N4 q2
      have n1 : (2 * (pos : Int) + 1).toNat = 2 * pos + 1 := by lia
      have n2 : (2 * (pos : Int) + 1 + 1).toNat = 2 * pos + 2 := by lia
      have hS1 : S (ys.getD (2 * pos + 1) it0) := hS' _ (getD_mem (by lia))
      have hS2 : S (ys.getD (2 * pos + 2) it0) := hS' _ (getD_mem (by lia))
      simp only [n1, n2]
      refine hlt _ _ hS2 hS1 _ _ _ _ (Nat.le_trans (hu' _) (by decide)) F4.keep (fun tk' => ?_)
      (repeat' (first | (k_unfold; (try dsimp only)) | ((fail_if_success (with_reducible show wpAny _ _ (exec (Stmt.While _ _ _ _) _) _ _ _)); (fail_if_success (with_reducible show wpAny _ _ (exec (Stmt.For _ _ _ _ _) _) _ _ _)); first | walk1 | (dsimp only; (with_reducible show wpAny _ _ _ _ _); walk1))))
      · rename_i q3 _ _ h5 F5 N5
        simp only [upd, List.map_cons, List.map_nil, if_true, Int.toNat_natCast, n1] at N5
        exact fin (2 * pos + 1) _ _ _ _ _ _ _ (by unfold kid; rw [if_neg]; rintro ⟨_, q⟩; exact absurd (q3.symm.trans q) (by decide)) (by lia) (by lia) (by lia) F5 N5 (by assumption) (by assumption) rfl rfl (by assumption) (by assumption)
      · rename_i q3 _ _ _ h5 F5 N5
        simp only [upd, List.map_cons, List.map_nil, if_true, Int.toNat_natCast, n2] at N5
        exact fin (2 * pos + 2) _ _ _ _ _ _ _ (by unfold kid; rw [if_pos]; exact ⟨by lia, q3⟩) (by lia) (by lia) (by lia) F5 N5 (by assumption) (by assumption) rfl rfl (by assumption) (by assumption)
    · rename_i q1 _ q2 tk3 _ _ h5 F5 N5
      have n1 : (2 * (pos : Int) + 1).toNat = 2 * pos + 1 := by lia
      simp only [upd, List.map_cons, List.map_nil, if_true, Int.toNat_natCast, n1] at N5
      exact fin (2 * pos + 1) _ _ _ _ _ _ _ (by unfold kid; rw [if_neg]; rintro ⟨q, _⟩; lia) (by lia) (by lia) (by lia) F5 N5 (by assumption) (by assumption) rfl rfl (by assumption) (by assumption)
    · rename_i q1 h4 F4 N4
      simp only [upd, List.map_cons, List.map_nil, if_true, Int.toNat_natCast] at N4
      have z := (N4 _ (List.mem_singleton.mpr rfl))
      refine siftdown_max (b := hideAll h4 [D]) (hd' _) (Nat.le_trans (hu' _) (by decide)) (fun x o e => of_hideAll _ e) (Nat.le_of_eq (hideAll_size _ _)) (X.keeps (stays_hide F4.keep hbD)) (T.keeps (stays_hide F4.keep hbD)) z.1 (hideAll_none _ (List.mem_singleton.mpr rfl))
        (S := S) (lt := lt) ?_ (hlt.keeps (stays_hide F4.keep hbD)) (by rw [List.length_set]; exact hc) (by rw [List.length_set]; lia) ?_
      · intro v hv
        rcases List.mem_or_eq_of_mem_set hv with hv | rfl
        · exact hS' v hv
        · exact hS _ (getD_mem h2)
      · intro h5 tk5 st5 hD5
        have F5 := fr_back F4 hLD hbD st5
        (repeat' (first | (k_unfold; (try dsimp only)) | ((fail_if_success (with_reducible show wpAny _ _ (exec (Stmt.While _ _ _ _) _) _ _ _)); (fail_if_success (with_reducible show wpAny _ _ (exec (Stmt.For _ _ _ _ _) _) _ _ _)); first | walk1 | (dsimp only; (with_reducible show wpAny _ _ _ _ _); walk1))))
        refine h _ _ F5.keep ?_
        rw [← hI, sup, dif_neg (by lia), hD5]
        simp [hc]
end
-- HP
section
variable {prog : Program} {w : World} {A : Around} {s : Shared} {b : Heap} {mg mb : Str → Option Value} {mean : ExcName → Option Value} {p : Program} {loose : List Str}

def hfy (lt : It → It → Bool) (xs : List It) : Nat → List It
  | 0 => xs
  | k + 1 => hfy lt (sup lt xs k k (xs.getD k it0)) k
theorem sdown_length {lt : It → It → Bool} {xs : List It} {sp pos : Nat} {x : It} : (sdown lt xs sp pos x).length = xs.length := by
  fun_induction sdown lt xs sp pos x <;> simp_all
theorem sup_length {lt : It → It → Bool} {xs : List It} {sp pos : Nat} {x : It} : (sup lt xs sp pos x).length = xs.length := by
  fun_induction sup lt xs sp pos x with
  | case1 xs pos h ih => rw [ih, List.length_set]
  | case2 xs pos h => rw [sdown_length, List.length_set]
theorem set_mem {xs : List It} {k : Nat} {y : It} (hy : y ∈ xs) : ∀ v ∈ xs.set k y, v ∈ xs := fun v hv => by
  rcases List.mem_or_eq_of_mem_set hv with hv | rfl
  · exact hv
  · exact hy
theorem sdown_mem {lt : It → It → Bool} {xs : List It} {sp pos : Nat} {x : It} (hp : pos < xs.length) (P : It → Prop) (hx : P x) (hP : ∀ v ∈ xs, P v) : ∀ v ∈ sdown lt xs sp pos x, P v := by
  have fin : ∀ (xs : List It) (k : Nat) (y : It), P y → (∀ v ∈ xs, P v) → ∀ v ∈ xs.set k y, P v := fun xs k y hy h v hv => by
    rcases List.mem_or_eq_of_mem_set hv with hv | rfl
    · exact h v hv
    · exact hy
  fun_induction sdown lt xs sp pos x with
  | case1 xs pos h hl ih => exact ih (by rw [List.length_set]; lia) (fin _ _ _ (hP _ (getD_mem (by lia))) hP)
  | case2 xs pos h hl => exact fin _ _ _ hx hP
  | case3 xs pos h => exact fin _ _ _ hx hP
theorem sup_mem' {lt : It → It → Bool} {xs : List It} {sp pos : Nat} {x : It} (hp : pos < xs.length) (P : It → Prop) (hx : P x) (hP : ∀ v ∈ xs, P v) : ∀ v ∈ sup lt xs sp pos x, P v := by
  have fin : ∀ (xs : List It) (k : Nat) (y : It), P y → (∀ v ∈ xs, P v) → ∀ v ∈ xs.set k y, P v := fun xs k y hy h v hv => by
    rcases List.mem_or_eq_of_mem_set hv with hv | rfl
    · exact h v hv
    · exact hy
  fun_induction sup lt xs sp pos x with
  | case1 xs pos h ih => exact ih (by rw [List.length_set]; exact kid_lt h) (fin _ _ _ (hP _ (getD_mem (kid_lt h))) hP)
  | case2 xs pos h => exact sdown_mem (by rw [List.length_set]; exact hp) P hx (fin _ _ _ hx hP)
theorem sup_mem {lt : It → It → Bool} {xs : List It} {sp pos : Nat} {x : It} (hp : pos < xs.length) (hx : x ∈ xs) : ∀ v ∈ sup lt xs sp pos x, v ∈ xs := sup_mem' hp (· ∈ xs) hx fun _ h => h

theorem heapify {Q E : Value → Shared → Prop} {D : Addr} {xs : List It} {n : Nat} {S : It → Prop} {lt : It → It → Bool}
    (hd : A.depth ≤ 498) (hu : A.units ≤ 480) (hA : A.handled = none)
    (st : b.StaysIn s.heap) (hsz : b.objs.size ≤ s.heap.objs.size) (X : (hd03.heap_39 w.params).In b) (T : Top p loose mean mg mb b)
    (hD : s.heap.get? D = some (listOf (xs.map It.v).toArray n)) (hbD : b.get? D = none) (hS : ∀ v ∈ xs, S v) (hlt : CmpLt prog w b S lt)
    (h3 : xs.length ≤ 1000)
    (h : ∀ h' tk, b.StaysIn h' → h'.get? D = some (listOf ((hfy lt xs (xs.length / 2)).map It.v).toArray n) → Q .none { s with heap := h', toks := tk }) :
    wpAny (model prog w) A (call (.ref 28) [.ref D]) Q E s := by
  refine wpAny_call ?_
  ((k_dflt (refine' enter ?k1 ?k2 ?k3 ?k4 ?k6 ?k7 ?k8 ?k9 ?kB ?_ ?c2 ?c3 ?c4 ?c5; (case k1 => assumption); (case k2 => assumption); (case k3 => assumption); (case k4 => assumption); (case k6 => k_is); (case k7 => k_is); (case k8 => exact Nat.lt_of_le_of_lt (by assumption) (by decide)); (case k9 => exact BindsTo.of_eq rfl); (case c5 => decide); (case kB => exact locs rfl); (case c2 => exact rfl); (case c3 => exact rfl); (case c4 => exact rfl))))
  intro L' h₁ F hk hs1
  have hu' : ∀ env, (A.deeper env).units ≤ 483 := fun env => by rw [Around.deeper_units]; lia
  have hd' : ∀ env, (A.deeper env).depth ≤ 499 := fun env => Nat.succ_le_succ hd
  have N : News b L' h₁ [(D, listOf (xs.map It.v).toArray n)] := fun p hp => by
    simp only [List.mem_singleton] at hp; subst hp; exact ⟨(hk _ _ hD), Nat.ne_of_lt (hs1 _ _ hD), hbD⟩
  have hLD : L' ≠ D := Ne.symm (Nat.ne_of_lt (hs1 _ _ hD))
  (try k_fold)
  (repeat' (first | (k_unfold; (try dsimp only)) | ((fail_if_success (with_reducible show wpAny _ _ (exec (Stmt.While _ _ _ _) _) _ _ _)); (fail_if_success (with_reducible show wpAny _ _ (exec (Stmt.For _ _ _ _ _) _) _ _ _)); (fail_if_success (with_reducible show wpAny _ _ (exec (Stmt.Assign _ (Expr.ListComp _ _ _ _) _) _) _ _ _)); (fail_if_success (with_reducible show wpAny _ _ (eval (Expr.ListComp _ _ _ _) _) _ _ _)); first | ((first | (with_reducible show wpAny _ _ (exec (Stmt.Assign _ _ _) _) _ _ _) | (with_reducible show wpAny _ _ (exec (Stmt.Expr _ _) _) _ _ _) | (with_reducible show wpAny _ _ (exec (Stmt.Return _ _) _) _ _ _)); k_fold) | walk1 | (dsimp only; (with_reducible show wpAny _ _ _ _ _); walk1))))
  refine wpAny_For ?_
  (repeat' (first | (k_unfold; (try dsimp only)) | ((fail_if_success (with_reducible show wpAny _ _ (exec (Stmt.While _ _ _ _) _) _ _ _)); (fail_if_success (with_reducible show wpAny _ _ (exec (Stmt.For _ _ _ _ _) _) _ _ _)); (fail_if_success (with_reducible show wpAny _ _ (exec (Stmt.Assign _ (Expr.ListComp _ _ _ _) _) _) _ _ _)); (fail_if_success (with_reducible show wpAny _ _ (eval (Expr.ListComp _ _ _ _) _) _ _ _)); first | ((first | (with_reducible show wpAny _ _ (exec (Stmt.Assign _ _ _) _) _ _ _) | (with_reducible show wpAny _ _ (exec (Stmt.Expr _ _) _) _ _ _) | (with_reducible show wpAny _ _ (exec (Stmt.Return _ _) _) _ _ _)); k_fold) | walk1 | (dsimp only; (with_reducible show wpAny _ _ _ _ _); walk1))))
  rename_i h2 tk2 h3' tk3 t1 u1 v1 hr F3 N3 k3
  dsimp only at hr k3
  have hdiv : ((xs.length : Int)).fdiv 2 = ((xs.length / 2 : Nat) : Int) := by rw [Int.fdiv_eq_ediv_of_nonneg _ (by decide)]; lia
  rw [hdiv] at hr
  have hrs : Builtin.Range.rangeSize 0 ((xs.length / 2 : Nat) : Int) 1 = ((xs.length / 2 : Nat) : Int) := rangeSize_nat _ _
  refine call_reversed_range hr ?_ ?_
  · unfold revSmall Builtin.Range.rangeFitsLong; rw [hrs]; simp; lia
  have hI : (h3'.push (revRange 0 ((xs.length / 2 : Nat) : Int) 1)).get? h3'.objs.size = some (krsIt (((xs.length / 2 : Nat) : Int) - 1) ((xs.length / 2 : Nat) : Int) (-1)) := by
    rw [Heap.get?_push_size _ rfl]; unfold revRange krsIt; rw [hrs]; simp
  have hni := next_is_new F3
  have F4 := F3.push (revRange 0 ((xs.length / 2 : Nat) : Int) 1)
  have N4 := N3.push F3 (revRange 0 ((xs.length / 2 : Nat) : Int) 1)
  have hIL : h3'.objs.size ≠ L' := Nat.ne_of_gt F3.ns.lt
  have hID : h3'.objs.size ≠ D := Nat.ne_of_gt (Heap.lt_size (N3 _ (List.mem_singleton.mpr rfl)).1)
  generalize hHI : h3'.objs.size = I at *
  refine wpAny_pyIter_rangeiter hI ?_
  have N5 : News b L' (h3'.push (revRange 0 ((xs.length / 2 : Nat) : Int) 1)) [(D, listOf (xs.map It.v).toArray n), (I, krsIt (((xs.length / 2 : Nat) : Int) - 1) ((xs.length / 2 : Nat) : Int) (-1))] := fun p hp => by
    rcases List.mem_cons.mp hp with rfl | hp
    · exact N4 _ (by simp)
    · rw [List.mem_singleton.mp hp]; exact ⟨hI, hIL, hni⟩
  refine codeF (fun c s' => ∃ ys h' tk m', s' = { s with heap := h', toks := tk } ∧ Fr b L' h' m' ∧ News b L' h' [(D, listOf (ys.map It.v).toArray n), (I, krsIt ((c : Int) - 1) (c : Int) (-1))] ∧
      m' "x" = some (.ref D) ∧ ys.length = xs.length ∧ c ≤ xs.length / 2 ∧ (∀ v ∈ ys, S v) ∧ hfy lt ys c = hfy lt xs (xs.length / 2)) (xs.length / 2) ⟨xs, _, _, _, rfl, F4, N5, rfl, rfl, Nat.le_refl _, hS, rfl⟩ ?_
  clear F4 N5 N4 hI F3 N3 k3 hr
  rintro c s' ⟨ys, h', tk, m', rfl, F', N', e1, hlen, hc, hS', hI⟩
  have mI : (I, krsIt ((c : Int) - 1) (c : Int) (-1)) ∈ [(D, listOf (ys.map It.v).toArray n), (I, krsIt ((c : Int) - 1) (c : Int) (-1))] := List.mem_cons_of_mem _ (List.mem_singleton.mpr rfl)
  have nI := N' _ mI
  by_cases hc0 : c = 0
  · subst hc0
    refine wpAny_pyNext_range_end hA nI.1 (by simp) fun h5 k5 => ?_
    have F5 := fr_ext F' (Ne.symm hIL) hni k5
    have hD5 : h5.get? D = some (listOf (ys.map It.v).toArray n) := k5 _ _ (Ne.symm hID) (N' _ (List.mem_cons_self ..)).1
    (repeat' (first | (k_unfold; (try dsimp only)) | ((fail_if_success (with_reducible show wpAny _ _ (exec (Stmt.While _ _ _ _) _) _ _ _)); (fail_if_success (with_reducible show wpAny _ _ (exec (Stmt.For _ _ _ _ _) _) _ _ _)); (fail_if_success (with_reducible show wpAny _ _ (exec (Stmt.Assign _ (Expr.ListComp _ _ _ _) _) _) _ _ _)); (fail_if_success (with_reducible show wpAny _ _ (eval (Expr.ListComp _ _ _ _) _) _ _ _)); first | ((first | (with_reducible show wpAny _ _ (exec (Stmt.Assign _ _ _) _) _ _ _) | (with_reducible show wpAny _ _ (exec (Stmt.Expr _ _) _) _ _ _) | (with_reducible show wpAny _ _ (exec (Stmt.Return _ _) _) _ _ _)); k_fold) | walk1 | (dsimp only; (with_reducible show wpAny _ _ _ _ _); walk1))))
    refine h _ _ F5.keep ?_
    rw [← hI]; exact hD5
  · refine wpAny_pyNext_range_item nI.1 (by lia) fun h5 it5 k5 => ?_
    have F5 := fr_change F' N' mI k5
    have N5 := news_upd' N' mI k5 it5
    have hx : ((c : Int) - 1) = ((c - 1 : Nat) : Int) := by lia
    simp only [upd, List.map_cons, List.map_nil, if_true, if_neg (Ne.symm hID)] at N5
    rw [hx]
    (repeat' (first | (k_unfold; (try dsimp only)) | ((fail_if_success (with_reducible show wpAny _ _ (exec (Stmt.While _ _ _ _) _) _ _ _)); (fail_if_success (with_reducible show wpAny _ _ (exec (Stmt.For _ _ _ _ _) _) _ _ _)); (fail_if_success (with_reducible show wpAny _ _ (exec (Stmt.Assign _ (Expr.ListComp _ _ _ _) _) _) _ _ _)); (fail_if_success (with_reducible show wpAny _ _ (eval (Expr.ListComp _ _ _ _) _) _ _ _)); first | ((first | (with_reducible show wpAny _ _ (exec (Stmt.Assign _ _ _) _) _ _ _) | (with_reducible show wpAny _ _ (exec (Stmt.Expr _ _) _) _ _ _) | (with_reducible show wpAny _ _ (exec (Stmt.Return _ _) _) _ _ _)); k_fold) | walk1 | (dsimp only; (with_reducible show wpAny _ _ _ _ _); walk1))))
    rename_i h6 F6 N6
    have z := N6 _ (List.mem_cons_self ..)
    refine siftup (b := hideAll h6 [D]) (hd' _) (Nat.le_trans (hu' _) (by decide)) (fun x o e => of_hideAll _ e) (Nat.le_of_eq (hideAll_size _ _)) (X.keeps (stays_hide F6.keep hbD)) (T.keeps (stays_hide F6.keep hbD)) z.1 (hideAll_none _ (List.mem_singleton.mpr rfl))
        (S := S) (lt := lt) hS' (hlt.keeps (stays_hide F6.keep hbD)) (by lia) (by lia) ?_
    intro h7 tk7 st7 hD7
    have F7 := fr_back F6 hLD hbD st7
    have N7 := news_back N6 (List.mem_cons_self ..) st7 hD7
    simp only [upd, List.map_cons, List.map_nil, if_true, if_neg hID] at N7
    clear F6 N6
    (repeat' (first | (k_unfold; (try dsimp only)) | ((fail_if_success (with_reducible show wpAny _ _ (exec (Stmt.While _ _ _ _) _) _ _ _)); (fail_if_success (with_reducible show wpAny _ _ (exec (Stmt.For _ _ _ _ _) _) _ _ _)); (fail_if_success (with_reducible show wpAny _ _ (exec (Stmt.Assign _ (Expr.ListComp _ _ _ _) _) _) _ _ _)); (fail_if_success (with_reducible show wpAny _ _ (eval (Expr.ListComp _ _ _ _) _) _ _ _)); first | ((first | (with_reducible show wpAny _ _ (exec (Stmt.Assign _ _ _) _) _ _ _) | (with_reducible show wpAny _ _ (exec (Stmt.Expr _ _) _) _ _ _) | (with_reducible show wpAny _ _ (exec (Stmt.Return _ _) _) _ _ _)); k_fold) | walk1 | (dsimp only; (with_reducible show wpAny _ _ _ _ _); walk1))))
    have e9 : ((c : Int) - 1 + -1) = ((c - 1 : Nat) : Int) - 1 := by lia
    rw [e9, hx] at N7
    refine ⟨c - 1, by lia, _, _, _, _, rfl, F7, N7, by assumption, ?_, by lia, ?_, ?_⟩
    · rw [sup_length]; exact hlen
    · intro v hv; exact hS' v ((sup_mem (by lia) (getD_mem (by lia))) v hv)
    · rw [← hI]
      obtain ⟨c', rfl⟩ : ∃ c', c = c' + 1 := ⟨c - 1, by lia⟩
      rfl

theorem heapreplace {Q E : Value → Shared → Prop} {D : Addr} {xs : List It} {y : It} {n : Nat} {S : It → Prop} {lt : It → It → Bool}
    (hd : A.depth ≤ 498) (hu : A.units ≤ 480)
    (st : b.StaysIn s.heap) (hsz : b.objs.size ≤ s.heap.objs.size) (X : (hd03.heap_39 w.params).In b) (T : Top p loose mean mg mb b)
    (hD : s.heap.get? D = some (listOf (xs.map It.v).toArray n)) (hbD : b.get? D = none) (hS : ∀ v ∈ xs, S v) (hy : S y) (hlt : CmpLt prog w b S lt)
    (h1 : 0 < xs.length) (h3 : xs.length ≤ 1000)
    (h : ∀ v h' tk, b.StaysIn h' → h'.get? D = some (listOf ((sup lt (xs.set 0 y) 0 0 y).map It.v).toArray n) → Q v { s with heap := h', toks := tk }) :
    wpAny (model prog w) A (call (.ref 21) [.ref D, y.v]) Q E s := by
  refine wpAny_call ?_
  ((k_dflt (refine' enter ?k1 ?k2 ?k3 ?k4 ?k6 ?k7 ?k8 ?k9 ?kB ?_ ?c2 ?c3 ?c4 ?c5; (case k1 => assumption); (case k2 => assumption); (case k3 => assumption); (case k4 => assumption); (case k6 => k_is); (case k7 => k_is); (case k8 => exact Nat.lt_of_le_of_lt (by assumption) (by decide)); (case k9 => exact BindsTo.of_eq rfl); (case c5 => decide); (case kB => exact locs rfl); (case c2 => exact rfl); (case c3 => exact rfl); (case c4 => exact rfl))))
  intro L' h₁ F hk hs1
  have hu' : ∀ env, (A.deeper env).units ≤ 483 := fun env => by rw [Around.deeper_units]; lia
  have hd' : ∀ env, (A.deeper env).depth ≤ 499 := fun env => Nat.succ_le_succ hd
  have N : News b L' h₁ [(D, listOf (xs.map It.v).toArray n)] := fun p hp => by
    simp only [List.mem_singleton] at hp; subst hp; exact ⟨(hk _ _ hD), Nat.ne_of_lt (hs1 _ _ hD), hbD⟩
  have hLD : L' ≠ D := Ne.symm (Nat.ne_of_lt (hs1 _ _ hD))
  (try k_fold)
  (repeat' (first | (k_unfold; (try dsimp only)) | ((fail_if_success (with_reducible show wpAny _ _ (exec (Stmt.While _ _ _ _) _) _ _ _)); (fail_if_success (with_reducible show wpAny _ _ (exec (Stmt.For _ _ _ _ _) _) _ _ _)); (fail_if_success (with_reducible show wpAny _ _ (exec (Stmt.Assign _ (Expr.ListComp _ _ _ _) _) _) _ _ _)); (fail_if_success (with_reducible show wpAny _ _ (eval (Expr.ListComp _ _ _ _) _) _ _ _)); first | ((first | (with_reducible show wpAny _ _ (exec (Stmt.Assign _ _ _) _) _ _ _) | (with_reducible show wpAny _ _ (exec (Stmt.Expr _ _) _) _ _ _) | (with_reducible show wpAny _ _ (exec (Stmt.Return _ _) _) _ _ _)); k_fold) | walk1 | (dsimp only; (with_reducible show wpAny _ _ _ _ _); walk1))))
  rename_i h6 F6 N6
  simp only [upd, List.map_cons, List.map_nil, if_true] at N6
  have z := N6 _ (List.mem_singleton.mpr rfl)
  refine siftup (b := hideAll h6 [D]) (i := 0) (hd' _) (Nat.le_trans (hu' _) (by decide)) (fun x o e => of_hideAll _ e) (Nat.le_of_eq (hideAll_size _ _)) (X.keeps (stays_hide F6.keep hbD)) (T.keeps (stays_hide F6.keep hbD)) z.1 (hideAll_none _ (List.mem_singleton.mpr rfl))
        (S := S) (lt := lt) ?_ (hlt.keeps (stays_hide F6.keep hbD)) (by rw [List.length_set]; lia) (by rw [List.length_set]; lia) ?_
  · intro v hv
    rcases List.mem_or_eq_of_mem_set hv with hv | rfl
    · exact hS v hv
    · exact hy
  · intro h7 tk7 st7 hD7
    have F7 := fr_back F6 hLD hbD st7
    clear F6 N6
    (repeat' (first | (k_unfold; (try dsimp only)) | ((fail_if_success (with_reducible show wpAny _ _ (exec (Stmt.While _ _ _ _) _) _ _ _)); (fail_if_success (with_reducible show wpAny _ _ (exec (Stmt.For _ _ _ _ _) _) _ _ _)); (fail_if_success (with_reducible show wpAny _ _ (exec (Stmt.Assign _ (Expr.ListComp _ _ _ _) _) _) _ _ _)); (fail_if_success (with_reducible show wpAny _ _ (eval (Expr.ListComp _ _ _ _) _) _ _ _)); first | ((first | (with_reducible show wpAny _ _ (exec (Stmt.Assign _ _ _) _) _ _ _) | (with_reducible show wpAny _ _ (exec (Stmt.Expr _ _) _) _ _ _) | (with_reducible show wpAny _ _ (exec (Stmt.Return _ _) _) _ _ _)); k_fold) | walk1 | (dsimp only; (with_reducible show wpAny _ _ _ _ _); walk1))))
    refine h _ _ _ F7.keep ?_
    rw [hD7]
    have e : ((xs.set (Int.toNat 0) y).getD 0 it0) = y := by simp [h1]
    rw [e]
    rfl

theorem heapify_max {Q E : Value → Shared → Prop} {D : Addr} {xs : List It} {n : Nat} {S : It → Prop} {lt : It → It → Bool}
    (hd : A.depth ≤ 498) (hu : A.units ≤ 480) (hA : A.handled = none)
    (st : b.StaysIn s.heap) (hsz : b.objs.size ≤ s.heap.objs.size) (X : (hd03.heap_39 w.params).In b) (T : Top p loose mean mg mb b)
    (hD : s.heap.get? D = some (listOf (xs.map It.v).toArray n)) (hbD : b.get? D = none) (hS : ∀ v ∈ xs, S v) (hlt : CmpLt prog w b S lt)
    (h3 : xs.length ≤ 1000)
    (h : ∀ h' tk, b.StaysIn h' → h'.get? D = some (listOf ((hfy (fun a b => lt b a) xs (xs.length / 2)).map It.v).toArray n) → Q .none { s with heap := h', toks := tk }) :
    wpAny (model prog w) A (call (.ref 42) [.ref D]) Q E s := by
  refine wpAny_call ?_
  ((k_dflt (refine' enter ?k1 ?k2 ?k3 ?k4 ?k6 ?k7 ?k8 ?k9 ?kB ?_ ?c2 ?c3 ?c4 ?c5; (case k1 => assumption); (case k2 => assumption); (case k3 => assumption); (case k4 => assumption); (case k6 => k_is); (case k7 => k_is); (case k8 => exact Nat.lt_of_le_of_lt (by assumption) (by decide)); (case k9 => exact BindsTo.of_eq rfl); (case c5 => decide); (case kB => exact locs rfl); (case c2 => exact rfl); (case c3 => exact rfl); (case c4 => exact rfl))))
  intro L' h₁ F hk hs1
  have hu' : ∀ env, (A.deeper env).units ≤ 483 := fun env => by rw [Around.deeper_units]; lia
  have hd' : ∀ env, (A.deeper env).depth ≤ 499 := fun env => Nat.succ_le_succ hd
  have N : News b L' h₁ [(D, listOf (xs.map It.v).toArray n)] := fun p hp => by
    simp only [List.mem_singleton] at hp; subst hp; exact ⟨(hk _ _ hD), Nat.ne_of_lt (hs1 _ _ hD), hbD⟩
  have hLD : L' ≠ D := Ne.symm (Nat.ne_of_lt (hs1 _ _ hD))
  (try k_fold)
  (repeat' (first | (k_unfold; (try dsimp only)) | ((fail_if_success (with_reducible show wpAny _ _ (exec (Stmt.While _ _ _ _) _) _ _ _)); (fail_if_success (with_reducible show wpAny _ _ (exec (Stmt.For _ _ _ _ _) _) _ _ _)); (fail_if_success (with_reducible show wpAny _ _ (exec (Stmt.Assign _ (Expr.ListComp _ _ _ _) _) _) _ _ _)); (fail_if_success (with_reducible show wpAny _ _ (eval (Expr.ListComp _ _ _ _) _) _ _ _)); first | ((first | (with_reducible show wpAny _ _ (exec (Stmt.Assign _ _ _) _) _ _ _) | (with_reducible show wpAny _ _ (exec (Stmt.Expr _ _) _) _ _ _) | (with_reducible show wpAny _ _ (exec (Stmt.Return _ _) _) _ _ _)); k_fold) | walk1 | (dsimp only; (with_reducible show wpAny _ _ _ _ _); walk1))))
  refine wpAny_For ?_
  (repeat' (first | (k_unfold; (try dsimp only)) | ((fail_if_success (with_reducible show wpAny _ _ (exec (Stmt.While _ _ _ _) _) _ _ _)); (fail_if_success (with_reducible show wpAny _ _ (exec (Stmt.For _ _ _ _ _) _) _ _ _)); (fail_if_success (with_reducible show wpAny _ _ (exec (Stmt.Assign _ (Expr.ListComp _ _ _ _) _) _) _ _ _)); (fail_if_success (with_reducible show wpAny _ _ (eval (Expr.ListComp _ _ _ _) _) _ _ _)); first | ((first | (with_reducible show wpAny _ _ (exec (Stmt.Assign _ _ _) _) _ _ _) | (with_reducible show wpAny _ _ (exec (Stmt.Expr _ _) _) _ _ _) | (with_reducible show wpAny _ _ (exec (Stmt.Return _ _) _) _ _ _)); k_fold) | walk1 | (dsimp only; (with_reducible show wpAny _ _ _ _ _); walk1))))
  rename_i h2 tk2 h3' tk3 t1 u1 v1 hr F3 N3 k3
  dsimp only at hr k3
  have hdiv : ((xs.length : Int)).fdiv 2 = ((xs.length / 2 : Nat) : Int) := by rw [Int.fdiv_eq_ediv_of_nonneg _ (by decide)]; lia
  rw [hdiv] at hr
  have hrs : Builtin.Range.rangeSize 0 ((xs.length / 2 : Nat) : Int) 1 = ((xs.length / 2 : Nat) : Int) := rangeSize_nat _ _
  refine call_reversed_range hr ?_ ?_
  · unfold revSmall Builtin.Range.rangeFitsLong; rw [hrs]; simp; lia
  have hI : (h3'.push (revRange 0 ((xs.length / 2 : Nat) : Int) 1)).get? h3'.objs.size = some (krsIt (((xs.length / 2 : Nat) : Int) - 1) ((xs.length / 2 : Nat) : Int) (-1)) := by
    rw [Heap.get?_push_size _ rfl]; unfold revRange krsIt; rw [hrs]; simp
  have hni := next_is_new F3
  have F4 := F3.push (revRange 0 ((xs.length / 2 : Nat) : Int) 1)
  have N4 := N3.push F3 (revRange 0 ((xs.length / 2 : Nat) : Int) 1)
  have hIL : h3'.objs.size ≠ L' := Nat.ne_of_gt F3.ns.lt
  have hID : h3'.objs.size ≠ D := Nat.ne_of_gt (Heap.lt_size (N3 _ (List.mem_singleton.mpr rfl)).1)
  generalize hHI : h3'.objs.size = I at *
  refine wpAny_pyIter_rangeiter hI ?_
  have N5 : News b L' (h3'.push (revRange 0 ((xs.length / 2 : Nat) : Int) 1)) [(D, listOf (xs.map It.v).toArray n), (I, krsIt (((xs.length / 2 : Nat) : Int) - 1) ((xs.length / 2 : Nat) : Int) (-1))] := fun p hp => by
    rcases List.mem_cons.mp hp with rfl | hp
    · exact N4 _ (by simp)
    · rw [List.mem_singleton.mp hp]; exact ⟨hI, hIL, hni⟩
  refine codeF (fun c s' => ∃ ys h' tk m', s' = { s with heap := h', toks := tk } ∧ Fr b L' h' m' ∧ News b L' h' [(D, listOf (ys.map It.v).toArray n), (I, krsIt ((c : Int) - 1) (c : Int) (-1))] ∧
      m' "x" = some (.ref D) ∧ ys.length = xs.length ∧ c ≤ xs.length / 2 ∧ (∀ v ∈ ys, S v) ∧ hfy (fun a b => lt b a) ys c = hfy (fun a b => lt b a) xs (xs.length / 2)) (xs.length / 2) ⟨xs, _, _, _, rfl, F4, N5, rfl, rfl, Nat.le_refl _, hS, rfl⟩ ?_
  clear F4 N5 N4 hI F3 N3 k3 hr
  rintro c s' ⟨ys, h', tk, m', rfl, F', N', e1, hlen, hc, hS', hI⟩
  have mI : (I, krsIt ((c : Int) - 1) (c : Int) (-1)) ∈ [(D, listOf (ys.map It.v).toArray n), (I, krsIt ((c : Int) - 1) (c : Int) (-1))] := List.mem_cons_of_mem _ (List.mem_singleton.mpr rfl)
  have nI := N' _ mI
  by_cases hc0 : c = 0
  · subst hc0
    refine wpAny_pyNext_range_end hA nI.1 (by simp) fun h5 k5 => ?_
    have F5 := fr_ext F' (Ne.symm hIL) hni k5
    have hD5 : h5.get? D = some (listOf (ys.map It.v).toArray n) := k5 _ _ (Ne.symm hID) (N' _ (List.mem_cons_self ..)).1
    (repeat' (first | (k_unfold; (try dsimp only)) | ((fail_if_success (with_reducible show wpAny _ _ (exec (Stmt.While _ _ _ _) _) _ _ _)); (fail_if_success (with_reducible show wpAny _ _ (exec (Stmt.For _ _ _ _ _) _) _ _ _)); (fail_if_success (with_reducible show wpAny _ _ (exec (Stmt.Assign _ (Expr.ListComp _ _ _ _) _) _) _ _ _)); (fail_if_success (with_reducible show wpAny _ _ (eval (Expr.ListComp _ _ _ _) _) _ _ _)); first | ((first | (with_reducible show wpAny _ _ (exec (Stmt.Assign _ _ _) _) _ _ _) | (with_reducible show wpAny _ _ (exec (Stmt.Expr _ _) _) _ _ _) | (with_reducible show wpAny _ _ (exec (Stmt.Return _ _) _) _ _ _)); k_fold) | walk1 | (dsimp only; (with_reducible show wpAny _ _ _ _ _); walk1))))
    refine h _ _ F5.keep ?_
    rw [← hI]; exact hD5
  · refine wpAny_pyNext_range_item nI.1 (by lia) fun h5 it5 k5 => ?_
    have F5 := fr_change F' N' mI k5
    have N5 := news_upd' N' mI k5 it5
    have hx : ((c : Int) - 1) = ((c - 1 : Nat) : Int) := by lia
    simp only [upd, List.map_cons, List.map_nil, if_true, if_neg (Ne.symm hID)] at N5
    rw [hx]
    (repeat' (first | (k_unfold; (try dsimp only)) | ((fail_if_success (with_reducible show wpAny _ _ (exec (Stmt.While _ _ _ _) _) _ _ _)); (fail_if_success (with_reducible show wpAny _ _ (exec (Stmt.For _ _ _ _ _) _) _ _ _)); (fail_if_success (with_reducible show wpAny _ _ (exec (Stmt.Assign _ (Expr.ListComp _ _ _ _) _) _) _ _ _)); (fail_if_success (with_reducible show wpAny _ _ (eval (Expr.ListComp _ _ _ _) _) _ _ _)); first | ((first | (with_reducible show wpAny _ _ (exec (Stmt.Assign _ _ _) _) _ _ _) | (with_reducible show wpAny _ _ (exec (Stmt.Expr _ _) _) _ _ _) | (with_reducible show wpAny _ _ (exec (Stmt.Return _ _) _) _ _ _)); k_fold) | walk1 | (dsimp only; (with_reducible show wpAny _ _ _ _ _); walk1))))
    rename_i h6 F6 N6
    have z := N6 _ (List.mem_cons_self ..)
    refine siftup_max (b := hideAll h6 [D]) (hd' _) (Nat.le_trans (hu' _) (by decide)) (fun x o e => of_hideAll _ e) (Nat.le_of_eq (hideAll_size _ _)) (X.keeps (stays_hide F6.keep hbD)) (T.keeps (stays_hide F6.keep hbD)) z.1 (hideAll_none _ (List.mem_singleton.mpr rfl))
        (S := S) (lt := lt) hS' (hlt.keeps (stays_hide F6.keep hbD)) (by lia) (by lia) ?_
    intro h7 tk7 st7 hD7
    have F7 := fr_back F6 hLD hbD st7
    have N7 := news_back N6 (List.mem_cons_self ..) st7 hD7
    simp only [upd, List.map_cons, List.map_nil, if_true, if_neg hID] at N7
    clear F6 N6
    (repeat' (first | (k_unfold; (try dsimp only)) | ((fail_if_success (with_reducible show wpAny _ _ (exec (Stmt.While _ _ _ _) _) _ _ _)); (fail_if_success (with_reducible show wpAny _ _ (exec (Stmt.For _ _ _ _ _) _) _ _ _)); (fail_if_success (with_reducible show wpAny _ _ (exec (Stmt.Assign _ (Expr.ListComp _ _ _ _) _) _) _ _ _)); (fail_if_success (with_reducible show wpAny _ _ (eval (Expr.ListComp _ _ _ _) _) _ _ _)); first | ((first | (with_reducible show wpAny _ _ (exec (Stmt.Assign _ _ _) _) _ _ _) | (with_reducible show wpAny _ _ (exec (Stmt.Expr _ _) _) _ _ _) | (with_reducible show wpAny _ _ (exec (Stmt.Return _ _) _) _ _ _)); k_fold) | walk1 | (dsimp only; (with_reducible show wpAny _ _ _ _ _); walk1))))
    have e9 : ((c : Int) - 1 + -1) = ((c - 1 : Nat) : Int) - 1 := by lia
    rw [e9, hx] at N7
    refine ⟨c - 1, by lia, _, _, _, _, rfl, F7, N7, by assumption, ?_, by lia, ?_, ?_⟩
    · rw [sup_length]; exact hlen
    · intro v hv; exact hS' v ((sup_mem (by lia) (getD_mem (by lia))) v hv)
    · rw [← hI]
      obtain ⟨c', rfl⟩ : ∃ c', c = c' + 1 := ⟨c - 1, by lia⟩
      rfl

theorem heapreplace_max {Q E : Value → Shared → Prop} {D : Addr} {xs : List It} {y : It} {n : Nat} {S : It → Prop} {lt : It → It → Bool}
    (hd : A.depth ≤ 498) (hu : A.units ≤ 480)
    (st : b.StaysIn s.heap) (hsz : b.objs.size ≤ s.heap.objs.size) (X : (hd03.heap_39 w.params).In b) (T : Top p loose mean mg mb b)
    (hD : s.heap.get? D = some (listOf (xs.map It.v).toArray n)) (hbD : b.get? D = none) (hS : ∀ v ∈ xs, S v) (hy : S y) (hlt : CmpLt prog w b S lt)
    (h1 : 0 < xs.length) (h3 : xs.length ≤ 1000)
    (h : ∀ v h' tk, b.StaysIn h' → h'.get? D = some (listOf ((sup (fun a b => lt b a) (xs.set 0 y) 0 0 y).map It.v).toArray n) → Q v { s with heap := h', toks := tk }) :
    wpAny (model prog w) A (call (.ref 35) [.ref D, y.v]) Q E s := by
  refine wpAny_call ?_
  ((k_dflt (refine' enter ?k1 ?k2 ?k3 ?k4 ?k6 ?k7 ?k8 ?k9 ?kB ?_ ?c2 ?c3 ?c4 ?c5; (case k1 => assumption); (case k2 => assumption); (case k3 => assumption); (case k4 => assumption); (case k6 => k_is); (case k7 => k_is); (case k8 => exact Nat.lt_of_le_of_lt (by assumption) (by decide)); (case k9 => exact BindsTo.of_eq rfl); (case c5 => decide); (case kB => exact locs rfl); (case c2 => exact rfl); (case c3 => exact rfl); (case c4 => exact rfl))))
  intro L' h₁ F hk hs1
  have hu' : ∀ env, (A.deeper env).units ≤ 483 := fun env => by rw [Around.deeper_units]; lia
  have hd' : ∀ env, (A.deeper env).depth ≤ 499 := fun env => Nat.succ_le_succ hd
  have N : News b L' h₁ [(D, listOf (xs.map It.v).toArray n)] := fun p hp => by
    simp only [List.mem_singleton] at hp; subst hp; exact ⟨(hk _ _ hD), Nat.ne_of_lt (hs1 _ _ hD), hbD⟩
  have hLD : L' ≠ D := Ne.symm (Nat.ne_of_lt (hs1 _ _ hD))
  (try k_fold)
  (repeat' (first | (k_unfold; (try dsimp only)) | ((fail_if_success (with_reducible show wpAny _ _ (exec (Stmt.While _ _ _ _) _) _ _ _)); (fail_if_success (with_reducible show wpAny _ _ (exec (Stmt.For _ _ _ _ _) _) _ _ _)); (fail_if_success (with_reducible show wpAny _ _ (exec (Stmt.Assign _ (Expr.ListComp _ _ _ _) _) _) _ _ _)); (fail_if_success (with_reducible show wpAny _ _ (eval (Expr.ListComp _ _ _ _) _) _ _ _)); first | ((first | (with_reducible show wpAny _ _ (exec (Stmt.Assign _ _ _) _) _ _ _) | (with_reducible show wpAny _ _ (exec (Stmt.Expr _ _) _) _ _ _) | (with_reducible show wpAny _ _ (exec (Stmt.Return _ _) _) _ _ _)); k_fold) | walk1 | (dsimp only; (with_reducible show wpAny _ _ _ _ _); walk1))))
  rename_i h6 F6 N6
  simp only [upd, List.map_cons, List.map_nil, if_true] at N6
  have z := N6 _ (List.mem_singleton.mpr rfl)
  refine siftup_max (b := hideAll h6 [D]) (i := 0) (hd' _) (Nat.le_trans (hu' _) (by decide)) (fun x o e => of_hideAll _ e) (Nat.le_of_eq (hideAll_size _ _)) (X.keeps (stays_hide F6.keep hbD)) (T.keeps (stays_hide F6.keep hbD)) z.1 (hideAll_none _ (List.mem_singleton.mpr rfl))
        (S := S) (lt := lt) ?_ (hlt.keeps (stays_hide F6.keep hbD)) (by rw [List.length_set]; lia) (by rw [List.length_set]; lia) ?_
  · intro v hv
    rcases List.mem_or_eq_of_mem_set hv with hv | rfl
    · exact hS v hv
    · exact hy
  · intro h7 tk7 st7 hD7
    have F7 := fr_back F6 hLD hbD st7
    clear F6 N6
    (repeat' (first | (k_unfold; (try dsimp only)) | ((fail_if_success (with_reducible show wpAny _ _ (exec (Stmt.While _ _ _ _) _) _ _ _)); (fail_if_success (with_reducible show wpAny _ _ (exec (Stmt.For _ _ _ _ _) _) _ _ _)); (fail_if_success (with_reducible show wpAny _ _ (exec (Stmt.Assign _ (Expr.ListComp _ _ _ _) _) _) _ _ _)); (fail_if_success (with_reducible show wpAny _ _ (eval (Expr.ListComp _ _ _ _) _) _ _ _)); first | ((first | (with_reducible show wpAny _ _ (exec (Stmt.Assign _ _ _) _) _ _ _) | (with_reducible show wpAny _ _ (exec (Stmt.Expr _ _) _) _ _ _) | (with_reducible show wpAny _ _ (exec (Stmt.Return _ _) _) _ _ _)); k_fold) | walk1 | (dsimp only; (with_reducible show wpAny _ _ _ _ _); walk1))))
    refine h _ _ _ F7.keep ?_
    rw [hD7]
    have e : ((xs.set (Int.toNat 0) y).getD 0 it0) = y := by simp [h1]
    rw [e]
    rfl
end
-- C0
section
variable {prog : Program} {w : World} {A : Around} {E : Value → Shared → Prop} {s : Shared} {b : Heap}

def kh (l : List Int) : Int := l.headD 0
def ltI (u v : It) : Bool := decide (kh u.k < kh v.k) || (decide (kh u.k = kh v.k) && decide (u.i < v.i))

/-- an item (elem, i) of lists of one int -/
def Plain (b : Heap) (u : It) : Prop := ∃ T a ti m x t n, u.v = .ref T ∧ kh u.k = x ∧ u.e = .ref a ∧ b.get? T = some { cls := .type "tuple", data := .seq #[.ref a, .int u.i ti] m } ∧ b.get? a = some (listOf #[.int x t] n)
/-- an item (key, i, elem) -/
def Keyd (b : Heap) (u : It) : Prop := ∃ T tk ti m x, u.v = .ref T ∧ kh u.k = x ∧ b.get? T = some { cls := .type "tuple", data := .seq #[.int x tk, .int u.i ti, u.e] m }

theorem cmp_plain : CmpLt prog w b (Plain b) ltI := by
  rintro u v ⟨T, a, ti, m, x, t, n, hv, hk, he, hT, ha⟩ ⟨T', a', ti', m', x', t', n', hv', hk', he', hT', ha'⟩ A Q E s hu st h
  rw [hv, hv']
  refine tup_lt (by lia) (st _ _ hT) (st _ _ hT') ?_
  show wpAny _ _ (eqBool (.ref a) (.ref a')) _ _ _
  refine one_eq (by show A.units + 1 < 9000; lia) (st _ _ ha) (st _ _ ha') ?_
  have h' := h s.toks
  by_cases e : x = x'
  · simp only [e, decide_true, if_true]
    show wpAny _ _ (eqBool (.int u.i ti) (.int v.i ti')) _ _ _
    refine eqB_int ?_
    by_cases e2 : u.i = v.i
    · simp only [e2, decide_true, if_true]
      show Q (.bool (decide (2 < 2))) s
      simpa [ltI, hk, hk', e, e2] using h'
    · simp only [e2, decide_false, Bool.false_eq_true, if_false]
      refine rich_lt_int ⟨by simp, ?_⟩
      simpa [ltI, hk, hk', e] using h'
  · simp only [e, decide_false, Bool.false_eq_true, if_false]
    refine one_lt (by show A.units + 1 < 9000; lia) (st _ _ ha) (st _ _ ha') ⟨by simp, ?_⟩
    simpa [ltI, hk, hk', e] using h'

theorem cmp_keyd {S : It → Prop} (hS : ∀ u, S u → Keyd b u) (inj : ∀ u v, S u → S v → u.i = v.i → u = v) : CmpLt prog w b S ltI := by
  intro u v su sv A Q E s hu st h
  refine e5_3 (hS u su) ?_
  intro T tk ti m x hv hk hT
  refine e5_3 (hS v sv) ?_
  intro T' tk' ti' m' x' hv' hk' hT'
  have hi := inj u v su sv
  rw [hv, hv']
  refine tup_lt (by lia) (st _ _ hT) (st _ _ hT') ?_
  show wpAny _ _ (eqBool (.int x tk) (.int x' tk')) _ _ _
  refine eqB_int ?_
  have h' := h s.toks
  by_cases e : x = x'
  · simp only [e, decide_true, if_true]
    show wpAny _ _ (eqBool (.int u.i ti) (.int v.i ti')) _ _ _
    refine eqB_int ?_
    by_cases e2 : u.i = v.i
    · have e3 := hi e2
      subst e3
      simp only [decide_true, if_true]
      show wpAny _ _ (eqBool u.e u.e) _ _ _
      refine eqB_self ?_
      simp only [if_true]
      show Q (.bool (decide (3 < 3))) s
      simpa [ltI, hk, hk', e, e2] using h'
    · simp only [e2, decide_false, Bool.false_eq_true, if_false]
      refine rich_lt_int ⟨by simp, ?_⟩
      simpa [ltI, hk, hk', e] using h'
  · simp only [e, decide_false, Bool.false_eq_true, if_false]
    refine rich_lt_int ⟨by simp, ?_⟩
    simpa [ltI, hk, hk', e] using h'

/-- the keys of a sort of items: tuples, their first parts of one type -/
theorem kind_plain {its : List It} (h2 : 2 ≤ its.length) (hP : ∀ u ∈ its, Plain s.heap u) {Q : SortKind → Shared → Prop} (h : Q (tuples' true) s) : wpAny (model prog w) A (keyKind' (its.map It.v).toArray) Q E s := by
  have key : ∀ l : List It, (∀ u ∈ l, Plain s.heap u) → KatTups s.heap (l.map It.v) (l.map It.e) ∧ ∀ v ∈ l.map It.e, Looks (model prog w) s.heap (typeOf v) (.type "list") := by
    intro l
    induction l with
    | nil => intro _; exact ⟨trivial, fun v hv => nomatch hv⟩
    | cons u l ih =>
      intro hl
      refine e7_5 (hl u (List.mem_cons_self ..)) ?_
      intro T a ti m x t n hv hk he hT ha
      obtain ⟨i1, i2⟩ := ih fun u' hu' => hl u' (List.mem_cons_of_mem _ hu')
      refine ⟨⟨⟨T, _, _, m, hv, hT, rfl, rfl, by rw [he]; rfl⟩, i1⟩, fun v hv => ?_⟩
      rcases List.mem_cons.mp hv with rfl | hv
      · rw [he]; exact (Looks.ld ha).andThen .now
      · exact i2 v hv
  obtain ⟨k1, k2⟩ := key its hP
  exact kat_kind k1 (by rw [List.length_map]; lia) k2 rfl h
theorem kind_keyd {its : List It} (h2 : 2 ≤ its.length) (hP : ∀ u ∈ its, Keyd s.heap u) {Q : SortKind → Shared → Prop} (h : Q (tuples' true) s) : wpAny (model prog w) A (keyKind' (its.map It.v).toArray) Q E s := by
  have key : ∀ l : List It, (∀ u ∈ l, Keyd s.heap u) → ∃ fs, fs.length = l.length ∧ KatTups s.heap (l.map It.v) fs ∧ ∀ v ∈ fs, Looks (model prog w) s.heap (typeOf v) (.type "int") := by
    intro l
    induction l with
    | nil => intro _; exact ⟨[], rfl, trivial, fun v hv => nomatch hv⟩
    | cons u l ih =>
      intro hl
      refine e5_3 (hl u (List.mem_cons_self ..)) ?_
      intro T tk ti m x hv hk hT
      refine e1_3 (ih fun u' hu' => hl u' (List.mem_cons_of_mem _ hu')) ?_
      intro fs il i1 i2
      refine ⟨.int x tk :: fs, by simp [il], ⟨⟨T, _, _, m, hv, hT, rfl, rfl, rfl⟩, i1⟩, fun v hv => ?_⟩
      rcases List.mem_cons.mp hv with rfl | hv
      · exact Looks.of_pure rfl
      · exact i2 v hv
  refine e1_3 (key its hP) ?_
  intro fs il k1 k2
  exact kat_kind k1 (by lia) k2 rfl h

theorem keyLt_plain {u v : It} {Q : Bool → Shared → Prop} (hu : A.units ≤ 1000) (pu : Plain s.heap u) (pv : Plain s.heap v) (h : Q (ltI u v) s) : wpAny (model prog w) A (keyLt' (tuples' true) u.v v.v) Q E s := by
  refine e7_5 (pu) ?_
  (try clear pu)
  intro T a ti m x t n hv hk he hT ha
  refine e7_5 (pv) ?_
  (try clear pv)
  intro T' a' ti' m' x' t' n' hv' hk' he' hT' ha'
  rw [hv, hv']
  refine kat_lt hT rfl hT' rfl (kat_cons ?_)
  refine one_eq (by lia) ha ha' ?_
  by_cases e : x = x'
  · simp only [e, decide_true]
    refine kat_yes (kat_cons (eqB_int ?_))
    by_cases e2 : u.i = v.i
    · simp only [e2, decide_true]
      refine kat_yes (kat_nil ?_)
      simpa [ltI, hk, hk', e, e2] using h
    · simp only [e2, decide_false]
      refine kat_no ?_
      show wpAny _ _ (oneLt' false _ _) _ _ _
      refine oneLt_false_int ?_
      simpa [ltI, hk, hk', e] using h
  · simp only [e, decide_false]
    refine kat_no ?_
    show wpAny _ _ (oneLt' true _ _) _ _ _
    refine oneLt_list (by lia) ha ha' ?_
    simpa [ltI, hk, hk', e] using h
theorem keyLt_keyd {u v : It} {Q : Bool → Shared → Prop} (hi : u.i = v.i → u = v) (pu : Keyd s.heap u) (pv : Keyd s.heap v) (h : Q (ltI u v) s) : wpAny (model prog w) A (keyLt' (tuples' true) u.v v.v) Q E s := by
  refine e5_3 (pu) ?_
  (try clear pu)
  intro T tk ti m x hv hk hT
  refine e5_3 (pv) ?_
  (try clear pv)
  intro T' tk' ti' m' x' hv' hk' hT'
  rw [hv, hv']
  refine kat_lt hT rfl hT' rfl (kat_cons (eqB_int ?_))
  by_cases e : x = x'
  · simp only [e, decide_true]
    refine kat_yes (kat_cons (eqB_int ?_))
    by_cases e2 : u.i = v.i
    · have e3 := hi e2
      subst e3
      simp only [decide_true]
      refine kat_yes (kat_cons (eqB_self (kat_yes (kat_nil ?_))))
      simpa [ltI, hk, hk', e, e2] using h
    · simp only [e2, decide_false]
      refine kat_no ?_
      show wpAny _ _ (oneLt' false _ _) _ _ _
      refine oneLt_false_int ?_
      simpa [ltI, hk, hk', e] using h
  · simp only [e, decide_false]
    refine kat_no ?_
    show wpAny _ _ (oneLt' true _ _) _ _ _
    refine oneLt_int ?_
    simpa [ltI, hk, hk', e] using h

theorem ltI_asym {u v : It} (h : ltI u v = true) : ltI v u = false := by
  simp only [ltI, Bool.or_eq_true, Bool.and_eq_true, decide_eq_true_eq, Bool.or_eq_false_iff, Bool.and_eq_false_imp, decide_eq_false_iff_not] at h ⊢
  lia
theorem ltI_ntr {u v x : It} (h1 : ltI u v = false) (h2 : ltI v x = false) : ltI u x = false := by
  simp only [ltI, Bool.or_eq_false_iff, Bool.and_eq_false_imp, decide_eq_true_eq, decide_eq_false_iff_not] at h1 h2 ⊢
  lia
theorem ltI_tot {u v : It} (h1 : ltI u v = false) (h2 : ltI v u = false) : u.i = v.i := by
  simp only [ltI, Bool.or_eq_false_iff, Bool.and_eq_false_imp, decide_eq_true_eq, decide_eq_false_iff_not] at h1 h2
  lia

theorem nodup_ij {its : List It} (hd : (its.map It.i).Nodup) {i j : Nat} (hi : i < its.length) (hj : j < its.length) (e : (its.getD i it0).i = (its.getD j it0).i) : i = j := by
  have hd' := List.pairwise_iff_getElem.mp hd
  rcases Nat.lt_trichotomy i j with h | h | h
  · exact absurd (by simpa [hi, hj] using e) (hd' i j (by simpa using hi) (by simpa using hj) h)
  · exact h
  · exact absurd (by simpa [hi, hj] using e.symm) (hd' j i (by simpa using hj) (by simpa using hi) h)
/-- the order of a sort of items whose numbers differ -/
theorem ordered_its {its : List It} {rev : Bool} {ord : List Nat} (hd : (its.map It.i).Nodup) (ho : Ordered (fun i j => ltI (its.getD i it0) (its.getD j it0)) rev its.length ord) :
    (ord.map fun i => its.getD i it0).Perm its ∧ (ord.map fun i => its.getD i it0).Pairwise (fun a b => if rev then ltI b a = true else ltI a b = true) := by
  refine ⟨?_, ?_⟩
  · refine (ho.1.map _).trans ?_
    have : (List.range its.length).map (fun i => its.getD i it0) = its := by
      apply List.ext_getElem
      · simp
      · intro i hi hj
        simp [hj]
    rw [this]
  · rw [List.pairwise_map]
    have hm : ∀ x ∈ ord, x < its.length := fun x hx => by simpa using ho.1.mem_iff.mp hx
    have hnd : ord.Nodup := ho.1.nodup_iff.mpr List.nodup_range
    refine List.Pairwise.imp_of_mem ?_ (List.Pairwise.and hnd ho.2)
    rintro a b ha hb ⟨hne, h⟩
    have hi : (its.getD a it0).i ≠ (its.getD b it0).i := fun q => by
      exact hne (nodup_ij hd (hm a ha) (hm b hb) q)
    cases rev with
    | false =>
      simp only [Bool.false_eq_true, if_false] at h ⊢
      rcases h with h | ⟨h, _⟩
      · exact h
      · cases q : ltI (its.getD a it0) (its.getD b it0) with
        | true => rfl
        | false => exact absurd (ltI_tot q h) hi
    | true =>
      simp only [if_true] at h ⊢
      rcases h with h | ⟨h, _⟩
      · exact h
      · cases q : ltI (its.getD b it0) (its.getD a it0) with
        | true => rfl
        | false => exact absurd (ltI_tot h q) hi
theorem Plain.keeps {b b' : Heap} {u : It} (h : Plain b u) (k : b.StaysIn b') : Plain b' u := by
  refine e7_5 (h) ?_
  (try clear h)
  intro T a ti m x t n hv hk he hT ha
  exact ⟨T, a, ti, m, x, t, n, hv, hk, he, k _ _ hT, k _ _ ha⟩
theorem Keyd.keeps {b b' : Heap} {u : It} (h : Keyd b u) (k : b.StaysIn b') : Keyd b' u := by
  refine e5_3 (h) ?_
  (try clear h)
  intro T tk ti m x hv hk hT
  exact ⟨T, tk, ti, m, x, hv, hk, k _ _ hT⟩

/-- the sort of a list of items, plain or keyed -/
theorem sort_its {D : Addr} {its : List It} {n : Nat} {rev : Bool} {P : PySem.Fin → Shared → Prop} (hu : A.units ≤ 1000) (hD : s.heap.get? D = some (listOf (its.map It.v).toArray n)) (h64 : its.length < 64) (hd : (its.map It.i).Nodup)
    (hP : (∀ u ∈ its, Plain (hideAll s.heap [D]) u) ∨ (∀ u ∈ its, Keyd (hideAll s.heap [D]) u))
    (h : ∀ (zs : List It) h' tk c, zs.Perm its → zs.Pairwise (fun a b => if rev then ltI b a = true else ltI a b = true) → (hideAll s.heap [D]).StaysIn h' → h'.get? D = some (listOf (zs.map It.v).toArray c) → P (.done (.ret .none)) { s with heap := h', toks := tk }) :
    wpAny (model prog w) A (so_plain D rev) P E s := by
  have gv : ∀ i, i < its.length → (its.map It.v).getD i .none = (its.getD i it0).v := fun i hi => by simp [hi]
  have inj : ∀ u ∈ its, ∀ v ∈ its, u.i = v.i → u = v := fun u hu v hv e => by
    obtain ⟨i, hi, rfl⟩ := List.getElem_of_mem hu
    obtain ⟨j, hj, rfl⟩ := List.getElem_of_mem hv
    have : i = j := nodup_ij hd hi hj (by simpa [hi, hj] using e)
    subst this; rfl
  refine so_plain_wp (lt := fun i j => ltI (its.getD i it0) (its.getD j it0)) (κ := tuples' true) hD (by simpa using h64) ⟨fun a b => ltI_asym, fun a b c => ltI_ntr⟩ (fun h2 s' Q st q => ?_) (fun i j Q s' hi hj st q => ?_) ?_
  · rcases hP with hP | hP
    · exact kind_plain (by simpa using h2) (fun u hu => (hP u hu).keeps st) q
    · exact kind_keyd (by simpa using h2) (fun u hu => (hP u hu).keeps st) q
  · have hi' : i < its.length := by simpa using hi
    have hj' : j < its.length := by simpa using hj
    rw [gv i hi', gv j hj']
    rcases hP with hP | hP
    · exact keyLt_plain hu ((hP _ (getD_mem hi')).keeps st) ((hP _ (getD_mem hj')).keeps st) (by simpa using q s'.toks)
    · exact keyLt_keyd (inj _ (getD_mem hi') _ (getD_mem hj')) ((hP _ (getD_mem hi')).keeps st) ((hP _ (getD_mem hj')).keeps st) (by simpa using q s'.toks)
  · intro ord h' tk c ho st hc
    rw [List.length_map] at ho
    obtain ⟨p1, p2⟩ := ordered_its hd ho
    refine h _ h' tk c p1 p2 st ?_
    rw [hc]
    have hm : ∀ x ∈ ord, x < its.length := fun x hx => by simpa using ho.1.mem_iff.mp hx
    have : (ord.map fun i => (its.map It.v).getD i .none) = (ord.map fun i => its.getD i it0).map It.v := by
      rw [List.map_map]
      exact List.map_congr_left fun i hi => gv i (hm i hi)
    rw [this]
end
-- PH
section
variable {lt : It → It → Bool}

structure SW (lt : It → It → Bool) : Prop where
  asym : ∀ a b, lt a b = true → lt b a = false
  ntr : ∀ a b c, lt a b = false → lt b c = false → lt a c = false
theorem SW.irr (o : SW lt) (a : It) : lt a a = false := by
  cases h : lt a a with
  | false => rfl
  | true => have := o.asym _ _ h; rw [h] at this; cases this
theorem sw_ltI : SW ltI := ⟨fun _ _ => ltI_asym, fun _ _ _ => ltI_ntr⟩
theorem SW.flip (o : SW lt) : SW fun a b => lt b a := ⟨fun a b h => o.asym _ _ h, fun a b c h1 h2 => o.ntr _ _ _ h2 h1⟩

abbrev ge (xs : List It) (k : Nat) : It := xs.getD k it0
theorem ge_set {xs : List It} {k i : Nat} {y : It} (hk : k < xs.length) : ge (xs.set k y) i = if i = k then y else ge xs i := by
  unfold ge
  by_cases e : i = k
  · subst e; simp [hk]
  · rw [if_neg e]; simp [List.getElem?_set, Ne.symm e]

theorem swap_perm {xs : List It} {i j : Nat} {x : It} (hi : i < xs.length) (hj : j < xs.length) (hne : i ≠ j) : ((xs.set i (ge xs j)).set j x).Perm (xs.set i x) := by
  have hc : ∀ a : It, ∀ (l : List It) (k : Nat) (hk : k < l.length) (y : It), (l.set k y).Perm (y :: l.eraseIdx k) := by
    intro a l
    induction l with
    | nil => intro k hk; simp at hk
    | cons b l ih =>
      intro k hk y
      cases k with
      | zero => simp
      | succ k =>
        simp only [List.set_cons_succ, List.eraseIdx_cons_succ]
        exact ((ih k (by simpa using hk) y).cons b).trans (List.Perm.swap _ _ _)
  have h1 := hc x (xs.set i (ge xs j)) j (by simpa using hj) x
  have h2 := hc x xs i hi x
  have h3 : ((xs.set i (ge xs j)).eraseIdx j).Perm (xs.eraseIdx i) := by
    have e1 := hc x xs i hi (ge xs j)
    have e2 := hc x (xs.set i (ge xs j)) j (by simpa using hj) (ge xs j)
    have e3 : (xs.set i (ge xs j)).set j (ge xs j) = xs.set i (ge xs j) := by
      apply List.ext_getElem
      · simp
      · intro k hk hk'
        by_cases q : k = j
        · subst q
          simp only [List.getElem_set_self]
          rw [List.getElem_set_ne hne]
          simp [ge, hj]
        · rw [List.getElem_set_ne (Ne.symm q)]
    rw [e3] at e2
    exact (List.perm_cons _).mp (e2.symm.trans e1)
  exact h1.trans ((h3.cons x).trans h2.symm)

theorem sdown_perm {xs : List It} {sp pos : Nat} {x : It} (hp : pos < xs.length) : (sdown lt xs sp pos x).Perm (xs.set pos x) := by
  fun_induction sdown lt xs sp pos x with
  | case1 xs pos h hl ih => exact (ih (by rw [List.length_set]; lia)).trans (swap_perm hp (by lia) (by lia))
  | case2 xs pos h hl => exact .refl _
  | case3 xs pos h => exact .refl _
theorem sup_perm {xs : List It} {sp pos : Nat} {x : It} (hp : pos < xs.length) : (sup lt xs sp pos x).Perm (xs.set pos x) := by
  fun_induction sup lt xs sp pos x with
  | case1 xs pos h ih =>
    have g1 := kid_gt (lt := lt) (xs := xs) (pos := pos)
    have g2 := kid_lt (lt := lt) h
    exact (ih (by rw [List.length_set]; exact g2)).trans (swap_perm hp g2 (by lia))
  | case2 xs pos h =>
    refine (sdown_perm (by rw [List.length_set]; exact hp)).trans ?_
    rw [List.set_set]

/-- the place d lies below s in the tree -/
inductive Desc (s : Nat) : Nat → Prop
  | refl : Desc s s
  | kid {p c : Nat} : Desc s p → (c - 1) / 2 = p → 0 < c → Desc s c
theorem Desc.le {s d : Nat} (h : Desc s d) : s ≤ d := by
  induction h with
  | refl => exact Nat.le_refl _
  | kid _ _ _ ih => lia
theorem Desc.up {s d : Nat} (h : Desc s d) (hn : s < d) : Desc s ((d - 1) / 2) := by
  cases h with
  | refl => lia
  | kid h e _ => rw [e]; exact h

/-- a heap from s on, but for the hole p -/
structure Hole (lt : It → It → Bool) (xs : List It) (s p : Nat) : Prop where
  desc : Desc s p
  ok : ∀ j, 0 < j → j < xs.length → s ≤ (j - 1) / 2 → j ≠ p → (j - 1) / 2 ≠ p → lt (ge xs j) (ge xs ((j - 1) / 2)) = false
  far : ∀ j, 0 < j → j < xs.length → (j - 1) / 2 = p → s < p → lt (ge xs j) (ge xs ((p - 1) / 2)) = false
def HeapFrom (lt : It → It → Bool) (xs : List It) (s : Nat) : Prop := ∀ j, 0 < j → j < xs.length → s ≤ (j - 1) / 2 → lt (ge xs j) (ge xs ((j - 1) / 2)) = false

theorem sdown_heap (o : SW lt) {xs : List It} {s p : Nat} {x : It} (hp : p < xs.length) (H : Hole lt xs s p) (hk : ∀ j, 0 < j → j < xs.length → (j - 1) / 2 = p → lt (ge xs j) x = false) : HeapFrom lt (sdown lt xs s p x) s := by
  have fin : ∀ (xs : List It) (p : Nat), p < xs.length → Hole lt xs s p → (∀ j, 0 < j → j < xs.length → (j - 1) / 2 = p → lt (ge xs j) x = false) → (s < p → lt x (ge xs ((p - 1) / 2)) = false) → HeapFrom lt (xs.set p x) s := by
    intro xs p hp H hk hr j h0 hj hs
    rw [List.length_set] at hj
    rw [ge_set hp, ge_set hp]
    by_cases e : j = p
    · subst e
      rw [if_pos rfl, if_neg (by lia)]
      exact hr (by lia)
    · rw [if_neg e]
      by_cases e2 : (j - 1) / 2 = p
      · rw [if_pos e2]; exact hk j h0 hj e2
      · rw [if_neg e2]; exact H.ok j h0 hj hs e e2
  fun_induction sdown lt xs s p x with
  | case1 xs p h hl ih =>
    have hd := H.desc.up h
    have hq := hd.le
    generalize hQ : (p - 1) / 2 = q at *
    have hqp : q < p := by lia
    refine ih (by rw [List.length_set]; lia) ⟨hd, fun j h0 hj hs hj1 hj2 => ?_, fun j h0 hj he hsq => ?_⟩ fun j h0 hj he => ?_
    · rw [List.length_set] at hj
      rw [ge_set hp, ge_set hp]
      by_cases e : j = p
      · subst e; lia
      · rw [if_neg e]
        by_cases e2 : (j - 1) / 2 = p
        · rw [if_pos e2]
          have := H.far j h0 hj e2 h
          rw [hQ] at this; exact this
        · rw [if_neg e2]; exact H.ok j h0 hj hs e e2
    · rw [List.length_set] at hj
      have up := hd.up hsq
      have hul := up.le
      rw [ge_set hp, ge_set hp, if_neg (show ¬ (q - 1) / 2 = p by lia)]
      have base := H.ok q (by lia) (by lia) hul (by lia) (by lia)
      by_cases e : j = p
      · rw [if_pos e]; exact base
      · rw [if_neg e]
        have := H.ok j h0 hj (by lia) e (by lia)
        rw [he] at this
        exact o.ntr _ _ _ this base
    · rw [List.length_set] at hj
      rw [ge_set hp]
      by_cases e : j = p
      · rw [if_pos e]; exact o.asym _ _ hl
      · rw [if_neg e]
        have := H.ok j h0 hj (by lia) e (by lia)
        rw [he] at this
        exact o.ntr _ _ _ this (o.asym _ _ hl)
  | case2 xs p h hl => exact fin xs p hp H hk fun _ => by simpa using hl
  | case3 xs p h => exact fin xs p hp H hk fun q => absurd q h

theorem kid_cases {xs : List It} {p : Nat} : kid lt xs p = 2 * p + 1 ∨ kid lt xs p = 2 * p + 2 := by unfold kid; split <;> simp
theorem kid_least (o : SW lt) {xs : List It} {p j : Nat} (hj : j < xs.length) (h0 : 0 < j) (he : (j - 1) / 2 = p) (hlt : 2 * p + 1 < xs.length) : lt (ge xs j) (ge xs (kid lt xs p)) = false := by
  have hj' : j = 2 * p + 1 ∨ j = 2 * p + 2 := by lia
  unfold kid
  split
  · rename_i h
    rcases hj' with rfl | rfl
    · exact h.2
    · exact o.irr _
  · rename_i h
    rcases hj' with rfl | rfl
    · exact o.irr _
    · cases q : lt (ge xs (2 * p + 1)) (ge xs (2 * p + 2)) with
      | true => exact o.asym _ _ q
      | false => exact absurd ⟨hj, q⟩ h

theorem sup_heap' (o : SW lt) {xs : List It} {s p : Nat} {x : It} (hp : p < xs.length) (H : Hole lt xs s p) : HeapFrom lt (sup lt xs s p x) s := by
  fun_induction sup lt xs s p x with
  | case1 xs p h ih =>
    have g1 := kid_gt (lt := lt) (xs := xs) (pos := p)
    have g2 := kid_lt (lt := lt) h
    have g3 := kid_cases (lt := lt) (xs := xs) (p := p)
    have kl : ∀ j, 0 < j → j < xs.length → (j - 1) / 2 = p → lt (ge xs j) (ge xs (kid lt xs p)) = false := fun j h0 hj he => kid_least o hj h0 he h
    generalize kid lt xs p = c at *
    have hcp : (c - 1) / 2 = p := by lia
    have hsp := H.desc.le
    refine ih (by rw [List.length_set]; exact g2) ⟨H.desc.kid hcp (by lia), fun j h0 hj hs hj1 hj2 => ?_, fun j h0 hj he hsc => ?_⟩
    · rw [List.length_set] at hj
      rw [ge_set hp, ge_set hp]
      by_cases e : j = p
      · subst e
        rw [if_pos rfl, if_neg (by lia)]
        exact H.far c (by lia) g2 hcp (by lia)
      · rw [if_neg e]
        by_cases e2 : (j - 1) / 2 = p
        · rw [if_pos e2]; exact kl j h0 hj e2
        · rw [if_neg e2]; exact H.ok j h0 hj hs e e2
    · rw [List.length_set] at hj
      rw [hcp, ge_set hp, ge_set hp, if_pos rfl, if_neg (by lia)]
      have := H.ok j h0 hj (by lia) (by lia) (by lia)
      rw [he] at this; exact this
  | case2 xs p h =>
    refine sdown_heap o (by rw [List.length_set]; exact hp) ⟨H.desc, fun j h0 hj hs hj1 hj2 => ?_, fun j h0 hj he _ => ?_⟩ fun j h0 hj he => ?_
    · rw [List.length_set] at hj
      rw [ge_set hp, ge_set hp, if_neg hj1, if_neg hj2]
      exact H.ok j h0 hj hs hj1 hj2
    · rw [List.length_set] at hj; lia
    · rw [List.length_set] at hj; lia

theorem sup_heap (o : SW lt) {xs : List It} {s : Nat} {x : It} (hs : s < xs.length) (H : HeapFrom lt xs (s + 1)) : HeapFrom lt (sup lt xs s s x) s :=
  sup_heap' o hs ⟨.refl, fun j h0 hj h1 _ h3 => H j h0 hj (by lia), fun _ _ _ _ h => by lia⟩

theorem hfy_spec (o : SW lt) {xs : List It} : ∀ k, k ≤ xs.length → HeapFrom lt xs k → HeapFrom lt (hfy lt xs k) 0 ∧ (hfy lt xs k).Perm xs := by
  intro k
  induction k generalizing xs with
  | zero => intro _ H; exact ⟨H, .refl _⟩
  | succ k ih =>
    intro hk H
    have hk' : k < xs.length := by lia
    have h1 := sup_heap o (x := ge xs k) hk' H
    obtain ⟨a, b⟩ := ih (xs := sup lt xs k k (ge xs k)) (by rw [sup_length]; lia) h1
    refine ⟨a, b.trans ((sup_perm hk').trans ?_)⟩
    have : xs.set k (ge xs k) = xs := by
      apply List.ext_getElem
      · simp
      · intro i hi hi'
        by_cases e : k = i
        · subst e; simp [ge, hk']
        · rw [List.getElem_set_ne e]
    rw [this]
theorem heapify_spec (o : SW lt) (xs : List It) : HeapFrom lt (hfy lt xs (xs.length / 2)) 0 ∧ (hfy lt xs (xs.length / 2)).Perm xs :=
  hfy_spec o _ (by lia) fun j h0 hj hs => by lia
/-- the root is least -/
theorem heap_root (o : SW lt) {xs : List It} (H : HeapFrom lt xs 0) : ∀ j, j < xs.length → lt (ge xs j) (ge xs 0) = false := by
  intro j
  induction j using Nat.strongRecOn with
  | ind j ih =>
    intro hj
    by_cases e : j = 0
    · subst e; exact o.irr _
    · exact o.ntr _ _ _ (H j (by lia) hj (Nat.zero_le _)) (ih ((j - 1) / 2) (by lia) (by lia))
theorem heapreplace_spec (o : SW lt) {xs : List It} {y : It} (h1 : 0 < xs.length) (H : HeapFrom lt xs 0) : HeapFrom lt (sup lt (xs.set 0 y) 0 0 y) 0 ∧ (sup lt (xs.set 0 y) 0 0 y).Perm (xs.set 0 y) := by
  refine ⟨sup_heap o (by rw [List.length_set]; exact h1) fun j h0 hj hs => ?_, ?_⟩
  · rw [List.length_set] at hj
    rw [ge_set h1, ge_set h1, if_neg (by lia), if_neg (by lia)]
    exact H j h0 hj (Nat.zero_le _)
  · refine (sup_perm (by rw [List.length_set]; exact h1)).trans ?_
    rw [List.set_set]
end
-- PT
section
variable {sc : Nat → Int}

/-- a goes ahead of b -/
def bet (sc : Nat → Int) (a b : Nat) : Prop := sc b < sc a ∨ (sc a = sc b ∧ a < b)
theorem bet_irr {a : Nat} : ¬ bet sc a a := by unfold bet; lia
theorem bet_asym {a b : Nat} (h : bet sc a b) : ¬ bet sc b a := by unfold bet at *; lia
theorem bet_tr {a b c : Nat} (h1 : bet sc a b) (h2 : bet sc b c) : bet sc a c := by unfold bet at *; lia
theorem bet_tot {a b : Nat} (h : a ≠ b) : bet sc a b ∨ bet sc b a := by unfold bet; lia

def insP (sc : Nat → Int) (p : Nat) : List Nat → List Nat
  | [] => [p]
  | a :: r => if sc a < sc p then p :: a :: r else a :: insP sc p r
def ordD (sc : Nat → Int) : Nat → List Nat
  | 0 => []
  | m + 1 => insP sc m (ordD sc m)

theorem insP_perm (p : Nat) : ∀ l, (insP sc p l).Perm (p :: l)
  | [] => .refl _
  | a :: r => by
    unfold insP
    split
    · exact .refl _
    · exact ((insP_perm p r).cons a).trans (.swap _ _ _)
theorem insP_pw {p : Nat} : ∀ {l : List Nat}, l.Pairwise (bet sc) → (∀ a ∈ l, a < p) → (insP sc p l).Pairwise (bet sc)
  | [], _, _ => by simp [insP]
  | a :: r, h, hl => by
    obtain ⟨h1, h2⟩ := List.pairwise_cons.mp h
    unfold insP
    split
    · rename_i hlt
      refine List.pairwise_cons.mpr ⟨fun b hb => ?_, h⟩
      rcases List.mem_cons.mp hb with rfl | hb
      · exact .inl hlt
      · exact bet_tr (.inl hlt) (h1 b hb)
    · rename_i hge
      refine List.pairwise_cons.mpr ⟨fun b hb => ?_, insP_pw h2 fun b hb => hl b (List.mem_cons_of_mem _ hb)⟩
      rcases List.mem_cons.mp ((insP_perm p r).mem_iff.mp hb) with rfl | hb
      · have := hl a (List.mem_cons_self ..)
        unfold bet; lia
      · exact h1 b hb
theorem ordD_perm : ∀ m, (ordD sc m).Perm (List.range m)
  | 0 => .refl _
  | m + 1 => by
    unfold ordD
    refine (insP_perm m _).trans (((ordD_perm m).cons m).trans ?_)
    rw [List.range_succ]
    exact (List.perm_append_singleton m (List.range m)).symm
theorem ordD_len (m : Nat) : (ordD sc m).length = m := by simpa using (ordD_perm (sc := sc) m).length_eq
theorem ordD_mem {m p : Nat} : p ∈ ordD sc m ↔ p < m := by simpa using (ordD_perm (sc := sc) m).mem_iff
theorem ordD_pw : ∀ m, (ordD sc m).Pairwise (bet sc)
  | 0 => .nil
  | m + 1 => insP_pw (ordD_pw m) fun a ha => ordD_mem.mp ha
theorem ordD_nodup (m : Nat) : (ordD sc m).Nodup := (ordD_perm m).nodup_iff.mpr List.nodup_range
theorem pw_uniq {l₁ l₂ : List Nat} (h1 : l₁.Pairwise (bet sc)) (h2 : l₂.Pairwise (bet sc)) (hp : l₁.Perm l₂) : l₁ = l₂ :=
  hp.eq_of_pairwise (fun a b _ _ x y => absurd y (bet_asym x)) h1 h2
theorem ordD_uniq {m : Nat} {l : List Nat} (h : l.Pairwise (bet sc)) (hp : l.Perm (List.range m)) : l = ordD sc m := pw_uniq h (ordD_pw m) (hp.trans (ordD_perm m).symm)

/-- the one new element: kept out -/
theorem take_out : ∀ {l : List Nat} {n p : Nat}, l.Pairwise (bet sc) → n ≤ l.length → (∀ a ∈ l.take n, ¬ sc a < sc p) → (insP sc p l).take n = l.take n
  | _, 0, _, _, _, _ => by simp
  | [], n + 1, _, _, h, _ => by simp at h
  | a :: r, n + 1, p, hp, hn, h => by
    unfold insP
    rw [if_neg (h a (by simp))]
    simp only [List.take_succ_cons]
    rw [take_out (List.pairwise_cons.mp hp).2 (by simpa using hn) fun b hb => h b (by simp [hb])]
/-- the one new element: let in -/
theorem take_in : ∀ {l : List Nat} {n p : Nat}, l.Pairwise (bet sc) → n < l.length → sc (l.getD n 0) < sc p → ((insP sc p l).take (n + 1)).Perm (p :: l.take n)
  | [], n, _, _, h, _ => by simp at h
  | a :: r, 0, p, hp, hn, h => by
    unfold insP
    rw [if_pos (by simpa using h)]
    simp
  | a :: r, n + 1, p, hp, hn, h => by
    unfold insP
    split
    · simp
    · simp only [List.take_succ_cons]
      have := take_in (List.pairwise_cons.mp hp).2 (by simpa using hn : n < r.length) (by simpa using h)
      exact (this.cons a).trans (.swap _ _ _)

/-- the place of an item -/
def pl (u : It) : Nat := (u.k.getD 1 0).toNat

/-- what a heap of the n best of m places is -/
structure Best (sc : Nat → Int) (lt : It → It → Bool) (n m : Nat) (its : List It) : Prop where
  pos : 0 < n
  le : n ≤ m
  len : its.length = n
  places : (its.map pl).Perm ((ordD sc m).take n)
  heap : HeapFrom lt its 0

theorem take_last {l : List Nat} {n : Nat} (h0 : 0 < n) (hn : n ≤ l.length) : l.take n = l.take (n - 1) ++ [l.getD (n - 1) 0] := by
  obtain ⟨n, rfl⟩ : ∃ k, n = k + 1 := ⟨n - 1, by lia⟩
  rw [List.take_add_one]
  simp [show n < l.length by lia]

/-- the root is the worst of the best -/
theorem Best.root (o : SW lt) {lt : It → It → Bool} {n m : Nat} {its : List It} (B : Best sc lt n m its) (o : SW lt) (hlt : ∀ u ∈ its, ∀ v ∈ its, lt u v = true ↔ bet sc (pl v) (pl u)) :
    pl (ge its 0) = (ordD sc m).getD (n - 1) 0 := by
  have hlen := B.len
  have hpos := B.pos
  have hm : ge its 0 ∈ its := getD_mem (by lia)
  have hl : n ≤ (ordD sc m).length := by rw [ordD_len]; exact B.le
  have e := take_last hpos hl
  have hlast : (ordD sc m).getD (n - 1) 0 ∈ (ordD sc m).take n := by rw [e]; simp
  have hroot : pl (ge its 0) ∈ (ordD sc m).take n := B.places.mem_iff.mp (List.mem_map_of_mem hm)
  by_cases q : pl (ge its 0) = (ordD sc m).getD (n - 1) 0
  · exact q
  · exfalso
    -- the last one is an item's place, worse than the root's
    refine e1_2 (List.mem_map.mp (B.places.mem_iff.mpr hlast)) ?_
    intro v hv hvp
    have hb : bet sc (pl (ge its 0)) ((ordD sc m).getD (n - 1) 0) := by
      rw [e] at hroot
      rcases List.mem_append.mp hroot with h | h
      · have pw := (ordD_pw (sc := sc) m).sublist (List.take_sublist n _)
        rw [e] at pw
        exact (List.pairwise_append.mp pw).2.2 _ h _ (by simp)
      · exact absurd (by simpa using h) q
    rw [← hvp] at hb
    have h1 : lt v (ge its 0) = true := (hlt v hv _ hm).mpr hb
    obtain ⟨j, hj, rfl⟩ := List.getElem_of_mem hv
    have h2 := heap_root o B.heap j hj
    have : ge its j = its[j] := by simp [ge, hj]
    rw [this, h1] at h2; cases h2

theorem Best.out {lt : It → It → Bool} {n m : Nat} {its : List It} (B : Best sc lt n m its) (o : SW lt) (hlt : ∀ u ∈ its, ∀ v ∈ its, lt u v = true ↔ bet sc (pl v) (pl u)) (h : ¬ sc (pl (ge its 0)) < sc m) : Best sc lt n (m + 1) its := by
  have hr := B.root o o hlt
  have hl : n ≤ (ordD sc m).length := by rw [ordD_len]; exact B.le
  refine ⟨B.pos, Nat.le_succ_of_le B.le, B.len, ?_, B.heap⟩
  show (its.map pl).Perm ((insP sc m (ordD sc m)).take n)
  rw [take_out (ordD_pw m) hl fun a ha => ?_]
  · exact B.places
  · rw [hr] at h
    rw [take_last B.pos hl] at ha
    rcases List.mem_append.mp ha with ha | ha
    · have pw := (ordD_pw (sc := sc) m).sublist (List.take_sublist n _)
      rw [take_last B.pos hl] at pw
      have := (List.pairwise_append.mp pw).2.2 _ ha _ (List.mem_singleton.mpr rfl)
      unfold bet at this; lia
    · rw [List.mem_singleton.mp ha]; exact h

theorem Best.in {lt : It → It → Bool} {n m : Nat} {its : List It} {y : It} (B : Best sc lt n m its) (o : SW lt) (hlt : ∀ u ∈ its, ∀ v ∈ its, lt u v = true ↔ bet sc (pl v) (pl u)) (hy : pl y = m) (h : sc (pl (ge its 0)) < sc m) :
    Best sc lt n (m + 1) (sup lt (its.set 0 y) 0 0 y) := by
  have hr := B.root o o hlt
  have hlen := B.len
  have hpos := B.pos
  have hle := B.le
  have hl : n ≤ (ordD sc m).length := by rw [ordD_len]; exact B.le
  obtain ⟨h1, h2⟩ := heapreplace_spec o (y := y) (by lia : 0 < its.length) B.heap
  refine ⟨hpos, by lia, by rw [h2.length_eq, List.length_set]; exact hlen, ?_, h1⟩
  refine (h2.map pl).trans ?_
  show ((its.set 0 y).map pl).Perm ((insP sc m (ordD sc m)).take n)
  obtain ⟨n', rfl⟩ : ∃ k, n = k + 1 := ⟨n - 1, by lia⟩
  refine List.Perm.trans ?_ (take_in (ordD_pw m) (by lia) (by rw [hr] at h; simpa using h)).symm
  obtain ⟨a, r, rfl⟩ : ∃ a r, its = a :: r := by
    cases its with
    | nil => simp at hlen
    | cons a r => exact ⟨a, r, rfl⟩
  simp only [List.set_cons_zero, List.map_cons, hy]
  refine List.Perm.cons _ ?_
  have p := B.places
  rw [take_last hpos hl] at p
  have hr' : pl a = (ordD sc m).getD (n' + 1 - 1) 0 := by simpa [ge] using hr
  rw [List.map_cons, hr'] at p
  have p2 := p.trans (List.perm_append_singleton _ _)
  exact (List.perm_cons _).mp p2

theorem best_start {lt : It → It → Bool} (o : SW lt) {its : List It} (h0 : 0 < its.length) (hp : (its.map pl).Perm (List.range its.length)) : Best sc lt its.length its.length (hfy lt its (its.length / 2)) := by
  obtain ⟨h1, h2⟩ := heapify_spec o its
  refine ⟨h0, Nat.le_refl _, h2.length_eq, ?_, h1⟩
  rw [List.take_of_length_le (by rw [ordD_len]; exact Nat.le_refl _)]
  exact (h2.map pl).trans (hp.trans (ordD_perm _).symm)

/-- the sorted items' places -/
theorem best_end {lt : It → It → Bool} {n m : Nat} {its zs : List It} (hp : (its.map pl).Perm ((ordD sc m).take n)) (hz : zs.Perm its) (hlt : ∀ u ∈ its, ∀ v ∈ its, lt u v = true → bet sc (pl v) (pl u)) (hs : zs.Pairwise (fun a b => lt b a = true)) :
    zs.map pl = (ordD sc m).take n := by
  refine pw_uniq (sc := sc) ?_ ((ordD_pw m).sublist (List.take_sublist n _)) ((hz.map pl).trans hp)
  rw [List.pairwise_map]
  refine hs.imp_of_mem fun ha hb h => ?_
  exact hlt _ (hz.mem_iff.mp hb) _ (hz.mem_iff.mp ha) h

/-- a sort's order of places -/
theorem ordered_ordD {lt : Nat → Nat → Bool} {rev : Bool} {N : Nat} {ord : List Nat} (ho : Ordered lt rev N ord) (hlt : ∀ a b, a < N → b < N → ((if rev then lt b a else lt a b) = true ↔ sc b < sc a)) : ord = ordD sc N := by
  refine ordD_uniq ?_ ho.1
  have hm : ∀ x ∈ ord, x < N := fun x hx => by simpa using ho.1.mem_iff.mp hx
  refine List.Pairwise.imp_of_mem ?_ ho.2
  intro a b ha hb h
  have e1 := hlt a b (hm a ha) (hm b hb)
  have e2 := hlt b a (hm b hb) (hm a ha)
  unfold bet
  cases rev with
  | false =>
    simp only [Bool.false_eq_true, if_false] at *
    rcases h with h | ⟨h, l⟩
    · exact .inl (e1.mp h)
    · have : ¬ sc a < sc b := fun q => by rw [e2.mpr q] at h; cases h
      lia
  | true =>
    simp only [if_true] at *
    rcases h with h | ⟨h, l⟩
    · exact .inl (e1.mp h)
    · have : ¬ sc a < sc b := fun q => by
        have h' : lt a b = false := h
        rw [e2.mpr q] at h'; cases h'
      lia
end
-- B4
section
variable {prog : Program} {w : World} {A : Around} {E : Value → Shared → Prop} {s : Shared}

theorem call_iter_of {x y : Value} {Q : Value → Shared → Prop} (h : wpAny (model prog w) A.in1 (pyIter x) (fun v s' => Q v s') E s) : wpAny (model prog w) A (call (.builtin "iter") [x]) Q E s := by
  refine call_function_entry (by decide +kernel) (by decide +kernel) kdk_entry_iter (kdk_args_iter _) ?_
  unfold Builtin.«iter»
  refine wpAny_bind (m := someArgs "iter" 1 2 _) (wpAny_of_eq (a := [x]) (by first | rfl | kernel_rfl!) ?_)
  show wpAny _ _ (pyIter x >>= _) _ _ _
  exact wpAny_bind (wpAny_mono h (fun v s' hv => wpAny_pure ⟨_, rfl, hv⟩) fun _ _ e => e)
def liObj (l : Addr) (i : Nat) : Obj := { cls := .type "list_iterator", data := .fields #[.ref l, .int i 0] }
theorem li_is {h : Heap} {it l : Addr} {i : Nat} (e : h.get? it = some (liObj l i)) : h.IsListIter it l i := ⟨_, e, rfl, rfl⟩
theorem call_iter_list {l : Addr} {items : Array Value} {c : Nat} {Q : Value → Shared → Prop} (hl : s.heap.get? l = some (listOf items c)) (h : Q (.ref s.heap.objs.size) { s with heap := s.heap.push (liObj l 0) }) :
    wpAny (model prog w) A (call (.builtin "iter") [.ref l]) Q E s := call_iter_of (y := .none) (wpAny_pyIter_list (PySem.IsL.isList hl) h)
theorem call_iter_it {it l : Addr} {i : Nat} {Q : Value → Shared → Prop} (hl : s.heap.get? it = some (liObj l i)) (h : Q (.ref it) s) :
    wpAny (model prog w) A (call (.builtin "iter") [.ref it]) Q E s := call_iter_of (y := .none) (wpAny_pyIter_listiter (li_is hl) h)

theorem ordD_head {sc : Nat → Int} {j : Nat} (hj : 0 < j) : (ordD sc (j + 1)).getD 0 0 = if sc ((ordD sc j).getD 0 0) < sc j then j else (ordD sc j).getD 0 0 := by
  show (insP sc j (ordD sc j)).getD 0 0 = _
  have hl := ordD_len (sc := sc) j
  cases h : ordD sc j with
  | nil => rw [h] at hl; simp at hl; lia
  | cons a r =>
    unfold insP
    split
    · rename_i q; simp [q]
    · rename_i q; simp [q]

theorem check_max (x k d : Value) : checkBuiltinCall "max" ⟨[x], [(Str.ofString "default", d), (Str.ofString "key", k)]⟩ = pure () := by kernel_rfl
theorem loop_max_plain {IT BS LST : Addr} {B : Heap} {N : Nat} {e : Nat → Value} {c0 : Nat} {d : Value} {sc : Nat → Int} {V : Nat → Value → Prop} {R : Result → Shared → Prop} (hh : A.handled = none) (hsz : ∀ h : Heap, B.StaysIn h → True)
    (hL : B.get? LST = some (listOf ((List.range N).map e).toArray c0)) (hIT : B.get? IT = none) (hBS : B.get? BS = none) (hne : IT ≠ BS)
    (hval : ∀ i, i < N → V i (e i))
    (hcmp : ∀ i j v v' (s : Shared) (Q : Value → Shared → Prop) (E : Value → Shared → Prop), V i v → V j v' → i < N → j < N → B.StaysIn s.heap → (∀ tk, Q (.bool (decide (sc j < sc i))) { s with toks := tk }) → wpAny (model prog w) A.in1 (richCompare .Gt v v') Q E s) :
    ∀ (k j : Nat) (s : Shared) (c : Nat) (bs : Array Value), N - j = k → j ≤ N → B.StaysIn s.heap → s.heap.IsListIter IT LST j → s.heap.get? BS = some (listOf bs c) →
      ((j = 0 ∧ bs = #[]) ∨ (0 < j ∧ ∃ v, bs = #[e ((ordD sc j).getD 0 0), v] ∧ V ((ordD sc j).getD 0 0) v)) →
      (∀ h' tk, B.StaysIn h' → R (.ok (.ret (if N = 0 then d else e ((ordD sc N).getD 0 0)))) { s with heap := h', toks := tk }) →
      codeAny (model prog w) A (.builtin "max.loop" ⟨[.ref IT, .none, .ref BS], [(Str.ofString "default", d)]⟩) R s := by
  intro k
  induction k with
  | zero =>
    intro j s c bs hk hj st hit hbs hb hR
    have hjN : j = N := by lia
    subst hjN
    refine codeAny_builtin F.entry_max_loop ?_
    rw [Around.under_plainId F.plain_max_loop _]
    show wpAny _ A.in1 (seqItems? (.ref BS) >>= _) _ _ s
    refine wpAny_bind (wpAny_seqItems hbs rfl ?_)
    show wpAny _ A.in1 (tryCatch (pyNext (.ref IT)) _ >>= _) _ _ s
    refine wpAny_bind (wpAny_tryCatch (wpAny_pyNext_list_end (by exact hh) hit ⟨_, st _ _ hL, rfl, _, rfl⟩ (by simp) fun h' ke => ?_))
    have st' : B.StaysIn h' := fun x o q => ke x o (fun z => by rw [z, hIT] at q; cases q) (st x o q)
    have hbs' := ke _ _ (Ne.symm hne) hbs
    rcases hb with ⟨rfl, rfl⟩ | ⟨hj0, v, rfl, hv⟩
    · refine wpAny_bind (wpAny_rule (wpAny_pure ?_))
      exact hR _ _ st'
    · show wpAny _ A.in1 (updateSeq BS (fun _ => #[]) >>= _) _ _ _
      refine wpAny_bind (wpAny_updateSeq hbs' rfl (wpAny_bind (wpAny_letGo (wpAny_pure ?_))))
      have := hR (h'.update BS (Obj.mapSeq fun _ => #[])) s.toks fun x o q => (Heap.get?_update_other _ _ (fun z => by rw [← z, hBS] at q; cases q)).trans (st' x o q)
      rw [if_neg (by lia)] at this
      exact this
  | succ k ih =>
    intro j s c bs hk hj st hit hbs hb hR
    have hlt : j < N := by lia
    refine codeAny_builtin F.entry_max_loop ?_
    rw [Around.under_plainId F.plain_max_loop _]
    show wpAny _ A.in1 (seqItems? (.ref BS) >>= _) _ _ s
    refine wpAny_bind (wpAny_seqItems hbs rfl ?_)
    show wpAny _ A.in1 (tryCatch (pyNext (.ref IT)) _ >>= _) _ _ s
    refine wpAny_bind (wpAny_tryCatch (wpAny_pyNext_list_item hit ⟨_, st _ _ hL, rfl, _, rfl⟩ (x := e j) (by simp [hlt]) fun h' hit' ks => ?_))
    have st' : B.StaysIn h' := fun x o q => ks.extBut x o (fun z => by rw [z, hIT] at q; cases q) (st x o q)
    have hbs' := ks.extBut _ _ (Ne.symm hne) hbs
    refine wpAny_bind (m := pure (e j)) (wpAny_pure ?_)
    have hvj := hval j hlt
    have st2 := st'
    have hbs2 := hbs'
    have hit2 := hit'
    obtain ⟨h2, hh2⟩ : ∃ h2, h2 = h' := ⟨h', rfl⟩
    rw [← hh2] at st2 hbs2 hit2
    rw [← hh2]
    -- behind the key
    have fin : ∀ (h3 : Heap) tk3 (cc : Nat) (bs' : Array Value), B.StaysIn h3 → h3.IsListIter IT LST (j + 1) → h3.get? BS = some (listOf bs' cc) → (∃ v, bs' = #[e ((ordD sc (j + 1)).getD 0 0), v] ∧ V ((ordD sc (j + 1)).getD 0 0) v) →
        wpAny (model prog w) A.in1 (again (.builtin "max.loop" ⟨[.ref IT, .none, .ref BS], [(Str.ofString "default", d)]⟩)) (fun fin s' => match fin with
          | .done f => R (.ok f) s'
          | .again c' => c'.quiet = true ∧ codeAny (model prog w) A c' R s') (fun e s' => R (.error e) s') { s with heap := h3, toks := tk3 } := fun h3 tk3 cc bs' st3 hit3 hbs3 hv3 =>
      wpAny_pure ⟨plainId_quiet F.plain_max_loop _, ih (j + 1) { s with heap := h3, toks := tk3 } cc bs' (by lia) (by lia) st3 hit3 hbs3 (.inr ⟨by lia, hv3⟩) fun h' tk q => hR h' tk q⟩
    rcases hb with ⟨rfl, rfl⟩ | ⟨hj0, vb, rfl, hvb⟩
    · show wpAny _ A.in1 (updateSeq BS (fun _ => #[e 0, (e 0)]) >>= _) _ _ _
      refine wpAny_bind (wpAny_updateSeq hbs2 rfl ?_)
      obtain ⟨cc, hcc⟩ : ∃ cc, (h2.update BS (Obj.mapSeq fun _ => #[e 0, (e 0)])).get? BS = some (listOf #[e 0, (e 0)] cc) := ⟨_, get?_update_seq hbs2 fun _ => _⟩
      refine fin _ _ cc _ (fun x o q => (Heap.get?_update_other _ _ (fun z => by rw [← z, hBS] at q; cases q)).trans (st2 x o q)) (hit2.at fun o q => (Heap.get?_update_other _ _ (Ne.symm hne)).trans q) hcc ⟨(e 0), rfl, hvj⟩
    · show wpAny _ A.in1 (tryCatch (holding [e j, (e j)] do
        let answer ← richCompare .Gt (e j) vb
        let yes ← holding [answer] (truthy answer)
        letGo [answer]
        pure yes) _ >>= _) _ _ _
      refine wpAny_bind (wpAny_tryCatch (wpAny_holding (wpAny_bind (hcmp j ((ordD sc j).getD 0 0) (e j) vb _ _ _ hvj hvb hlt (by
        have hm : (ordD sc j).getD 0 0 ∈ ordD sc j := by
          have hl := ordD_len (sc := sc) j
          rw [List.getD_eq_getElem?_getD, List.getElem?_eq_getElem (by lia)]; exact List.getElem_mem _
        have := ordD_mem.mp hm; lia) st2 fun tk3 => ?_))))
      refine wpAny_bind (wpAny_holding (wpAny_truthy_bool ?_))
      refine wpAny_bind (wpAny_letGo (wpAny_pure ?_))
      have hhd : (ordD sc (j + 1)).getD 0 0 = if sc ((ordD sc j).getD 0 0) < sc j then j else (ordD sc j).getD 0 0 := ordD_head (by lia)
      by_cases hc : sc ((ordD sc j).getD 0 0) < sc j
      · simp only [hc, decide_true, if_true]
        rw [if_pos hc] at hhd
        refine wpAny_bind (wpAny_updateSeq hbs2 rfl ?_)
        refine wpAny_bind (wpAny_letGo ?_)
        obtain ⟨cc, hcc⟩ : ∃ cc, (h2.update BS (Obj.mapSeq fun _ => #[e j, (e j)])).get? BS = some (listOf #[e j, (e j)] cc) := ⟨_, get?_update_seq hbs2 fun _ => _⟩
        refine fin _ _ cc _ (fun x o q => (Heap.get?_update_other _ _ (fun z => by rw [← z, hBS] at q; cases q)).trans (st2 x o q)) (hit2.at fun o q => (Heap.get?_update_other _ _ (Ne.symm hne)).trans q) hcc ⟨(e j), by rw [hhd], by rw [hhd]; exact hvj⟩
      · simp only [hc, decide_false, Bool.false_eq_true, if_false]
        rw [if_neg hc] at hhd
        refine wpAny_bind (wpAny_letGo ?_)
        exact fin _ _ _ _ st2 hit2 hbs2 ⟨vb, by rw [hhd], by rw [hhd]; exact hvb⟩

theorem call_max_plain {IT LST : Addr} {B : Heap} {N : Nat} {e : Nat → Value} {c0 : Nat} {d : Value} {sc : Nat → Int} {V : Nat → Value → Prop} {Q : Value → Shared → Prop} (hh : A.handled = none)
    (hL : B.get? LST = some (listOf ((List.range N).map e).toArray c0)) (hIT : B.get? IT = none) (st : B.StaysIn s.heap) (hit : s.heap.get? IT = some (liObj LST 0))
    (hval : ∀ i, i < N → V i (e i))
    (hcmp : ∀ i j v v' (s : Shared) (Q : Value → Shared → Prop) (E : Value → Shared → Prop), V i v → V j v' → i < N → j < N → B.StaysIn s.heap → (∀ tk, Q (.bool (decide (sc j < sc i))) { s with toks := tk }) → wpAny (model prog w) A.in1 (richCompare .Gt v v') Q E s)
    (h : ∀ h' tk, B.StaysIn h' → Q (if N = 0 then d else e ((ordD sc N).getD 0 0)) { s with heap := h', toks := tk }) :
    wpAny (model prog w) A (call (.builtin "max") [.ref IT] [(Str.ofString "default", d), (Str.ofString "key", .none)]) Q E s := by
  have hname : (toString "max" ++ toString ".loop" : String) = "max.loop" := by decide
  refine wpAny_call (codeAny_call_builtin F.plain_max F.entry_max ?_)
  rw [check_max]
  refine wpAny_pure ?_
  show wpAny _ A.in1 (Builtin.Builtins.bindParams "max" ["key", "default"] 0 ⟨[], [(Str.ofString "default", d), (Str.ofString "key", .none)]⟩ >>= _) _ _ s
  refine wpAny_bind (wpAny_of_eq (show Builtin.Builtins.bindParams "max" ["key", "default"] 0 ⟨[], [(Str.ofString "default", d), (Str.ofString "key", .none)]⟩ = pure [some (.none), some d] from by first | rfl | kernel_rfl) ?_)
  refine wpAny_bind (wpAny_pure ?_)
  refine wpAny_bind (wpAny_pyIter_listiter (li_is hit) ?_)
  refine wpAny_bind (wpAny_newObj_type ?_)
  rw [hname]
  have hlt := Heap.lt_size hit
  have st2 : B.StaysIn (s.heap.push { cls := .type "list", data := .seq ([] : List Value).toArray }) := fun x o q => Heap.get?_push_of_some _ (st x o q)
  refine wpAny_pure ⟨plainId_quiet F.plain_max_loop _, loop_max_plain (B := B) (LST := LST) (e := e) (sc := sc) (V := V) hh (fun _ _ => trivial) hL hIT (Heap.StaysIn.fresh st) (Nat.ne_of_lt hlt) hval hcmp N 0 _ 0 #[] (by lia) (Nat.zero_le _) st2 ((li_is hit).at fun o q => Heap.get?_push_of_some _ q) (Heap.get?_push_size _ rfl) (.inl ⟨rfl, rfl⟩) fun h' tk q => h h' tk q⟩

theorem loop_max_key {IT BS LST : Addr} {B : Heap} {N : Nat} {e : Nat → Value} {c0 : Nat} {d : Value} {sc : Nat → Int} {V : Nat → Value → Prop} {fq : Addr} {R : Result → Shared → Prop} (hh : A.handled = none) (hsz : ∀ h : Heap, B.StaysIn h → True)
    (hL : B.get? LST = some (listOf ((List.range N).map e).toArray c0)) (hIT : B.get? IT = none) (hBS : B.get? BS = none) (hne : IT ≠ BS)
    (hval : ∀ i (b' : Heap) (s : Shared) (Q : Value → Shared → Prop) (E : Value → Shared → Prop), i < N → B.StaysIn b' → b'.StaysIn s.heap → b'.objs.size ≤ s.heap.objs.size → (∀ v h' tk, V i v → b'.StaysIn h' → Q v { s with heap := h', toks := tk }) → wpAny (model prog w) A.in1 (call (.ref fq) [e i]) Q E s)
    (hcmp : ∀ i j v v' (s : Shared) (Q : Value → Shared → Prop) (E : Value → Shared → Prop), V i v → V j v' → i < N → j < N → B.StaysIn s.heap → (∀ tk, Q (.bool (decide (sc j < sc i))) { s with toks := tk }) → wpAny (model prog w) A.in1 (richCompare .Gt v v') Q E s) :
    ∀ (k j : Nat) (s : Shared) (c : Nat) (bs : Array Value), N - j = k → j ≤ N → B.StaysIn s.heap → s.heap.IsListIter IT LST j → s.heap.get? BS = some (listOf bs c) →
      ((j = 0 ∧ bs = #[]) ∨ (0 < j ∧ ∃ v, bs = #[e ((ordD sc j).getD 0 0), v] ∧ V ((ordD sc j).getD 0 0) v)) →
      (∀ h' tk, B.StaysIn h' → R (.ok (.ret (if N = 0 then d else e ((ordD sc N).getD 0 0)))) { s with heap := h', toks := tk }) →
      codeAny (model prog w) A (.builtin "max.loop" ⟨[.ref IT, .ref fq, .ref BS], [(Str.ofString "default", d)]⟩) R s := by
  intro k
  induction k with
  | zero =>
    intro j s c bs hk hj st hit hbs hb hR
    have hjN : j = N := by lia
    subst hjN
    refine codeAny_builtin F.entry_max_loop ?_
    rw [Around.under_plainId F.plain_max_loop _]
    show wpAny _ A.in1 (seqItems? (.ref BS) >>= _) _ _ s
    refine wpAny_bind (wpAny_seqItems hbs rfl ?_)
    show wpAny _ A.in1 (tryCatch (pyNext (.ref IT)) _ >>= _) _ _ s
    refine wpAny_bind (wpAny_tryCatch (wpAny_pyNext_list_end (by exact hh) hit ⟨_, st _ _ hL, rfl, _, rfl⟩ (by simp) fun h' ke => ?_))
    have st' : B.StaysIn h' := fun x o q => ke x o (fun z => by rw [z, hIT] at q; cases q) (st x o q)
    have hbs' := ke _ _ (Ne.symm hne) hbs
    rcases hb with ⟨rfl, rfl⟩ | ⟨hj0, v, rfl, hv⟩
    · refine wpAny_bind (wpAny_rule (wpAny_pure ?_))
      exact hR _ _ st'
    · show wpAny _ A.in1 (updateSeq BS (fun _ => #[]) >>= _) _ _ _
      refine wpAny_bind (wpAny_updateSeq hbs' rfl (wpAny_bind (wpAny_letGo (wpAny_pure ?_))))
      have := hR (h'.update BS (Obj.mapSeq fun _ => #[])) s.toks fun x o q => (Heap.get?_update_other _ _ (fun z => by rw [← z, hBS] at q; cases q)).trans (st' x o q)
      rw [if_neg (by lia)] at this
      exact this
  | succ k ih =>
    intro j s c bs hk hj st hit hbs hb hR
    have hlt : j < N := by lia
    refine codeAny_builtin F.entry_max_loop ?_
    rw [Around.under_plainId F.plain_max_loop _]
    show wpAny _ A.in1 (seqItems? (.ref BS) >>= _) _ _ s
    refine wpAny_bind (wpAny_seqItems hbs rfl ?_)
    show wpAny _ A.in1 (tryCatch (pyNext (.ref IT)) _ >>= _) _ _ s
    refine wpAny_bind (wpAny_tryCatch (wpAny_pyNext_list_item hit ⟨_, st _ _ hL, rfl, _, rfl⟩ (x := e j) (by simp [hlt]) fun h' hit' ks => ?_))
    have st' : B.StaysIn h' := fun x o q => ks.extBut x o (fun z => by rw [z, hIT] at q; cases q) (st x o q)
    have hbs' := ks.extBut _ _ (Ne.symm hne) hbs
    show wpAny _ A.in1 (tryCatch (holding [e j] (call (.ref fq) [e j])) _ >>= _) _ _ _
    refine wpAny_bind (wpAny_tryCatch (wpAny_holding (hval j h' _ _ _ hlt st' (fun _ _ q => q) (Nat.le_refl _) fun val h2 tk2 hvj st2' => ?_)))
    have st2 : B.StaysIn h2 := fun x o q => st2' _ _ (st' x o q)
    have hbs2 := st2' _ _ hbs'
    have hit2 : h2.IsListIter IT LST (j + 1) := hit'.at fun o q => st2' _ _ q
    -- behind the key
    have fin : ∀ (h3 : Heap) tk3 (cc : Nat) (bs' : Array Value), B.StaysIn h3 → h3.IsListIter IT LST (j + 1) → h3.get? BS = some (listOf bs' cc) → (∃ v, bs' = #[e ((ordD sc (j + 1)).getD 0 0), v] ∧ V ((ordD sc (j + 1)).getD 0 0) v) →
        wpAny (model prog w) A.in1 (again (.builtin "max.loop" ⟨[.ref IT, .ref fq, .ref BS], [(Str.ofString "default", d)]⟩)) (fun fin s' => match fin with
          | .done f => R (.ok f) s'
          | .again c' => c'.quiet = true ∧ codeAny (model prog w) A c' R s') (fun e s' => R (.error e) s') { s with heap := h3, toks := tk3 } := fun h3 tk3 cc bs' st3 hit3 hbs3 hv3 =>
      wpAny_pure ⟨plainId_quiet F.plain_max_loop _, ih (j + 1) { s with heap := h3, toks := tk3 } cc bs' (by lia) (by lia) st3 hit3 hbs3 (.inr ⟨by lia, hv3⟩) fun h' tk q => hR h' tk q⟩
    rcases hb with ⟨rfl, rfl⟩ | ⟨hj0, vb, rfl, hvb⟩
    · show wpAny _ A.in1 (updateSeq BS (fun _ => #[e 0, val]) >>= _) _ _ _
      refine wpAny_bind (wpAny_updateSeq hbs2 rfl ?_)
      obtain ⟨cc, hcc⟩ : ∃ cc, (h2.update BS (Obj.mapSeq fun _ => #[e 0, val])).get? BS = some (listOf #[e 0, val] cc) := ⟨_, get?_update_seq hbs2 fun _ => _⟩
      refine fin _ _ cc _ (fun x o q => (Heap.get?_update_other _ _ (fun z => by rw [← z, hBS] at q; cases q)).trans (st2 x o q)) (hit2.at fun o q => (Heap.get?_update_other _ _ (Ne.symm hne)).trans q) hcc ⟨val, rfl, hvj⟩
    · show wpAny _ A.in1 (tryCatch (holding [e j, val] do
        let answer ← richCompare .Gt val vb
        let yes ← holding [answer] (truthy answer)
        letGo [answer]
        pure yes) _ >>= _) _ _ _
      refine wpAny_bind (wpAny_tryCatch (wpAny_holding (wpAny_bind (hcmp j ((ordD sc j).getD 0 0) val vb _ _ _ hvj hvb hlt (by
        have hm : (ordD sc j).getD 0 0 ∈ ordD sc j := by
          have hl := ordD_len (sc := sc) j
          rw [List.getD_eq_getElem?_getD, List.getElem?_eq_getElem (by lia)]; exact List.getElem_mem _
        have := ordD_mem.mp hm; lia) st2 fun tk3 => ?_))))
      refine wpAny_bind (wpAny_holding (wpAny_truthy_bool ?_))
      refine wpAny_bind (wpAny_letGo (wpAny_pure ?_))
      have hhd : (ordD sc (j + 1)).getD 0 0 = if sc ((ordD sc j).getD 0 0) < sc j then j else (ordD sc j).getD 0 0 := ordD_head (by lia)
      by_cases hc : sc ((ordD sc j).getD 0 0) < sc j
      · simp only [hc, decide_true, if_true]
        rw [if_pos hc] at hhd
        refine wpAny_bind (wpAny_updateSeq hbs2 rfl ?_)
        refine wpAny_bind (wpAny_letGo ?_)
        obtain ⟨cc, hcc⟩ : ∃ cc, (h2.update BS (Obj.mapSeq fun _ => #[e j, val])).get? BS = some (listOf #[e j, val] cc) := ⟨_, get?_update_seq hbs2 fun _ => _⟩
        refine fin _ _ cc _ (fun x o q => (Heap.get?_update_other _ _ (fun z => by rw [← z, hBS] at q; cases q)).trans (st2 x o q)) (hit2.at fun o q => (Heap.get?_update_other _ _ (Ne.symm hne)).trans q) hcc ⟨val, by rw [hhd], by rw [hhd]; exact hvj⟩
      · simp only [hc, decide_false, Bool.false_eq_true, if_false]
        rw [if_neg hc] at hhd
        refine wpAny_bind (wpAny_letGo ?_)
        exact fin _ _ _ _ st2 hit2 hbs2 ⟨vb, by rw [hhd], by rw [hhd]; exact hvb⟩

theorem call_max_key {IT LST : Addr} {B : Heap} {N : Nat} {e : Nat → Value} {c0 : Nat} {d : Value} {sc : Nat → Int} {V : Nat → Value → Prop} {fq : Addr} {Q : Value → Shared → Prop} (hh : A.handled = none)
    (hL : B.get? LST = some (listOf ((List.range N).map e).toArray c0)) (hIT : B.get? IT = none) (st : B.StaysIn s.heap) (hit : s.heap.get? IT = some (liObj LST 0))
    (hval : ∀ i (b' : Heap) (s : Shared) (Q : Value → Shared → Prop) (E : Value → Shared → Prop), i < N → B.StaysIn b' → b'.StaysIn s.heap → b'.objs.size ≤ s.heap.objs.size → (∀ v h' tk, V i v → b'.StaysIn h' → Q v { s with heap := h', toks := tk }) → wpAny (model prog w) A.in1 (call (.ref fq) [e i]) Q E s)
    (hcmp : ∀ i j v v' (s : Shared) (Q : Value → Shared → Prop) (E : Value → Shared → Prop), V i v → V j v' → i < N → j < N → B.StaysIn s.heap → (∀ tk, Q (.bool (decide (sc j < sc i))) { s with toks := tk }) → wpAny (model prog w) A.in1 (richCompare .Gt v v') Q E s)
    (h : ∀ h' tk, B.StaysIn h' → Q (if N = 0 then d else e ((ordD sc N).getD 0 0)) { s with heap := h', toks := tk }) :
    wpAny (model prog w) A (call (.builtin "max") [.ref IT] [(Str.ofString "default", d), (Str.ofString "key", .ref fq)]) Q E s := by
  have hname : (toString "max" ++ toString ".loop" : String) = "max.loop" := by decide
  refine wpAny_call (codeAny_call_builtin F.plain_max F.entry_max ?_)
  rw [check_max]
  refine wpAny_pure ?_
  show wpAny _ A.in1 (Builtin.Builtins.bindParams "max" ["key", "default"] 0 ⟨[], [(Str.ofString "default", d), (Str.ofString "key", .ref fq)]⟩ >>= _) _ _ s
  refine wpAny_bind (wpAny_of_eq (show Builtin.Builtins.bindParams "max" ["key", "default"] 0 ⟨[], [(Str.ofString "default", d), (Str.ofString "key", .ref fq)]⟩ = pure [some (.ref fq), some d] from by first | rfl | kernel_rfl) ?_)
  refine wpAny_bind (wpAny_pure ?_)
  refine wpAny_bind (wpAny_pyIter_listiter (li_is hit) ?_)
  refine wpAny_bind (wpAny_newObj_type ?_)
  rw [hname]
  have hlt := Heap.lt_size hit
  have st2 : B.StaysIn (s.heap.push { cls := .type "list", data := .seq ([] : List Value).toArray }) := fun x o q => Heap.get?_push_of_some _ (st x o q)
  refine wpAny_pure ⟨plainId_quiet F.plain_max_loop _, loop_max_key (B := B) (LST := LST) (e := e) (sc := sc) (V := V) hh (fun _ _ => trivial) hL hIT (Heap.StaysIn.fresh st) (Nat.ne_of_lt hlt) hval hcmp N 0 _ 0 #[] (by lia) (Nat.zero_le _) st2 ((li_is hit).at fun o q => Heap.get?_push_of_some _ q) (Heap.get?_push_size _ rfl) (.inl ⟨rfl, rfl⟩) fun h' tk q => h h' tk q⟩

theorem check_min (x k d : Value) : checkBuiltinCall "min" ⟨[x], [(Str.ofString "default", d), (Str.ofString "key", k)]⟩ = pure () := by kernel_rfl
theorem loop_min_plain {IT BS LST : Addr} {B : Heap} {N : Nat} {e : Nat → Value} {c0 : Nat} {d : Value} {sc : Nat → Int} {V : Nat → Value → Prop} {R : Result → Shared → Prop} (hh : A.handled = none) (hsz : ∀ h : Heap, B.StaysIn h → True)
    (hL : B.get? LST = some (listOf ((List.range N).map e).toArray c0)) (hIT : B.get? IT = none) (hBS : B.get? BS = none) (hne : IT ≠ BS)
    (hval : ∀ i, i < N → V i (e i))
    (hcmp : ∀ i j v v' (s : Shared) (Q : Value → Shared → Prop) (E : Value → Shared → Prop), V i v → V j v' → i < N → j < N → B.StaysIn s.heap → (∀ tk, Q (.bool (decide (sc j < sc i))) { s with toks := tk }) → wpAny (model prog w) A.in1 (richCompare .Lt v v') Q E s) :
    ∀ (k j : Nat) (s : Shared) (c : Nat) (bs : Array Value), N - j = k → j ≤ N → B.StaysIn s.heap → s.heap.IsListIter IT LST j → s.heap.get? BS = some (listOf bs c) →
      ((j = 0 ∧ bs = #[]) ∨ (0 < j ∧ ∃ v, bs = #[e ((ordD sc j).getD 0 0), v] ∧ V ((ordD sc j).getD 0 0) v)) →
      (∀ h' tk, B.StaysIn h' → R (.ok (.ret (if N = 0 then d else e ((ordD sc N).getD 0 0)))) { s with heap := h', toks := tk }) →
      codeAny (model prog w) A (.builtin "min.loop" ⟨[.ref IT, .none, .ref BS], [(Str.ofString "default", d)]⟩) R s := by
  intro k
  induction k with
  | zero =>
    intro j s c bs hk hj st hit hbs hb hR
    have hjN : j = N := by lia
    subst hjN
    refine codeAny_builtin F.entry_min_loop ?_
    rw [Around.under_plainId F.plain_min_loop _]
    show wpAny _ A.in1 (seqItems? (.ref BS) >>= _) _ _ s
    refine wpAny_bind (wpAny_seqItems hbs rfl ?_)
    show wpAny _ A.in1 (tryCatch (pyNext (.ref IT)) _ >>= _) _ _ s
    refine wpAny_bind (wpAny_tryCatch (wpAny_pyNext_list_end (by exact hh) hit ⟨_, st _ _ hL, rfl, _, rfl⟩ (by simp) fun h' ke => ?_))
    have st' : B.StaysIn h' := fun x o q => ke x o (fun z => by rw [z, hIT] at q; cases q) (st x o q)
    have hbs' := ke _ _ (Ne.symm hne) hbs
    rcases hb with ⟨rfl, rfl⟩ | ⟨hj0, v, rfl, hv⟩
    · refine wpAny_bind (wpAny_rule (wpAny_pure ?_))
      exact hR _ _ st'
    · show wpAny _ A.in1 (updateSeq BS (fun _ => #[]) >>= _) _ _ _
      refine wpAny_bind (wpAny_updateSeq hbs' rfl (wpAny_bind (wpAny_letGo (wpAny_pure ?_))))
      have := hR (h'.update BS (Obj.mapSeq fun _ => #[])) s.toks fun x o q => (Heap.get?_update_other _ _ (fun z => by rw [← z, hBS] at q; cases q)).trans (st' x o q)
      rw [if_neg (by lia)] at this
      exact this
  | succ k ih =>
    intro j s c bs hk hj st hit hbs hb hR
    have hlt : j < N := by lia
    refine codeAny_builtin F.entry_min_loop ?_
    rw [Around.under_plainId F.plain_min_loop _]
    show wpAny _ A.in1 (seqItems? (.ref BS) >>= _) _ _ s
    refine wpAny_bind (wpAny_seqItems hbs rfl ?_)
    show wpAny _ A.in1 (tryCatch (pyNext (.ref IT)) _ >>= _) _ _ s
    refine wpAny_bind (wpAny_tryCatch (wpAny_pyNext_list_item hit ⟨_, st _ _ hL, rfl, _, rfl⟩ (x := e j) (by simp [hlt]) fun h' hit' ks => ?_))
    have st' : B.StaysIn h' := fun x o q => ks.extBut x o (fun z => by rw [z, hIT] at q; cases q) (st x o q)
    have hbs' := ks.extBut _ _ (Ne.symm hne) hbs
    refine wpAny_bind (m := pure (e j)) (wpAny_pure ?_)
    have hvj := hval j hlt
    have st2 := st'
    have hbs2 := hbs'
    have hit2 := hit'
    obtain ⟨h2, hh2⟩ : ∃ h2, h2 = h' := ⟨h', rfl⟩
    rw [← hh2] at st2 hbs2 hit2
    rw [← hh2]
    -- behind the key
    have fin : ∀ (h3 : Heap) tk3 (cc : Nat) (bs' : Array Value), B.StaysIn h3 → h3.IsListIter IT LST (j + 1) → h3.get? BS = some (listOf bs' cc) → (∃ v, bs' = #[e ((ordD sc (j + 1)).getD 0 0), v] ∧ V ((ordD sc (j + 1)).getD 0 0) v) →
        wpAny (model prog w) A.in1 (again (.builtin "min.loop" ⟨[.ref IT, .none, .ref BS], [(Str.ofString "default", d)]⟩)) (fun fin s' => match fin with
          | .done f => R (.ok f) s'
          | .again c' => c'.quiet = true ∧ codeAny (model prog w) A c' R s') (fun e s' => R (.error e) s') { s with heap := h3, toks := tk3 } := fun h3 tk3 cc bs' st3 hit3 hbs3 hv3 =>
      wpAny_pure ⟨plainId_quiet F.plain_min_loop _, ih (j + 1) { s with heap := h3, toks := tk3 } cc bs' (by lia) (by lia) st3 hit3 hbs3 (.inr ⟨by lia, hv3⟩) fun h' tk q => hR h' tk q⟩
    rcases hb with ⟨rfl, rfl⟩ | ⟨hj0, vb, rfl, hvb⟩
    · show wpAny _ A.in1 (updateSeq BS (fun _ => #[e 0, (e 0)]) >>= _) _ _ _
      refine wpAny_bind (wpAny_updateSeq hbs2 rfl ?_)
      obtain ⟨cc, hcc⟩ : ∃ cc, (h2.update BS (Obj.mapSeq fun _ => #[e 0, (e 0)])).get? BS = some (listOf #[e 0, (e 0)] cc) := ⟨_, get?_update_seq hbs2 fun _ => _⟩
      refine fin _ _ cc _ (fun x o q => (Heap.get?_update_other _ _ (fun z => by rw [← z, hBS] at q; cases q)).trans (st2 x o q)) (hit2.at fun o q => (Heap.get?_update_other _ _ (Ne.symm hne)).trans q) hcc ⟨(e 0), rfl, hvj⟩
    · show wpAny _ A.in1 (tryCatch (holding [e j, (e j)] do
        let answer ← richCompare .Lt (e j) vb
        let yes ← holding [answer] (truthy answer)
        letGo [answer]
        pure yes) _ >>= _) _ _ _
      refine wpAny_bind (wpAny_tryCatch (wpAny_holding (wpAny_bind (hcmp j ((ordD sc j).getD 0 0) (e j) vb _ _ _ hvj hvb hlt (by
        have hm : (ordD sc j).getD 0 0 ∈ ordD sc j := by
          have hl := ordD_len (sc := sc) j
          rw [List.getD_eq_getElem?_getD, List.getElem?_eq_getElem (by lia)]; exact List.getElem_mem _
        have := ordD_mem.mp hm; lia) st2 fun tk3 => ?_))))
      refine wpAny_bind (wpAny_holding (wpAny_truthy_bool ?_))
      refine wpAny_bind (wpAny_letGo (wpAny_pure ?_))
      have hhd : (ordD sc (j + 1)).getD 0 0 = if sc ((ordD sc j).getD 0 0) < sc j then j else (ordD sc j).getD 0 0 := ordD_head (by lia)
      by_cases hc : sc ((ordD sc j).getD 0 0) < sc j
      · simp only [hc, decide_true, if_true]
        rw [if_pos hc] at hhd
        refine wpAny_bind (wpAny_updateSeq hbs2 rfl ?_)
        refine wpAny_bind (wpAny_letGo ?_)
        obtain ⟨cc, hcc⟩ : ∃ cc, (h2.update BS (Obj.mapSeq fun _ => #[e j, (e j)])).get? BS = some (listOf #[e j, (e j)] cc) := ⟨_, get?_update_seq hbs2 fun _ => _⟩
        refine fin _ _ cc _ (fun x o q => (Heap.get?_update_other _ _ (fun z => by rw [← z, hBS] at q; cases q)).trans (st2 x o q)) (hit2.at fun o q => (Heap.get?_update_other _ _ (Ne.symm hne)).trans q) hcc ⟨(e j), by rw [hhd], by rw [hhd]; exact hvj⟩
      · simp only [hc, decide_false, Bool.false_eq_true, if_false]
        rw [if_neg hc] at hhd
        refine wpAny_bind (wpAny_letGo ?_)
        exact fin _ _ _ _ st2 hit2 hbs2 ⟨vb, by rw [hhd], by rw [hhd]; exact hvb⟩

theorem call_min_plain {IT LST : Addr} {B : Heap} {N : Nat} {e : Nat → Value} {c0 : Nat} {d : Value} {sc : Nat → Int} {V : Nat → Value → Prop} {Q : Value → Shared → Prop} (hh : A.handled = none)
    (hL : B.get? LST = some (listOf ((List.range N).map e).toArray c0)) (hIT : B.get? IT = none) (st : B.StaysIn s.heap) (hit : s.heap.get? IT = some (liObj LST 0))
    (hval : ∀ i, i < N → V i (e i))
    (hcmp : ∀ i j v v' (s : Shared) (Q : Value → Shared → Prop) (E : Value → Shared → Prop), V i v → V j v' → i < N → j < N → B.StaysIn s.heap → (∀ tk, Q (.bool (decide (sc j < sc i))) { s with toks := tk }) → wpAny (model prog w) A.in1 (richCompare .Lt v v') Q E s)
    (h : ∀ h' tk, B.StaysIn h' → Q (if N = 0 then d else e ((ordD sc N).getD 0 0)) { s with heap := h', toks := tk }) :
    wpAny (model prog w) A (call (.builtin "min") [.ref IT] [(Str.ofString "default", d), (Str.ofString "key", .none)]) Q E s := by
  have hname : (toString "min" ++ toString ".loop" : String) = "min.loop" := by decide
  refine wpAny_call (codeAny_call_builtin F.plain_min F.entry_min ?_)
  rw [check_min]
  refine wpAny_pure ?_
  show wpAny _ A.in1 (Builtin.Builtins.bindParams "min" ["key", "default"] 0 ⟨[], [(Str.ofString "default", d), (Str.ofString "key", .none)]⟩ >>= _) _ _ s
  refine wpAny_bind (wpAny_of_eq (show Builtin.Builtins.bindParams "min" ["key", "default"] 0 ⟨[], [(Str.ofString "default", d), (Str.ofString "key", .none)]⟩ = pure [some (.none), some d] from by first | rfl | kernel_rfl) ?_)
  refine wpAny_bind (wpAny_pure ?_)
  refine wpAny_bind (wpAny_pyIter_listiter (li_is hit) ?_)
  refine wpAny_bind (wpAny_newObj_type ?_)
  rw [hname]
  have hlt := Heap.lt_size hit
  have st2 : B.StaysIn (s.heap.push { cls := .type "list", data := .seq ([] : List Value).toArray }) := fun x o q => Heap.get?_push_of_some _ (st x o q)
  refine wpAny_pure ⟨plainId_quiet F.plain_min_loop _, loop_min_plain (B := B) (LST := LST) (e := e) (sc := sc) (V := V) hh (fun _ _ => trivial) hL hIT (Heap.StaysIn.fresh st) (Nat.ne_of_lt hlt) hval hcmp N 0 _ 0 #[] (by lia) (Nat.zero_le _) st2 ((li_is hit).at fun o q => Heap.get?_push_of_some _ q) (Heap.get?_push_size _ rfl) (.inl ⟨rfl, rfl⟩) fun h' tk q => h h' tk q⟩

theorem loop_min_key {IT BS LST : Addr} {B : Heap} {N : Nat} {e : Nat → Value} {c0 : Nat} {d : Value} {sc : Nat → Int} {V : Nat → Value → Prop} {fq : Addr} {R : Result → Shared → Prop} (hh : A.handled = none) (hsz : ∀ h : Heap, B.StaysIn h → True)
    (hL : B.get? LST = some (listOf ((List.range N).map e).toArray c0)) (hIT : B.get? IT = none) (hBS : B.get? BS = none) (hne : IT ≠ BS)
    (hval : ∀ i (b' : Heap) (s : Shared) (Q : Value → Shared → Prop) (E : Value → Shared → Prop), i < N → B.StaysIn b' → b'.StaysIn s.heap → b'.objs.size ≤ s.heap.objs.size → (∀ v h' tk, V i v → b'.StaysIn h' → Q v { s with heap := h', toks := tk }) → wpAny (model prog w) A.in1 (call (.ref fq) [e i]) Q E s)
    (hcmp : ∀ i j v v' (s : Shared) (Q : Value → Shared → Prop) (E : Value → Shared → Prop), V i v → V j v' → i < N → j < N → B.StaysIn s.heap → (∀ tk, Q (.bool (decide (sc j < sc i))) { s with toks := tk }) → wpAny (model prog w) A.in1 (richCompare .Lt v v') Q E s) :
    ∀ (k j : Nat) (s : Shared) (c : Nat) (bs : Array Value), N - j = k → j ≤ N → B.StaysIn s.heap → s.heap.IsListIter IT LST j → s.heap.get? BS = some (listOf bs c) →
      ((j = 0 ∧ bs = #[]) ∨ (0 < j ∧ ∃ v, bs = #[e ((ordD sc j).getD 0 0), v] ∧ V ((ordD sc j).getD 0 0) v)) →
      (∀ h' tk, B.StaysIn h' → R (.ok (.ret (if N = 0 then d else e ((ordD sc N).getD 0 0)))) { s with heap := h', toks := tk }) →
      codeAny (model prog w) A (.builtin "min.loop" ⟨[.ref IT, .ref fq, .ref BS], [(Str.ofString "default", d)]⟩) R s := by
  intro k
  induction k with
  | zero =>
    intro j s c bs hk hj st hit hbs hb hR
    have hjN : j = N := by lia
    subst hjN
    refine codeAny_builtin F.entry_min_loop ?_
    rw [Around.under_plainId F.plain_min_loop _]
    show wpAny _ A.in1 (seqItems? (.ref BS) >>= _) _ _ s
    refine wpAny_bind (wpAny_seqItems hbs rfl ?_)
    show wpAny _ A.in1 (tryCatch (pyNext (.ref IT)) _ >>= _) _ _ s
    refine wpAny_bind (wpAny_tryCatch (wpAny_pyNext_list_end (by exact hh) hit ⟨_, st _ _ hL, rfl, _, rfl⟩ (by simp) fun h' ke => ?_))
    have st' : B.StaysIn h' := fun x o q => ke x o (fun z => by rw [z, hIT] at q; cases q) (st x o q)
    have hbs' := ke _ _ (Ne.symm hne) hbs
    rcases hb with ⟨rfl, rfl⟩ | ⟨hj0, v, rfl, hv⟩
    · refine wpAny_bind (wpAny_rule (wpAny_pure ?_))
      exact hR _ _ st'
    · show wpAny _ A.in1 (updateSeq BS (fun _ => #[]) >>= _) _ _ _
      refine wpAny_bind (wpAny_updateSeq hbs' rfl (wpAny_bind (wpAny_letGo (wpAny_pure ?_))))
      have := hR (h'.update BS (Obj.mapSeq fun _ => #[])) s.toks fun x o q => (Heap.get?_update_other _ _ (fun z => by rw [← z, hBS] at q; cases q)).trans (st' x o q)
      rw [if_neg (by lia)] at this
      exact this
  | succ k ih =>
    intro j s c bs hk hj st hit hbs hb hR
    have hlt : j < N := by lia
    refine codeAny_builtin F.entry_min_loop ?_
    rw [Around.under_plainId F.plain_min_loop _]
    show wpAny _ A.in1 (seqItems? (.ref BS) >>= _) _ _ s
    refine wpAny_bind (wpAny_seqItems hbs rfl ?_)
    show wpAny _ A.in1 (tryCatch (pyNext (.ref IT)) _ >>= _) _ _ s
    refine wpAny_bind (wpAny_tryCatch (wpAny_pyNext_list_item hit ⟨_, st _ _ hL, rfl, _, rfl⟩ (x := e j) (by simp [hlt]) fun h' hit' ks => ?_))
    have st' : B.StaysIn h' := fun x o q => ks.extBut x o (fun z => by rw [z, hIT] at q; cases q) (st x o q)
    have hbs' := ks.extBut _ _ (Ne.symm hne) hbs
    show wpAny _ A.in1 (tryCatch (holding [e j] (call (.ref fq) [e j])) _ >>= _) _ _ _
    refine wpAny_bind (wpAny_tryCatch (wpAny_holding (hval j h' _ _ _ hlt st' (fun _ _ q => q) (Nat.le_refl _) fun val h2 tk2 hvj st2' => ?_)))
    have st2 : B.StaysIn h2 := fun x o q => st2' _ _ (st' x o q)
    have hbs2 := st2' _ _ hbs'
    have hit2 : h2.IsListIter IT LST (j + 1) := hit'.at fun o q => st2' _ _ q
    -- behind the key
    have fin : ∀ (h3 : Heap) tk3 (cc : Nat) (bs' : Array Value), B.StaysIn h3 → h3.IsListIter IT LST (j + 1) → h3.get? BS = some (listOf bs' cc) → (∃ v, bs' = #[e ((ordD sc (j + 1)).getD 0 0), v] ∧ V ((ordD sc (j + 1)).getD 0 0) v) →
        wpAny (model prog w) A.in1 (again (.builtin "min.loop" ⟨[.ref IT, .ref fq, .ref BS], [(Str.ofString "default", d)]⟩)) (fun fin s' => match fin with
          | .done f => R (.ok f) s'
          | .again c' => c'.quiet = true ∧ codeAny (model prog w) A c' R s') (fun e s' => R (.error e) s') { s with heap := h3, toks := tk3 } := fun h3 tk3 cc bs' st3 hit3 hbs3 hv3 =>
      wpAny_pure ⟨plainId_quiet F.plain_min_loop _, ih (j + 1) { s with heap := h3, toks := tk3 } cc bs' (by lia) (by lia) st3 hit3 hbs3 (.inr ⟨by lia, hv3⟩) fun h' tk q => hR h' tk q⟩
    rcases hb with ⟨rfl, rfl⟩ | ⟨hj0, vb, rfl, hvb⟩
    · show wpAny _ A.in1 (updateSeq BS (fun _ => #[e 0, val]) >>= _) _ _ _
      refine wpAny_bind (wpAny_updateSeq hbs2 rfl ?_)
      obtain ⟨cc, hcc⟩ : ∃ cc, (h2.update BS (Obj.mapSeq fun _ => #[e 0, val])).get? BS = some (listOf #[e 0, val] cc) := ⟨_, get?_update_seq hbs2 fun _ => _⟩
      refine fin _ _ cc _ (fun x o q => (Heap.get?_update_other _ _ (fun z => by rw [← z, hBS] at q; cases q)).trans (st2 x o q)) (hit2.at fun o q => (Heap.get?_update_other _ _ (Ne.symm hne)).trans q) hcc ⟨val, rfl, hvj⟩
    · show wpAny _ A.in1 (tryCatch (holding [e j, val] do
        let answer ← richCompare .Lt val vb
        let yes ← holding [answer] (truthy answer)
        letGo [answer]
        pure yes) _ >>= _) _ _ _
      refine wpAny_bind (wpAny_tryCatch (wpAny_holding (wpAny_bind (hcmp j ((ordD sc j).getD 0 0) val vb _ _ _ hvj hvb hlt (by
        have hm : (ordD sc j).getD 0 0 ∈ ordD sc j := by
          have hl := ordD_len (sc := sc) j
          rw [List.getD_eq_getElem?_getD, List.getElem?_eq_getElem (by lia)]; exact List.getElem_mem _
        have := ordD_mem.mp hm; lia) st2 fun tk3 => ?_))))
      refine wpAny_bind (wpAny_holding (wpAny_truthy_bool ?_))
      refine wpAny_bind (wpAny_letGo (wpAny_pure ?_))
      have hhd : (ordD sc (j + 1)).getD 0 0 = if sc ((ordD sc j).getD 0 0) < sc j then j else (ordD sc j).getD 0 0 := ordD_head (by lia)
      by_cases hc : sc ((ordD sc j).getD 0 0) < sc j
      · simp only [hc, decide_true, if_true]
        rw [if_pos hc] at hhd
        refine wpAny_bind (wpAny_updateSeq hbs2 rfl ?_)
        refine wpAny_bind (wpAny_letGo ?_)
        obtain ⟨cc, hcc⟩ : ∃ cc, (h2.update BS (Obj.mapSeq fun _ => #[e j, val])).get? BS = some (listOf #[e j, val] cc) := ⟨_, get?_update_seq hbs2 fun _ => _⟩
        refine fin _ _ cc _ (fun x o q => (Heap.get?_update_other _ _ (fun z => by rw [← z, hBS] at q; cases q)).trans (st2 x o q)) (hit2.at fun o q => (Heap.get?_update_other _ _ (Ne.symm hne)).trans q) hcc ⟨val, by rw [hhd], by rw [hhd]; exact hvj⟩
      · simp only [hc, decide_false, Bool.false_eq_true, if_false]
        rw [if_neg hc] at hhd
        refine wpAny_bind (wpAny_letGo ?_)
        exact fin _ _ _ _ st2 hit2 hbs2 ⟨vb, by rw [hhd], by rw [hhd]; exact hvb⟩

theorem call_min_key {IT LST : Addr} {B : Heap} {N : Nat} {e : Nat → Value} {c0 : Nat} {d : Value} {sc : Nat → Int} {V : Nat → Value → Prop} {fq : Addr} {Q : Value → Shared → Prop} (hh : A.handled = none)
    (hL : B.get? LST = some (listOf ((List.range N).map e).toArray c0)) (hIT : B.get? IT = none) (st : B.StaysIn s.heap) (hit : s.heap.get? IT = some (liObj LST 0))
    (hval : ∀ i (b' : Heap) (s : Shared) (Q : Value → Shared → Prop) (E : Value → Shared → Prop), i < N → B.StaysIn b' → b'.StaysIn s.heap → b'.objs.size ≤ s.heap.objs.size → (∀ v h' tk, V i v → b'.StaysIn h' → Q v { s with heap := h', toks := tk }) → wpAny (model prog w) A.in1 (call (.ref fq) [e i]) Q E s)
    (hcmp : ∀ i j v v' (s : Shared) (Q : Value → Shared → Prop) (E : Value → Shared → Prop), V i v → V j v' → i < N → j < N → B.StaysIn s.heap → (∀ tk, Q (.bool (decide (sc j < sc i))) { s with toks := tk }) → wpAny (model prog w) A.in1 (richCompare .Lt v v') Q E s)
    (h : ∀ h' tk, B.StaysIn h' → Q (if N = 0 then d else e ((ordD sc N).getD 0 0)) { s with heap := h', toks := tk }) :
    wpAny (model prog w) A (call (.builtin "min") [.ref IT] [(Str.ofString "default", d), (Str.ofString "key", .ref fq)]) Q E s := by
  have hname : (toString "min" ++ toString ".loop" : String) = "min.loop" := by decide
  refine wpAny_call (codeAny_call_builtin F.plain_min F.entry_min ?_)
  rw [check_min]
  refine wpAny_pure ?_
  show wpAny _ A.in1 (Builtin.Builtins.bindParams "min" ["key", "default"] 0 ⟨[], [(Str.ofString "default", d), (Str.ofString "key", .ref fq)]⟩ >>= _) _ _ s
  refine wpAny_bind (wpAny_of_eq (show Builtin.Builtins.bindParams "min" ["key", "default"] 0 ⟨[], [(Str.ofString "default", d), (Str.ofString "key", .ref fq)]⟩ = pure [some (.ref fq), some d] from by first | rfl | kernel_rfl) ?_)
  refine wpAny_bind (wpAny_pure ?_)
  refine wpAny_bind (wpAny_pyIter_listiter (li_is hit) ?_)
  refine wpAny_bind (wpAny_newObj_type ?_)
  rw [hname]
  have hlt := Heap.lt_size hit
  have st2 : B.StaysIn (s.heap.push { cls := .type "list", data := .seq ([] : List Value).toArray }) := fun x o q => Heap.get?_push_of_some _ (st x o q)
  refine wpAny_pure ⟨plainId_quiet F.plain_min_loop _, loop_min_key (B := B) (LST := LST) (e := e) (sc := sc) (V := V) hh (fun _ _ => trivial) hL hIT (Heap.StaysIn.fresh st) (Nat.ne_of_lt hlt) hval hcmp N 0 _ 0 #[] (by lia) (Nat.zero_le _) st2 ((li_is hit).at fun o q => Heap.get?_push_of_some _ q) (Heap.get?_push_size _ rfl) (.inl ⟨rfl, rfl⟩) fun h' tk q => h h' tk q⟩

end
-- B5
section
variable {prog : Program} {w : World} {A : Around} {E : Value → Shared → Prop} {s : Shared}

theorem check_sorted1 (x k : Value) : checkBuiltinCall "sorted" ⟨[x], [(Str.ofString "key", k)]⟩ = pure () := by kernel_rfl
theorem check_sorted2 (x k r : Value) : checkBuiltinCall "sorted" ⟨[x], [(Str.ofString "key", k), (Str.ofString "reverse", r)]⟩ = pure () := by kernel_rfl

/-- sorted(list, ..): a new list, then its sort -/
theorem call_sorted_of {l : Addr} {vs : List Value} {c : Nat} {kw : List (Str × Value)} {Q : Value → Shared → Prop} (hck : ∀ x, checkBuiltinCall "sorted" ⟨[x], kw⟩ = pure ()) (hok : ∀ a : Value, argsOk "list.sort" ⟨[a], kw⟩)
    (hl : s.heap.get? l = some (listOf vs.toArray c)) (h64 : vs.length < 64)
    (h : ∀ R h', s.heap.StaysIn h' → s.heap.get? R = none → h'.get? R = some (listOf vs.toArray 0) →
      wpAny (model prog w) A.in1.in1 (Builtin.«list.sort» ⟨[.ref R], kw⟩) (fun fin s' => ∃ v, fin = .done (.ret v) ∧ Q (.ref R) s') E { s with heap := h' }) :
    wpAny (model prog w) A (call (.builtin "sorted") [.ref l] kw) Q E s := by
  refine wpAny_call (codeAny_call_builtin plain_sorted entry_sorted ?_)
  rw [hck]
  refine wpAny_pure ?_
  unfold Builtin.«sorted»
  refine wpAny_bind (m := checkCount "sorted" 1 1 _) (wpAny_pure ?_)
  refine wpAny_bind (collect_list (PySem.IsL.isList hl) ?_ (by rw [sizeLine_eq]; lia))
  refine wpAny_bind (wpAny_newList ?_ (by rw [sizeLine_eq]; lia))
  have hsz : ((s.heap.push (seqObj "list" #[] 0)).update s.heap.objs.size (Obj.mapSeq (· ++ vs.toArray))).objs.size = s.heap.objs.size + 1 := by
    rw [Heap.size_update, size_push']
  have hoL : (((s.heap.push (seqObj "list" #[] 0)).update s.heap.objs.size (Obj.mapSeq (· ++ vs.toArray))).push (seqObj "list" vs.toArray 0)).get? (s.heap.objs.size + 1) = some (listOf vs.toArray 0) := by
    rw [← hsz]; exact Heap.get?_push_size _ rfl
  have keep : s.heap.StaysIn (((s.heap.push (seqObj "list" #[] 0)).update s.heap.objs.size (Obj.mapSeq (· ++ vs.toArray))).push (seqObj "list" vs.toArray 0)) := fun b o q => by
    have hlt : b < s.heap.objs.size := Heap.lt_size q
    rw [Heap.get?_push_ne _ _ _ (by rw [hsz]; exact Nat.ne_of_lt (Nat.lt_succ_of_lt hlt)), Heap.get?_update_ne _ _ _ _ (Nat.ne_of_lt hlt), Heap.get?_push_ne _ _ _ (Nat.ne_of_lt hlt)]
    exact q
  show wpAny _ _ _ _ _ { s with heap := ((s.heap.push (seqObj "list" #[] 0)).update s.heap.objs.size (Obj.mapSeq (· ++ vs.toArray))).push (seqObj "list" vs.toArray 0) }
  rw [hsz]
  refine wpAny_bind (wpAny_holding (wpAny_call_entry_kw slot_list_sort ⟨_, hoL, rfl⟩ entry_list_sort ?body (hok _)))
  refine wpAny_mono (h (s.heap.objs.size + 1) _ keep (Heap.get?_none_of_le (Nat.le_succ _)) hoL) (fun fin s' hf => ?_) fun _ _ e => e
  refine e1_2 (hf) ?_
  (try clear hf)
  intro v zr1 hq
  first | subst zr1 | cases zr1
  exact ⟨v, rfl, wpAny_pure hq⟩

/-- sorted(list of lists of one int) -/
theorem call_sorted_one {l : Addr} {N : Nat} {e : Nat → Value} {x : Nat → Int} {c : Nat} {rev : Bool} {kw : List (Str × Value)} {Q : Value → Shared → Prop} (hu : A.units ≤ 900) (hck : ∀ x, checkBuiltinCall "sorted" ⟨[x], kw⟩ = pure ()) (hok : ∀ a : Value, argsOk "list.sort" ⟨[a], kw⟩)
    (ht : ∀ R : Addr, Builtin.«list.sort» ⟨[.ref R], kw⟩ = so_plain R rev) (hl : s.heap.get? l = some (listOf ((List.range N).map e).toArray c)) (h64 : N < 64)
    (hel : ∀ p, p < N → ∃ a t n, e p = .ref a ∧ s.heap.get? a = some (listOf #[.int (x p) t] n))
    (h : ∀ R h' tk c, s.heap.StaysIn h' → s.heap.get? R = none → h'.get? R = some (listOf ((ordD (fun p => if rev then x p else - x p) N).map e).toArray c) → Q (.ref R) { s with heap := h', toks := tk }) :
    wpAny (model prog w) A (call (.builtin "sorted") [.ref l] kw) Q E s := by
  refine call_sorted_of hck hok hl (by simpa using h64) fun R h' st hR hR' => ?_
  rw [ht]
  have hlen : ((List.range N).map e).length = N := by simp
  have st2 : s.heap.StaysIn (hideAll h' [R]) := fun y o q => hideAll_get _ (st y o q) fun z => by rw [List.mem_singleton.mp z, hR] at q; cases q
  have gv : ∀ i, i < N → ((List.range N).map e).getD i .none = e i := fun i hi => by simp [hi]
  refine so_plain_wp (s := { s with heap := h' }) (lt := fun i j => decide (x i < x j)) (κ := oneType') hR' (by simpa using h64) ⟨fun a b q => by simp at q ⊢; lia, fun a b c q1 q2 => by simp at q1 q2 ⊢; lia⟩ (fun h2 s' Q st' q => ?_) (fun i j Q s' hi hj st' q => ?_) ?_
  · refine kas_kind h2 (T := .type "list") (fun v hv => ?_) rfl rfl q
    refine e1_2 (List.mem_map.mp hv) ?_
    intro p hp zr2
    first | subst zr2 | cases zr2
    refine e3_2 (hel p (by simpa using hp)) ?_
    intro a t n he ha
    rw [he]
    exact (Looks.ld (st' _ _ (st2 _ _ ha))).andThen .now
  · rw [hlen] at hi hj
    rw [gv i hi, gv j hj, keyLt'_oneType]
    refine e3_2 (hel i hi) ?_
    intro a t n he ha
    refine e3_2 (hel j hj) ?_
    intro a' t' n' he' ha'
    rw [he, he']
    exact oneLt_list (by show A.units + 1 + 1 < 9000; lia) (st' _ _ (st2 _ _ ha)) (st' _ _ (st2 _ _ ha')) (by simpa using q s'.toks)
  · intro ord h3 tk c3 ho st3 hc3
    rw [hlen] at ho
    have e1 : ord = ordD (fun p => if rev then x p else - x p) N := by
      refine ordered_ordD ho fun a b _ _ => ?_
      cases rev <;> simp
    refine ⟨_, rfl, h R h3 tk c3 (fun y o q => st3 _ _ (st2 _ _ q)) hR ?_⟩
    rw [hc3, ← e1]
    have : (ord.map fun i => ((List.range N).map e).getD i .none) = ord.map e := List.map_congr_left fun i hi => gv i (by simpa using ho.1.mem_iff.mp hi)
    rw [this]

/-- sorted by a key that gives back ints -/
theorem call_sorted_key {l fq : Addr} {N : Nat} {e : Nat → Value} {x : Nat → Int} {c : Nat} {rev : Bool} {kw : List (Str × Value)} {Q : Value → Shared → Prop} (hck : ∀ x, checkBuiltinCall "sorted" ⟨[x], kw⟩ = pure ()) (hok : ∀ a : Value, argsOk "list.sort" ⟨[a], kw⟩)
    (ht : ∀ R : Addr, Builtin.«list.sort» ⟨[.ref R], kw⟩ = ksk_tree R (.ref fq) rev) (hl : s.heap.get? l = some (listOf ((List.range N).map e).toArray c)) (h64 : N < 64)
    (hkey : ∀ p (b' : Heap) (s' : Shared) (Q : Value → Shared → Prop) (E : Value → Shared → Prop), p < N → s.heap.StaysIn b' → b'.StaysIn s'.heap → b'.objs.size ≤ s'.heap.objs.size → (∀ t h' tk, b'.StaysIn h' → Q (.int (x p) t) { s' with heap := h', toks := tk }) → wpAny (model prog w) A.in1.in1 (call (.ref fq) [e p]) Q E s')
    (h : ∀ R h' tk c, s.heap.StaysIn h' → s.heap.get? R = none → h'.get? R = some (listOf ((ordD (fun p => if rev then x p else - x p) N).map e).toArray c) → Q (.ref R) { s with heap := h', toks := tk }) :
    wpAny (model prog w) A (call (.builtin "sorted") [.ref l] kw) Q E s := by
  refine call_sorted_of hck hok hl (by simpa using h64) fun R h' st hR hR' => ?_
  rw [ht]
  have hlen : ((List.range N).map e).length = N := by simp
  have st2 : s.heap.StaysIn (hideAll h' [R]) := fun y o q => hideAll_get _ (st y o q) fun z => by rw [List.mem_singleton.mp z, hR] at q; cases q
  have gv : ∀ i, i < N → ((List.range N).map e).getD i .none = e i := fun i hi => by simp [hi]
  have gx : ∀ i, i < N → ((List.range N).map x).getD i 0 = x i := fun i hi => by simp [hi]
  refine so_keyed_wp (s := { s with heap := h' }) (ks := (List.range N).map x) hR' (by simpa using h64) (by simp) (fun i Q E' b' s' hi st' sb hsz hq => ?_) ?_
  · rw [hlen] at hi
    rw [gv i hi]
    exact hkey i b' s' Q E' hi (fun y o q => st' _ _ (st2 _ _ q)) sb hsz fun t h2 tk k => by have := hq t h2 tk k; rwa [gx i hi] at this
  · intro ord h3 tk c3 ho st3 hc3
    rw [hlen] at ho
    have e1 : ord = ordD (fun p => if rev then x p else - x p) N := by
      refine ordered_ordD ho fun a b ha hb => ?_
      rw [gx a ha, gx b hb]
      cases rev <;> simp
    refine ⟨_, rfl, h R h3 tk c3 (fun y o q => st3 _ _ (st2 _ _ q)) hR ?_⟩
    rw [hc3, ← e1]
    have : (ord.map fun i => ((List.range N).map e).getD i .none) = ord.map e := List.map_congr_left fun i hi => gv i (by simpa using ho.1.mem_iff.mp hi)
    rw [this]
end
-- B6
section
variable {prog : Program} {w : World} {A : Around} {s : Shared} {b B h : Heap} {E : Value → Shared → Prop}

theorem noLen_li : typeLookup (.type "list_iterator") (Str.ofString "__len__") = pure none := by rw [typeLookup_type, builtinLookup_eq_fast]; kernel_rfl
theorem call_len_li {it l : Addr} {i : Nat} {Q : Value → Shared → Prop} (hl : s.heap.get? it = some (liObj l i)) (hh : A.handled = none)
    (h : ∀ h' tk e, Heap.NewExc s.heap h' e "TypeError" → E (.ref e) { s with heap := h', toks := tk }) : wpAny (model prog w) A (call (.builtin "len") [.ref it]) Q E s := by
  refine Calls.call_function_entry kind_len plain_len entry_len (args_len1 _) ?_
  unfold Builtin.«len»
  refine wpAny_bind (m := oneArg "len" _) (wpAny_pure ?_)
  refine wpAny_bind (m := callSpecial? _ (Str.ofString "__len__")) (wpAny_callSpecial?_none (name := Str.ofString "__len__") (T := "list_iterator") ⟨_, hl, rfl⟩ noLen_li ?_)
  dsimp only
  refine wpAny_bind (wpAny_rule (wpAny_bind (wpAny_typeNameOf' (T := "list_iterator") ⟨_, hl, rfl⟩ (by decide) ?_)))
  have e : shownName "list_iterator" = "list_iterator" := by unfold shownName; rw [find?_eq_fast]; kernel_rfl
  rw [e]
  exact wpAny_raiseTypeError hh h

/-- the exception that was just made, noted and landed in this frame -/
theorem noted1 {env : Env} {outer : List Env} {L e : Addr} {K : Unit → Shared → Prop} (hfr : A.frames = some (env :: outer)) (hf : env.frame = some L) (hl : h.FunFrames B (env :: outer)) (st : B.StaysIn h)
    (hx : Heap.NewExc h s.heap e "TypeError")
    (k : ∀ h' a0, B.get? e = none → B.StaysIn h' → h'.FunFrames B (env :: outer) → h'.TracedW B e (.type "TypeError") a0 → h.UpToSlots h' → K () { s with heap := h' }) :
    wpAny (model prog w) A (noteFrame (.ref e) env) (fun _ s₂ => wpAny (model prog w) A (setFlight (.ref e) none) K E s₂) E s := by
  refine e2_3 (hx.there) ?_
  intro ob t he hc hd
  have fresh : B.get? e = none := by
    cases hq : B.get? e with
    | none => rfl
    | some o' => have := st e o' hq; rw [hx.new] at this; cases this
  unfold noteFrame
  simp only [hf]
  refine wpAny_bind (wpAny_field he hd (x := .none) rfl ?_)
  rw [if_neg (by decide)]
  refine wpAny_entryW hfr (hl.of_keeps fun b o hb _ => ⟨o, hx.keeps b o hb, rfl⟩) hf he (fun b o hb => hx.keeps b o (st b o hb)) fresh hd (by simp) (a0 := t) rfl fun h₁ N1 => ?_
  refine e0_4 (N1) ?_
  (try clear N1)
  intro n1 n2 n3 n4
  refine wpAny_setFlight_noneW n1 n2 n3 fun h₂ m1 m2 m3 m4 => ?_
  rw [hc] at m3
  exact k h₂ t fresh m1 m2 m3 (((Heap.UpToSlots.of_keeps hx.keeps).trans n4).trans fun b o hb hn => ⟨o.slots, m4 b o hb hn⟩)

theorem hide_frames {outer : List Env} {S : List Addr} (hl : h.FunFrames b outer) (hS : ∀ env ∈ outer, ∀ a, env.frame = some a → a ∈ S) : h.FunFrames (hideAll h S) outer := by
  induction outer with
  | nil => trivial
  | cons env r ih =>
    refine e0_3 (hl) ?_
    (try clear hl)
    intro h1 zr1 h6
    rcases zr1 with ⟨L, o, h2, h3, h4, h5⟩
    exact ⟨h1, ⟨L, o, h2, hideAll_none _ (hS _ (.head _) _ h2), h4, h5⟩, ih h6 fun e he a ha => hS e (.tail _ he) a ha⟩

def framesOf (l : List Env) : List Addr := l.filterMap (·.frame)
theorem framesOf_mem {l : List Env} : ∀ env ∈ l, ∀ a, env.frame = some a → a ∈ framesOf l := fun env he a ha => List.mem_filterMap.mpr ⟨env, he, ha⟩

theorem frames_lt {outer : List Env} (hl : h.FunFrames b outer) : ∀ a ∈ framesOf outer, a < h.objs.size := fun a ha => by
  obtain ⟨_, o, ho, _⟩ := hl.mem ha
  exact Heap.lt_size ho

/-- the frames of the callers stand as they stood -/
def Framed (outer : List Env) (h h' : Heap) : Prop := ∀ a ∈ framesOf outer, ∀ m, h.Ns a m → h'.Ns a m
theorem Framed.refl {outer : List Env} : Framed outer h h := fun _ _ _ x => x
theorem Framed.trans {outer : List Env} {h' h'' : Heap} (x : Framed outer h h') (y : Framed outer h' h'') : Framed outer h h'' := fun a ha m n => y a ha m (x a ha m n)
theorem Framed.of_keeps {outer : List Env} {h' : Heap} (k : h.StaysIn h') : Framed outer h h' := fun a _ m n => by
  refine e3_2 (n) ?_
  (try clear n)
  intro o es ep ho r
  exact ⟨o, es, ep, k _ _ ho, r⟩
theorem Framed.of_slots {outer : List Env} {h' : Heap} (k : h.UpToSlots h') : Framed outer h h' := fun a _ m n => k.ns n

/-- what lies under the line n in h -/
def cut (h : Heap) (n : Nat) (S : List Addr) : Heap := hideAll ⟨h.objs.extract 0 n, h.life⟩ S
theorem cut_size {n : Nat} {S : List Addr} : (cut h n S).objs.size ≤ n := by
  unfold cut; rw [hideAll_size]; simp; lia
theorem extract_get {n a : Nat} (ha : a < n) : (Heap.get? ⟨h.objs.extract 0 n, h.life⟩ a) = h.get? a := by
  unfold Heap.get?
  have : (h.objs.extract 0 n)[a]? = h.objs[a]? := by
    rw [Array.getElem?_extract]; simp; intro q; lia
  simp only [this]
theorem cut_get {n a : Nat} {S : List Addr} {o : Obj} (ha : a < n) (hS : a ∉ S) (e : h.get? a = some o) : (cut h n S).get? a = some o :=
  hideAll_get _ ((extract_get ha).trans e) hS
theorem cut_stays {n : Nat} {S : List Addr} : (cut h n S).StaysIn h := fun a o e => by
  have e' := of_hideAll _ e
  have ha : a < n := by
    have q : a < (h.objs.extract 0 n).size := Heap.lt_size e'
    rw [Array.size_extract] at q
    exact Nat.lt_of_lt_of_le q (by lia)
  rwa [extract_get ha] at e'
theorem cut_none {n : Nat} {S : List Addr} {a : Addr} (ha : a ∈ S) : (cut h n S).get? a = none := hideAll_none _ ha
theorem cut_high {n : Nat} {S : List Addr} {a : Addr} (ha : n ≤ a) : (cut h n S).get? a = none := by
  cases q : (cut h n S).get? a with
  | none => rfl
  | some o => exact absurd (Nat.lt_of_lt_of_le (Heap.lt_size q) cut_size) (Nat.not_lt.mpr ha)
end
-- B7
section
variable {prog : Program} {w : World} {A : Around} {s : Shared} {E : Value → Shared → Prop}

def rgObj (T : String) (x left step : Int) : Obj := { cls := .type T, data := .fields #[rawInt x, rawInt left, rawInt step] }
def liEnd (i : Nat) : Obj := { cls := .type "list_iterator", data := .fields #[.none, .int i 0] }
def zipObj (TI TO : Addr) (f0 : Value) : Obj := { cls := .type "zip", data := .fields #[f0, .bool false, .bool false, .ref TI, .ref TO] }
def pairObj (x y : Value) : Obj := { cls := .type "tuple", data := .seq #[x, y] }

theorem stop_raised {α : Type} {Q : α → Shared → Prop} (hh : A.handled = none) (hE : ∀ h' e, s.heap.StaysIn h' → s.heap.get? e = none → (∃ o, h'.get? e = some o ∧ o.cls = .type "StopIteration") → E (.ref e) { s with heap := h' }) :
    wpAny (model prog w) A (Builtin.SmallTypes.stopIteration : Sem α) Q E s := by
  unfold Builtin.SmallTypes.stopIteration
  refine wpAny_bind ?_
  simp only [newExc, newTuple]
  refine wpAny_bind (wpAny_newObj_type ?_ (by size_fits))
  refine wpAny_bind (m := firstArgMember _ _) (wpAny_of_eq (a := Value.none) (by first | rfl | (simp only [firstArgMember]; rfl)) ?_)
  refine wpAny_newObj_type ?_ (by size_fits)
  simp only [raiseNew]
  refine wpAny_bind (wpAny_handled ?_)
  rw [hh]
  first | refine wpAny_throw ?_ | refine wpAny_bind (wpAny_pure (wpAny_throw ?_))
  exact hE _ _ (fun b o e => Heap.get?_push_of_some _ (Heap.get?_push_of_some _ e)) (Heap.get?_none_of_le (by simp [Heap.size_push])) ⟨_, Heap.get?_push_size _ rfl, rfl⟩

theorem stop_new {Q : Value → Shared → Prop} (hQ : ∀ h' e, s.heap.StaysIn h' → s.heap.get? e = none → (∃ o, h'.get? e = some o ∧ o.cls = .type "StopIteration") → Q (.ref e) { s with heap := h' }) :
    wpAny (model prog w) A (newExc (.type "StopIteration") []) Q E s := by
  simp only [newExc, newTuple]
  refine wpAny_bind (wpAny_newObj_type ?_ (by size_fits))
  refine wpAny_bind (m := firstArgMember _ _) (wpAny_of_eq (a := Value.none) (by first | rfl | (simp only [firstArgMember]; rfl)) ?_)
  refine wpAny_newObj_type ?_ (by size_fits)
  exact hQ _ _ (fun b o e => Heap.get?_push_of_some _ (Heap.get?_push_of_some _ e)) (Heap.get?_none_of_le (by simp [Heap.size_push])) ⟨_, Heap.get?_push_size _ rfl, rfl⟩

theorem li_next_item {it l : Addr} {i c : Nat} {items : Array Value} {x : Value} {Q : PySem.Fin → Shared → Prop} (hit : s.heap.get? it = some (liObj l i)) (hl : s.heap.get? l = some (listOf items c)) (hx : items[i]? = some x)
    (hQ : ∀ h', h'.get? it = some (liObj l (i + 1)) → Heap.SameBut it s.heap h' → Q (.done (.ret x)) { s with heap := h' }) :
    wpAny (model prog w) A (Builtin.«list_iterator.__next__» ⟨[.ref it], []⟩) Q E s := by
  show wpAny _ _ (field (.ref it) 0 >>= _) _ _ s
  refine wpAny_bind (wpAny_field hit rfl (x := .ref l) rfl ?_)
  show wpAny _ _ (if (Value.ref l == Value.none) = true then _ else _) _ _ s
  rw [if_neg (show ¬ ((Value.ref l == Value.none) = true) from Bool.false_ne_true)]
  show wpAny _ _ (field (.ref it) 1 >>= _) _ _ s
  refine wpAny_bind (wpAny_field hit rfl (x := .int i 0) rfl ?_)
  show wpAny _ _ (seqItems? (.ref l) >>= _) _ _ s
  refine wpAny_bind (wpAny_seqItems hl rfl ?_)
  simp only [Int.toNat_natCast, hx]
  refine wpAny_bind (wpAny_setField hit rfl (by simp) (wpAny_pure (hQ _ ?_ (Heap.SameBut.update ..))))
  rw [Heap.get?_update_self _ hit (Obj.isFreed_of_fields (Obj.data_mapFields rfl _))]
  simp [liObj, Obj.mapFields, rawInt]
theorem li_next_end {it l : Addr} {i c : Nat} {items : Array Value} {Q : PySem.Fin → Shared → Prop} (hh : A.handled = none) (hit : s.heap.get? it = some (liObj l i)) (hl : s.heap.get? l = some (listOf items c)) (hx : items[i]? = none)
    (hE : ∀ h' e, h'.get? it = some (liEnd i) → Heap.ExtBut it s.heap h' → s.heap.get? e = none → (∃ o, h'.get? e = some o ∧ o.cls = .type "StopIteration") → E (.ref e) { s with heap := h' }) :
    wpAny (model prog w) A (Builtin.«list_iterator.__next__» ⟨[.ref it], []⟩) Q E s := by
  show wpAny _ _ (field (.ref it) 0 >>= _) _ _ s
  refine wpAny_bind (wpAny_field hit rfl (x := .ref l) rfl ?_)
  show wpAny _ _ (if (Value.ref l == Value.none) = true then _ else _) _ _ s
  rw [if_neg (show ¬ ((Value.ref l == Value.none) = true) from Bool.false_ne_true)]
  show wpAny _ _ (field (.ref it) 1 >>= _) _ _ s
  refine wpAny_bind (wpAny_field hit rfl (x := .int i 0) rfl ?_)
  show wpAny _ _ (seqItems? (.ref l) >>= _) _ _ s
  refine wpAny_bind (wpAny_seqItems hl rfl ?_)
  simp only [Int.toNat_natCast, hx]
  refine wpAny_bind (wpAny_rule (wpAny_bind (wpAny_setField hit rfl (by simp) ?_)))
  have e1 : (s.heap.update it (Obj.mapFields (·.setIfInBounds 0 Value.none))).get? it = some (liEnd i) := by
    rw [Heap.get?_update_self _ hit (Obj.isFreed_of_fields (Obj.data_mapFields rfl _))]
    simp [liObj, liEnd, Obj.mapFields]
  refine stop_raised hh fun h' e st hn he => hE h' e (st _ _ e1) (fun c o hc x => st _ _ ((Heap.SameBut.update ..).extBut c o hc x)) ?_ he
  cases q : s.heap.get? e with
  | none => rfl
  | some o =>
    exfalso
    by_cases hc : e = it
    · subst hc; dsimp only at hn; rw [e1] at hn; cases hn
    · have := (Heap.SameBut.update s.heap it (Obj.mapFields (·.setIfInBounds 0 Value.none))).extBut e o hc q
      dsimp only at hn; rw [this] at hn; cases hn
theorem li_next_gone {it : Addr} {i : Nat} {Q : PySem.Fin → Shared → Prop} (hh : A.handled = none) (hit : s.heap.get? it = some (liEnd i))
    (hE : ∀ h' e, s.heap.StaysIn h' → s.heap.get? e = none → (∃ o, h'.get? e = some o ∧ o.cls = .type "StopIteration") → E (.ref e) { s with heap := h' }) :
    wpAny (model prog w) A (Builtin.«list_iterator.__next__» ⟨[.ref it], []⟩) Q E s := by
  show wpAny _ _ (field (.ref it) 0 >>= _) _ _ s
  refine wpAny_bind (wpAny_field hit rfl (x := .none) rfl ?_)
  show wpAny _ _ (if (Value.none == Value.none) = true then _ else _) _ _ s
  rw [if_pos (show ((Value.none == Value.none) = true) from rfl)]
  refine wpAny_bind (wpAny_rule ?_)
  first | exact stop_raised hh hE | exact wpAny_bind (stop_raised hh hE)
theorem rg_next_item {it : Addr} {x left step : Int} {Q : PySem.Fin → Shared → Prop} (hit : s.heap.get? it = some (rgObj "range_iterator" x left step)) (hleft : 0 < left)
    (hQ : ∀ h', h'.get? it = some (rgObj "range_iterator" (x + step) (left - 1) step) → Heap.SameBut it s.heap h' → Q (.done (.ret (.int x s.toks))) { s with heap := h', toks := s.toks + 1 }) :
    wpAny (model prog w) A (Builtin.«range_iterator.__next__» ⟨[.ref it], []⟩) Q E s := by
  show wpAny _ _ (field (.ref it) 0 >>= _) _ _ s
  refine wpAny_bind (wpAny_field hit rfl (x := rawInt x) rfl ?_)
  show wpAny _ _ (field (.ref it) 1 >>= _) _ _ s
  refine wpAny_bind (wpAny_field hit rfl (x := rawInt left) rfl ?_)
  show wpAny _ _ (field (.ref it) 2 >>= _) _ _ s
  refine wpAny_bind (wpAny_field hit rfl (x := rawInt step) rfl ?_)
  show wpAny _ _ (if left ≤ 0 then _ else _) _ _ s
  rw [if_neg (by lia)]
  refine wpAny_bind (wpAny_setField hit rfl (by simp) ?_)
  have e1 := Heap.get?_update_self (Obj.mapFields (·.setIfInBounds 0 (rawInt (x + step)))) hit rfl
  refine wpAny_bind (wpAny_setField e1 (Obj.data_mapFields rfl _) (by simp) ?_)
  refine wpAny_bind (wpAny_mkInt (wpAny_pure (hQ _ ?_ ((Heap.SameBut.update ..).trans (Heap.SameBut.update ..)))))
  exact Heap.get?_update_self _ e1 rfl
theorem rg_next_end {it : Addr} {x left step : Int} {Q : PySem.Fin → Shared → Prop} (hh : A.handled = none) (hit : s.heap.get? it = some (rgObj "range_iterator" x left step)) (hleft : left ≤ 0)
    (hE : ∀ h' e, s.heap.StaysIn h' → s.heap.get? e = none → (∃ o, h'.get? e = some o ∧ o.cls = .type "StopIteration") → E (.ref e) { s with heap := h' }) :
    wpAny (model prog w) A (Builtin.«range_iterator.__next__» ⟨[.ref it], []⟩) Q E s := by
  show wpAny _ _ (field (.ref it) 0 >>= _) _ _ s
  refine wpAny_bind (wpAny_field hit rfl (x := rawInt x) rfl ?_)
  show wpAny _ _ (field (.ref it) 1 >>= _) _ _ s
  refine wpAny_bind (wpAny_field hit rfl (x := rawInt left) rfl ?_)
  show wpAny _ _ (field (.ref it) 2 >>= _) _ _ s
  refine wpAny_bind (wpAny_field hit rfl (x := rawInt step) rfl ?_)
  show wpAny _ _ (if left ≤ 0 then _ else _) _ _ s
  rw [if_pos hleft]
  refine wpAny_bind (wpAny_rule ?_)
  first | exact stop_raised hh hE | exact wpAny_bind (stop_raised hh hE)
theorem lg_next_item {it : Addr} {x left step : Int} {Q : PySem.Fin → Shared → Prop} (hit : s.heap.get? it = some (rgObj "longrange_iterator" x left step)) (hleft : 0 < left)
    (hQ : ∀ h', h'.get? it = some (rgObj "longrange_iterator" (x + step) (left - 1) step) → Heap.SameBut it s.heap h' → Q (.done (.ret (.int x s.toks))) { s with heap := h', toks := s.toks + 1 }) :
    wpAny (model prog w) A (Builtin.«longrange_iterator.__next__» ⟨[.ref it], []⟩) Q E s := by
  show wpAny _ _ (bound "longrange_iterator.__next__" ⟨[.ref it], []⟩ >>= _) _ _ s
  rw [bound_longnext]
  refine wpAny_bind (wpAny_pure ?_)
  show wpAny _ _ (Builtin.Iterators_pickling.intField _ (.ref it) 0 >>= _) _ _ s
  refine wpAny_bind (wpAny_intField hit rfl rfl ?_)
  show wpAny _ _ (Builtin.Iterators_pickling.intField _ (.ref it) 1 >>= _) _ _ s
  refine wpAny_bind (wpAny_intField hit rfl rfl ?_)
  show wpAny _ _ (Builtin.Iterators_pickling.intField _ (.ref it) 2 >>= _) _ _ s
  refine wpAny_bind (wpAny_intField hit rfl rfl ?_)
  show wpAny _ _ (if left ≤ 0 then _ else _) _ _ s
  rw [if_neg (by lia)]
  refine wpAny_bind (wpAny_setField hit rfl (by simp) ?_)
  have e1 := Heap.get?_update_self (Obj.mapFields (·.setIfInBounds 0 (rawInt (x + step)))) hit rfl
  refine wpAny_bind (wpAny_setField e1 (Obj.data_mapFields rfl _) (by simp) ?_)
  refine wpAny_bind (wpAny_mkInt (wpAny_pure (hQ _ ?_ ((Heap.SameBut.update ..).trans (Heap.SameBut.update ..)))))
  exact Heap.get?_update_self _ e1 rfl
theorem lg_next_end {it : Addr} {x left step : Int} {Q : PySem.Fin → Shared → Prop} (hh : A.handled = none) (hit : s.heap.get? it = some (rgObj "longrange_iterator" x left step)) (hleft : left ≤ 0)
    (hE : ∀ h' e, s.heap.StaysIn h' → s.heap.get? e = none → (∃ o, h'.get? e = some o ∧ o.cls = .type "StopIteration") → E (.ref e) { s with heap := h' }) :
    wpAny (model prog w) A (Builtin.«longrange_iterator.__next__» ⟨[.ref it], []⟩) Q E s := by
  show wpAny _ _ (bound "longrange_iterator.__next__" ⟨[.ref it], []⟩ >>= _) _ _ s
  rw [bound_longnext]
  refine wpAny_bind (wpAny_pure ?_)
  show wpAny _ _ (Builtin.Iterators_pickling.intField _ (.ref it) 0 >>= _) _ _ s
  refine wpAny_bind (wpAny_intField hit rfl rfl ?_)
  show wpAny _ _ (Builtin.Iterators_pickling.intField _ (.ref it) 1 >>= _) _ _ s
  refine wpAny_bind (wpAny_intField hit rfl rfl ?_)
  show wpAny _ _ (Builtin.Iterators_pickling.intField _ (.ref it) 2 >>= _) _ _ s
  refine wpAny_bind (wpAny_intField hit rfl rfl ?_)
  show wpAny _ _ (if left ≤ 0 then _ else _) _ _ s
  rw [if_pos hleft]
  refine wpAny_bind (wpAny_rule ?_)
  refine wpAny_bind (stop_new fun h' e st hn he => ?_)
  first | exact wpAny_raiseNew_none hh (hE h' e st hn he) | exact wpAny_bind (wpAny_raiseNew_none hh (hE h' e st hn he))

def RgT (T : String) : Prop := T = "range_iterator" ∨ T = "longrange_iterator"
theorem nextOf_rg_item {T : String} {it : Addr} {x left step : Int} {Q : Value → Shared → Prop} (hT : RgT T) (hit : s.heap.get? it = some (rgObj T x left step)) (hleft : 0 < left)
    (hQ : ∀ h', h'.get? it = some (rgObj T (x + step) (left - 1) step) → Heap.SameBut it s.heap h' → Q (.int x s.toks) { s with heap := h', toks := s.toks + 1 }) :
    wpAny (model prog w) A (Builtin.SmallTypes.nextOf (.ref it)) Q E s := by
  unfold Builtin.SmallTypes.nextOf
  rcases hT with rfl | rfl
  · have ht : s.TypeIs (.ref it) "range_iterator" := ⟨_, hit, rfl⟩
    exact wpAny_bind (wpAny_callSpecial?_slot (name := Str.ofString "__next__") ht F.slot_range_iterator_next (wpAny_call_entry F.slot_range_iterator_next ht F.entry_range_iterator_next
      (rg_next_item hit hleft fun h' a b => ⟨_, rfl, wpAny_pure (hQ h' a b)⟩) (F.args_range_iterator_next_1 _)))
  · have ht : s.TypeIs (.ref it) "longrange_iterator" := ⟨_, hit, rfl⟩
    exact wpAny_bind (wpAny_callSpecial?_slot (name := Str.ofString "__next__") ht F.slot_longrange_iterator_next (wpAny_call_entry F.slot_longrange_iterator_next ht F.entry_longrange_iterator_next
      (lg_next_item hit hleft fun h' a b => ⟨_, rfl, wpAny_pure (hQ h' a b)⟩) (F.args_longrange_iterator_next_1 _)))
theorem nextOf_rg_end {T : String} {it : Addr} {x left step : Int} {Q : Value → Shared → Prop} (hT : RgT T) (hh : A.handled = none) (hit : s.heap.get? it = some (rgObj T x left step)) (hleft : left ≤ 0)
    (hE : ∀ h' e, s.heap.StaysIn h' → s.heap.get? e = none → (∃ o, h'.get? e = some o ∧ o.cls = .type "StopIteration") → E (.ref e) { s with heap := h' }) :
    wpAny (model prog w) A (Builtin.SmallTypes.nextOf (.ref it)) Q E s := by
  unfold Builtin.SmallTypes.nextOf
  rcases hT with rfl | rfl
  · have ht : s.TypeIs (.ref it) "range_iterator" := ⟨_, hit, rfl⟩
    exact wpAny_bind (wpAny_callSpecial?_slot (name := Str.ofString "__next__") ht F.slot_range_iterator_next (wpAny_call_entry F.slot_range_iterator_next ht F.entry_range_iterator_next
      (rg_next_end hh hit hleft hE) (F.args_range_iterator_next_1 _)))
  · have ht : s.TypeIs (.ref it) "longrange_iterator" := ⟨_, hit, rfl⟩
    exact wpAny_bind (wpAny_callSpecial?_slot (name := Str.ofString "__next__") ht F.slot_longrange_iterator_next (wpAny_call_entry F.slot_longrange_iterator_next ht F.entry_longrange_iterator_next
      (lg_next_end hh hit hleft hE) (F.args_longrange_iterator_next_1 _)))
theorem nextOf_li_item {it l : Addr} {i c : Nat} {items : Array Value} {x : Value} {Q : Value → Shared → Prop} (hit : s.heap.get? it = some (liObj l i)) (hl : s.heap.get? l = some (listOf items c)) (hx : items[i]? = some x)
    (hQ : ∀ h', h'.get? it = some (liObj l (i + 1)) → Heap.SameBut it s.heap h' → Q x { s with heap := h' }) :
    wpAny (model prog w) A (Builtin.SmallTypes.nextOf (.ref it)) Q E s := by
  unfold Builtin.SmallTypes.nextOf
  have ht : s.TypeIs (.ref it) "list_iterator" := ⟨_, hit, rfl⟩
  exact wpAny_bind (wpAny_callSpecial?_slot (name := Str.ofString "__next__") ht slot_listiter_next (wpAny_call_entry slot_listiter_next ht entry_listiter_next
      (li_next_item hit hl hx fun h' a b => ⟨_, rfl, wpAny_pure (hQ h' a b)⟩) (args_listiter_next _)))
theorem nextOf_li_end {it l : Addr} {i c : Nat} {items : Array Value} {Q : Value → Shared → Prop} (hh : A.handled = none) (hit : s.heap.get? it = some (liObj l i)) (hl : s.heap.get? l = some (listOf items c)) (hx : items[i]? = none)
    (hE : ∀ h' e, h'.get? it = some (liEnd i) → Heap.ExtBut it s.heap h' → s.heap.get? e = none → (∃ o, h'.get? e = some o ∧ o.cls = .type "StopIteration") → E (.ref e) { s with heap := h' }) :
    wpAny (model prog w) A (Builtin.SmallTypes.nextOf (.ref it)) Q E s := by
  unfold Builtin.SmallTypes.nextOf
  have ht : s.TypeIs (.ref it) "list_iterator" := ⟨_, hit, rfl⟩
  exact wpAny_bind (wpAny_callSpecial?_slot (name := Str.ofString "__next__") ht slot_listiter_next (wpAny_call_entry slot_listiter_next ht entry_listiter_next
      (li_next_end hh hit hl hx hE) (args_listiter_next _)))

/-- the walk of a list iterator -/
theorem pyNext_li_item {it l : Addr} {i c : Nat} {items : Array Value} {x : Value} {Q : Option Value → Shared → Prop} (hit : s.heap.get? it = some (liObj l i)) (hl : s.heap.get? l = some (listOf items c)) (hx : items[i]? = some x)
    (hQ : ∀ h', h'.get? it = some (liObj l (i + 1)) → Heap.SameBut it s.heap h' → Q (some x) { s with heap := h' }) : wpAny (model prog w) A (pyNext (.ref it)) Q E s := by
  unfold pyNext
  have ht : s.TypeIs (.ref it) "list_iterator" := ⟨_, hit, rfl⟩
  exact wpAny_bind (wpAny_attempt (wpAny_callSpecial?_slot (name := Str.ofString "__next__") ht slot_listiter_next (wpAny_call_entry slot_listiter_next ht entry_listiter_next
      (li_next_item hit hl hx fun h' a b => ⟨_, rfl, wpAny_pure (hQ h' a b)⟩) (args_listiter_next _))))
theorem pyNext_li_end {it l : Addr} {i c : Nat} {items : Array Value} {Q : Option Value → Shared → Prop} (hh : A.handled = none) (hit : s.heap.get? it = some (liObj l i)) (hl : s.heap.get? l = some (listOf items c)) (hx : items[i]? = none)
    (hQ : ∀ h', h'.get? it = some (liEnd i) → Heap.ExtBut it s.heap h' → Q none { s with heap := h' }) : wpAny (model prog w) A (pyNext (.ref it)) Q E s := by
  unfold pyNext
  have ht : s.TypeIs (.ref it) "list_iterator" := ⟨_, hit, rfl⟩
  refine wpAny_bind (wpAny_attempt (wpAny_callSpecial?_slot (name := Str.ofString "__next__") ht slot_listiter_next (wpAny_call_entry slot_listiter_next ht entry_listiter_next
      (li_next_end hh hit hl hx fun h' e a b _ he => ?_) (args_listiter_next _))))
  refine e1_2 (he) ?_
  (try clear he)
  intro o ho hc
  refine wpAny_bind (wpAny_isInstance (T := "StopIteration") (b := true) ⟨o, ho, hc⟩ isSubtype_stop ?_)
  exact wpAny_pure (hQ _ a b)
theorem pyNext_li_gone {it : Addr} {i : Nat} {Q : Option Value → Shared → Prop} (hh : A.handled = none) (hit : s.heap.get? it = some (liEnd i))
    (hQ : ∀ h', s.heap.StaysIn h' → Q none { s with heap := h' }) : wpAny (model prog w) A (pyNext (.ref it)) Q E s := by
  unfold pyNext
  have ht : s.TypeIs (.ref it) "list_iterator" := ⟨_, hit, rfl⟩
  refine wpAny_bind (wpAny_attempt (wpAny_callSpecial?_slot (name := Str.ofString "__next__") ht slot_listiter_next (wpAny_call_entry slot_listiter_next ht entry_listiter_next
      (li_next_gone hh hit fun h' e a _ he => ?_) (args_listiter_next _))))
  refine e1_2 (he) ?_
  (try clear he)
  intro o ho hc
  refine wpAny_bind (wpAny_isInstance (T := "StopIteration") (b := true) ⟨o, ho, hc⟩ isSubtype_stop ?_)
  exact wpAny_pure (hQ _ a)
end
-- B8
section
variable {prog : Program} {w : World} {A : Around} {s : Shared} {E : Value → Shared → Prop}

structure Apart5 (z TI TO i1 i2 : Addr) : Prop where
  TIz : TI ≠ z
  TOz : TO ≠ z
  i1z : i1 ≠ z
  i2z : i2 ≠ z
  TITO : TI ≠ TO
  TIi1 : TI ≠ i1
  TIi2 : TI ≠ i2
  TOi1 : TO ≠ i1
  TOi2 : TO ≠ i2
  i12 : i1 ≠ i2

theorem zip_item {z TI TO i1 i2 l : Addr} {T : String} {x left step : Int} {k c : Nat} {items : Array Value} {a b y : Value} {Q : Option Value → Shared → Prop} (D : Apart5 z TI TO i1 i2) (hT : RgT T)
    (hz : s.heap.get? z = some (zipObj TI TO .none)) (hTI : s.heap.get? TI = some (pairObj (.ref i1) (.ref i2))) (hTO : s.heap.get? TO = some (pairObj a b))
    (h1 : s.heap.get? i1 = some (rgObj T x left step)) (h2 : s.heap.get? i2 = some (liObj l k)) (hl : s.heap.get? l = some (listOf items c)) (hleft : 0 < left) (hy : items[k]? = some y)
    (hQ : ∀ h' t tk, h'.get? z = some (zipObj TI TO (rawInt s.heap.objs.size)) → h'.get? TO = some (pairObj (.int x t) y) → h'.get? i1 = some (rgObj T (x + step) (left - 1) step) → h'.get? i2 = some (liObj l (k + 1)) →
      h'.get? s.heap.objs.size = some (pairObj (.int x t) y) → h'.objs.size = s.heap.objs.size + 1 →
      (∀ c o, c ≠ z → c ≠ TO → c ≠ i1 → c ≠ i2 → s.heap.get? c = some o → h'.get? c = some o) → Q (some (.ref s.heap.objs.size)) { s with heap := h', toks := tk }) :
    wpAny (model prog w) A (pyNext (.ref z)) Q E s := by
  have ht : s.TypeIs (.ref z) "zip" := ⟨_, hz, rfl⟩
  have lz : l ≠ z := fun q => by rw [q, hz] at hl; have := congrArg Obj.cls (Option.some.inj hl); simp [zipObj, W.listOf] at this
  have lTO : l ≠ TO := fun q => by rw [q, hTO] at hl; have := congrArg Obj.cls (Option.some.inj hl); simp [pairObj, W.listOf] at this
  have li1 : l ≠ i1 := fun q => by rw [q, h1] at hl; cases hl
  unfold pyNext
  refine wpAny_bind (wpAny_attempt (wpAny_callSpecial?_slot (name := Str.ofString "__next__") ht F.slot_zip_next (wpAny_call_entry F.slot_zip_next ht F.entry_zip_next ?_ (F.args_zip_next_1 _))))
  show wpAny _ _ (field (.ref z) 2 >>= _) _ _ _
  refine wpAny_bind (wpAny_field hz rfl (x := .bool false) rfl ?_)
  show wpAny _ _ (field (.ref z) 3 >>= _) _ _ _
  refine wpAny_bind (wpAny_field hz rfl (x := .ref TI) rfl ?_)
  refine wpAny_bind (wpAny_seqItems hTI rfl ?_)
  show wpAny _ _ (Builtin.SmallTypes.ownedTupleIsFree (.ref z) >>= _) _ _ _
  refine wpAny_bind ?_
  unfold Builtin.SmallTypes.ownedTupleIsFree
  refine wpAny_bind (wpAny_field hz rfl (x := .none) rfl (wpAny_pure ?_))
  simp only [if_true]
  refine wpAny_bind (wpAny_rule ?_)
  refine wpAny_bind (wpAny_field hz rfl (x := .ref TO) rfl ?_)
  refine wpAny_bind (wpAny_setField_rec hz (by simp) fun h₁ hz₁ hs₁ => ?_)
  replace hz₁ : h₁.get? z = some (zipObj TI TO .ellipsis) := hz₁
  refine wpAny_bind ?_
  simp only [List.zipIdx_cons, List.zipIdx_nil, List.forIn_cons, List.forIn_nil]
  refine wpAny_bind (wpAny_bind (wpAny_onRaise ?_))
  show wpAny _ _ (Builtin.SmallTypes.nextOf (.ref i1) >>= _) _ _ _
  refine wpAny_bind (nextOf_rg_item hT (hs₁.extBut _ _ D.i1z h1) hleft fun h₂ h1₂ hs₂ => wpAny_pure ?_)
  have hTO₂ : IsPair h₂ TO a b := hs₂.extBut _ _ D.TOi1 (hs₁.extBut _ _ D.TOz hTO)
  refine wpAny_bind (wpAny_seqItems hTO₂ rfl ?_)
  refine wpAny_bind (wpAny_updateSeq_pair hTO₂ fun h₃ hTO₃ hs₃ => ?_)
  replace hTO₃ : IsPair h₃ TO (.int x s.toks) b := hTO₃
  refine wpAny_bind (wpAny_letGo (wpAny_pure ?_))
  refine wpAny_bind (wpAny_bind (wpAny_onRaise ?_))
  show wpAny _ _ (Builtin.SmallTypes.nextOf (.ref i2) >>= _) _ _ _
  refine wpAny_bind (nextOf_li_item (hs₃.extBut _ _ D.TOi2.symm (hs₂.extBut _ _ D.i12.symm (hs₁.extBut _ _ D.i2z h2))) (hs₃.extBut _ _ lTO (hs₂.extBut _ _ li1 (hs₁.extBut _ _ lz hl))) hy fun h₄ h2₄ hs₄ => wpAny_pure ?_)
  have hTO₄ : IsPair h₄ TO (.int x s.toks) b := hs₄.extBut _ _ D.TOi2 hTO₃
  refine wpAny_bind (wpAny_seqItems hTO₄ rfl ?_)
  refine wpAny_bind (wpAny_updateSeq_pair hTO₄ fun h₅ hTO₅ hs₅ => ?_)
  replace hTO₅ : IsPair h₅ TO (.int x s.toks) y := hTO₅
  refine wpAny_bind (wpAny_letGo (wpAny_pure (wpAny_pure ?_)))
  refine wpAny_bind (wpAny_seqItems hTO₅ rfl ?_)
  refine wpAny_bind (wpAny_newTuple ?_)
  have hsz : h₅.objs.size = s.heap.objs.size := by rw [hs₅.1, hs₄.1, hs₃.1, hs₂.1, hs₁.1]
  have hz₅ : IsZip h₅ z TI TO .ellipsis := hs₅.extBut _ _ D.TOz.symm (hs₄.extBut _ _ D.i2z.symm (hs₃.extBut _ _ D.TOz.symm (hs₂.extBut _ _ D.i1z.symm hz₁)))
  have hk₅ : ∀ c o, c ≠ z → c ≠ TO → c ≠ i1 → c ≠ i2 → s.heap.get? c = some o → h₅.get? c = some o := fun c o c1 c2 c3 c4 e =>
    hs₅.extBut _ _ c2 (hs₄.extBut _ _ c4 (hs₃.extBut _ _ c2 (hs₂.extBut _ _ c3 (hs₁.extBut _ _ c1 e))))
  have h1₅ : h₅.get? i1 = some (rgObj T (x + step) (left - 1) step) := hs₅.extBut _ _ D.TOi1.symm (hs₄.extBut _ _ D.i12 (hs₃.extBut _ _ D.TOi1.symm h1₂))
  have h2₅ : h₅.get? i2 = some (liObj l (k + 1)) := hs₅.extBut _ _ D.TOi2.symm h2₄
  have hzlt : z < h₅.objs.size := Heap.lt_size hz₅
  show wpAny _ _ (Builtin.SmallTypes.ownedTupleHandOut (.ref z) (.ref h₅.objs.size) >>= _) _ _ _
  refine wpAny_bind ?_
  unfold Builtin.SmallTypes.ownedTupleHandOut
  have hz₆ : IsZip (h₅.push { cls := .type "tuple", data := .seq #[.int x s.toks, y] }) z TI TO .ellipsis := Heap.get?_push_of_some _ hz₅
  refine wpAny_bind (wpAny_setField_rec hz₆ (by simp) fun h₇ hz₇ hs₇ => ?_)
  replace hz₇ : IsZip h₇ z TI TO (rawInt h₅.objs.size) := hz₇
  refine wpAny_setField_rec hz₇ (by simp) fun h₈ hz₈ hs₈ => ?_
  replace hz₈ : IsZip h₈ z TI TO (rawInt h₅.objs.size) := hz₈
  have up : ∀ c o, c ≠ z → h₅.get? c = some o → h₈.get? c = some o := fun c o c1 e => hs₈.extBut _ _ c1 (hs₇.extBut _ _ c1 (Heap.get?_push_of_some _ e))
  have hT₈ : h₈.get? h₅.objs.size = some (pairObj (.int x s.toks) y) := hs₈.extBut _ _ (Nat.ne_of_gt hzlt) (hs₇.extBut _ _ (Nat.ne_of_gt hzlt) (Heap.get?_push_size _ rfl))
  have hz8 : h₈.objs.size = h₅.objs.size + 1 := by rw [hs₈.1, hs₇.1, Heap.size_push]
  rw [hsz] at hz₈ hT₈ hz8
  refine wpAny_pure ⟨_, rfl, ?_⟩
  refine wpAny_pure ?_
  show Q (some (.ref h₅.objs.size)) _
  rw [hsz]
  exact hQ h₈ _ _ hz₈ (up _ _ D.TOz hTO₅) (up _ _ D.i1z h1₅) (up _ _ D.i2z h2₅) hT₈ hz8 fun c o c1 c2 c3 c4 e => up c o c1 (hk₅ c o c1 c2 c3 c4 e)

theorem zip_end {z TI TO i1 i2 l : Addr} {T : String} {x left step : Int} {k c : Nat} {items : Array Value} {a b : Value} {Q : Option Value → Shared → Prop} (hh : A.handled = none) (D : Apart5 z TI TO i1 i2) (hT : RgT T)
    (hz : s.heap.get? z = some (zipObj TI TO .none)) (hTI : s.heap.get? TI = some (pairObj (.ref i1) (.ref i2))) (hTO : s.heap.get? TO = some (pairObj a b))
    (h1 : s.heap.get? i1 = some (rgObj T x left step)) (h2 : s.heap.get? i2 = some (liObj l k)) (hl : s.heap.get? l = some (listOf items c)) (hend : left ≤ 0 ∨ items[k]? = none)
    (hQ : ∀ h' tk, (h'.get? i2 = some (liObj l k) ∧ left ≤ 0 ∨ h'.get? i2 = some (liEnd k) ∧ 0 < left) →
      (∀ c o, c ≠ z → c ≠ TO → c ≠ i1 → c ≠ i2 → s.heap.get? c = some o → h'.get? c = some o) → Q none { s with heap := h', toks := tk }) :
    wpAny (model prog w) A (pyNext (.ref z)) Q E s := by
  have ht : s.TypeIs (.ref z) "zip" := ⟨_, hz, rfl⟩
  have lz : l ≠ z := fun q => by rw [q, hz] at hl; have := congrArg Obj.cls (Option.some.inj hl); simp [zipObj, W.listOf] at this
  have lTO : l ≠ TO := fun q => by rw [q, hTO] at hl; have := congrArg Obj.cls (Option.some.inj hl); simp [pairObj, W.listOf] at this
  have li1 : l ≠ i1 := fun q => by rw [q, h1] at hl; cases hl
  unfold pyNext
  refine wpAny_bind (wpAny_attempt (wpAny_callSpecial?_slot (name := Str.ofString "__next__") ht F.slot_zip_next (wpAny_call_entry F.slot_zip_next ht F.entry_zip_next ?_ (F.args_zip_next_1 _))))
  show wpAny _ _ (field (.ref z) 2 >>= _) _ _ _
  refine wpAny_bind (wpAny_field hz rfl (x := .bool false) rfl ?_)
  show wpAny _ _ (field (.ref z) 3 >>= _) _ _ _
  refine wpAny_bind (wpAny_field hz rfl (x := .ref TI) rfl ?_)
  refine wpAny_bind (wpAny_seqItems hTI rfl ?_)
  show wpAny _ _ (Builtin.SmallTypes.ownedTupleIsFree (.ref z) >>= _) _ _ _
  refine wpAny_bind ?_
  unfold Builtin.SmallTypes.ownedTupleIsFree
  refine wpAny_bind (wpAny_field hz rfl (x := .none) rfl (wpAny_pure ?_))
  simp only [if_true]
  refine wpAny_bind (wpAny_rule ?_)
  refine wpAny_bind (wpAny_field hz rfl (x := .ref TO) rfl ?_)
  refine wpAny_bind (wpAny_setField_rec hz (by simp) fun h₁ hz₁ hs₁ => ?_)
  replace hz₁ : h₁.get? z = some (zipObj TI TO .ellipsis) := hz₁
  refine wpAny_bind ?_
  simp only [List.zipIdx_cons, List.zipIdx_nil, List.forIn_cons, List.forIn_nil]
  refine wpAny_bind (wpAny_bind (wpAny_onRaise ?_))
  show wpAny _ _ (Builtin.SmallTypes.nextOf (.ref i1) >>= _) _ _ _
  by_cases hleft : left ≤ 0
  · refine wpAny_bind (nextOf_rg_end hT hh (hs₁.extBut _ _ D.i1z h1) hleft fun h₂ e hs₂ hen he => ?_)
    refine e1_2 (he) ?_
    (try clear he)
    intro oe hoe hce
    have hz₂ : IsZip h₂ z TI TO .ellipsis := hs₂ _ _ hz₁
    have hez : e ≠ z := fun x => by subst x; rw [hz₂] at hoe; cases hoe; simp at hce
    refine wpAny_setField_rec hz₂ (by simp) fun h₃ _ hs₃ => ?_
    refine wpAny_bind (wpAny_isInstance (T := "StopIteration") (b := true) ⟨oe, hs₃.extBut _ _ hez hoe, hce⟩ isSubtype_stop ?_)
    exact wpAny_pure (hQ h₃ _ (.inl ⟨hs₃.extBut _ _ D.i2z (hs₂ _ _ (hs₁.extBut _ _ D.i2z h2)), hleft⟩) fun c o c1 _ _ _ x => hs₃.extBut _ _ c1 (hs₂ _ _ (hs₁.extBut _ _ c1 x)))
  · have hy : items[k]? = none := by rcases hend with h | h; exact absurd h hleft; exact h
    refine wpAny_bind (nextOf_rg_item hT (hs₁.extBut _ _ D.i1z h1) (by lia) fun h₂ h1₂ hs₂ => wpAny_pure ?_)
    have hTO₂ : IsPair h₂ TO a b := hs₂.extBut _ _ D.TOi1 (hs₁.extBut _ _ D.TOz hTO)
    refine wpAny_bind (wpAny_seqItems hTO₂ rfl ?_)
    refine wpAny_bind (wpAny_updateSeq_pair hTO₂ fun h₃ hTO₃ hs₃ => ?_)
    refine wpAny_bind (wpAny_letGo (wpAny_pure ?_))
    refine wpAny_bind (wpAny_bind (wpAny_onRaise ?_))
    show wpAny _ _ (Builtin.SmallTypes.nextOf (.ref i2) >>= _) _ _ _
    refine wpAny_bind (nextOf_li_end hh (hs₃.extBut _ _ D.TOi2.symm (hs₂.extBut _ _ D.i12.symm (hs₁.extBut _ _ D.i2z h2))) (hs₃.extBut _ _ lTO (hs₂.extBut _ _ li1 (hs₁.extBut _ _ lz hl))) hy fun h₄ e hi₄ hs₄ hen he => ?_)
    refine e1_2 (he) ?_
    (try clear he)
    intro oe hoe hce
    have hz₄ : IsZip h₄ z TI TO .ellipsis := hs₄ _ _ D.i2z.symm (hs₃.extBut _ _ D.TOz.symm (hs₂.extBut _ _ D.i1z.symm hz₁))
    have hez : e ≠ z := fun x => by subst x; rw [hz₄] at hoe; cases hoe; simp at hce
    refine wpAny_setField_rec hz₄ (by simp) fun h₅ _ hs₅ => ?_
    refine wpAny_bind (wpAny_isInstance (T := "StopIteration") (b := true) ⟨oe, hs₅.extBut _ _ hez hoe, hce⟩ isSubtype_stop ?_)
    exact wpAny_pure (hQ h₅ _ (.inr ⟨hs₅.extBut _ _ D.i2z hi₄, by lia⟩) fun c o c1 c2 c3 c4 x => hs₅.extBut _ _ c1 (hs₄ _ _ c4 (hs₃.extBut _ _ c2 (hs₂.extBut _ _ c3 (hs₁.extBut _ _ c1 x)))))

theorem zip_go {elts : List Expr} {x1} {pos : Pos} {z TI TO T : Addr} {Q : Unit → Shared → Prop} (hz : s.heap.get? z = some (zipObj TI TO (rawInt T)))
    (hQ : ∀ h', h'.get? z = some (zipObj TI TO .none) → Heap.SameBut z s.heap h' → Q () { s with heap := h' }) :
    wpAny (model prog w) A (letOwnedTupleGo (.Tuple elts x1 pos) (.ref z) (.ref T)) Q E s := wpAny_letOwnedTupleGo_zip hz hQ

def rgT (a b c : Int) : String := if Builtin.Range.small a b c then "range_iterator" else "longrange_iterator"
theorem rgT_is {a b c : Int} : RgT (rgT a b c) := by unfold rgT RgT; split <;> simp
theorem pyIter_rg {r : Addr} {a b c : Int} {t u v : Tok} {Q : Value → Shared → Prop} (hr : IsRange s.heap r a b c t u v)
    (hQ : Q (.ref s.heap.objs.size) { s with heap := s.heap.push (rgObj (rgT a b c) a (Builtin.Range.rangeSize a b c) c) }) : wpAny (model prog w) A (pyIter (.ref r)) Q E s := by
  cases hb : Builtin.Range.small a b c with
  | false => exact wpAny_pyIter_longrange hr hb (by simpa [rgT, hb, rgObj] using hQ)
  | true => exact wpAny_pyIter_range hr hb (by simpa [rgT, hb, rgObj] using hQ)

abbrev zr1 (h : Heap) (a b c : Int) : Heap := h.push (rgObj (rgT a b c) a (Builtin.Range.rangeSize a b c) c)
abbrev zr2 (h : Heap) (a b c : Int) (IT : Addr) : Heap := (zr1 h a b c).push (pairObj (.ref h.objs.size) (.ref IT))
abbrev zr3 (h : Heap) (a b c : Int) (IT : Addr) : Heap := (zr2 h a b c IT).push (pairObj .none .none)
abbrev zr4 (h : Heap) (a b c : Int) (IT : Addr) : Heap := (zr3 h a b c IT).push (zipObj (zr1 h a b c).objs.size (zr2 h a b c IT).objs.size .none)

theorem meets_zip_rg (R IT l : Addr) (k : Nat) (a b c : Int) (t u v : Tok) :
    Meets (Builtin.«zip.__new__» ⟨[.type "zip", .ref R, .ref IT], []⟩) (fun _ P s => IsRange s.heap R a b c t u v ∧ s.heap.get? IT = some (liObj l k) ∧
      P (.ok (.ret (.ref (zr3 s.heap a b c IT).objs.size))) { s with heap := zr4 s.heap a b c IT }) :=
  .of_wp fun prog w A R' s h => by
    obtain ⟨hp, g, d, tk, os⟩ := s; obtain ⟨hl1, hl2, h⟩ := h
    have hsub := sub_zip
    have hL1 : IsRange (Shared.heap ⟨hp, g, d, tk, os⟩) R a b c t u v := hl1
    have hL2 : Heap.IsListIter (Shared.heap ⟨hp.push (rgObj (rgT a b c) a (Builtin.Range.rangeSize a b c) c), g, d, tk, os⟩) IT l k := li_is (Heap.get?_push_of_some _ hl2)
    wp_walk using pyIter_rg hL1, wpAny_pyIter_listiter hL2
    exact ⟨_, rfl, h⟩

theorem call_zip_rg {R IT l : Addr} {k : Nat} {a b c : Int} {t u v : Tok} {Q : Value → Shared → Prop} (hR : IsRange s.heap R a b c t u v) (hI : s.heap.get? IT = some (liObj l k))
    (h : ∀ h' z TI TO i1, Apart5 z TI TO i1 IT → h'.get? z = some (zipObj TI TO .none) → h'.get? TI = some (pairObj (.ref i1) (.ref IT)) → h'.get? TO = some (pairObj .none .none) →
      h'.get? i1 = some (rgObj (rgT a b c) a (Builtin.Range.rangeSize a b c) c) → s.heap.get? z = none → s.heap.get? TI = none → s.heap.get? TO = none → s.heap.get? i1 = none → s.heap.StaysIn h' → Q (.ref z) { s with heap := h' }) :
    wpAny (model prog w) A (call (.type "zip") [.ref R, .ref IT]) Q E s := by
  refine callType_new F.called_zip (by decide) (F.typeCall_zip_2 _ _) (F.newCall_zip_2 _ _) (fun obj => F.args_object_init_3 obj _ _) F.entry_zip_new
    (meets_zip_rg R IT l k a b c t u v) ⟨hR, hI, ?_⟩
  have z1 : (zr1 s.heap a b c).objs.size = s.heap.objs.size + 1 := Heap.size_push ..
  have z2 : (zr2 s.heap a b c IT).objs.size = s.heap.objs.size + 2 := by rw [Heap.size_push, z1]
  have z3 : (zr3 s.heap a b c IT).objs.size = s.heap.objs.size + 3 := by rw [Heap.size_push, z2]
  have g4 : (zr4 s.heap a b c IT).get? (zr3 s.heap a b c IT).objs.size = some (zipObj (zr1 s.heap a b c).objs.size (zr2 s.heap a b c IT).objs.size .none) := Heap.get?_push_size _ rfl
  have g3 : (zr4 s.heap a b c IT).get? (zr2 s.heap a b c IT).objs.size = some (pairObj .none .none) := Heap.get?_push_of_some _ (Heap.get?_push_size _ rfl)
  have g2 : (zr4 s.heap a b c IT).get? (zr1 s.heap a b c).objs.size = some (pairObj (.ref s.heap.objs.size) (.ref IT)) := Heap.get?_push_of_some _ (Heap.get?_push_of_some _ (Heap.get?_push_size _ rfl))
  have g1 : (zr4 s.heap a b c IT).get? s.heap.objs.size = some (rgObj (rgT a b c) a (Builtin.Range.rangeSize a b c) c) := Heap.get?_push_of_some _ (Heap.get?_push_of_some _ (Heap.get?_push_of_some _ (Heap.get?_push_size _ rfl)))
  have hlt : IT < s.heap.objs.size := Heap.lt_size hI
  show _ ∧ _
  rw [z1, z2, z3] at g4
  rw [z2] at g3
  rw [z1] at g2
  rw [z3]
  have D : ∀ n : Nat, @LT.lt Nat _ IT n → Apart5 (n + 3) (n + 1) (n + 2) n IT := fun n hn => ⟨fun (q : @Eq Nat _ _) => by lia, fun (q : @Eq Nat _ _) => by lia, fun (q : @Eq Nat _ _) => by lia, fun (q : @Eq Nat _ _) => by lia, fun (q : @Eq Nat _ _) => by lia, fun (q : @Eq Nat _ _) => by lia, fun (q : @Eq Nat _ _) => by lia, fun (q : @Eq Nat _ _) => by lia, fun (q : @Eq Nat _ _) => by lia, fun (q : @Eq Nat _ _) => by lia⟩
  exact ⟨⟨_, g4, rfl⟩, h _ _ _ _ _ (D _ hlt) g4 g2 g3 g1 (Heap.get?_none_of_le (Nat.le_add_right _ _)) (Heap.get?_none_of_le (Nat.le_add_right _ _)) (Heap.get?_none_of_le (Nat.le_add_right _ _)) (Heap.get?_none_of_le (Nat.le_refl _)) fun c o x =>
    Heap.get?_push_of_some _ (Heap.get?_push_of_some _ (Heap.get?_push_of_some _ (Heap.get?_push_of_some _ x)))⟩
theorem pyIter_zip {z TI TO : Addr} {f0 : Value} {Q : Value → Shared → Prop} (hz : s.heap.get? z = some (zipObj TI TO f0)) (h : Q (.ref z) s) : wpAny (model prog w) A (pyIter (.ref z)) Q E s := wpAny_pyIter_zip hz h
end
-- B9
section
variable {prog : Program} {w : World} {A : Around} {s : Shared} {E : Value → Shared → Prop}

theorem comp_loop {elt target iter : Expr} {ifs : List Expr} {scope : Scope} {pos : Pos} {it acc : Value} {env : Env} {R : Result → Shared → Prop} (I : Nat → Shared → Prop)
    (turn : ∀ n s, I n s → wpAny (model prog w) A (pyNext it) (fun r s₁ => match r with
      | none => R (.ok .next) s₁
      | some v => wpAny (model prog w) A (letOwnedTupleGo target it v) (fun _ s₁' => wpAny (model prog w) A (assign target env v) (fun _ s₂ =>
          wpAny (model prog w) A (forIn ifs true fun c r => if r = true then do let ok ← isTrue c env (eval c env); pure (ForInStep.yield ok) else pure (ForInStep.yield r)) (fun ok s₃ =>
            if ok = true then wpAny (model prog w) A (eval elt env) (fun x s₄ =>
              wpAny (model prog w) A (call (.builtin "list.append") [acc, x]) (fun _ s₅ => ∃ m, m < n ∧ I m s₅) (notedBy (model prog w) A env fun e s' => R (.error e) s') s₄) (notedBy (model prog w) A env fun e s' => R (.error e) s') s₃
            else ∃ m, m < n ∧ I m s₃) (notedBy (model prog w) A env fun e s' => R (.error e) s') s₂) (notedBy (model prog w) A env fun e s' => R (.error e) s') s₁') (notedBy (model prog w) A env fun e s' => R (.error e) s') s₁) (notedBy (model prog w) A env fun e s' => R (.error e) s') s)
    (n : Nat) (h : I n s) : codeAny (model prog w) A (.compLoop (.ListComp elt [⟨target, iter, ifs, 0⟩] scope pos) 0 it acc env) R s := by
  refine codeAny_loop rfl I (fun n s hI => ?_) n h
  show wpAny _ A ((compTurn (.ListComp elt [⟨target, iter, ifs, 0⟩] scope pos) 0 it acc env).onRaise (fun x => do noteFrame x env; theTreesLotGoes x)) _ _ s
  refine wpAny_noted ?_
  rw [compTurn_list]
  refine wpAny_bind (wpAny_standAt (wpAny_bind (wpAny_mono (turn n s hI) (fun r s₁ h₁ => ?_) fun _ _ h' => h')))
  cases r with
  | none => exact wpAny_pure h₁
  | some v =>
    refine wpAny_bind (wpAny_mono h₁ (fun _ s₁' h₁' => ?_) fun _ _ h' => h')
    refine wpAny_bind (wpAny_mono h₁' (fun _ s₂ h₂ => wpAny_bind (wpAny_mono h₂ (fun ok s₃ h₃ => ?_) fun _ _ h' => h')) fun _ _ h' => h')
    cases ok with
    | false => exact wpAny_pure ⟨rfl, h₃⟩
    | true =>
      exact wpAny_bind (wpAny_bind (wpAny_mono h₃ (fun x s₄ h₄ => wpAny_bind (wpAny_mono h₄ (fun _ s₅ h₅ => wpAny_pure (wpAny_pure ⟨rfl, h₅⟩)) fun _ _ h' => h')) fun _ _ h' => h'))

theorem ns_at {h h' : Heap} {a : Addr} {m : Str → Option Value} (hn : h.Ns a m) (e : ∀ o, h.get? a = some o → h'.get? a = some o) : h'.Ns a m :=
  let ⟨o, es, ep, x, r⟩ := hn; ⟨o, es, ep, e _ x, r⟩
theorem ns_there {h : Heap} {a : Addr} {m : Str → Option Value} (hn : h.Ns a m) : ∃ o, h.get? a = some o := let ⟨o, _, _, x, _⟩ := hn; ⟨o, x⟩

/-- what the loop's start has and the loop does not write -/
def Kept (wr : List Addr) (C D : Addr) (h h' : Heap) : Prop := ∀ c o, c ∉ wr → c ≠ C → c ≠ D → h.get? c = some o → h'.get? c = some o
theorem Kept.refl {wr : List Addr} {C D : Addr} {h : Heap} : Kept wr C D h h := fun _ _ _ _ _ e => e
theorem Kept.trans {wr : List Addr} {C D : Addr} {h h' h'' : Heap} (x : Kept wr C D h h') (y : Kept wr C D h' h'') : Kept wr C D h h'' := fun c o a b d e => y c o a b d (x c o a b d e)

theorem comp_turns {elt target iter : Expr} {ifs : List Expr} {scope : Scope} {pos : Pos} {it : Value} {C D : Addr} {cenv : Env} {R : Result → Shared → Prop} {n : Nat} (p : Nat → Bool)
    (St : Nat → Heap → Prop) (wr : List Addr) (Nm : Nat → (Str → Option Value) → Prop) (YP : Nat → Value → List (Addr × Obj) → Prop) (Dn : Heap → Prop) {m₀ : Str → Option Value} {c₀ : Nat}
    (hDC : D ≠ C) (hDw : D ∉ wr) (hCw : C ∉ wr) (hn : n ≤ 1000)
    (alive : ∀ j h, St j h → ∀ a ∈ wr, ∃ o, h.get? a = some o)
    (frame : ∀ j h h', St j h → (∀ c o, c ≠ C → c ≠ D → h.get? c = some o → h'.get? c = some o) → St j h')
    (hturn : ∀ j h m₂ tk E', j < n → St j h → h.Ns C m₂ → Kept wr C D s.heap h → wpAny (model prog w) A (pyNext it) (fun r s₁ => ∃ v, r = some v ∧ wpAny (model prog w) A (letOwnedTupleGo target it v) (fun _ s₂ =>
      wpAny (model prog w) A (assign target cenv v) (fun _ s₃ => ∃ h₃ tk₃ m₃, s₃ = { s with heap := h₃, toks := tk₃ } ∧ St (j + 1) h₃ ∧ h₃.Ns C m₃ ∧ Nm j m₃ ∧ (∀ c o, c ∉ wr → c ≠ C → h.get? c = some o → h₃.get? c = some o)) E' s₂) E' s₁) E' { s with heap := h, toks := tk })
    (htest : ∀ j h m₃ tk E', j < n → St (j + 1) h → h.Ns C m₃ → Nm j m₃ → Kept wr C D s.heap h →
      wpAny (model prog w) A (forIn ifs true fun c r => if r = true then do let ok ← isTrue c cenv (eval c cenv); pure (ForInStep.yield ok) else pure (ForInStep.yield r)) (fun ok s' => ok = p j ∧ ∃ h' tk', s' = { s with heap := h', toks := tk' } ∧ h.StaysIn h') E' { s with heap := h, toks := tk })
    (helt : ∀ j h m₃ tk E', j < n → p j = true → St (j + 1) h → h.Ns C m₃ → Nm j m₃ → Kept wr C D s.heap h →
      wpAny (model prog w) A (eval elt cenv) (fun y s' => ∃ h' tk' nw, s' = { s with heap := h', toks := tk' } ∧ h.StaysIn h' ∧ YP j y nw ∧ ∀ q ∈ nw, h'.get? q.1 = some q.2 ∧ h.get? q.1 = none) E' { s with heap := h, toks := tk })
    (hdone : ∀ h tk (Q : Option Value → Shared → Prop) E', St n h → Kept wr C D s.heap h → (∀ h' tk', Dn h' → (∀ c o, c ∉ wr → h.get? c = some o → h'.get? c = some o) → Q none { s with heap := h', toks := tk' }) → wpAny (model prog w) A (pyNext it) Q E' { s with heap := h, toks := tk })
    (hst : St 0 s.heap) (hC : s.heap.Ns C m₀) (hD : s.heap.get? D = some (listOf #[] c₀))
    (hR : ∀ h' tk' m₂ (rs : List (Value × List (Addr × Obj))) c, rs.length = ((List.range n).filter p).length → (∀ i r, rs[i]? = some r → YP (((List.range n).filter p).getD i 0) r.1 r.2) →
      (∀ r ∈ rs, ∀ q ∈ r.2, h'.get? q.1 = some q.2 ∧ s.heap.get? q.1 = none) → h'.Ns C m₂ → h'.get? D = some (listOf (rs.map (·.1)).toArray c) → Dn h' → Kept wr C D s.heap h' → R (.ok .next) { s with heap := h', toks := tk' }) :
    codeAny (model prog w) A (.compLoop (.ListComp elt [⟨target, iter, ifs, 0⟩] scope pos) 0 it (.ref D) cenv) R s := by
  refine comp_loop (fun k s' => ∃ j h tk m₂ rs c, k = n + 1 - j ∧ j ≤ n ∧ s' = { s with heap := h, toks := tk } ∧ St j h ∧ h.Ns C m₂ ∧ h.get? D = some (listOf (rs.map Prod.fst).toArray c) ∧ Kept wr C D s.heap h ∧
    rs.length = ((List.range j).filter p).length ∧ (∀ i r, rs[i]? = some r → YP (((List.range j).filter p).getD i 0) r.1 r.2) ∧ (∀ r ∈ rs, ∀ q ∈ r.2, h.get? q.1 = some q.2 ∧ s.heap.get? q.1 = none)) ?_ (n + 1)
    ⟨0, s.heap, s.toks, m₀, [], c₀, rfl, Nat.zero_le _, rfl, hst, hC, hD, Kept.refl, rfl, fun i r e => by simp at e, fun r hr => by simp at hr⟩
  rintro k s' ⟨j, h, tk, m₂, rs, c, rfl, hj, rfl, hst', hC', hD', hK, hlen, hY, hN⟩
  have hrl : rs.length ≤ j := by rw [hlen]; exact Nat.le_trans (List.length_filter_le _ _) (by simp)
  by_cases hlt : j < n
  · refine wpAny_mono (hturn j h m₂ tk _ hlt hst' hC' hK) (fun r s₁ hr => ?_) fun _ _ e => e
    refine e1_2 (hr) ?_
    (try clear hr)
    intro v zr1 hr
    first | subst zr1 | cases zr1
    refine wpAny_mono hr (fun _ s₂ h2 => wpAny_mono h2 (fun _ s₃ h3 => ?_) fun _ _ e => e) fun _ _ e => e
    refine e3_5 (h3) ?_
    (try clear h3)
    intro h₃ tk₃ m₃ zr3 st₃ C₃ nm₃ k₃
    first | subst zr3 | cases zr3
    have notin : ∀ a, s.heap.get? a = none → a ∉ wr ∧ a ≠ C ∧ a ≠ D := fun a ha => by
      refine ⟨fun hm => ?_, fun q => ?_, fun q => ?_⟩
      · obtain ⟨o, ho⟩ := alive _ _ hst a hm; rw [ha] at ho; cases ho
      · obtain ⟨o, ho⟩ := ns_there hC; rw [← q, ha] at ho; cases ho
      · rw [q, hD] at ha; cases ha
    have K₃ : Kept wr C D s.heap h₃ := fun c o a b d e => k₃ c o a b (hK c o a b d e)
    have D₃ : h₃.get? D = some (listOf (rs.map Prod.fst).toArray c) := k₃ _ _ hDw hDC hD'
    have N₃ : ∀ r ∈ rs, ∀ q ∈ r.2, h₃.get? q.1 = some q.2 ∧ s.heap.get? q.1 = none := fun r hr q hq => ⟨k₃ _ _ (notin _ (hN r hr q hq).2).1 (notin _ (hN r hr q hq).2).2.1 (hN r hr q hq).1, (hN r hr q hq).2⟩
    refine wpAny_mono (htest j h₃ m₃ tk₃ _ hlt st₃ C₃ nm₃ K₃) (fun ok s₄ h4 => ?_) fun _ _ e => e
    obtain ⟨rfl, h₄, tk₄, rfl, t4⟩ := h4
    have st₄ := frame _ _ h₄ st₃ fun c o _ _ e => t4 c o e
    have C₄ := ns_at C₃ fun o e => t4 _ o e
    have K₄ : Kept wr C D s.heap h₄ := fun c o a b d e => t4 c o (K₃ c o a b d e)
    have rg : (List.range (j + 1)).filter p = (List.range j).filter p ++ if p j then [j] else [] := by
      rw [List.range_succ, List.filter_append]; cases hp : p j <;> simp [hp]
    by_cases hp : p j = true
    · rw [if_pos hp]
      rw [if_pos hp] at rg
      refine wpAny_mono (helt j h₄ m₃ tk₄ _ hlt hp st₄ C₄ nm₃ K₄) (fun y s₅ h5 => ?_) fun _ _ e => e
      refine e3_4 (h5) ?_
      (try clear h5)
      intro h₅ tk₅ nw zr3 t5 y5 n5
      first | subst zr3 | cases zr3
      have D₅ : h₅.get? D = some (listOf (rs.map Prod.fst).toArray c) := t5 _ _ (t4 _ _ D₃)
      refine wpAny_list_append_plain ⟨_, D₅⟩ (fun h₆ l6 s6 => ?_) (hsz := by rw [List.size_toArray, List.length_map, sizeLine_eq]; lia)
      obtain ⟨c6, l6⟩ := l6
      have K₅ : Kept wr C D s.heap h₅ := fun c o a b d e => t5 c o (K₄ c o a b d e)
      have st₅ := frame _ _ h₅ st₄ fun c o _ _ e => t5 c o e
      have fresh5 : ∀ q ∈ nw, s.heap.get? q.1 = none := fun q hq => by
        cases z : s.heap.get? q.1 with
        | none => rfl
        | some o =>
          have hn4 := (n5 q hq).2
          by_cases a1 : q.1 ∈ wr
          · obtain ⟨o', ho'⟩ := alive _ _ st₄ _ a1; rw [hn4] at ho'; cases ho'
          by_cases a2 : q.1 = C
          · obtain ⟨o', ho'⟩ := ns_there C₄; rw [← a2, hn4] at ho'; cases ho'
          by_cases a3 : q.1 = D
          · rw [a3, t4 _ _ D₃] at hn4; cases hn4
          rw [K₄ _ _ a1 a2 a3 z] at hn4; cases hn4
      refine ⟨n + 1 - (j + 1), by lia, j + 1, h₆, tk₅, m₃, rs ++ [(y, nw)], c6, rfl, hlt, rfl, frame _ _ h₆ st₅ fun c o _ d e => s6.extBut c o d e, ns_at C₄ fun o e => s6.extBut _ o (Ne.symm hDC) (t5 _ o e), ?_, fun c o a b d e => s6.extBut c o d (K₅ c o a b d e), ?_, ?_, ?_⟩
      · simpa using l6
      · rw [rg]; simp [hlen]
      · intro i r e
        rw [rg]
        rcases Nat.lt_trichotomy i rs.length with hi | hi | hi
        · rw [List.getElem?_append_left hi] at e
          have := hY i r e
          rwa [List.getD_eq_getElem?_getD, List.getElem?_append_left (by lia), ← List.getD_eq_getElem?_getD]
        · subst hi
          rw [List.getElem?_append_right (Nat.le_refl _)] at e
          simp at e; subst e
          rw [List.getD_eq_getElem?_getD, List.getElem?_append_right (by lia), hlen]
          simpa using y5
        · rw [List.getElem?_append_right (by lia)] at e
          have : i - rs.length ≠ 0 := by lia
          obtain ⟨d, hd⟩ : ∃ d, i - rs.length = d + 1 := ⟨i - rs.length - 1, by lia⟩
          rw [hd] at e; simp at e
      · intro r hr q hq
        rcases List.mem_append.mp hr with hr | hr
        · have z := N₃ r hr q hq
          exact ⟨s6.extBut _ _ (notin _ z.2).2.2 (t5 _ _ (t4 _ _ z.1)), z.2⟩
        · rw [List.mem_singleton] at hr
          subst hr
          have z := fresh5 q hq
          exact ⟨s6.extBut _ _ (notin _ z).2.2 (n5 q hq).1, z⟩
    · rw [if_neg hp]
      have hp' : p j = false := by simpa using hp
      rw [if_neg hp, List.append_nil] at rg
      refine ⟨n + 1 - (j + 1), by lia, j + 1, h₄, tk₄, m₃, rs, c, rfl, hlt, rfl, st₄, C₄, t4 _ _ D₃, K₄, by rw [rg]; exact hlen, by rw [rg]; exact hY, fun r hr q hq => ⟨t4 _ _ (N₃ r hr q hq).1, (N₃ r hr q hq).2⟩⟩
  · obtain rfl : j = n := by lia
    refine hdone h tk _ _ hst' hK fun h' tk' d' k' => ?_
    have notin : ∀ a, s.heap.get? a = none → a ∉ wr := fun a ha hm => by
      obtain ⟨o, ho⟩ := alive _ _ hst a hm; rw [ha] at ho; cases ho
    exact hR h' tk' m₂ rs c hlen hY (fun r hr q hq => ⟨k' _ _ (notin _ (hN r hr q hq).2) (hN r hr q hq).1, (hN r hr q hq).2⟩) (ns_at hC' fun o e => k' _ o hCw e) (k' _ _ hDw hD') d' fun c o a b d e => k' c o a (hK c o a b d e)
end
-- B10
section
variable {prog : Program} {w : World} {A : Around} {s : Shared} {E : Value → Shared → Prop} {env : Env}

def CompGo (prog : Program) (w : World) (A : Around) (env : Env) (elt target iter : Expr) (ifs : List Expr) (scope : Scope) (cl : List (Str × Addr)) (pos : Pos) (RR : Value → Addr → Result → Shared → Prop) (it : Value) (s₂ : Shared) : Prop :=
  ∀ C D h₁ tk, s₂.heap.StaysIn h₁ → s₂.heap.get? C = none → s₂.heap.get? D = none → D ≠ C → h₁.Ns C (fun _ => none) → h₁.get? D = some (listOf #[] 0) →
    (∀ (Q : Value → Shared → Prop) (E : Value → Shared → Prop), Q it { s₂ with heap := h₁, toks := tk } → wpAny (model prog w) A (pyIter it) Q E { s₂ with heap := h₁, toks := tk }) ∧
    codeAny (model prog w) A (.compLoop (.ListComp elt [⟨target, iter, ifs, 0⟩] scope pos) 0 it (.ref D) (compEnvC scope cl C env)) (RR (.ref D) C) { s₂ with heap := h₁, toks := tk }

theorem comp_block {elt target iter : Expr} {ifs : List Expr} {scope : Scope} {cl : List (Str × Addr)} {pos : Pos} {it : Value} {RR : Value → Addr → Result → Shared → Prop}
    (hcell : ∀ y ∈ scope.names, y.2 ≠ .cell) (hkind : scope.kind = .function) (h : CompGo prog w A env elt target iter ifs scope cl pos RR it s) :
    wpAny (model prog w) A (newList []) (fun acc s₃ => wpAny (model prog w) A (newFunctionEnv scope env.globals cl [] env.qual none .none (some env)) (fun cenv s₄ =>
      codeAny (model prog w) A (.compStart (.ListComp elt [⟨target, iter, ifs, 0⟩] scope pos) 0 it acc { cenv with scope := relabel scope env }) (RR acc cenv.locals) s₄) E s₃) E s := by
  refine wpAny_newObj_type (wpAny_newFunctionEnv hcell (by intro y hy; simp at hy) (fun h₁ hns₁ hsb₁ => ?_) hkind)
  dsimp only at hns₁ hsb₁ ⊢
  generalize hH2 : s.heap.push { cls := .type "list", dict := none, data := .seq ([] : List Value).toArray } = H2 at hns₁ hsb₁ ⊢
  have hC : H2.objs.size = s.heap.objs.size + 1 := by rw [← hH2, Heap.size_push]
  have hDC : s.heap.objs.size ≠ H2.objs.size := by rw [hC]; exact Nat.ne_of_lt (Nat.lt_succ_self _)
  have old : s.heap.StaysIn h₁ := fun b o e => hsb₁.extBut b o (by rw [hC]; exact Nat.ne_of_lt (Nat.lt_succ_of_lt (Heap.lt_size e))) (Heap.get?_push_of_some _ (hH2 ▸ Heap.get?_push_of_some _ e))
  have hacc : h₁.get? s.heap.objs.size = some (listOf #[] 0) := hsb₁.extBut _ _ hDC (Heap.get?_push_of_some _ (hH2 ▸ Heap.get?_push_size _ rfl))
  obtain ⟨k1, k2⟩ := h H2.objs.size s.heap.objs.size h₁ (s.toks + ([] : List (Str × Value)).length) old (Heap.get?_none_of_le (by rw [hC]; exact Nat.le_succ _)) (Heap.get?_none_of_le (Nat.le_refl _)) hDC hns₁ hacc
  exact codeAny_compStart_list k2 (k1 _ _ k2)

theorem list_comp {elt target iter : Expr} {ifs : List Expr} {scope : Scope} {cl : List (Str × Addr)} {pos : Pos} {Q : Value → Shared → Prop}
    (hclos : closureFor scope env = pure cl) (hcell : ∀ y ∈ scope.names, y.2 ≠ .cell) (hkind : scope.kind = .function)
    (hnames : ∀ y ∈ scope.names, y.2 = .local → scope.names.lookup y.1 = some .local)
    (h : wpAny (model prog w) A (eval iter env) (fun xv s₁ => wpAny (model prog w) A (pyIter xv) (fun it s₂ =>
      CompGo prog w A env elt target iter ifs scope cl pos (fun acc C r s' => r = .ok .next ∧ ∃ m, s'.heap.Ns C m ∧ ∀ h', Heap.SameBut C s'.heap h' → Q acc { s' with heap := h' }) it s₂) E s₁) E s)
    (hs : ∀ x, foldedSetIterable iter env x = pure x := by intro _; rfl) :
    wpAny (model prog w) A (eval (.ListComp elt [⟨target, iter, ifs, 0⟩] scope pos) env) Q E s := by
  rw [eval_ListComp]
  refine wpAny_comprehension_free (use := none) rfl hs hclos hkind hnames (wpAny_mono h (fun xv s₁ h₁ => wpAny_mono h₁ (fun it s₂ h₂ => ?_) fun _ _ e => e) fun _ _ e => e)
  refine comp_block (RR := fun acc C => compPost (model prog w) A E none Q acc C) hcell hkind ?_
  intro C D h₁ tk a b c d e f
  obtain ⟨g1, g2⟩ := h₂ C D h₁ tk a b c d e f
  refine ⟨g1, codeAny_mono g2 fun r s' hr => ?_⟩
  obtain ⟨rfl, hr⟩ := hr
  exact hr

theorem assign_comp {elt target iter : Expr} {y : Str} {py : Pos} {ifs : List Expr} {scope : Scope} {cl : List (Str × Addr)} {pos spos : Pos} {Q : Flow → Shared → Prop}
    (hsw : swapsWith (.ListComp elt [⟨target, iter, ifs, 0⟩] scope pos) (some (.Name y py)) spos.line env = pure true)
    (hclos : closureFor scope env = pure cl) (hcell : ∀ z ∈ scope.names, z.2 ≠ .cell) (hkind : scope.kind = .function)
    (hnames : ∀ z ∈ scope.names, z.2 = .local → scope.names.lookup z.1 = some .local)
    (hy : env.kindOf y = some .local) (hp : (env.scope.kind == .class || (env.scope.kind == .module && env.locals != env.globals)) = false)
    (h : wpAny (model prog w) A (eval iter env) (fun xv s₁ => wpAny (model prog w) A (pyIter xv) (fun it s₂ =>
      CompGo prog w A env elt target iter ifs scope cl pos (fun acc C r s' => r = .ok .next ∧ ∃ m mL, s'.heap.Ns C m ∧ s'.heap.Ns env.locals mL ∧ C ≠ env.locals ∧
        ∀ h' tk, h'.Ns env.locals (fun z => if z = y then some acc else mL z) → (∀ c o, c ≠ env.locals → c ≠ C → s'.heap.get? c = some o → h'.get? c = some o) → Q .next { s' with heap := h', toks := tk }) it s₂) E s₁) E s)
    (hs : ∀ x, foldedSetIterable iter env x = pure x := by intro _; rfl) :
    wpAny (model prog w) A (exec (.Assign [.Name y py] (.ListComp elt [⟨target, iter, ifs, 0⟩] scope pos) spos) env) Q E s := by
  rw [exec_Assign_Name_used _ _ _ _ hsw]
  refine wpAny_bind (wpAny_standAt (wpAny_bind ?_))
  show wpAny _ A (do let _ ← comprehension (.ListComp elt [⟨target, iter, ifs, 0⟩] scope pos) scope env _ (newList []) false (eval iter env) (some (assign (.Name y py) env))) _ _ s
  refine wpAny_bind (wpAny_mono (wpAny_comprehension_free (use := some (assign (.Name y py) env)) (Q := fun _ s' => Q .next s') rfl hs hclos hkind hnames
    (wpAny_mono h (fun xv s₁ h₁ => wpAny_mono h₁ (fun it s₂ h₂ => ?_) fun _ _ e => e) fun _ _ e => e)) (fun _ s' hq => wpAny_pure (wpAny_pure hq)) fun _ _ e => e)
  refine comp_block (RR := fun acc C => compPost (model prog w) A E (some (assign (.Name y py) env)) (fun _ s' => Q .next s') acc C) hcell hkind ?_
  intro C D h₁ tk a b c d e f
  obtain ⟨g1, g2⟩ := h₂ C D h₁ tk a b c d e f
  refine ⟨g1, codeAny_mono g2 fun r s' hr => ?_⟩
  obtain ⟨rfl, m, mL, hm, hL, hne, hr⟩ := hr
  show wpAny _ A (assign (.Name y py) env (.ref D)) _ _ _
  refine wpAny_assign_Name (wpAny_storeName_local hy hL (fun h₂ hn₂ hs₂ => ?_) hp)
  refine ⟨m, ns_at hm fun o e => hs₂.extBut _ o hne e, fun h₃ hs₃ => ?_⟩
  exact hr h₃ _ (ns_at hn₂ fun o e => hs₃.extBut _ o (Ne.symm hne) e) fun c o c1 c2 e => hs₃.extBut _ o c2 (hs₂.extBut _ o c1 e)

theorem cenv_plain {scope : Scope} {cl : List (Str × Addr)} {C : Addr} (hkind : scope.kind = .function) :
    ((compEnvC scope cl C env).scope.kind == .class || ((compEnvC scope cl C env).scope.kind == .module && (compEnvC scope cl C env).locals != (compEnvC scope cl C env).globals)) = false := by simp [compEnvC, relabel, hkind]

/-- names stored one by one in the comprehension's own namespace -/
theorem store_c {scope : Scope} {cl : List (Str × Addr)} {C : Addr} {x : Str} {px : Pos} {v : Value} {m : Str → Option Value} {Q : Unit → Shared → Prop} (hkind : scope.kind = .function) (hx : scope.names.lookup x = some .local) (hn : s.heap.Ns C m)
    (h : ∀ h' tk, h'.Ns C (fun y => if y = x then some v else m y) → Heap.SameBut C s.heap h' → Q () { s with heap := h', toks := tk }) : wpAny (model prog w) A (assign (.Name x px) (compEnvC scope cl C env) v) Q E s :=
  wpAny_assign_Name (wpAny_storeName_local (env := compEnvC scope cl C env) (lookup_relabel_local hx) hn (fun h' a b => h h' _ a b) (cenv_plain hkind))
theorem load_c {scope : Scope} {cl : List (Str × Addr)} {C : Addr} {x : Str} {px : Pos} {v : Value} {m : Str → Option Value} {Q : Value → Shared → Prop} (hkind : scope.kind = .function) (hx : scope.names.lookup x = some .local) (hn : s.heap.Ns C m) (hv : m x = some v)
    (h : Q v s) (hd : (x == ("__debug__" : Str)) = false := by decide) : wpAny (model prog w) A (eval (.Name x px) (compEnvC scope cl C env)) Q E s :=
  wpAny_Name (wpAny_loadName_local (env := compEnvC scope cl C env) hkind (lookup_relabel_local hx) hn hv h) hd

/-- the comprehension over zip(range, list iterator) -/
theorem zip_comp {elt iter : Expr} {xi xe : Str} {p1 p2 tp : Pos} {kk} {scope : Scope} {cl : List (Str × Addr)} {pos : Pos} {R : Result → Shared → Prop} {C D z TI TO i1 IT LST : Addr} {T : String} {a0 step : Int} {left N c0 c1 n : Nat} {e : Nat → Value}
    {m₀ : Str → Option Value} {va vb : Value} (YP : Nat → Value → List (Addr × Obj) → Prop)
    (hh : A.handled = none) (hkind : scope.kind = .function) (hxi : scope.names.lookup xi = some .local) (hxe : scope.names.lookup xe = some .local) (hne : xi ≠ xe)
    (hT : RgT T) (ap : Apart5 z TI TO i1 IT) (hnn : n = min left N) (hn1 : n ≤ 1000)
    (hz : s.heap.get? z = some (zipObj TI TO .none)) (hTI : s.heap.get? TI = some (pairObj (.ref i1) (.ref IT))) (hTO : s.heap.get? TO = some (pairObj va vb)) (h1 : s.heap.get? i1 = some (rgObj T a0 left step)) (h2 : s.heap.get? IT = some (liObj LST 0))
    (hl : s.heap.get? LST = some (listOf ((List.range N).map e).toArray c0)) (hC : s.heap.Ns C m₀) (hD : s.heap.get? D = some (listOf #[] c1)) (hDC : D ≠ C)
    (offC : C ∉ [z, TI, TO, i1, IT, LST]) (offD : D ∉ [z, TI, TO, i1, IT, LST])
    (helt : ∀ j h m₃ tk t E', j < n → h.Ns C m₃ → m₃ xi = some (.int (a0 + j * step) t) → m₃ xe = some (e j) → Kept [z, TO, i1, IT] C D s.heap h →
      wpAny (model prog w) A (eval elt (compEnvC scope cl C env)) (fun y s' => ∃ h' tk' nw, s' = { s with heap := h', toks := tk' } ∧ h.StaysIn h' ∧ YP j y nw ∧ ∀ q ∈ nw, h'.get? q.1 = some q.2 ∧ h.get? q.1 = none) E' { s with heap := h, toks := tk })
    (hR : ∀ h' tk' m₂ (rs : List (Value × List (Addr × Obj))) c, rs.length = n → (∀ i r, rs[i]? = some r → YP i r.1 r.2) →
      (∀ r ∈ rs, ∀ q ∈ r.2, h'.get? q.1 = some q.2 ∧ s.heap.get? q.1 = none) → h'.Ns C m₂ → h'.get? D = some (listOf (rs.map (·.1)).toArray c) → (h'.get? IT = some (liObj LST n) ∧ left ≤ N ∨ h'.get? IT = some (liEnd n) ∧ N < left) → Kept [z, TO, i1, IT] C D s.heap h' → R (.ok .next) { s with heap := h', toks := tk' }) :
    codeAny (model prog w) A (.compLoop (.ListComp elt [⟨.Tuple [.Name xi p1, .Name xe p2] kk tp, iter, [], 0⟩] scope pos) 0 (.ref z) (.ref D) (compEnvC scope cl C env)) R s := by
  simp only [List.mem_cons, List.not_mem_nil, or_false, not_or] at offC offD
  refine e0_6 (offC) ?_
  (try clear offC)
  intro oC1 oC2 oC3 oC4 oC5 oC6
  refine e0_6 (offD) ?_
  (try clear offD)
  intro oD1 oD2 oD3 oD4 oD5 oD6
  have lz : LST ≠ z := fun q => by rw [q, hz] at hl; have := congrArg Obj.cls (Option.some.inj hl); simp [zipObj, W.listOf] at this
  have lTO : LST ≠ TO := fun q => by rw [q, hTO] at hl; have := congrArg Obj.cls (Option.some.inj hl); simp [pairObj, W.listOf] at this
  have li1 : LST ≠ i1 := fun q => by rw [q, h1] at hl; have := congrArg Obj.data (Option.some.inj hl); simp [rgObj, W.listOf] at this
  have lIT : LST ≠ IT := fun q => by rw [q, h2] at hl; have := congrArg Obj.data (Option.some.inj hl); simp [liObj, W.listOf] at this
  refine comp_turns (p := fun _ => true) (n := n)
    (St := fun j h => h.get? z = some (zipObj TI TO .none) ∧ h.get? TI = some (pairObj (.ref i1) (.ref IT)) ∧ (∃ va vb, h.get? TO = some (pairObj va vb)) ∧ h.get? i1 = some (rgObj T (a0 + j * step) ((left : Int) - j) step) ∧ h.get? IT = some (liObj LST j) ∧ h.get? LST = some (listOf ((List.range N).map e).toArray c0))
    (wr := [z, TO, i1, IT]) (Nm := fun j m => (∃ t, m xi = some (.int (a0 + j * step) t)) ∧ m xe = some (e j)) (YP := YP) (Dn := fun h' => h'.get? IT = some (liObj LST n) ∧ left ≤ N ∨ h'.get? IT = some (liEnd n) ∧ N < left)
    hDC (by simp [oD1, oD3, oD4, oD5]) (by simp [oC1, oC3, oC4, oC5]) hn1 ?_ ?_ ?_ ?_ ?_ ?_ ⟨hz, hTI, ⟨_, _, hTO⟩, by simpa using h1, h2, hl⟩ hC hD ?_
  · rintro j h ⟨g1, g2, ⟨va, vb, g3⟩, g4, g5, g6⟩ a ha
    simp only [List.mem_cons, List.not_mem_nil, or_false] at ha
    rcases ha with rfl | rfl | rfl | rfl <;> exact ⟨_, by assumption⟩
  · rintro j h h' ⟨g1, g2, ⟨va, vb, g3⟩, g4, g5, g6⟩ k
    exact ⟨k _ _ (Ne.symm oC1) (Ne.symm oD1) g1, k _ _ (Ne.symm oC2) (Ne.symm oD2) g2, ⟨va, vb, k _ _ (Ne.symm oC3) (Ne.symm oD3) g3⟩, k _ _ (Ne.symm oC4) (Ne.symm oD4) g4, k _ _ (Ne.symm oC5) (Ne.symm oD5) g5, k _ _ (Ne.symm oC6) (Ne.symm oD6) g6⟩
  · rintro j h m₂ tk E' hj ⟨g1, g2, ⟨va, vb, g3⟩, g4, g5, g6⟩ hC' hK
    refine zip_item ap hT g1 g2 g3 g4 g5 g6 (by lia) (y := e j) ?_ fun h₂ t tk₂ k1 k2 k3 k4 k5 k6 k7 => ⟨_, rfl, ?_⟩
    · have : j < N := by lia
      simp [this]
    have tz : h.objs.size ≠ z := Nat.ne_of_gt (Heap.lt_size g1)
    refine zip_go k1 fun h₃ z3 s3 => ?_
    refine assign_Tuple_tuple hh ⟨_, s3.extBut _ _ tz k5, rfl, _, rfl⟩ rfl rfl fun h₅ he => ?_
    have he' : ∀ b o, h₃.get? b = some o → h₅.get? b = some o := fun b o e => he b o (Nat.ne_of_lt (Heap.lt_size e)) e
    have n5 : h₅.Ns C m₂ := ns_at hC' fun o e => he' _ o (s3.extBut _ o oC1 (k7 _ o oC1 oC3 oC4 oC5 e))
    refine assignInOrder_cons (store_c hkind hxi n5 fun h₆ tk₆ n6 s6 => ?_)
    refine assignInOrder_cons (store_c hkind hxe n6 fun h₇ tk₇ n7 s7 => ?_)
    refine assignInOrder_nil ?_
    have up : ∀ c o, c ≠ C → h₃.get? c = some o → h₇.get? c = some o := fun c o hc e => s7.extBut c o hc (s6.extBut c o hc (he' c o e))
    refine ⟨h₇, tk₇, _, rfl, ⟨up _ _ (Ne.symm oC1) z3, up _ _ (Ne.symm oC2) (s3.extBut _ _ ap.TIz (k7 _ _ ap.TIz ap.TITO ap.TIi1 ap.TIi2 g2)), ⟨_, _, up _ _ (Ne.symm oC3) (s3.extBut _ _ ap.TOz k2)⟩, ?_, up _ _ (Ne.symm oC5) (s3.extBut _ _ ap.i2z k4), up _ _ (Ne.symm oC6) (s3.extBut _ _ lz (k7 _ _ lz lTO li1 lIT g6))⟩, n7, ⟨⟨t, ?_⟩, ?_⟩, ?_⟩
    · have e1 : a0 + ((j + 1 : Nat) : Int) * step = a0 + (j : Int) * step + step := by push_cast; rw [Int.add_mul, Int.one_mul, Int.add_assoc]
      have e2 : (left : Int) - ((j + 1 : Nat) : Int) = (left : Int) - (j : Int) - 1 := by push_cast; lia
      rw [e1, e2]
      exact up _ _ (Ne.symm oC4) (s3.extBut _ _ ap.i1z k3)
    · rw [if_neg hne, if_pos rfl]
    · rw [if_pos rfl]
    · intro c o hw hc e
      simp only [List.mem_cons, List.not_mem_nil, or_false, not_or] at hw
      exact up _ _ hc (s3.extBut _ _ hw.1 (k7 _ _ hw.1 hw.2.1 hw.2.2.1 hw.2.2.2 e))
  · rintro j h m₃ tk E' hj st hC' nm hK
    exact wpAny_tests_nil ⟨rfl, h, tk, rfl, fun _ _ e => e⟩
  · rintro j h m₃ tk E' hj _ st hC' ⟨⟨t, q1⟩, q2⟩ hK
    exact helt j h m₃ tk t E' hj hC' q1 q2 hK
  · rintro h tk Q E' ⟨g1, g2, ⟨va, vb, g3⟩, g4, g5, g6⟩ hK k
    refine zip_end hh ap hT g1 g2 g3 g4 g5 g6 ?_ fun h' tk' dn kk => k h' tk' ?_ fun c o hw e => ?_
    · rcases Nat.le_total left N with q | q
      · left; lia
      · right
        have : n = N := by lia
        simp [this]
    · rcases dn with ⟨q1, q2⟩ | ⟨q1, q2⟩
      · exact .inl ⟨q1, by lia⟩
      · exact .inr ⟨q1, by lia⟩
    · simp only [List.mem_cons, List.not_mem_nil, or_false, not_or] at hw
      exact kk c o hw.1 hw.2.1 hw.2.2.1 hw.2.2.2 e
  · intro h' tk' m₂ rs c q1 q2 q3 q4 q5 q6 q7
    have fr : (List.range n).filter (fun _ => true) = List.range n := List.filter_eq_self.mpr (by simp)
    rw [fr] at q1 q2
    rw [List.length_range] at q1
    refine hR h' tk' m₂ rs c q1 (fun i r hr => ?_) q3 q4 q5 q6 q7
    have hi : i < n := by have := (List.getElem?_eq_some_iff.mp hr).1; lia
    have := q2 i r hr
    simpa [List.getD_eq_getElem?_getD, hi] using this

/-- a name of the tuples of a list -/
theorem tup_comp2 {iter : Expr} {x0 x1 : Str} {p0 p1 tp pe : Pos} {kk} {scope : Scope} {cl : List (Str × Addr)} {pos : Pos} {R : Result → Shared → Prop} {C D I R0 : Addr} {n c0 c1 : Nat} {f0 f1 : Nat → Value} {Ts : Nat → Addr}
    {m₀ : Str → Option Value} (hh : A.handled = none) (hkind : scope.kind = .function) (hx0 : scope.names.lookup x0 = some .local) (hx1 : scope.names.lookup x1 = some .local) (ne01 : x0 ≠ x1) (hn1 : n ≤ 1000)
    (hI : s.heap.get? I = some (liObj R0 0)) (hl : s.heap.get? R0 = some (listOf ((List.range n).map fun i => Value.ref (Ts i)).toArray c0))
    (hT : ∀ i, i < n → ∃ m, s.heap.get? (Ts i) = some { cls := .type "tuple", data := .seq #[f0 i, f1 i] m })
    (hC : s.heap.Ns C m₀) (hD : s.heap.get? D = some (listOf #[] c1)) (hDC : D ≠ C) (offC : C ≠ I ∧ C ≠ R0 ∧ ∀ i, i < n → C ≠ Ts i) (offD : D ≠ I ∧ D ≠ R0 ∧ ∀ i, i < n → D ≠ Ts i) (hd : (x0 == ("__debug__" : Str)) = false)
    (hR : ∀ h' tk' m₂ c, h'.Ns C m₂ → h'.get? D = some (listOf ((List.range n).map f0).toArray c) → Kept [I] C D s.heap h' → R (.ok .next) { s with heap := h', toks := tk' }) :
    codeAny (model prog w) A (.compLoop (.ListComp (.Name x0 pe) [⟨.Tuple [.Name x0 p0, .Name x1 p1] kk tp, iter, [], 0⟩] scope pos) 0 (.ref I) (.ref D) (compEnvC scope cl C env)) R s := by
  refine e0_3 (offC) ?_
  (try clear offC)
  intro oC1 oC2 oC3
  refine e0_3 (offD) ?_
  (try clear offD)
  intro oD1 oD2 oD3
  have lI : R0 ≠ I := fun q => by rw [q, hI] at hl; have := congrArg Obj.data (Option.some.inj hl); simp [liObj, W.listOf] at this
  have tI : ∀ i, i < n → Ts i ≠ I := fun i hi q => by obtain ⟨m, e⟩ := hT i hi; rw [q, hI] at e; have := congrArg Obj.data (Option.some.inj e); simp [liObj] at this
  refine comp_turns (p := fun _ => true) (n := n)
    (St := fun j h => h.get? I = some (liObj R0 j) ∧ h.get? R0 = some (listOf ((List.range n).map fun i => Value.ref (Ts i)).toArray c0) ∧ ∀ i, i < n → ∃ m, h.get? (Ts i) = some { cls := .type "tuple", data := .seq #[f0 i, f1 i] m })
    (wr := [I]) (Nm := fun j m => m x0 = some (f0 j)) (YP := fun j y nw => y = f0 j ∧ nw = []) (Dn := fun _ => True)
    hDC (by simp [oD1]) (by simp [oC1]) hn1 ?_ ?_ ?_ ?_ ?_ ?_ ⟨hI, hl, hT⟩ hC hD ?_
  · rintro j h ⟨g1, g2, g3⟩ a ha
    simp only [List.mem_cons, List.not_mem_nil, or_false] at ha
    subst ha; exact ⟨_, g1⟩
  · rintro j h h' ⟨g1, g2, g3⟩ k
    exact ⟨k _ _ (Ne.symm oC1) (Ne.symm oD1) g1, k _ _ (Ne.symm oC2) (Ne.symm oD2) g2, fun i hi => (g3 i hi).imp fun m e => k _ _ (Ne.symm (oC3 i hi)) (Ne.symm (oD3 i hi)) e⟩
  · rintro j h m₂ tk E' hj ⟨g1, g2, g3⟩ hC' hK
    refine pyNext_li_item g1 g2 (x := .ref (Ts j)) (by simp [hj]) fun h₂ k1 s2 => ⟨_, rfl, ?_⟩
    refine wpAny_letOwnedTupleGo_listiter (li_is k1) ?_
    obtain ⟨mm, g4⟩ := g3 j hj
    refine assign_Tuple_tuple hh ⟨_, s2.extBut _ _ (tI j hj) g4, rfl, _, rfl⟩ rfl rfl fun h₅ he => ?_
    have he' : ∀ b o, h₂.get? b = some o → h₅.get? b = some o := fun b o e => he b o (Nat.ne_of_lt (Heap.lt_size e)) e
    have n20 : h₅.Ns C m₂ := ns_at hC' fun o e => he' _ o (s2.extBut _ o oC1 e)
    refine assignInOrder_cons (store_c hkind hx0 n20 fun h21 tk21 n21 s21 => ?_)
    refine assignInOrder_cons (store_c hkind hx1 n21 fun h22 tk22 n22 s22 => ?_)
    refine assignInOrder_nil ?_
    have up : ∀ c o, c ≠ C → h₂.get? c = some o → h22.get? c = some o := fun c o hc e => s22.extBut c o hc (s21.extBut c o hc (he' c o e))
    refine ⟨h22, tk22, _, rfl, ⟨up _ _ (Ne.symm oC1) k1, up _ _ (Ne.symm oC2) (s2.extBut _ _ lI g2), fun i hi => (g3 i hi).imp fun m e => up _ _ (Ne.symm (oC3 i hi)) (s2.extBut _ _ (tI i hi) e)⟩, n22, ?_, ?_⟩
    · rw [if_neg ne01, if_pos rfl]
    · intro c o hw hc e
      simp only [List.mem_cons, List.not_mem_nil, or_false] at hw
      exact up _ _ hc (s2.extBut _ _ hw e)
  · rintro j h m₃ tk E' hj st hC' nm hK
    exact wpAny_tests_nil ⟨rfl, h, tk, rfl, fun _ _ e => e⟩
  · rintro j h m₃ tk E' hj _ st hC' q2 hK
    exact load_c hkind hx0 hC' q2 ⟨h, tk, [], rfl, fun _ _ e => e, ⟨rfl, rfl⟩, fun q hq => by simp at hq⟩ hd
  · rintro h tk Q E' ⟨g1, g2, g3⟩ hK k
    refine pyNext_li_end hh g1 g2 (by simp) fun h' a b => k h' tk trivial fun c o hw e => ?_
    simp only [List.mem_cons, List.not_mem_nil, or_false] at hw
    exact b c o hw e
  · intro h' tk' m₂ rs c q1 q2 q3 q4 q5 q6 q7
    have fr : (List.range n).filter (fun _ => true) = List.range n := List.filter_eq_self.mpr (by simp)
    rw [fr] at q1 q2
    rw [List.length_range] at q1
    refine hR h' tk' m₂ c q4 ?_ q7
    have : rs.map (·.1) = (List.range n).map f0 := by
      refine List.ext_getElem (by simp [q1]) fun i a b => ?_
      have hi : i < rs.length := by simpa using a
      have := (q2 i rs[i] (List.getElem?_eq_getElem hi)).1
      have hn : i < n := by lia
      simpa [List.getD_eq_getElem?_getD, hn] using this
    rw [this] at q5; exact q5

/-- a name of the tuples of a list -/
theorem tup_comp3 {iter : Expr} {x0 x1 x2 : Str} {p0 p1 p2 tp pe : Pos} {kk} {scope : Scope} {cl : List (Str × Addr)} {pos : Pos} {R : Result → Shared → Prop} {C D I R0 : Addr} {n c0 c1 : Nat} {f0 f1 f2 : Nat → Value} {Ts : Nat → Addr}
    {m₀ : Str → Option Value} (hh : A.handled = none) (hkind : scope.kind = .function) (hx0 : scope.names.lookup x0 = some .local) (hx1 : scope.names.lookup x1 = some .local) (hx2 : scope.names.lookup x2 = some .local) (ne01 : x0 ≠ x1) (ne02 : x0 ≠ x2) (ne12 : x1 ≠ x2) (hn1 : n ≤ 1000)
    (hI : s.heap.get? I = some (liObj R0 0)) (hl : s.heap.get? R0 = some (listOf ((List.range n).map fun i => Value.ref (Ts i)).toArray c0))
    (hT : ∀ i, i < n → ∃ m, s.heap.get? (Ts i) = some { cls := .type "tuple", data := .seq #[f0 i, f1 i, f2 i] m })
    (hC : s.heap.Ns C m₀) (hD : s.heap.get? D = some (listOf #[] c1)) (hDC : D ≠ C) (offC : C ≠ I ∧ C ≠ R0 ∧ ∀ i, i < n → C ≠ Ts i) (offD : D ≠ I ∧ D ≠ R0 ∧ ∀ i, i < n → D ≠ Ts i) (hd : (x2 == ("__debug__" : Str)) = false)
    (hR : ∀ h' tk' m₂ c, h'.Ns C m₂ → h'.get? D = some (listOf ((List.range n).map f2).toArray c) → Kept [I] C D s.heap h' → R (.ok .next) { s with heap := h', toks := tk' }) :
    codeAny (model prog w) A (.compLoop (.ListComp (.Name x2 pe) [⟨.Tuple [.Name x0 p0, .Name x1 p1, .Name x2 p2] kk tp, iter, [], 0⟩] scope pos) 0 (.ref I) (.ref D) (compEnvC scope cl C env)) R s := by
  refine e0_3 (offC) ?_
  (try clear offC)
  intro oC1 oC2 oC3
  refine e0_3 (offD) ?_
  (try clear offD)
  intro oD1 oD2 oD3
  have lI : R0 ≠ I := fun q => by rw [q, hI] at hl; have := congrArg Obj.data (Option.some.inj hl); simp [liObj, W.listOf] at this
  have tI : ∀ i, i < n → Ts i ≠ I := fun i hi q => by obtain ⟨m, e⟩ := hT i hi; rw [q, hI] at e; have := congrArg Obj.data (Option.some.inj e); simp [liObj] at this
  refine comp_turns (p := fun _ => true) (n := n)
    (St := fun j h => h.get? I = some (liObj R0 j) ∧ h.get? R0 = some (listOf ((List.range n).map fun i => Value.ref (Ts i)).toArray c0) ∧ ∀ i, i < n → ∃ m, h.get? (Ts i) = some { cls := .type "tuple", data := .seq #[f0 i, f1 i, f2 i] m })
    (wr := [I]) (Nm := fun j m => m x2 = some (f2 j)) (YP := fun j y nw => y = f2 j ∧ nw = []) (Dn := fun _ => True)
    hDC (by simp [oD1]) (by simp [oC1]) hn1 ?_ ?_ ?_ ?_ ?_ ?_ ⟨hI, hl, hT⟩ hC hD ?_
  · rintro j h ⟨g1, g2, g3⟩ a ha
    simp only [List.mem_cons, List.not_mem_nil, or_false] at ha
    subst ha; exact ⟨_, g1⟩
  · rintro j h h' ⟨g1, g2, g3⟩ k
    exact ⟨k _ _ (Ne.symm oC1) (Ne.symm oD1) g1, k _ _ (Ne.symm oC2) (Ne.symm oD2) g2, fun i hi => (g3 i hi).imp fun m e => k _ _ (Ne.symm (oC3 i hi)) (Ne.symm (oD3 i hi)) e⟩
  · rintro j h m₂ tk E' hj ⟨g1, g2, g3⟩ hC' hK
    refine pyNext_li_item g1 g2 (x := .ref (Ts j)) (by simp [hj]) fun h₂ k1 s2 => ⟨_, rfl, ?_⟩
    refine wpAny_letOwnedTupleGo_listiter (li_is k1) ?_
    obtain ⟨mm, g4⟩ := g3 j hj
    refine assign_Tuple_tuple hh ⟨_, s2.extBut _ _ (tI j hj) g4, rfl, _, rfl⟩ rfl rfl fun h₅ he => ?_
    have he' : ∀ b o, h₂.get? b = some o → h₅.get? b = some o := fun b o e => he b o (Nat.ne_of_lt (Heap.lt_size e)) e
    have n20 : h₅.Ns C m₂ := ns_at hC' fun o e => he' _ o (s2.extBut _ o oC1 e)
    refine assignInOrder_cons (store_c hkind hx0 n20 fun h21 tk21 n21 s21 => ?_)
    refine assignInOrder_cons (store_c hkind hx1 n21 fun h22 tk22 n22 s22 => ?_)
    refine assignInOrder_cons (store_c hkind hx2 n22 fun h23 tk23 n23 s23 => ?_)
    refine assignInOrder_nil ?_
    have up : ∀ c o, c ≠ C → h₂.get? c = some o → h23.get? c = some o := fun c o hc e => s23.extBut c o hc (s22.extBut c o hc (s21.extBut c o hc (he' c o e)))
    refine ⟨h23, tk23, _, rfl, ⟨up _ _ (Ne.symm oC1) k1, up _ _ (Ne.symm oC2) (s2.extBut _ _ lI g2), fun i hi => (g3 i hi).imp fun m e => up _ _ (Ne.symm (oC3 i hi)) (s2.extBut _ _ (tI i hi) e)⟩, n23, ?_, ?_⟩
    · rw [if_pos rfl]
    · intro c o hw hc e
      simp only [List.mem_cons, List.not_mem_nil, or_false] at hw
      exact up _ _ hc (s2.extBut _ _ hw e)
  · rintro j h m₃ tk E' hj st hC' nm hK
    exact wpAny_tests_nil ⟨rfl, h, tk, rfl, fun _ _ e => e⟩
  · rintro j h m₃ tk E' hj _ st hC' q2 hK
    exact load_c hkind hx2 hC' q2 ⟨h, tk, [], rfl, fun _ _ e => e, ⟨rfl, rfl⟩, fun q hq => by simp at hq⟩ hd
  · rintro h tk Q E' ⟨g1, g2, g3⟩ hK k
    refine pyNext_li_end hh g1 g2 (by simp) fun h' a b => k h' tk trivial fun c o hw e => ?_
    simp only [List.mem_cons, List.not_mem_nil, or_false] at hw
    exact b c o hw e
  · intro h' tk' m₂ rs c q1 q2 q3 q4 q5 q6 q7
    have fr : (List.range n).filter (fun _ => true) = List.range n := List.filter_eq_self.mpr (by simp)
    rw [fr] at q1 q2
    rw [List.length_range] at q1
    refine hR h' tk' m₂ c q4 ?_ q7
    have : rs.map (·.1) = (List.range n).map f2 := by
      refine List.ext_getElem (by simp [q1]) fun i a b => ?_
      have hi : i < rs.length := by simpa using a
      have := (q2 i rs[i] (List.getElem?_eq_getElem hi)).1
      have hn : i < n := by lia
      simpa [List.getD_eq_getElem?_getD, hn] using this
    rw [this] at q5; exact q5
end
-- B11
section
variable {prog : Program} {w : World} {A : Around} {s : Shared} {E : Value → Shared → Prop} {env : Env}

theorem size_down (w : Int) : Builtin.Range.rangeSize 0 (-w) (-1) = (w.toNat : Int) := by
  unfold Builtin.Range.rangeSize
  simp
  lia
theorem size_up (w : Int) : Builtin.Range.rangeSize 0 w 1 = (w.toNat : Int) := by
  unfold Builtin.Range.rangeSize
  simp
  lia

def ZipMade (B : Heap) (L : Addr) (m : Str → Option Value) (IT LST cc : Addr) (oc : Obj) (a0 step : Int) (left : Nat) (s : Shared) (xv : Value) (s₁ : Shared) : Prop :=
  ∃ h4 h5 tk z TI TO i1 T, xv = .ref z ∧ s₁ = { s with heap := h5, toks := tk } ∧ Fr B L h4 m ∧ News B L h4 [(IT, liObj LST 0), (cc, oc)] ∧ h4.StaysIn h5 ∧ RgT T ∧ Apart5 z TI TO i1 IT ∧ h5.get? z = some (zipObj TI TO .none) ∧ h5.get? TI = some (pairObj (.ref i1) (.ref IT)) ∧ h5.get? TO = some (pairObj .none .none) ∧
    h5.get? i1 = some (rgObj T a0 left step) ∧ h4.get? z = none ∧ h4.get? TO = none ∧ h4.get? i1 = none

theorem zip_made {L rr IT LST cc : Addr} {a0 bb step : Int} {t u v : Tok} {left : Nat} {B : Heap} {m : Str → Option Value} {oc : Obj} {s' : Shared} (F4 : Fr B L s'.heap m) (N4 : News B L s'.heap [(IT, liObj LST 0), (cc, oc)]) (hrg : IsRange s'.heap rr a0 bb step t u v) (hleft : Builtin.Range.rangeSize a0 bb step = (left : Int))
    (hs : ∃ h tk, s' = { s with heap := h, toks := tk }) : wpAny (model prog w) A (call (.type "zip") [.ref rr, .ref IT]) (ZipMade B L m IT LST cc oc a0 step left s) E s' := by
  refine e2_1 (hs) ?_
  (try clear hs)
  intro h tk zr2
  first | subst zr2 | cases zr2
  exact call_zip_rg hrg (N4 _ (.head _)).1 fun h5 z TI TO i1 ap gz gTI gTO gi1 nz nTI nTO ni1 st5 => ⟨_, h5, tk, z, TI, TO, i1, _, rfl, rfl, F4, N4, st5, rgT_is, ap, gz, gTI, gTO, by rw [← hleft]; exact gi1, nz, nTO, ni1⟩

theorem zip_assign {elt iter : Expr} {y xi xe : Str} {py p1 p2 tp pos spos : Pos} {kk} {scope : Scope} {cl : List (Str × Addr)} {Q : Flow → Shared → Prop} {L IT LST cc : Addr} {a0 step : Int} {left N c0 n : Nat} {e : Nat → Value} {B : Heap} {m : Str → Option Value} {oc : Obj} {kv : Option Value}
    (YP : Nat → Value → List (Addr × Obj) → Prop) (hloc : env.locals = L)
    (hsw : swapsWith (.ListComp elt [⟨.Tuple [.Name xi p1, .Name xe p2] kk tp, iter, [], 0⟩] scope pos) (some (.Name y py)) spos.line env = pure true)
    (hclos : closureFor scope env = pure cl) (hcell : ∀ z ∈ scope.names, z.2 ≠ .cell) (hnames : ∀ z ∈ scope.names, z.2 = .local → scope.names.lookup z.1 = some .local)
    (hy : env.kindOf y = some .local) (hp : (env.scope.kind == .class || (env.scope.kind == .module && env.locals != env.globals)) = false) (hs : ∀ x, foldedSetIterable iter env x = pure x)
    (hh : A.handled = none) (hkind : scope.kind = .function) (hxi : scope.names.lookup xi = some .local) (hxe : scope.names.lookup xe = some .local) (hne : xi ≠ xe) (hnn : n = min left N) (hn1 : N ≤ 1000)
    (hoc : oc.data = .cell kv) (LB : B.get? LST = some (listOf ((List.range N).map e).toArray c0))
    (hmade : wpAny (model prog w) A (eval iter env) (ZipMade B L m IT LST cc oc a0 step left s) E s)
    (helt : ∀ j h m₃ tk t E' C, j < n → h.Ns C m₃ → m₃ xi = some (.int (a0 + j * step) t) → m₃ xe = some (e j) → B.StaysIn h → h.get? cc = some oc →
      wpAny (model prog w) A (eval elt (compEnvC scope cl C env)) (fun y s' => ∃ h' tk' nw, s' = { s with heap := h', toks := tk' } ∧ h.StaysIn h' ∧ YP j y nw ∧ ∀ q ∈ nw, h'.get? q.1 = some q.2 ∧ h.get? q.1 = none) E' { s with heap := h, toks := tk })
    (k : ∀ D h8 tk8 io c (rs : List (Value × List (Addr × Obj))), rs.length = n → (∀ i r, rs[i]? = some r → YP i r.1 r.2) → Fr B L h8 (fun z => if z = y then some (.ref D) else m z) →
      News B L h8 ((D, listOf (rs.map (·.1)).toArray c) :: (IT, io) :: (cc, oc) :: rs.flatMap (·.2)) → (io = liObj LST n ∧ left ≤ N ∨ io = liEnd n ∧ N < left) → Q .next { s with heap := h8, toks := tk8 }) :
    wpAny (model prog w) A (exec (.Assign [.Name y py] (.ListComp elt [⟨.Tuple [.Name xi p1, .Name xe p2] kk tp, iter, [], 0⟩] scope pos) spos) env) Q E s := by
  subst hloc
  refine assign_comp hsw hclos hcell hkind hnames hy hp (wpAny_mono hmade (fun xv s₁ hz => ?_) fun _ _ e => e) hs
  refine e8_14 (hz) ?_
  (try clear hz)
  intro h4 h5 tk5 z TI TO i1 T zr8 zr9 F4 N4 st5 hT ap gz gTI gTO gi1 nz nTO ni1
  first | subst zr8 | cases zr8
  first | subst zr9 | cases zr9
  have gIT := (N4 _ (.head _)).1
  have gcc := (N4 _ (.tail _ (.head _))).1
  have ITcc : cc ≠ IT := fun q => by
    rw [q, gIT] at gcc
    have := congrArg Obj.data (Option.some.inj gcc); rw [hoc] at this; simp [liObj] at this
  obtain ⟨oL, gL⟩ := ns_there F4.ns
  refine pyIter_zip gz ?_
  intro C D h6 tk6 st6 nC nD nDC hC hD
  refine ⟨fun Q E q => pyIter_zip (st6 _ _ gz) q, ?_⟩
  have st46 : h4.StaysIn h6 := fun a o q => st6 _ _ (st5 _ _ q)
  have ne4 : ∀ {a b : Addr} {o : Obj}, h4.get? a = some o → h4.get? b = none → a ≠ b := fun q1 q2 r => by rw [r, q2] at q1; cases q1
  have ne5 : ∀ {a b : Addr} {o : Obj}, h5.get? a = some o → h5.get? b = none → a ≠ b := fun q1 q2 r => by rw [r, q2] at q1; cases q1
  have LB4 := F4.keep _ _ LB
  have off : ∀ X, h5.get? X = none → X ∉ [z, TI, TO, i1, IT, LST] := fun X q r => by
    simp only [List.mem_cons, List.not_mem_nil, or_false] at r
    rcases r with rfl | rfl | rfl | rfl | rfl | rfl
    · rw [gz] at q; cases q
    · rw [gTI] at q; cases q
    · rw [gTO] at q; cases q
    · rw [gi1] at q; cases q
    · rw [st5 _ _ gIT] at q; cases q
    · rw [st5 _ _ LB4] at q; cases q
  have keep : ∀ {h a o}, Kept [z, TO, i1, IT] C D h6 h → h4.get? a = some o → a ≠ IT → h.get? a = some o := fun kp q ne => by
    refine kp _ _ (fun r => ?_) (ne5 (st5 _ _ q) nC) (ne5 (st5 _ _ q) nD) (st46 _ _ q)
    simp only [List.mem_cons, List.not_mem_nil, or_false] at r
    rcases r with r | r | r | r
    · exact ne4 q nz r
    · exact ne4 q nTO r
    · exact ne4 q ni1 r
    · exact ne r
  have BIT := (N4 _ (.head _)).2.2
  have keepB : ∀ {h}, Kept [z, TO, i1, IT] C D h6 h → B.StaysIn h := fun kp a o q => keep kp (F4.keep _ _ q) fun r => by rw [r, BIT] at q; cases q
  refine zip_comp (s := { s with heap := h6, toks := tk6 }) (N := N) (e := e) (n := n) (left := left) YP hh hkind hxi hxe hne hT ap hnn (by lia) (st6 _ _ gz) (st6 _ _ gTI) (st6 _ _ gTO) (st6 _ _ gi1) (st46 _ _ gIT) (st46 _ _ LB4) hC hD nDC (off _ nC) (off _ nD) ?_ ?_
  · intro j h m₃ tk t E' hj hn q1 q2 kp
    exact helt j h m₃ tk t E' C hj hn q1 q2 (keepB kp) (keep kp gcc ITcc)
  · intro h7 tk7 m₂ rs c q1 q2 q3 q4 q5 q6 q7
    have LIT : env.locals ≠ IT := Ne.symm (N4 _ (.head _)).2.1
    have L7 : h7.Ns env.locals m := ns_at F4.ns fun o q => keep q7 q LIT
    have LC : C ≠ env.locals := Ne.symm (ne5 (st5 _ _ gL) nC)
    have LD : D ≠ env.locals := Ne.symm (ne5 (st5 _ _ gL) nD)
    refine ⟨rfl, m₂, m, q4, L7, LC, fun h8 tk8 n8 k8 => ?_⟩
    have n5B : ∀ {a}, h5.get? a = none → B.get? a = none := fun q => by
      cases r : B.get? _ with
      | none => rfl
      | some o => rw [st5 _ _ (F4.keep _ _ r)] at q; cases q
    have ITC : IT ≠ C := ne5 (st5 _ _ gIT) nC
    have main : ∀ io, h7.get? IT = some io → (io = liObj LST n ∧ left ≤ N ∨ io = liEnd n ∧ N < left) → Q .next { s with heap := h8, toks := tk8 } := fun io gio hio => by
      refine k D h8 tk8 io c rs q1 q2 ⟨n8, fun a o q => k8 _ _ (fun r => ?_) (fun r => ?_) (keepB q7 _ _ q), F4.above⟩ ?_ hio
      · rw [r] at q; exact absurd (Heap.lt_size q) (Nat.not_lt.mpr F4.above)
      · rw [r, n5B nC] at q; cases q
      · intro q hq
        rcases List.mem_cons.mp hq with rfl | hq
        · exact ⟨k8 _ _ LD nDC q5, LD, n5B nD⟩
        rcases List.mem_cons.mp hq with rfl | hq
        · exact ⟨k8 _ _ (Ne.symm LIT) ITC gio, Ne.symm LIT, BIT⟩
        rcases List.mem_cons.mp hq with rfl | hq
        · exact ⟨k8 _ _ (N4 _ (.tail _ (.head _))).2.1 (ne5 (st5 _ _ gcc) nC) (keep q7 gcc ITcc), (N4 _ (.tail _ (.head _))).2⟩
        refine e1_2 (List.mem_flatMap.mp hq) ?_
        intro r hr hq
        obtain ⟨g1, g2⟩ := q3 r hr q hq
        have nL : q.1 ≠ env.locals := fun r => by rw [r] at g2; have := st46 _ _ gL; dsimp only at g2; rw [this] at g2; cases g2
        have nC' : q.1 ≠ C := fun r => by obtain ⟨o, ho⟩ := ns_there hC; rw [r] at g2; dsimp only at g2; rw [ho] at g2; cases g2
        refine ⟨k8 _ _ nL nC' g1, nL, ?_⟩
        cases r : B.get? q.1 with
        | none => rfl
        | some o => have := st46 _ _ (F4.keep _ _ r); dsimp only at g2; rw [this] at g2; cases g2
    rcases q6 with ⟨g, hl⟩ | ⟨g, hl⟩
    · exact main _ g (.inl ⟨rfl, hl⟩)
    · exact main _ g (.inr ⟨rfl, hl⟩)
end
-- P2
section
variable {x : Nat → Int} {e : Nat → Value} {Tup : It → Obj → Prop} {dn : Bool} {ts ts' : List (Addr × Obj)} {its its' : List It} {m : Nat} {od : Int}

def ltD (dn : Bool) (u v : It) : Bool := if dn then ltI u v else ltI v u
def scD (dn : Bool) (x : Nat → Int) (p : Nat) : Int := if dn then x p else - x p
theorem sw_ltD : SW (ltD dn) := by
  cases dn
  · exact sw_ltI.flip
  · exact sw_ltI

/-- the heap's items: where they came from, and the marks that break ties -/
structure Items (x : Nat → Int) (e : Nat → Value) (Tup : It → Obj → Prop) (dn : Bool) (ts : List (Addr × Obj)) (its : List It) (m : Nat) (od : Int) : Prop where
  good : ∀ u ∈ its, ∃ T o p, u.v = .ref T ∧ u.k = [x p, (p : Int)] ∧ u.e = e p ∧ p < m ∧ (T, o) ∈ ts ∧ Tup u o
  idx : ∀ u ∈ its, ∀ v ∈ its, (if dn then u.i < v.i else v.i < u.i) ↔ pl v < pl u
  ord : ∀ u ∈ its, if dn then od < u.i else u.i < od

theorem pl_of {u : It} {p : Nat} (h : u.k = [x p, (p : Int)]) : pl u = p := by unfold pl; rw [h]; simp
theorem kh_of {u : It} {p : Nat} (h : u.k = [x p, (p : Int)]) : kh u.k = x p := by unfold kh; rw [h]; rfl

theorem Items.sub (I : Items x e Tup dn ts its m od) (h : ∀ u ∈ its', u ∈ its) : Items x e Tup dn ts its' m od :=
  ⟨fun u hu => I.good u (h u hu), fun u hu v hv => I.idx u (h u hu) v (h v hv), fun u hu => I.ord u (h u hu)⟩
theorem Items.skip (I : Items x e Tup dn ts its m od) : Items x e Tup dn ts its (m + 1) od :=
  ⟨fun u hu => by obtain ⟨T, o, p, a, b, c, d, r⟩ := I.good u hu; exact ⟨T, o, p, a, b, c, Nat.lt_succ_of_lt d, r⟩, I.idx, I.ord⟩
theorem Items.add {y : It} (I : Items x e Tup dn ts its m od) (ht : ∀ q ∈ ts, q ∈ ts') (hy : ∃ T o, y.v = .ref T ∧ y.k = [x m, (m : Int)] ∧ y.e = e m ∧ (T, o) ∈ ts' ∧ Tup y o) (hi : y.i = od) :
    Items x e Tup dn ts' (y :: its) (m + 1) (if dn then od - 1 else od + 1) := by
  refine e2_5 (hy) ?_
  (try clear hy)
  intro T o a b c d f
  have py : pl y = m := pl_of b
  have lt : ∀ u ∈ its, pl u < m := fun u hu => by obtain ⟨T, o, p, a, b, c, d, r⟩ := I.good u hu; rw [pl_of b]; exact d
  refine ⟨fun u hu => ?_, fun u hu v hv => ?_, fun u hu => ?_⟩
  · rcases List.mem_cons.mp hu with rfl | hu
    · exact ⟨T, o, m, a, b, c, Nat.lt_succ_self _, d, f⟩
    · refine e3_6 (I.good u hu) ?_
      intro T o p a b c d g r
      exact ⟨T, o, p, a, b, c, Nat.lt_succ_of_lt d, ht _ g, r⟩
  · rcases List.mem_cons.mp hu with eu | hu'
    · rcases List.mem_cons.mp hv with ev | hv'
      · rw [eu, ev]; cases dn <;> simp
      · have o1 := I.ord v hv'; have l1 := lt v hv'
        rw [eu, py, hi]; cases dn <;> simp only [Bool.false_eq_true, if_false, if_true] at o1 ⊢ <;> lia
    · rcases List.mem_cons.mp hv with ev | hv'
      · have o1 := I.ord u hu'; have l1 := lt u hu'
        rw [ev, py, hi]; cases dn <;> simp only [Bool.false_eq_true, if_false, if_true] at o1 ⊢ <;> lia
      · exact I.idx u hu' v hv'
  · rcases List.mem_cons.mp hu with rfl | hu
    · rw [hi]; cases dn <;> simp <;> lia
    · have := I.ord u hu
      cases dn <;> simp_all <;> lia
theorem Items.hlt (I : Items x e Tup dn ts its m od) : ∀ u ∈ its, ∀ v ∈ its, ltD dn u v = true ↔ bet (scD dn x) (pl v) (pl u) := by
  intro u hu v hv
  refine e3_5 (I.good u hu) ?_
  intro T o p a b c d r
  refine e3_5 (I.good v hv) ?_
  intro T' o' p' a' b' c' d' r'
  have q := I.idx u hu v hv
  rw [pl_of b, pl_of b'] at q ⊢
  unfold ltD bet scD ltI
  cases dn
  · simp only [Bool.false_eq_true, if_false, kh_of b, kh_of b'] at q ⊢
    simp only [Bool.or_eq_true, Bool.and_eq_true, decide_eq_true_eq]
    rw [q]; lia
  · simp only [if_true, kh_of b, kh_of b'] at q ⊢
    simp only [Bool.or_eq_true, Bool.and_eq_true, decide_eq_true_eq]
    rw [q]; lia
theorem nodup_get {l : List Nat} (h : l.Nodup) {i j : Nat} (hi : i < l.length) (hj : j < l.length) (e : l[i] = l[j]) : i = j := by
  rcases Nat.lt_trichotomy i j with q | q | q
  · exact absurd e (List.pairwise_iff_getElem.mp h i j hi hj q)
  · exact q
  · exact absurd e.symm (List.pairwise_iff_getElem.mp h j i hj hi q)
theorem Items.inj (I : Items x e Tup dn ts its m od) (hn : (its.map pl).Nodup) : ∀ u ∈ its, ∀ v ∈ its, u.i = v.i → u = v := by
  intro u hu v hv hi
  have q1 := I.idx u hu v hv
  have q2 := I.idx v hv u hu
  have : pl u = pl v := by cases dn <;> simp_all <;> lia
  clear q1 q2 hi
  obtain ⟨i, hi, rfl⟩ := List.getElem_of_mem hu
  obtain ⟨j, hj, rfl⟩ := List.getElem_of_mem hv
  have : i = j := by
    exact nodup_get hn (i := i) (j := j) (by simpa using hi) (by simpa using hj) (by simpa using this)
  subst this; rfl
theorem Items.nodup_i (I : Items x e Tup dn ts its m od) (hn : (its.map pl).Nodup) : (its.map It.i).Nodup := by
  rw [List.nodup_iff_pairwise_ne, List.pairwise_map]
  rw [List.nodup_iff_pairwise_ne, List.pairwise_map] at hn
  refine List.Pairwise.imp_of_mem (R := fun a b => pl a ≠ pl b) (fun {a b} ha hb hne q => hne ?_) hn
  have q1 := I.idx a ha b hb
  have q2 := I.idx b hb a ha
  cases dn <;> simp_all <;> lia

/-- the items that the comprehension made -/
def mkIts (x : Nat → Int) (e : Nat → Value) (dn : Bool) (rs : List (Value × List (Addr × Obj))) : List It :=
  (List.range rs.length).map fun j => { v := (rs.getD j (Value.none, [])).1, k := [x j, (j : Int)], i := if dn then 0 + (j : Int) * -1 else 0 + (j : Int) * 1, e := e j }
theorem mkIts_len {rs : List (Value × List (Addr × Obj))} : (mkIts x e dn rs).length = rs.length := by simp [mkIts]
theorem mkIts_v {rs : List (Value × List (Addr × Obj))} : (mkIts x e dn rs).map It.v = rs.map (·.1) := by
  refine List.ext_getElem (by simp [mkIts]) fun i a b => ?_
  have hi : i < rs.length := by simpa [mkIts] using a
  simp [mkIts, List.getD_eq_getElem?_getD, hi]
theorem mkIts_pl {rs : List (Value × List (Addr × Obj))} : (mkIts x e dn rs).map pl = List.range rs.length := by
  refine List.ext_getElem (by simp [mkIts]) fun i a b => ?_
  simp [mkIts, pl]
theorem mkIts_items {rs : List (Value × List (Addr × Obj))} (h : ∀ j r, rs[j]? = some r → ∃ T o, r.1 = .ref T ∧ r.2 = [(T, o)] ∧ Tup { v := .ref T, k := [x j, (j : Int)], i := if dn then 0 + (j : Int) * -1 else 0 + (j : Int) * 1, e := e j } o) :
    Items x e Tup dn (rs.flatMap (·.2)) (mkIts x e dn rs) rs.length (if dn then -(rs.length : Int) else rs.length) := by
  refine ⟨fun u hu => ?_, fun u hu v hv => ?_, fun u hu => ?_⟩
  · refine e1_2 (List.mem_map.mp hu) ?_
    intro j hj zr2
    first | subst zr2 | cases zr2
    have hj := List.mem_range.mp hj
    refine e2_3 (h j rs[j] (List.getElem?_eq_getElem hj)) ?_
    intro T o q1 q2 q3
    have g : rs.getD j (Value.none, []) = rs[j] := by simp [List.getD_eq_getElem?_getD, hj]
    refine ⟨T, o, j, by rw [g, q1], rfl, rfl, hj, List.mem_flatMap.mpr ⟨rs[j], List.getElem_mem hj, by rw [q2]; exact .head _⟩, ?_⟩
    rw [g, q1]; exact q3
  · refine e1_2 (List.mem_map.mp hu) ?_
    intro j hj zr2
    first | subst zr2 | cases zr2
    refine e1_2 (List.mem_map.mp hv) ?_
    intro j' hj' zr2
    first | subst zr2 | cases zr2
    cases dn <;> simp [pl]
  · refine e1_2 (List.mem_map.mp hu) ?_
    intro j hj zr2
    first | subst zr2 | cases zr2
    have hj := List.mem_range.mp hj
    cases dn <;> simp <;> lia
end
-- N0
section
variable {prog : Program} {w : World} {A : Around} {s : Shared} {b : Heap} {mg mb : Str → Option Value} {mean : ExcName → Option Value} {p : Program} {loose : List Str}

theorem ordD_getD0 {x : Nat → Int} {N : Nat} (hN : 0 < N) : (ordD x N).getD 0 0 < N := by
  have hl : 0 < (ordD x N).length := by rw [ordD_len]; exact hN
  have : (ordD x N).getD 0 0 ∈ ordD x N := by
    rw [List.getD_eq_getElem?_getD, List.getElem?_eq_getElem hl]; exact List.getElem_mem hl
  exact ordD_mem.mp this
theorem ordD_take1 {x : Nat → Int} {N : Nat} (hN : 0 < N) : (ordD x N).take (1 : Int).toNat = [(ordD x N).getD 0 0] := by
  have hl : 0 < (ordD x N).length := by rw [ordD_len]; exact hN
  cases q : ordD x N with
  | nil => rw [q] at hl; simp at hl
  | cons a r => simp
theorem none_sub {h h' : Heap} {a : Addr} (st : h.StaysIn h') (q : h'.get? a = none) : h.get? a = none := by
  cases z : h.get? a with
  | none => rfl
  | some o => rw [st _ _ z] at q; cases q
theorem ge_mem {xs : List It} (h : 0 < xs.length) : ge xs 0 ∈ xs := by
  unfold ge
  rw [List.getD_eq_getElem?_getD, List.getElem?_eq_getElem h]
  exact List.getElem_mem h
/-- where the things come from: the list itself, or an iterator of it -/
def Src (LST SRC SA : Addr) (so : Obj) : Prop := SRC = LST ∨ (SRC = SA ∧ so = liObj LST 0)
theorem call_iter_src {Q : Value → Shared → Prop} {E : Value → Shared → Prop} {h₀ : Heap} {L LST SRC SA : Addr} {so : Obj} {m : Str → Option Value} {rest : List (Addr × Obj)} {items : Array Value} {c : Nat} (F : Fr h₀ L s.heap m) (N : News h₀ L s.heap ((SA, so) :: rest)) (src : Src LST SRC SA so)
    (hL : h₀.get? LST = some (listOf items c)) (h : ∀ IT h', Fr h₀ L h' m → News h₀ L h' ((IT, liObj LST 0) :: rest) → (∀ a o, s.heap.get? a = some o → h'.get? a = some o) → Q (.ref IT) { s with heap := h' }) :
    wpAny (model prog w) A (call (.builtin "iter") [.ref SRC]) Q E s := by
  rcases src with rfl | ⟨rfl, rfl⟩
  · refine call_iter_list (F.keep _ _ hL) ?_
    have z := N.push F (liObj SRC 0)
    refine h _ _ (F.push _) (fun q hq => z q ?_) fun a o e => Heap.get?_push_of_some _ e
    rcases List.mem_cons.mp hq with rfl | hq
    · exact .head _
    · exact .tail _ (.tail _ hq)
  · exact call_iter_it (N.get (.head _)) (h _ _ F N fun a o e => e)

/-- the tuple of an item (elem, i) -/
def TupP (u : It) (o : Obj) : Prop := ∃ ti mm, o = { cls := .type "tuple", data := .seq #[u.e, .int u.i ti] mm }
theorem items_plain {x : Nat → Int} {e : Nat → Value} {dn : Bool} {ts : List (Addr × Obj)} {its : List It} {m N : Nat} {od : Int} {B h : Heap} {D : Addr} {items : Array Value} {c : Nat} (I : Items x e TupP dn ts its m od) (hm : m ≤ N) (hel : ∀ p, p < N → ∃ a t n, e p = .ref a ∧ B.get? a = some (listOf #[.int (x p) t] n))
    (st : B.StaysIn h) (hD : h.get? D = some (listOf items c)) (hB : B.get? D = none) (ht : ∀ q ∈ ts, h.get? q.1 = some q.2) : ∀ u ∈ its, Plain (hideAll h [D]) u := by
  intro u hu
  obtain ⟨T, o, p, q1, q2, q3, q4, q5, ti, mm, rfl⟩ := I.good u hu
  refine e3_2 (hel p (Nat.lt_of_lt_of_le q4 hm)) ?_
  intro a t n r1 r2
  have gT := ht _ q5
  refine ⟨T, a, ti, mm, x p, t, n, q1, kh_of q2, q3.trans r1, hideAll_get _ ?_ fun z => ?_, hideAll_get _ (st _ _ r2) fun z => ?_⟩
  · rw [q3, r1] at gT; exact gT
  · rw [List.mem_singleton] at z; rw [z] at gT; dsimp only at gT; rw [hD] at gT
    have := congrArg Obj.cls (Option.some.inj gT); simp [W.listOf] at this
  · rw [List.mem_singleton.mp z, hB] at r2; cases r2
theorem news_back1 {h₀ h h' : Heap} {L D : Addr} {o o' : Obj} {rest : List (Addr × Obj)} (N : News h₀ L h ((D, o) :: rest)) (off : ∀ q ∈ rest, q.2 ≠ o) (st : (hideAll h [D]).StaysIn h') (ho : h'.get? D = some o') : News h₀ L h' ((D, o') :: rest) := by
  intro q hq
  rcases List.mem_cons.mp hq with rfl | hq
  · exact ⟨ho, (N _ (.head _)).2⟩
  · have z := N _ (.tail _ hq)
    refine ⟨st _ _ (hideAll_get _ z.1 fun r => off q hq ?_), z.2⟩
    rw [List.mem_singleton] at r
    have := (N _ (.head _)).1
    rw [← r, z.1] at this; exact (Option.some.inj this)

theorem evalArgs_kw0 {M : Model} {E : Value → Shared → Prop} {f : Value} {keywords : List (Option Str × Sem Value)} {Q : Args → Shared → Prop} (hall : keywords.all (·.1.isSome) = true)
    (h : wpAny M A (evalAll (keywords.map (·.2))) (fun kvs s₂ => Q ⟨[], (keywords.filterMap (·.1)).zip kvs⟩ s₂) E s) : wpAny M A (evalArgs f true [] keywords) Q E s := by
  unfold evalArgs
  refine wpAny_bind (m := spliced []) (wpAny_pure ?_)
  refine wpAny_bind (wpAny_pure ?_)
  refine wpAny_holding ?_
  rw [if_pos hall]
  refine wpAny_bind (wpAny_mono h (fun kvs s₂ h₂ => ?_) fun _ _ x => x)
  exact wpAny_bind (wpAny_pure (wpAny_pure h₂))
theorem args_sort_rev (a v : Value) : argsOk "list.sort" ⟨[a], [(Str.ofString "reverse", v)]⟩ := by unfold argsOk; kernel_rfl
theorem take_min {x : Nat → Int} {N k : Nat} : (ordD x N).take (min k N) = (ordD x N).take k := by
  rcases Nat.le_total k N with h | h
  · rw [Nat.min_eq_left h]
  · rw [Nat.min_eq_right h, List.take_of_length_le (by rw [ordD_len]; exact Nat.le_refl _), List.take_of_length_le (by rw [ordD_len]; exact h)]
theorem places_map {e : Nat → Value} {zs : List It} {l : List Nat} {n : Nat} (h : zs.map pl = l) (hn : zs.length = n) : (List.range n).map (fun i => e (pl (zs.getD i it0))) = l.map e := by
  subst hn h
  refine List.ext_getElem (by simp) fun i a b => ?_
  have hi : i < zs.length := by simpa using a
  simp [List.getD_eq_getElem?_getD, hi]
def adOf : Value → Addr
  | .ref T => T
  | _ => 0
theorem pyIter_li {E : Value → Shared → Prop} {it : Addr} {o : Obj} {Q : Value → Shared → Prop} (ho : s.heap.get? it = some o) (hc : o.cls = .type "list_iterator") (h : Q (.ref it) s) : wpAny (model prog w) A (pyIter (.ref it)) Q E s := by
  have ht : s.TypeIs (.ref it) "list_iterator" := ⟨o, ho, hc⟩
  refine wpAny_pyIter_slot ht slot_listiter_iter (wpAny_call_entry slot_listiter_iter ht entry_listiter_iter ?_ (args_listiter_iter _))
  show wpAny _ _ (ret (.ref it)) _ _ s
  exact wpAny_pure ⟨_, rfl, "list_iterator", _, ht, slot_listiter_next.lookup, h⟩
theorem cmp_e_lt {E : Value → Shared → Prop} {x : Nat → Int} {e : Nat → Value} {N i j : Nat} {B : Heap} {Q : Value → Shared → Prop} (hu : A.units < 9000) (hel : ∀ p, p < N → ∃ a t n, e p = .ref a ∧ B.get? a = some (listOf #[.int (x p) t] n)) (st : B.StaysIn s.heap) (hi : i < N) (hj : j < N)
    (h : Q (.bool (decide (x i < x j))) s) : wpAny (model prog w) A (compareOp .Lt (e i) (e j)) Q E s := by
  refine e3_2 (hel i hi) ?_
  intro a t n q1 q2
  refine e3_2 (hel j hj) ?_
  intro a' t' n' q3 q4
  rw [q1, q3]
  exact one_lt hu (st _ _ q2) (st _ _ q4) h
theorem news_mid {h₀ h h' : Heap} {L I : Addr} {o o' : Obj} {p1 : Addr × Obj} {rest : List (Addr × Obj)} (N : News h₀ L h (p1 :: (I, o) :: rest)) (off : ∀ q ∈ p1 :: rest, q.2 ≠ o) (k : Heap.ExtBut I h h') (ho : h'.get? I = some o') : News h₀ L h' (p1 :: (I, o') :: rest) := by
  have ne : ∀ q ∈ p1 :: rest, q.1 ≠ I := fun q hq r => off q hq (by
    have z : h.get? q.1 = some q.2 := by
      rcases List.mem_cons.mp hq with rfl | hq
      · exact (N _ (.head _)).1
      · exact (N _ (.tail _ (.tail _ hq))).1
    have z' := (N _ (.tail _ (.head _))).1
    dsimp only at z'
    rw [r, z'] at z; exact (Option.some.inj z).symm)
  intro q hq
  rcases List.mem_cons.mp hq with rfl | hq
  · exact ⟨k _ _ (ne _ (.head _)) (N _ (.head _)).1, (N _ (.head _)).2⟩
  rcases List.mem_cons.mp hq with rfl | hq
  · exact ⟨ho, (N _ (.tail _ (.head _))).2⟩
  · exact ⟨k _ _ (ne _ (.tail _ hq)) (N _ (.tail _ (.tail _ hq))).1, (N _ (.tail _ (.tail _ hq))).2⟩

theorem rich_one_lt {E : Value → Shared → Prop} {x y : Addr} {a b : Int} {t u : Tok} {n k : Nat} {Q : Value → Shared → Prop} (hu : A.units < 9000) (hx : s.heap.get? x = some (listOf #[.int a t] n)) (hy : s.heap.get? y = some (listOf #[.int b u] k))
    (h : Q (.bool (decide (a < b))) s) : wpAny (model prog w) A (richCompare .Lt (.ref x) (.ref y)) Q E s := by
  refine wpAny_richCompare_same_room ⟨_, hx, rfl⟩ ⟨_, hy, rfl⟩ F.slot_list_lt (call_list_lt hx hy ?_) (Nat.lt_trans hu (by decide))
  show (_ ∧ _) ∨ (_ ∧ _)
  by_cases e : a = b
  · subst e
    refine .inl ⟨by simpa using MeetsSeq.EqGives.int a a t u, ?_⟩
    show _ ∧ Q _ s
    simpa using h
  · refine .inr ⟨by have q := MeetsSeq.EqGives.int a b t u; rwa [show (a == b) = false from by simpa using e] at q, rich_lt_int ⟨by simp, h⟩⟩

theorem rich_one_gt {E : Value → Shared → Prop} {x y : Addr} {a b : Int} {t u : Tok} {n k : Nat} {Q : Value → Shared → Prop} (hu : A.units < 9000) (hx : s.heap.get? x = some (listOf #[.int a t] n)) (hy : s.heap.get? y = some (listOf #[.int b u] k))
    (h : Q (.bool (decide (b < a))) s) : wpAny (model prog w) A (richCompare .Gt (.ref x) (.ref y)) Q E s := by
  refine wpAny_richCompare_same_room ⟨_, hx, rfl⟩ ⟨_, hy, rfl⟩ F.slot_list_gt (call_list_gt hx hy ?_) (Nat.lt_trans hu (by decide))
  show (_ ∧ _) ∨ (_ ∧ _)
  by_cases e : a = b
  · subst e
    refine .inl ⟨by simpa using MeetsSeq.EqGives.int a a t u, ?_⟩
    show _ ∧ Q _ s
    simpa using h
  · refine .inr ⟨by have q := MeetsSeq.EqGives.int a b t u; rwa [show (a == b) = false from by simpa using e] at q, rich_gt_int ⟨by simp, h⟩⟩

/-- the tuple of an item (key, i, elem) -/
def TupK (u : It) (o : Obj) : Prop := ∃ tq ti mm, o = { cls := .type "tuple", data := .seq #[.int (kh u.k) tq, .int u.i ti, u.e] mm }
theorem items_keyd {x : Nat → Int} {e : Nat → Value} {dn : Bool} {ts : List (Addr × Obj)} {its : List It} {m : Nat} {od : Int} {h : Heap} {D : Addr} {items : Array Value} {c : Nat} (I : Items x e TupK dn ts its m od)
    (hD : h.get? D = some (listOf items c)) (ht : ∀ q ∈ ts, h.get? q.1 = some q.2) : ∀ u ∈ its, Keyd (hideAll h [D]) u := by
  intro u hu
  obtain ⟨T, o, p, q1, q2, q3, q4, q5, tq, ti, mm, rfl⟩ := I.good u hu
  have gT := ht _ q5
  refine ⟨T, tq, ti, mm, _, q1, rfl, hideAll_get _ gT fun z => ?_⟩
  rw [List.mem_singleton] at z; rw [z] at gT; dsimp only at gT; rw [hD] at gT
  have := congrArg Obj.cls (Option.some.inj gT); simp [W.listOf] at this
theorem load_cl {env : Env} {E : Value → Shared → Prop} {scope : Scope} {cl : List (Str × Addr)} {C c : Addr} {o : Obj} {x : Str} {px : Pos} {v : Value} {Q : Value → Shared → Prop} (hkind : scope.kind = .function) (hx : (compEnvC scope cl C env).kindOf x = some .cell) (hc : cl.lookup x = some c)
    (hg : s.heap.get? c = some o) (hd : o.data = .cell (some v)) (h : Q v s) (hb : (x == ("__debug__" : Str)) = false := by decide) : wpAny (model prog w) A (eval (.Name x px) (compEnvC scope cl C env)) Q E s :=
  wpAny_Name (wpAny_loadName_cell (env := compEnvC scope cl C env) hkind hx hc ⟨o, hg, hd⟩ h) hb
end
-- PE
section
variable {sc : Nat → Int}
def bt (sc : Nat → Int) (a b : Nat) : Bool := decide (sc b < sc a) || (decide (sc a = sc b) && decide (a < b))
theorem bt_iff {a b : Nat} : bt sc a b = true ↔ bet sc a b := by unfold bt bet; simp
theorem idx_of {p : Nat} : ∀ {l : List Nat}, l.Pairwise (bet sc) → p ∈ l → l[(l.filter fun q => bt sc q p).length]? = some p
  | [], _, h => by simp at h
  | a :: r, h, hm => by
    obtain ⟨h1, h2⟩ := List.pairwise_cons.mp h
    by_cases e : a = p
    · subst e
      have z : (r.filter fun q => bt sc q a) = [] := by
        rw [List.filter_eq_nil_iff]
        intro c hc q
        exact bet_asym (h1 c hc) (bt_iff.mp q)
      have z' : bt sc a a = false := by
        cases q : bt sc a a with
        | false => rfl
        | true => exact absurd (bt_iff.mp q) bet_irr
      simp [z, z']
    · have hm' : p ∈ r := by
        rcases List.mem_cons.mp hm with q | q
        · exact absurd q.symm e
        · exact q
      have z : bt sc a p = true := bt_iff.mpr (h1 p hm')
      simp only [List.filter_cons, z, if_true, List.length_cons, List.getElem?_cons_succ]
      exact idx_of h2 hm'
theorem filter_or_len {p q : Nat → Bool} : ∀ l : List Nat, (∀ a ∈ l, ¬ (p a = true ∧ q a = true)) → (l.filter fun a => p a || q a).length = (l.filter p).length + (l.filter q).length
  | [], _ => rfl
  | a :: r, h => by
    have ih := filter_or_len r fun b hb => h b (.tail _ hb)
    have ha := h a (.head _)
    cases hp : p a <;> cases hq : q a <;> simp [hp, hq, ih] at ha ⊢ <;> lia
theorem rank_ordD {x : Nat → Int} {N p : Nat} (hp : p < N) :
    (ordD x N)[((List.range N).filter fun q => decide (x p < x q)).length + ((List.range p).filter fun q => decide ([x q] = [x p])).length]? = some p := by
  have h := idx_of (sc := x) (ordD_pw N) (ordD_mem.mpr hp)
  have e1 : ((ordD x N).filter fun q => bt x q p).length = ((List.range N).filter fun q => bt x q p).length := ((ordD_perm N).filter _).length_eq
  have e2 : ((List.range N).filter fun q => bt x q p).length = ((List.range N).filter fun q => decide (x p < x q)).length + ((List.range N).filter fun q => decide (x q = x p) && decide (q < p)).length := by
    unfold bt
    exact filter_or_len _ fun a _ => by simp; lia
  have e3 : ((List.range N).filter fun q => decide (x q = x p) && decide (q < p)) = (List.range p).filter fun q => decide ([x q] = [x p]) := by
    obtain ⟨d, rfl⟩ : ∃ d, N = p + d := ⟨N - p, by lia⟩
    rw [List.range_add, List.filter_append]
    have z : (List.map (fun x => p + x) (List.range d)).filter (fun q => decide (x q = x p) && decide (q < p)) = [] := by
      rw [List.filter_eq_nil_iff]
      intro a ha
      refine e1_2 (List.mem_map.mp ha) ?_
      intro c _ zr2
      first | subst zr2 | cases zr2
      simp
    rw [z, List.append_nil]
    refine List.filter_congr fun q hq => ?_
    have := List.mem_range.mp hq
    simp [this]
  rw [e1, e2, e3] at h
  exact h
theorem nd_inj {l : List Nat} (h : l.Nodup) {i k : Nat} (hi : i < l.length) (hk : k < l.length) (e : l[i] = l[k]) : i = k := by
  have pw := List.pairwise_iff_getElem.mp h
  rcases Nat.lt_trichotomy i k with q | q | q
  · exact absurd e (pw i k hi hk q)
  · exact q
  · exact absurd e.symm (pw k i hk hi q)
theorem set_rank {x : Nat → Int} {N j k : Nat} {tt : Nat → Tok} {t : Tok} (hk : (ordD x N)[k]? = some j) :
    (((ordD x N).map fun p : Nat => if p < j then Value.int (p : Int) (tt p) else Value.none).toArray).setIfInBounds k (.int (j : Int) t) = ((ordD x N).map fun p : Nat => if p < j + 1 then Value.int (p : Int) (if p = j then t else tt p) else Value.none).toArray := by
  obtain ⟨hl, hj⟩ := List.getElem?_eq_some_iff.mp hk
  apply Array.toList_inj.mp
  simp only [Array.toList_setIfInBounds]
  refine List.ext_getElem (by simp) fun i a b => ?_
  have hi : i < (ordD x N).length := by simpa using b
  rw [List.getElem_set]
  simp only [List.getElem_map]
  by_cases e : k = i
  · subst e
    rw [if_pos rfl, hj, if_pos (Nat.lt_succ_self _), if_pos rfl]
  · rw [if_neg e]
    have hne : (ordD x N)[i] ≠ j := fun q => e (nd_inj (ordD_nodup (sc := x) N) hl hi (hj.trans q.symm))
    by_cases q : (ordD x N)[i] < j
    · rw [if_pos q, if_pos (by lia), if_neg hne]
    · rw [if_neg q, if_neg (by lia)]
theorem all_set {x : Nat → Int} {N : Nat} {tt : Nat → Tok} : ((ordD x N).map fun p : Nat => if p < N then Value.int (p : Int) (tt p) else Value.none) = (ordD x N).map fun p : Nat => Value.int (p : Int) (tt p) := by
  refine List.map_congr_left fun p hp => if_pos (ordD_mem.mp hp)

/-- turned about: the least of the row turned about, from behind -/
theorem ordD_turn (x : Nat → Int) (N : Nat) : ((ordD (fun p => - x (N - 1 - p)) N).map fun p => N - 1 - p).reverse = ordD x N := by
  refine ordD_uniq ?_ ?_
  · rw [List.pairwise_reverse, List.pairwise_map]
    refine List.Pairwise.imp_of_mem ?_ (ordD_pw (sc := fun p => - x (N - 1 - p)) N)
    intro a b ha hb h
    have h1 := ordD_mem.mp ha
    have h2 := ordD_mem.mp hb
    unfold bet at *
    dsimp only at h
    lia
  · refine (List.reverse_perm _).trans (((ordD_perm N).map _).trans ?_)
    have e : (List.range N).map (fun p => N - 1 - p) = (List.range N).reverse := by
      refine List.ext_getElem (by simp) fun i a b => ?_
      simp
    rw [e]
    exact List.reverse_perm _
theorem meet_eq (x : Nat → Int) (N : Nat) (wish : Int) :
    (ordD x N).take wish.toNat ++ (((ordD (fun p => - x (N - 1 - p)) N).take ((N : Int) - wish).toNat).map fun p => N - 1 - p).reverse = ordD x N := by
  have e := ordD_turn x N
  rw [List.map_take]
  have hl : ((ordD (fun p => - x (N - 1 - p)) N).map fun p => N - 1 - p).length = N := by rw [List.length_map, ordD_len]
  generalize (ordD (fun p => - x (N - 1 - p)) N).map (fun p => N - 1 - p) = l at *
  rw [← e]
  rw [List.reverse_take, hl]
  rw [show N - ((N : Int) - wish).toNat = min wish.toNat N by lia]
  rcases Nat.le_total wish.toNat N with q | q
  · rw [Nat.min_eq_left q, List.take_append_drop]
  · rw [Nat.min_eq_right q, List.take_of_length_le (by rw [List.length_reverse, hl]; exact q), List.drop_of_length_le (by rw [List.length_reverse, hl]; exact Nat.le_refl _), List.append_nil]
end
-- B12
section
variable {prog : Program} {w : World} {A : Around} {s : Shared} {E : Value → Shared → Prop} {env : Env}

/-- what a comprehension or a loop draws from: n items, the i-th as V says, the iterator at I standing at j as St says; deps: what it reads besides -/
structure Source (prog : Program) (w : World) (A : Around) (I : Addr) (deps : List Addr) (n : Nat) (V : Nat → Value → Prop) (St : Nat → Heap → Prop) : Prop where
  turn : ∀ (s : Shared) (j : Nat) (Q : Option Value → Shared → Prop) (E : Value → Shared → Prop), j < n → St j s.heap → (∀ v h' tk', V j v → St (j + 1) h' → Heap.SameBut I s.heap h' → Q (some v) { s with heap := h', toks := tk' }) → wpAny (model prog w) A (pyNext (.ref I)) Q E s
  done : ∀ (s : Shared) (Q : Option Value → Shared → Prop) (E : Value → Shared → Prop), St n s.heap → (∀ h' tk', Heap.ExtBut I s.heap h' → Q none { s with heap := h', toks := tk' }) → wpAny (model prog w) A (pyNext (.ref I)) Q E s
  iter : ∀ (s : Shared) (j : Nat) (Q : Value → Shared → Prop) (E : Value → Shared → Prop), St j s.heap → Q (.ref I) s → wpAny (model prog w) A (pyIter (.ref I)) Q E s
  own : ∀ (s : Shared) (j : Nat) (v : Value) (Q : Unit → Shared → Prop) (E : Value → Shared → Prop) (x : Str) (px : Pos), Q () s → wpAny (model prog w) A (letOwnedTupleGo (.Name x px) (.ref I) v) Q E s
  alive : ∀ j h, St j h → ∀ a ∈ I :: deps, ∃ o, h.get? a = some o
  frame : ∀ j h h', St j h → (∀ c o, c ∈ I :: deps → h.get? c = some o → h'.get? c = some o) → St j h'

def liSt (I R : Addr) (e : Nat → Value) (n c0 : Nat) (j : Nat) (h : Heap) : Prop := h.get? I = some (liObj R j) ∧ h.get? R = some (listOf ((List.range n).map e).toArray c0)
theorem li_source {I R : Addr} {e : Nat → Value} {n c0 : Nat} (hh : A.handled = none) : Source prog w A I [R] n (fun j v => v = e j) (liSt I R e n c0) where
  turn := by
    rintro s j Q E hj ⟨g1, g2⟩ k
    have lI : R ≠ I := fun q => by rw [q, g1] at g2; have := congrArg Obj.data (Option.some.inj g2); simp [liObj, W.listOf] at this
    refine pyNext_li_item g1 g2 (x := e j) (by simp [hj]) fun h₂ k1 s2 => k _ _ _ rfl ⟨k1, s2.extBut _ _ lI g2⟩ s2
  done := by
    rintro s Q E ⟨g1, g2⟩ k
    exact pyNext_li_end hh g1 g2 (by simp) fun h' a b => k _ _ b
  iter := by
    rintro s j Q E ⟨g1, g2⟩ k
    exact wpAny_pyIter_listiter (li_is g1) k
  own := fun s j v Q E x px k => wpAny_pure k
  alive := by
    rintro j h ⟨g1, g2⟩ a ha
    simp only [List.mem_cons, List.not_mem_nil, or_false] at ha
    rcases ha with rfl | rfl
    · exact ⟨_, g1⟩
    · exact ⟨_, g2⟩
  frame := by
    rintro j h h' ⟨g1, g2⟩ k
    exact ⟨k _ _ (.head _) g1, k _ _ (.tail _ (.head _)) g2⟩

def rgSt (I : Addr) (a : Int) (n : Nat) (j : Nat) (h : Heap) : Prop := h.get? I = some (krsIt (a + j) ((n : Int) - j) 1)
theorem rg_source {I : Addr} {a : Int} {n : Nat} (hh : A.handled = none) : Source prog w A I [] n (fun j v => ∃ t, v = .int (a + j) t) (rgSt I a n) where
  turn := by
    intro s j Q E hj g1 k
    refine wpAny_pyNext_range_item g1 (by lia) fun h' it k' => k _ _ _ ⟨_, rfl⟩ ?_ k'
    unfold rgSt
    rw [show (a + ((j + 1 : Nat) : Int)) = a + j + 1 by lia, show ((n : Int) - ((j + 1 : Nat) : Int)) = (n : Int) - j - 1 by lia]
    exact it
  done := by
    intro s Q E g1 k
    exact wpAny_pyNext_range_end hh g1 (by lia) fun h' b => k _ _ b
  iter := by
    intro s j Q E g1 k
    exact wpAny_pyIter_rangeiter g1 k
  own := fun s j v Q E x px k => wpAny_pure k
  alive := by
    intro j h g1 a ha
    simp only [List.mem_cons, List.not_mem_nil, or_false] at ha
    subst ha; exact ⟨_, g1⟩
  frame := by
    intro j h h' g1 k
    exact k _ _ (.head _) g1

theorem src_comp {elt iter : Expr} {ifs : List Expr} {scope : Scope} {cl : List (Str × Addr)} {pos px : Pos} {R : Result → Shared → Prop} {C D I : Addr} {deps : List Addr} {n : Nat} {x : Str} {V : Nat → Value → Prop} {St : Nat → Heap → Prop}
    (S : Source prog w A I deps n V St) (p : Nat → Bool) (YP : Nat → Value → List (Addr × Obj) → Prop) {m₀ : Str → Option Value} {c₀ : Nat}
    (hDC : D ≠ C) (offC : C ∉ I :: deps) (offD : D ∉ I :: deps) (hn : n ≤ 1000) (hkind : scope.kind = .function) (hx : scope.names.lookup x = some .local)
    (htest : ∀ j h m₃ tk E' v, j < n → V j v → h.Ns C m₃ → m₃ x = some v → Kept [I] C D s.heap h →
      wpAny (model prog w) A (forIn ifs true fun c r => if r = true then do let ok ← isTrue c (compEnvC scope cl C env) (eval c (compEnvC scope cl C env)); pure (ForInStep.yield ok) else pure (ForInStep.yield r)) (fun ok s' => ok = p j ∧ ∃ h' tk', s' = { s with heap := h', toks := tk' } ∧ h.StaysIn h') E' { s with heap := h, toks := tk })
    (helt : ∀ j h m₃ tk E' v, j < n → p j = true → V j v → h.Ns C m₃ → m₃ x = some v → Kept [I] C D s.heap h →
      wpAny (model prog w) A (eval elt (compEnvC scope cl C env)) (fun y s' => ∃ h' tk' nw, s' = { s with heap := h', toks := tk' } ∧ h.StaysIn h' ∧ YP j y nw ∧ ∀ q ∈ nw, h'.get? q.1 = some q.2 ∧ h.get? q.1 = none) E' { s with heap := h, toks := tk })
    (hst : St 0 s.heap) (hC : s.heap.Ns C m₀) (hD : s.heap.get? D = some (listOf #[] c₀))
    (hR : ∀ h' tk' m₂ (rs : List (Value × List (Addr × Obj))) c, rs.length = ((List.range n).filter p).length → (∀ i r, rs[i]? = some r → YP (((List.range n).filter p).getD i 0) r.1 r.2) →
      (∀ r ∈ rs, ∀ q ∈ r.2, h'.get? q.1 = some q.2 ∧ s.heap.get? q.1 = none) → h'.Ns C m₂ → h'.get? D = some (listOf (rs.map (·.1)).toArray c) → Kept [I] C D s.heap h' → R (.ok .next) { s with heap := h', toks := tk' }) :
    codeAny (model prog w) A (.compLoop (.ListComp elt [⟨.Name x px, iter, ifs, 0⟩] scope pos) 0 (.ref I) (.ref D) (compEnvC scope cl C env)) R s := by
  have CI : C ≠ I := fun q => offC (q ▸ .head _)
  have DI : D ≠ I := fun q => offD (q ▸ .head _)
  refine comp_turns (p := p) (n := n) (St := St) (wr := [I]) (Nm := fun j m => ∃ v, V j v ∧ m x = some v) (YP := YP) (Dn := fun _ => True)
    hDC (by simpa using DI) (by simpa using CI) hn ?_ ?_ ?_ ?_ ?_ ?_ hst hC hD ?_
  · intro j h st a ha
    rw [List.mem_singleton] at ha; subst ha
    exact S.alive j h st _ (.head _)
  · intro j h h' st k
    exact S.frame j h h' st fun c o hc e => k c o (fun q => offC (q ▸ hc)) (fun q => offD (q ▸ hc)) e
  · intro j h m₂ tk E' hj st hC' hK
    refine S.turn _ j _ _ hj st fun v h₂ tk₂ hv st₂ s2 => ⟨v, rfl, ?_⟩
    refine S.own _ j v _ _ x px ?_
    have n2 : h₂.Ns C m₂ := ns_at hC' fun o e => s2.extBut _ o CI e
    refine store_c hkind hx n2 fun h₃ tk₃ n3 s3 => ⟨h₃, tk₃, _, rfl, ?_, n3, ⟨v, hv, if_pos rfl⟩, ?_⟩
    · exact S.frame _ _ _ st₂ fun c o hc e => s3.extBut c o (fun q => offC (q ▸ hc)) e
    · intro c o hw hc e
      exact s3.extBut _ _ hc (s2.extBut _ _ (fun q => hw (by rw [q]; exact .head _)) e)
  · rintro j h m₃ tk E' hj st hC' ⟨v, hv, nm⟩ hK
    exact htest j h m₃ tk E' v hj hv hC' nm hK
  · rintro j h m₃ tk E' hj hp st hC' ⟨v, hv, nm⟩ hK
    exact helt j h m₃ tk E' v hj hp hv hC' nm hK
  · intro h tk Q E' st hK k
    exact S.done _ _ _ st fun h' tk' b => k h' tk' trivial fun c o hw e => b c o (fun q => hw (by rw [q]; exact .head _)) e
  · intro h' tk' m₂ rs c q1 q2 q3 q4 q5 _ q7
    exact hR h' tk' m₂ rs c q1 q2 q3 q4 q5 q7

/-- the loop of a comprehension in a frame with its ledger -/
theorem src_go {elt iter : Expr} {ifs : List Expr} {scope : Scope} {cl : List (Str × Addr)} {pos px : Pos} {RR : Value → Addr → Result → Shared → Prop} {I L : Addr} {deps : List Addr} {n : Nat} {x : Str} {V : Nat → Value → Prop} {St : Nat → Heap → Prop} {B h5 : Heap} {tk5 : Nat} {m : Str → Option Value} {news : List (Addr × Obj)}
    (S : Source prog w A I deps n V St) (p : Nat → Bool) (YP : Nat → Value → List (Addr × Obj) → Prop)
    (hn : n ≤ 1000) (hkind : scope.kind = .function) (hx : scope.names.lookup x = some .local)
    (F : Fr B L h5 m) (N : News B L h5 news) (hIL : I ≠ L) (hIB : B.get? I = none) (hIN : ∀ q ∈ news, q.1 ≠ I) (hst : St 0 h5)
    (htest : ∀ j h m₃ tk E' C v, j < n → V j v → h.Ns C m₃ → m₃ x = some v → B.StaysIn h → (∀ q ∈ news, h.get? q.1 = some q.2) →
      wpAny (model prog w) A (forIn ifs true fun c r => if r = true then do let ok ← isTrue c (compEnvC scope cl C env) (eval c (compEnvC scope cl C env)); pure (ForInStep.yield ok) else pure (ForInStep.yield r)) (fun ok s' => ok = p j ∧ ∃ h' tk', s' = { s with heap := h', toks := tk' } ∧ h.StaysIn h') E' { s with heap := h, toks := tk })
    (helt : ∀ j h m₃ tk E' C v, j < n → p j = true → V j v → h.Ns C m₃ → m₃ x = some v → B.StaysIn h → (∀ q ∈ news, h.get? q.1 = some q.2) →
      wpAny (model prog w) A (eval elt (compEnvC scope cl C env)) (fun y s' => ∃ h' tk' nw, s' = { s with heap := h', toks := tk' } ∧ h.StaysIn h' ∧ YP j y nw ∧ ∀ q ∈ nw, h'.get? q.1 = some q.2 ∧ h.get? q.1 = none) E' { s with heap := h, toks := tk })
    (k : ∀ C D h7 tk7 m₂ c (rs : List (Value × List (Addr × Obj))), rs.length = ((List.range n).filter p).length → (∀ i r, rs[i]? = some r → YP (((List.range n).filter p).getD i 0) r.1 r.2) → h7.Ns C m₂ → h7.Ns L m → C ≠ L → D ≠ C → B.get? C = none → B.StaysIn h7 →
      News B L h7 ((D, listOf (rs.map (·.1)).toArray c) :: (rs.flatMap (·.2) ++ news)) → (∀ q ∈ rs.flatMap (·.2) ++ news, q.1 ≠ C ∧ q.1 ≠ D) → RR (.ref D) C (.ok .next) { s with heap := h7, toks := tk7 }) :
    CompGo prog w A env elt (.Name x px) iter ifs scope cl pos RR (.ref I) { s with heap := h5, toks := tk5 } := by
  intro C D h6 tk6 st6 nC nD nDC hC hD
  dsimp only at st6 nC nD hC hD ⊢
  have ne5 : ∀ {a b : Addr} {o : Obj}, h5.get? a = some o → h5.get? b = none → a ≠ b := fun q1 q2 r => by rw [r, q2] at q1; cases q1
  have off : ∀ Y, h5.get? Y = none → Y ∉ I :: deps := fun Y q r => by
    obtain ⟨o, ho⟩ := S.alive 0 h5 hst Y r
    rw [q] at ho; cases ho
  have st6' : St 0 h6 := S.frame _ _ _ hst fun c o _ e => st6 c o e
  refine ⟨fun Q E q => S.iter _ 0 _ _ st6' q, ?_⟩
  have keep : ∀ {h a o}, Kept [I] C D h6 h → h5.get? a = some o → a ≠ I → h.get? a = some o := fun kp q ne =>
    kp _ _ (fun r => ne (List.mem_singleton.mp r)) (ne5 q nC) (ne5 q nD) (st6 _ _ q)
  have keepB : ∀ {h}, Kept [I] C D h6 h → B.StaysIn h := fun kp a o q => keep kp (F.keep _ _ q) fun r => by rw [r, hIB] at q; cases q
  have keepN : ∀ {h}, Kept [I] C D h6 h → ∀ q ∈ news, h.get? q.1 = some q.2 := fun kp q hq => keep kp (N q hq).1 (hIN q hq)
  refine src_comp (s := { s with heap := h6, toks := tk6 }) S p YP nDC (off _ nC) (off _ nD) hn hkind hx ?_ ?_ st6' hC hD ?_
  · intro j h m₃ tk E' v hj hv hn' q1 kp
    exact htest j h m₃ tk E' C v hj hv hn' q1 (keepB kp) (keepN kp)
  · intro j h m₃ tk E' v hj hp hv hn' q1 kp
    exact helt j h m₃ tk E' C v hj hp hv hn' q1 (keepB kp) (keepN kp)
  · intro h7 tk7 m₂ rs c q1 q2 q3 q4 q5 q7
    obtain ⟨oL, gL⟩ := ns_there F.ns
    have L7 : h7.Ns L m := ns_at F.ns fun o q => keep q7 q (Ne.symm hIL)
    have LC : C ≠ L := Ne.symm (ne5 gL nC)
    have LD : D ≠ L := Ne.symm (ne5 gL nD)
    have n5B : ∀ {a}, h5.get? a = none → B.get? a = none := fun q => by
      cases r : B.get? _ with
      | none => rfl
      | some o => rw [F.keep _ _ r] at q; cases q
    have fresh : ∀ r ∈ rs, ∀ q ∈ r.2, h7.get? q.1 = some q.2 ∧ q.1 ≠ L ∧ q.1 ≠ C ∧ q.1 ≠ D ∧ B.get? q.1 = none := fun r hr q hq => by
      obtain ⟨g1, g2⟩ := q3 r hr q hq
      dsimp only at g2
      refine ⟨g1, fun r => ?_, fun r => ?_, fun r => ?_, ?_⟩
      · rw [r, st6 _ _ gL] at g2; cases g2
      · obtain ⟨o, ho⟩ := ns_there hC; rw [r, ho] at g2; cases g2
      · rw [r, hD] at g2; cases g2
      · cases r : B.get? q.1 with
        | none => rfl
        | some o => rw [st6 _ _ (F.keep _ _ r)] at g2; cases g2
    refine k C D h7 tk7 m₂ c rs q1 q2 q4 L7 LC nDC (n5B nC) (keepB q7) ?_ ?_
    · intro q hq
      rcases List.mem_cons.mp hq with rfl | hq
      · exact ⟨q5, LD, n5B nD⟩
      rcases List.mem_append.mp hq with hq | hq
      · refine e1_2 (List.mem_flatMap.mp hq) ?_
        intro r hr hq
        refine e0_5 (fresh r hr q hq) ?_
        intro f1 f2 f3 f4 f5
        exact ⟨f1, f2, f5⟩
      · exact ⟨keepN q7 q hq, (N q hq).2⟩
    · intro q hq
      rcases List.mem_append.mp hq with hq | hq
      · refine e1_2 (List.mem_flatMap.mp hq) ?_
        intro r hr hq
        refine e0_5 (fresh r hr q hq) ?_
        intro f1 f2 f3 f4 f5
        exact ⟨f3, f4⟩
      · exact ⟨ne5 (N q hq).1 nC, ne5 (N q hq).1 nD⟩

def SrcMade (B : Heap) (L : Addr) (m : Str → Option Value) (news : List (Addr × Obj)) (prog : Program) (w : World) (A : Around) (n : Nat) (V : Nat → Value → Prop) (s : Shared) (it : Value) (s₂ : Shared) : Prop :=
  ∃ I h5 tk5 deps St, it = .ref I ∧ s₂ = { s with heap := h5, toks := tk5 } ∧ Fr B L h5 m ∧ News B L h5 news ∧ I ≠ L ∧ B.get? I = none ∧ (∀ q ∈ news, q.1 ≠ I) ∧ Source prog w A I deps n V St ∧ St 0 h5

theorem src_assign {elt iter : Expr} {ifs : List Expr} {scope : Scope} {cl : List (Str × Addr)} {y x : Str} {pos spos px py : Pos} {L : Addr} {n : Nat} {V : Nat → Value → Prop} {B : Heap} {m : Str → Option Value} {news : List (Addr × Obj)} {Q : Flow → Shared → Prop}
    (p : Nat → Bool) (YP : Nat → Value → List (Addr × Obj) → Prop) (hloc : env.locals = L)
    (hsw : swapsWith (.ListComp elt [⟨.Name x px, iter, ifs, 0⟩] scope pos) (some (.Name y py)) spos.line env = pure true)
    (hclos : closureFor scope env = pure cl) (hcell : ∀ z ∈ scope.names, z.2 ≠ .cell) (hnames : ∀ z ∈ scope.names, z.2 = .local → scope.names.lookup z.1 = some .local)
    (hy : env.kindOf y = some .local) (hp : (env.scope.kind == .class || (env.scope.kind == .module && env.locals != env.globals)) = false) (hs : ∀ x, foldedSetIterable iter env x = pure x)
    (hn : n ≤ 1000) (hkind : scope.kind = .function) (hx : scope.names.lookup x = some .local)
    (hmade : wpAny (model prog w) A (eval iter env) (fun xv s₁ => wpAny (model prog w) A (pyIter xv) (SrcMade B L m news prog w A n V s) E s₁) E s)
    (htest : ∀ j h m₃ tk E' C v, j < n → V j v → h.Ns C m₃ → m₃ x = some v → B.StaysIn h → (∀ q ∈ news, h.get? q.1 = some q.2) →
      wpAny (model prog w) A (forIn ifs true fun c r => if r = true then do let ok ← isTrue c (compEnvC scope cl C env) (eval c (compEnvC scope cl C env)); pure (ForInStep.yield ok) else pure (ForInStep.yield r)) (fun ok s' => ok = p j ∧ ∃ h' tk', s' = { s with heap := h', toks := tk' } ∧ h.StaysIn h') E' { s with heap := h, toks := tk })
    (helt : ∀ j h m₃ tk E' C v, j < n → p j = true → V j v → h.Ns C m₃ → m₃ x = some v → B.StaysIn h → (∀ q ∈ news, h.get? q.1 = some q.2) →
      wpAny (model prog w) A (eval elt (compEnvC scope cl C env)) (fun y s' => ∃ h' tk' nw, s' = { s with heap := h', toks := tk' } ∧ h.StaysIn h' ∧ YP j y nw ∧ ∀ q ∈ nw, h'.get? q.1 = some q.2 ∧ h.get? q.1 = none) E' { s with heap := h, toks := tk })
    (k : ∀ D h8 tk8 c (rs : List (Value × List (Addr × Obj))), rs.length = ((List.range n).filter p).length → (∀ i r, rs[i]? = some r → YP (((List.range n).filter p).getD i 0) r.1 r.2) → Fr B L h8 (fun z => if z = y then some (.ref D) else m z) →
      News B L h8 ((D, listOf (rs.map (·.1)).toArray c) :: (rs.flatMap (·.2) ++ news)) → (∀ q ∈ rs.flatMap (·.2) ++ news, q.1 ≠ D) → Q .next { s with heap := h8, toks := tk8 }) :
    wpAny (model prog w) A (exec (.Assign [.Name y py] (.ListComp elt [⟨.Name x px, iter, ifs, 0⟩] scope pos) spos) env) Q E s := by
  subst hloc
  refine assign_comp hsw hclos hcell hkind hnames hy hp (wpAny_mono hmade (fun xv s₁ hz => wpAny_mono hz (fun it s₂ hz => ?_) fun _ _ e => e) fun _ _ e => e) hs
  refine e5_9 (hz) ?_
  (try clear hz)
  intro I h5 tk5 deps St zr5 zr6 F N hIL hIB hIN S hst
  first | subst zr5 | cases zr5
  first | subst zr6 | cases zr6
  refine src_go S p YP hn hkind hx F N hIL hIB hIN hst htest helt ?_
  intro C D h7 tk7 m₂ c rs q1 q2 q3 q4 q5 q6 q7 q8 q9 q10
  refine ⟨rfl, m₂, m, q3, q4, q5, fun h8 tk8 n8 k8 => ?_⟩
  refine k D h8 tk8 c rs q1 q2 ⟨n8, fun a o q => k8 _ _ (fun r => ?_) (fun r => ?_) (q8 _ _ q), F.above⟩ (fun q hq => ?_) fun q hq => (q10 q hq).2
  · rw [r] at q; exact absurd (Heap.lt_size q) (Nat.not_lt.mpr F.above)
  · rw [r, q7] at q; cases q
  · have z := q9 q hq
    refine ⟨k8 _ _ z.2.1 (fun r => ?_) z.1, z.2⟩
    rcases List.mem_cons.mp hq with rfl | hq
    · exact q6 r
    · exact (q10 q hq).1 r

theorem src_list {elt iter : Expr} {ifs : List Expr} {scope : Scope} {cl : List (Str × Addr)} {x : Str} {pos px : Pos} {L : Addr} {n : Nat} {V : Nat → Value → Prop} {B : Heap} {m : Str → Option Value} {news : List (Addr × Obj)} {Q : Value → Shared → Prop}
    (p : Nat → Bool) (YP : Nat → Value → List (Addr × Obj) → Prop)
    (hclos : closureFor scope env = pure cl) (hcell : ∀ z ∈ scope.names, z.2 ≠ .cell) (hnames : ∀ z ∈ scope.names, z.2 = .local → scope.names.lookup z.1 = some .local)
    (hs : ∀ x, foldedSetIterable iter env x = pure x)
    (hn : n ≤ 1000) (hkind : scope.kind = .function) (hx : scope.names.lookup x = some .local)
    (hmade : wpAny (model prog w) A (eval iter env) (fun xv s₁ => wpAny (model prog w) A (pyIter xv) (SrcMade B L m news prog w A n V s) E s₁) E s)
    (htest : ∀ j h m₃ tk E' C v, j < n → V j v → h.Ns C m₃ → m₃ x = some v → B.StaysIn h → (∀ q ∈ news, h.get? q.1 = some q.2) →
      wpAny (model prog w) A (forIn ifs true fun c r => if r = true then do let ok ← isTrue c (compEnvC scope cl C env) (eval c (compEnvC scope cl C env)); pure (ForInStep.yield ok) else pure (ForInStep.yield r)) (fun ok s' => ok = p j ∧ ∃ h' tk', s' = { s with heap := h', toks := tk' } ∧ h.StaysIn h') E' { s with heap := h, toks := tk })
    (helt : ∀ j h m₃ tk E' C v, j < n → p j = true → V j v → h.Ns C m₃ → m₃ x = some v → B.StaysIn h → (∀ q ∈ news, h.get? q.1 = some q.2) →
      wpAny (model prog w) A (eval elt (compEnvC scope cl C env)) (fun y s' => ∃ h' tk' nw, s' = { s with heap := h', toks := tk' } ∧ h.StaysIn h' ∧ YP j y nw ∧ ∀ q ∈ nw, h'.get? q.1 = some q.2 ∧ h.get? q.1 = none) E' { s with heap := h, toks := tk })
    (k : ∀ D h8 tk8 c (rs : List (Value × List (Addr × Obj))), rs.length = ((List.range n).filter p).length → (∀ i r, rs[i]? = some r → YP (((List.range n).filter p).getD i 0) r.1 r.2) → Fr B L h8 m →
      News B L h8 ((D, listOf (rs.map (·.1)).toArray c) :: (rs.flatMap (·.2) ++ news)) → (∀ q ∈ rs.flatMap (·.2) ++ news, q.1 ≠ D) → Q (.ref D) { s with heap := h8, toks := tk8 }) :
    wpAny (model prog w) A (eval (.ListComp elt [⟨.Name x px, iter, ifs, 0⟩] scope pos) env) Q E s := by
  refine list_comp hclos hcell hkind hnames (wpAny_mono hmade (fun xv s₁ hz => wpAny_mono hz (fun it s₂ hz => ?_) fun _ _ e => e) fun _ _ e => e) hs
  refine e5_9 (hz) ?_
  (try clear hz)
  intro I h5 tk5 deps St zr5 zr6 F N hIL hIB hIN S hst
  first | subst zr5 | cases zr5
  first | subst zr6 | cases zr6
  refine src_go S p YP hn hkind hx F N hIL hIB hIN hst htest helt ?_
  intro C D h7 tk7 m₂ c rs q1 q2 q3 q4 q5 q6 q7 q8 q9 q10
  refine ⟨rfl, m₂, q3, fun h8 s8 => ?_⟩
  refine k D h8 tk7 c rs q1 q2 ⟨ns_at q4 fun o e => s8.extBut _ o (Ne.symm q5) e, fun a o q => s8.extBut _ _ (fun r => ?_) (q8 _ _ q), F.above⟩ (fun q hq => ?_) fun q hq => (q10 q hq).2
  · rw [r, q7] at q; cases q
  · have z := q9 q hq
    refine ⟨s8.extBut _ _ (fun r => ?_) z.1, z.2⟩
    rcases List.mem_cons.mp hq with rfl | hq
    · exact q6 r
    · exact (q10 q hq).1 r

theorem made_list {L R : Addr} {n c0 : Nat} {e : Nat → Value} {B : Heap} {m : Str → Option Value} {news : List (Addr × Obj)} {s₁ : Shared} (hh : A.handled = none) (F : Fr B L s₁.heap m) (N : News B L s₁.heap news) (hl : s₁.heap.get? R = some (listOf ((List.range n).map e).toArray c0)) (hs : ∃ h tk, s₁ = { s with heap := h, toks := tk }) :
    wpAny (model prog w) A (pyIter (.ref R)) (SrcMade B L m news prog w A n (fun j v => v = e j) s) E s₁ := by
  refine e2_1 (hs) ?_
  (try clear hs)
  intro h tk zr2
  first | subst zr2 | cases zr2
  refine wpAny_pyIter_list (PySem.IsL.isList hl) ?_
  refine ⟨_, _, tk, _, liSt h.objs.size R e n c0, rfl, rfl, F.push (liObj R 0), fun q hq => (show News B L _ _ from N.push F (liObj R 0)) q (.tail _ hq), Nat.ne_of_gt F.ns.lt, next_is_new F, fun q hq => Nat.ne_of_lt (Heap.lt_size (N q hq).1), li_source hh, Heap.get?_push_size _ rfl, Heap.get?_push_of_some _ hl⟩

theorem made_range {L r : Addr} {n : Nat} {t u v : Tok} {B : Heap} {m : Str → Option Value} {news : List (Addr × Obj)} {s₁ : Shared} (hh : A.handled = none) (F : Fr B L s₁.heap m) (N : News B L s₁.heap news) (hr : IsRange s₁.heap r 0 n 1 t u v) (hn : n ≤ 100000) (hs : ∃ h tk, s₁ = { s with heap := h, toks := tk }) :
    wpAny (model prog w) A (pyIter (.ref r)) (SrcMade B L m news prog w A n (fun j v => ∃ t, v = .int (0 + j) t) s) E s₁ := by
  refine e2_1 (hs) ?_
  (try clear hs)
  intro h tk zr2
  first | subst zr2 | cases zr2
  have hrs : Builtin.Range.rangeSize 0 (n : Int) 1 = (n : Int) := rangeSize_nat _ _
  refine wpAny_pyIter_range hr (by unfold Builtin.Range.small Builtin.Range.rangeFitsLong; rw [hrs]; simp; lia) ?_
  rw [hrs]
  refine ⟨_, _, tk, _, rgSt h.objs.size 0 n, rfl, rfl, F.push (krsIt 0 (n : Int) 1), fun q hq => (show News B L _ _ from N.push F (krsIt 0 (n : Int) 1)) q (.tail _ hq), Nat.ne_of_gt F.ns.lt, next_is_new F, fun q hq => Nat.ne_of_lt (Heap.lt_size (N q hq).1), rg_source hh, ?_⟩
  unfold rgSt
  simp only [Int.natCast_zero, Int.add_zero, Int.sub_zero]
  exact Heap.get?_push_size _ rfl
end
-- NL
section
variable {prog : Program} {w : World} {A : Around} {s : Shared} {b : Heap} {mg mb : Str → Option Value} {mean : ExcName → Option Value} {p : Program} {loose : List Str}
set_option maxHeartbeats 40000000 in
theorem nl_plain {Q E : Value → Shared → Prop} {LST SRC : Addr} {N : Nat} {e : Nat → Value} {x : Nat → Int} {c : Nat} {wish : Int} {t : Tok} {outer : List Env}
    (hd : A.depth ≤ 497) (hu : A.units ≤ 470) (hA : A.handled = none) (hfr : A.frames = some outer) (hff : s.heap.FunFrames b outer)
    (st : b.StaysIn s.heap) (hsz : b.objs.size ≤ s.heap.objs.size) (X : (hd03.heap_39 w.params).In b) (T : Top p loose mean mg mb b)
    (hL : b.get? LST = some (listOf ((List.range N).map e).toArray c)) (hN : 0 < N) (h64 : N < 64)
    (hel : ∀ p, p < N → ∃ a t n, e p = .ref a ∧ b.get? a = some (listOf #[.int (x p) t] n))
    (hsrc : SRC = LST ∨ (s.heap.get? SRC = some (liObj LST 0) ∧ b.get? SRC = none))
    (h : ∀ R h' tk c, b.StaysIn h' → b.get? R = none → h'.get? R = some (listOf (((ordD x N).take wish.toNat).map e).toArray c) → Framed outer s.heap h' → Q (.ref R) { s with heap := h', toks := tk }) :
    wpAny (model prog w) A (call (.ref 82) [.int wish t, .ref SRC, .none]) Q E s := by
  have X2 := X.keeps st
  refine wpAny_call ?_
  ((k_dflt (refine' enterC ?k1 ?k2 ?k3 ?k4 ?k6 ?k7 ?k8 ?k9 ?kB ?kD ?_ ?c2 ?c3 ?c4; (case k1 => assumption); (case k2 => assumption); (case k3 => assumption); (case k4 => assumption); (case k6 => k_is); (case k7 => k_is); (case k8 => exact Nat.lt_of_le_of_lt (by assumption) (by decide)); (case k9 => first | exact BindsTo.of_eq rfl | exact binds_K (by assumption) rfl (by k_is) rfl rfl rfl); (case kB => exact rfl); (case kD => decide +kernel); (case c2 => exact rfl); (case c3 => exact rfl); (case c4 => exact rfl))))
  intro L' h₁ tk cells F0 N00 Y hk hs1
  have hY := CellsAre.one Y
  refine e1_2 (hY) ?_
  (try clear hY)
  intro oc zr1 d1
  first | subst zr1 | cases zr1
  clear Y
  have hns : s.heap.get? L' = none := by
    cases q : s.heap.get? L' with
    | none => rfl
    | some o => exact absurd (hs1 _ _ q) (Nat.lt_irrefl _)
  have zz9 : ∃ SA so, h₁.get? SA = some so ∧ SA ≠ L' ∧ b.get? SA = none ∧ Src LST SRC SA so ∧ ∀ a ∈ framesOf outer, a ≠ SA := by
    rcases hsrc with rfl | ⟨q1, q2⟩
    · exact ⟨L' + 1, oc, (N00 _ (.head _)).1, (N00 _ (.head _)).2.1, (N00 _ (.head _)).2.2, .inl rfl, fun a ha q => by
        obtain ⟨_, o, ho, _⟩ := hff.mem ha
        have := hs1 _ _ ho
        rw [q] at this; exact absurd this (Nat.not_lt.mpr (Nat.le_succ _))⟩
    · exact ⟨SRC, _, hk _ _ q1, (fun q => by rw [q, hns] at q1; cases q1), q2, .inr ⟨rfl, rfl⟩, fun a ha q => by
        obtain ⟨_, o, ho, hd⟩ := hff.mem ha
        rw [q, q1] at ho; cases ho; exact hd _ rfl⟩
  refine e2_5 zz9 ?_
  clear zz9
  intro SA so hSA hSL hbS src offS
  have stB : b.StaysIn (cut h₁ L' [SA]) := fun a o q => cut_get (Nat.lt_of_lt_of_le (Heap.lt_size q) F0.above) (fun z => by rw [List.mem_singleton] at z; rw [z, hbS] at q; cases q) (F0.keep _ _ q)
  have F : Fr (cut h₁ L' [SA]) L' h₁ _ := ⟨F0.ns, cut_stays, cut_size⟩
  have N0 : News (cut h₁ L' [SA]) L' h₁ [(SA, so), (L' + 1, oc)] := by
    intro q hq
    simp only [List.mem_cons, List.not_mem_nil, or_false] at hq
    rcases hq with rfl | rfl
    · exact ⟨hSA, hSL, cut_none (.head _)⟩
    · exact ⟨(N00 _ (.head _)).1, (N00 _ (.head _)).2.1, cut_high (Nat.le_succ _)⟩
  have frB : Framed outer s.heap (cut h₁ L' [SA]) := fun a ha m n => by
    refine e3_2 (n) ?_
    (try clear n)
    intro o es ep ho r
    exact ⟨o, es, ep, cut_get (hs1 _ _ ho) (fun z => offS a ha (List.mem_singleton.mp z)) (hk _ _ ho), r⟩
  have XB := X.keeps stB
  have TB := T.keeps stB
  have LB := stB _ _ hL
  (try k_fold)
  clear F0 N00 X2
  generalize hB : cut h₁ L' [SA] = B at *
  (repeat' (first | (k_unfold; (try dsimp only)) | ((fail_if_success (with_reducible first | show wpAny _ _ (exec (Stmt.While _ _ _ _) _) _ _ _ | show wpAny _ _ (eval (Expr.Name (Str.ofString "AttributeError") _) _) _ _ _ | show wpAny _ _ (subscriptTail (Expr.Name _ _) (Expr.Slice _ _ _ _) _ _) _ _ _ | show wpAny _ _ (call (Value.builtin "list.sort") _ _) _ _ _ | show wpAny _ _ (pyIter _) _ _ _ | show wpAny _ _ (call (Value.builtin "len") [Value.ref SRC] _) _ _ _ | show wpAny _ _ (call (Value.ref _) _ _) _ _ _)); (fail_if_success (with_reducible show wpAny _ _ (exec (Stmt.For _ _ _ _ _) _) _ _ _)); (fail_if_success (with_reducible show wpAny _ _ (exec (Stmt.Assign _ (Expr.ListComp _ _ _ _) _) _) _ _ _)); (fail_if_success (with_reducible show wpAny _ _ (eval (Expr.ListComp _ _ _ _) _) _ _ _)); first | ((first | (with_reducible show wpAny _ _ (exec (Stmt.Assign _ _ _) _) _ _ _) | (with_reducible show wpAny _ _ (exec (Stmt.Expr _ _) _) _ _ _) | (with_reducible show wpAny _ _ (exec (Stmt.Return _ _) _) _ _ _)); k_fold) | walk1 | (dsimp only; (with_reducible show wpAny _ _ _ _ _); walk1))))
  ·
    --W1
    refine call_iter_src (by assumption) (by assumption) src LB ?_
    intro IT h2 F2 N2 _
    (repeat' (first | (k_unfold; (try dsimp only)) | ((fail_if_success (with_reducible first | show wpAny _ _ (exec (Stmt.While _ _ _ _) _) _ _ _ | show wpAny _ _ (eval (Expr.Name (Str.ofString "AttributeError") _) _) _ _ _ | show wpAny _ _ (subscriptTail (Expr.Name _ _) (Expr.Slice _ _ _ _) _ _) _ _ _ | show wpAny _ _ (call (Value.builtin "list.sort") _ _) _ _ _ | show wpAny _ _ (pyIter _) _ _ _ | show wpAny _ _ (call (Value.builtin "len") [Value.ref SRC] _) _ _ _ | show wpAny _ _ (call (Value.ref _) _ _) _ _ _)); (fail_if_success (with_reducible show wpAny _ _ (exec (Stmt.For _ _ _ _ _) _) _ _ _)); (fail_if_success (with_reducible show wpAny _ _ (exec (Stmt.Assign _ (Expr.ListComp _ _ _ _) _) _) _ _ _)); (fail_if_success (with_reducible show wpAny _ _ (eval (Expr.ListComp _ _ _ _) _) _ _ _)); first | ((first | (with_reducible show wpAny _ _ (exec (Stmt.Assign _ _ _) _) _ _ _) | (with_reducible show wpAny _ _ (exec (Stmt.Expr _ _) _) _ _ _) | (with_reducible show wpAny _ _ (exec (Stmt.Return _ _) _) _ _ _)); k_fold) | walk1 | (dsimp only; (with_reducible show wpAny _ _ _ _ _); walk1))))
    refine call_object ?_
    rename_i h3 F3 N3
    have F4 := F3.push { cls := .type "object" }
    have N4 := N3.push F3 { cls := .type "object" }
    clear F3 N3
    (repeat' (first | (k_unfold; (try dsimp only)) | ((fail_if_success (with_reducible first | show wpAny _ _ (exec (Stmt.While _ _ _ _) _) _ _ _ | show wpAny _ _ (eval (Expr.Name (Str.ofString "AttributeError") _) _) _ _ _ | show wpAny _ _ (subscriptTail (Expr.Name _ _) (Expr.Slice _ _ _ _) _ _) _ _ _ | show wpAny _ _ (call (Value.builtin "list.sort") _ _) _ _ _ | show wpAny _ _ (pyIter _) _ _ _ | show wpAny _ _ (call (Value.builtin "len") [Value.ref SRC] _) _ _ _ | show wpAny _ _ (call (Value.ref _) _ _) _ _ _)); (fail_if_success (with_reducible show wpAny _ _ (exec (Stmt.For _ _ _ _ _) _) _ _ _)); (fail_if_success (with_reducible show wpAny _ _ (exec (Stmt.Assign _ (Expr.ListComp _ _ _ _) _) _) _ _ _)); (fail_if_success (with_reducible show wpAny _ _ (eval (Expr.ListComp _ _ _ _) _) _ _ _)); first | ((first | (with_reducible show wpAny _ _ (exec (Stmt.Assign _ _ _) _) _ _ _) | (with_reducible show wpAny _ _ (exec (Stmt.Expr _ _) _) _ _ _) | (with_reducible show wpAny _ _ (exec (Stmt.Return _ _) _) _ _ _)); k_fold) | walk1 | (dsimp only; (with_reducible show wpAny _ _ _ _ _); walk1))))
    rename_i h5 F5 N5
    have hIT : h5.get? IT = some (liObj LST 0) := (N5 _ (.tail _ (.head _))).1
    have hITL : IT ≠ L' := (N5 _ (.tail _ (.head _))).2.1
    have hITB : B.get? IT = none := (N5 _ (.tail _ (.head _))).2.2
    have nIT : ∀ {a : Addr} {o : Obj}, B.get? a = some o → a ∉ [IT] := fun q z => by rw [List.mem_singleton.mp z, hITB] at q; cases q
    refine call_max_plain (LST := LST) (N := N) (e := e) (sc := x) (B := hideAll h5 [IT]) (V := fun i v => v = e i) (d := .ref h3.objs.size) hA (hideAll_get _ (F5.keep _ _ LB) (nIT LB)) (hideAll_none _ (.head _)) (fun a o q => of_hideAll _ q) hIT (fun i _ => rfl) ?_ ?_
    · rintro i j v v' s' Q' E' rfl rfl hi hj st' hq
      refine e3_2 (hel i hi) ?_
      intro a1 t1 n1 q1 q2
      refine e3_2 (hel j hj) ?_
      intro a2 t2 n2 q3 q4
      have q2' := stB _ _ q2
      have q4' := stB _ _ q4
      rw [q1, q3]
      exact rich_one_gt (by show A.units + 3 + _ < 9000; lia) (st' _ _ (hideAll_get _ (F5.keep _ _ q2') (nIT q2'))) (st' _ _ (hideAll_get _ (F5.keep _ _ q4') (nIT q4'))) (hq _)
    intro h6 tk6 st6
    have F6 := fr_back F5 (Ne.symm hITL) hITB st6
    have nSI : h3.objs.size ≠ IT := fun q => by
      have z := (N5 _ (.head _)).1
      rw [q, hIT] at z
      have := congrArg Obj.cls (Option.some.inj z); simp [liObj] at this
    have N6 : News B L' h6 [(h3.objs.size, { cls := .type "object" })] := by
      intro q hq
      rw [List.mem_singleton] at hq; subst hq
      exact ⟨st6 _ _ (hideAll_get _ (N5 _ (.head _)).1 fun z => nSI (List.mem_singleton.mp z)), (N5 _ (.head _)).2⟩
    clear F5 N5
    rw [if_neg (Nat.ne_of_gt hN)]
    refine e3_2 (hel ((ordD x N).getD 0 0) (ordD_getD0 hN)) ?_
    intro a0 t0 n0 q1 q2
    rw [q1]
    (repeat' (first | (k_unfold; (try dsimp only)) | ((fail_if_success (with_reducible first | show wpAny _ _ (exec (Stmt.While _ _ _ _) _) _ _ _ | show wpAny _ _ (eval (Expr.Name (Str.ofString "AttributeError") _) _) _ _ _ | show wpAny _ _ (subscriptTail (Expr.Name _ _) (Expr.Slice _ _ _ _) _ _) _ _ _ | show wpAny _ _ (call (Value.builtin "list.sort") _ _) _ _ _ | show wpAny _ _ (pyIter _) _ _ _ | show wpAny _ _ (call (Value.builtin "len") [Value.ref SRC] _) _ _ _ | show wpAny _ _ (call (Value.ref _) _ _) _ _ _)); (fail_if_success (with_reducible show wpAny _ _ (exec (Stmt.For _ _ _ _ _) _) _ _ _)); (fail_if_success (with_reducible show wpAny _ _ (exec (Stmt.Assign _ (Expr.ListComp _ _ _ _) _) _) _ _ _)); (fail_if_success (with_reducible show wpAny _ _ (eval (Expr.ListComp _ _ _ _) _) _ _ _)); first | ((first | (with_reducible show wpAny _ _ (exec (Stmt.Assign _ _ _) _) _ _ _) | (with_reducible show wpAny _ _ (exec (Stmt.Expr _ _) _) _ _ _) | (with_reducible show wpAny _ _ (exec (Stmt.Return _ _) _) _ _ _)); k_fold) | walk1 | (dsimp only; (with_reducible show wpAny _ _ _ _ _); walk1))))
    rename_i h7 F7 N7
    refine wpAny_is_ref_other (fun q => ?_) (F7.keep _ _ (stB _ _ q2)) (N7 _ (.head _)).1 (by simp [W.listOf]) ?_
    · have z := (N7 _ (.head _)).2.2
      rw [← q, stB _ _ q2] at z; cases z
    (repeat' (first | (k_unfold; (try dsimp only)) | ((fail_if_success (with_reducible first | show wpAny _ _ (exec (Stmt.While _ _ _ _) _) _ _ _ | show wpAny _ _ (eval (Expr.Name (Str.ofString "AttributeError") _) _) _ _ _ | show wpAny _ _ (subscriptTail (Expr.Name _ _) (Expr.Slice _ _ _ _) _ _) _ _ _ | show wpAny _ _ (call (Value.builtin "list.sort") _ _) _ _ _ | show wpAny _ _ (pyIter _) _ _ _ | show wpAny _ _ (call (Value.builtin "len") [Value.ref SRC] _) _ _ _ | show wpAny _ _ (call (Value.ref _) _ _) _ _ _)); (fail_if_success (with_reducible show wpAny _ _ (exec (Stmt.For _ _ _ _ _) _) _ _ _)); (fail_if_success (with_reducible show wpAny _ _ (exec (Stmt.Assign _ (Expr.ListComp _ _ _ _) _) _) _ _ _)); (fail_if_success (with_reducible show wpAny _ _ (eval (Expr.ListComp _ _ _ _) _) _ _ _)); first | ((first | (with_reducible show wpAny _ _ (exec (Stmt.Assign _ _ _) _) _ _ _) | (with_reducible show wpAny _ _ (exec (Stmt.Expr _ _) _) _ _ _) | (with_reducible show wpAny _ _ (exec (Stmt.Return _ _) _) _ _ _)); k_fold) | walk1 | (dsimp only; (with_reducible show wpAny _ _ _ _ _); walk1))))
    rename_i R h8 F8 N8 _
    refine h _ _ _ 0 (fun a o q => F8.keep _ _ (stB _ _ q)) (none_sub stB (N8 _ (.head _)).2.2) ?_ (frB.trans (Framed.of_keeps F8.keep))
    have : ((ordD x N).take (1 : Int).toNat).map e = [.ref a0] := by rw [ordD_take1 hN, List.map_singleton, q1]
    have hw : wish = 1 := by assumption
    rw [hw, this]; exact (N8 _ (.head _)).1
    --W1E
  · have hw1 : wish ≠ 1 := by assumption
    obtain ⟨Q1, hQ1⟩ : ∃ Q1 : Flow → Shared → Prop, Q1 = fun f s' => (f = .next ∧ ∃ h₂ tk₂ m₂ B₂, s' = { s with heap := h₂, toks := tk₂ } ∧ Fr B₂ L' h₂ m₂ ∧ News B₂ L' h₂ [(SA, so), (L' + 1, oc)] ∧ m₂ (Str.ofString "n") = some (.int wish t) ∧ m₂ (Str.ofString "iterable") = some (.ref SRC) ∧
      b.StaysIn B₂ ∧ Framed outer s.heap B₂ ∧ (SRC = LST → wish < N)) ∨ (∃ v, f = .ret v ∧ Q v s') := ⟨_, rfl⟩
    refine wpAny_mono (Q := Q1) ?_ ?_ fun _ _ e => e
    ·
      --TR
      refine wpAny_Try_except ?_
      have src' := src
      rcases src' with rfl | ⟨rfl, rfl⟩
      · (repeat' (first | (k_unfold; (try dsimp only)) | ((fail_if_success (with_reducible first | show wpAny _ _ (exec (Stmt.While _ _ _ _) _) _ _ _ | show wpAny _ _ (eval (Expr.Name (Str.ofString "AttributeError") _) _) _ _ _ | show wpAny _ _ (subscriptTail (Expr.Name _ _) (Expr.Slice _ _ _ _) _ _) _ _ _ | show wpAny _ _ (call (Value.builtin "list.sort") _ _) _ _ _ | show wpAny _ _ (pyIter _) _ _ _ | show wpAny _ _ (call (Value.builtin "len") [Value.ref SRC] _) _ _ _ | show wpAny _ _ (call (Value.ref _) _ _) _ _ _)); (fail_if_success (with_reducible show wpAny _ _ (exec (Stmt.For _ _ _ _ _) _) _ _ _)); (fail_if_success (with_reducible show wpAny _ _ (exec (Stmt.Assign _ (Expr.ListComp _ _ _ _) _) _) _ _ _)); (fail_if_success (with_reducible show wpAny _ _ (eval (Expr.ListComp _ _ _ _) _) _ _ _)); first | ((first | (with_reducible show wpAny _ _ (exec (Stmt.Assign _ _ _) _) _ _ _) | (with_reducible show wpAny _ _ (exec (Stmt.Expr _ _) _) _ _ _) | (with_reducible show wpAny _ _ (exec (Stmt.Return _ _) _) _ _ _)); k_fold) | walk1 | (dsimp only; (with_reducible show wpAny _ _ _ _ _); walk1))))
        refine Calls.call_len_list (PySem.IsL.isList (F.keep _ _ LB)) (by simp; lia) ?_
        rw [show ((List.range N).map e).toArray.size = N by simp]
        (repeat' (first | (k_unfold; (try dsimp only)) | ((fail_if_success (with_reducible first | show wpAny _ _ (exec (Stmt.While _ _ _ _) _) _ _ _ | show wpAny _ _ (eval (Expr.Name (Str.ofString "AttributeError") _) _) _ _ _ | show wpAny _ _ (subscriptTail (Expr.Name _ _) (Expr.Slice _ _ _ _) _ _) _ _ _ | show wpAny _ _ (call (Value.builtin "list.sort") _ _) _ _ _ | show wpAny _ _ (pyIter _) _ _ _ | show wpAny _ _ (call (Value.builtin "len") [Value.ref SRC] _) _ _ _ | show wpAny _ _ (call (Value.ref _) _ _) _ _ _)); (fail_if_success (with_reducible show wpAny _ _ (exec (Stmt.For _ _ _ _ _) _) _ _ _)); (fail_if_success (with_reducible show wpAny _ _ (exec (Stmt.Assign _ (Expr.ListComp _ _ _ _) _) _) _ _ _)); (fail_if_success (with_reducible show wpAny _ _ (eval (Expr.ListComp _ _ _ _) _) _ _ _)); first | ((first | (with_reducible show wpAny _ _ (exec (Stmt.Assign _ _ _) _) _ _ _) | (with_reducible show wpAny _ _ (exec (Stmt.Expr _ _) _) _ _ _) | (with_reducible show wpAny _ _ (exec (Stmt.Return _ _) _) _ _ _)); k_fold) | walk1 | (dsimp only; (with_reducible show wpAny _ _ _ _ _); walk1))))
        · rename_i h4 F4 N4 hge
          show wpAny _ _ (call (.builtin "sorted") [.ref SRC] [(Str.ofString "key", .none), (Str.ofString "reverse", .bool true)]) _ _ _
          refine call_sorted_one (rev := true) (x := x) (N := N) (e := e) (by show A.units + 3 ≤ 900; lia) (check_sorted2 · _ _) (fun a => ksk_l2 _ _ _) (fun R => so_p3 R true) (F4.keep _ _ LB) h64 (fun p hp => ?_) ?_
          · refine e3_2 (hel p hp) ?_
            intro a1 t1 n1 q1 q2
            exact ⟨a1, t1, n1, q1, F4.keep _ _ (stB _ _ q2)⟩
          intro R h5 tk5 c5 st5 hR5 gR5
          have F5 := fr_keeps F4 st5
          have nRL : R ≠ L' := fun q => by obtain ⟨o, ho⟩ := ns_there F4.ns; rw [← q, hR5] at ho; cases ho
          have N5 : News B L' h5 [(R, listOf ((ordD (fun p => if true then x p else - x p) N).map e).toArray c5)] := fun q hq => by
            rw [List.mem_singleton] at hq; subst hq
            exact ⟨gR5, nRL, none_sub F4.keep hR5⟩
          clear F4 N4
          (repeat' (first | (k_unfold; (try dsimp only)) | ((fail_if_success (with_reducible first | show wpAny _ _ (exec (Stmt.While _ _ _ _) _) _ _ _ | show wpAny _ _ (eval (Expr.Name (Str.ofString "AttributeError") _) _) _ _ _ | show wpAny _ _ (subscriptTail (Expr.Name _ _) (Expr.Slice _ _ _ _) _ _) _ _ _ | show wpAny _ _ (call (Value.builtin "list.sort") _ _) _ _ _ | show wpAny _ _ (pyIter _) _ _ _ | show wpAny _ _ (call (Value.builtin "len") [Value.ref SRC] _) _ _ _ | show wpAny _ _ (call (Value.ref _) _ _) _ _ _)); (fail_if_success (with_reducible show wpAny _ _ (exec (Stmt.For _ _ _ _ _) _) _ _ _)); (fail_if_success (with_reducible show wpAny _ _ (exec (Stmt.Assign _ (Expr.ListComp _ _ _ _) _) _) _ _ _)); (fail_if_success (with_reducible show wpAny _ _ (eval (Expr.ListComp _ _ _ _) _) _ _ _)); first | ((first | (with_reducible show wpAny _ _ (exec (Stmt.Assign _ _ _) _) _ _ _) | (with_reducible show wpAny _ _ (exec (Stmt.Expr _ _) _) _ _ _) | (with_reducible show wpAny _ _ (exec (Stmt.Return _ _) _) _ _ _)); k_fold) | walk1 | (dsimp only; (with_reducible show wpAny _ _ _ _ _); walk1))))
          refine kmk_slice F5 N5 (PySem.IsL.isList gR5) .none (.int _ _) ?_ (by with_unfolding_all rfl) (by intro _; with_unfolding_all rfl) (by simp [ordD_len, sizeLine_eq]; lia)
          intro R6 h6 F6 N6 _
          subst hQ1
          refine .inr ⟨_, rfl, h _ _ _ 0 (fun a o q => F6.keep _ _ (stB _ _ q)) (none_sub stB (N6 _ (.head _)).2.2) ?_ (frB.trans (Framed.of_keeps F6.keep))⟩
          have z := (N6 _ (.head _)).1
          have e1 : ∀ k : Nat, slicePick (((ordD (fun p => if true then x p else - x p) N).map e).toArray) none (some (k : Int)) none = (((ordD x N).take (k : Int).toNat).map e).toArray := fun k => by
            rw [slicePick_upto']; simp [List.map_take]
          have e2 : wish = ((wish.toNat : Nat) : Int) := by lia
          rw [e2, e1, ← e2] at z; exact z
        · rename_i h4 F4 N4 hge
          subst hQ1
          exact .inl ⟨rfl, h4, _, _, B, rfl, F4, N4, rfl, rfl, stB, frB, fun _ => by lia⟩
      · (repeat' (first | (k_unfold; (try dsimp only)) | ((fail_if_success (with_reducible first | show wpAny _ _ (exec (Stmt.While _ _ _ _) _) _ _ _ | show wpAny _ _ (eval (Expr.Name (Str.ofString "AttributeError") _) _) _ _ _ | show wpAny _ _ (subscriptTail (Expr.Name _ _) (Expr.Slice _ _ _ _) _ _) _ _ _ | show wpAny _ _ (call (Value.builtin "list.sort") _ _) _ _ _ | show wpAny _ _ (pyIter _) _ _ _ | show wpAny _ _ (call (Value.builtin "len") [Value.ref SRC] _) _ _ _ | show wpAny _ _ (call (Value.ref _) _ _) _ _ _)); (fail_if_success (with_reducible show wpAny _ _ (exec (Stmt.For _ _ _ _ _) _) _ _ _)); (fail_if_success (with_reducible show wpAny _ _ (exec (Stmt.Assign _ (Expr.ListComp _ _ _ _) _) _) _ _ _)); (fail_if_success (with_reducible show wpAny _ _ (eval (Expr.ListComp _ _ _ _) _) _ _ _)); first | ((first | (with_reducible show wpAny _ _ (exec (Stmt.Assign _ _ _) _) _ _ _) | (with_reducible show wpAny _ _ (exec (Stmt.Expr _ _) _) _ _ _) | (with_reducible show wpAny _ _ (exec (Stmt.Return _ _) _) _ _ _)); k_fold) | walk1 | (dsimp only; (with_reducible show wpAny _ _ _ _ _); walk1))))
        refine call_len_li (N0 _ (.head _)).1 hA fun h2 tk2 ex hx => ?_
        refine noted1 (B := hideAll h₁ (L' :: framesOf outer)) (outer := outer) (L := L') (by show A.frames.map _ = _; rw [hfr]; rfl) rfl ?_ (fun a o q => of_hideAll _ q) hx ?_
        · refine Heap.FunFrames.cons (by intro q; cases q) rfl F.ns (hideAll_none _ (.head _)) (hide_frames (b := b) (hff.of_keeps fun a o q _ => ⟨o, hk _ _ q, rfl⟩) fun env he a ha => .tail _ (framesOf_mem env he a ha))
        intro h3 a0 hen st3 ff3 tr3 up3
        refine e5_9 (tr3) ?_
        (try clear tr3)
        intro oe vs TT oT ts g1 zr6 g3 g4 g5 g6 g7 g8 g9
        rcases zr6 with ⟨g2, g2'⟩
        have hL1 := ns_there F.ns
        have exL : ex ≠ L' := fun q => by obtain ⟨o, ho⟩ := hL1; rw [q] at hx; rw [hx.new] at ho; cases ho
        have TL : TT ≠ L' := fun q => by
          refine e3_3 (up3.ns F.ns) ?_
          intro o es ep ho hdd _
          rw [← q, g7] at ho; cases ho; rw [g8] at hdd; cases hdd
        have keep3 : ∀ a o, h₁.get? a = some o → a ∉ L' :: framesOf outer → h3.get? a = some o := fun a o q1 q2 => st3 _ _ (hideAll_get _ q1 q2)
        have frL : ∀ a ∈ framesOf outer, a < L' := fun a ha => by obtain ⟨_, o, ho, _⟩ := hff.mem ha; exact hs1 _ _ ho
        have offL : ∀ a, L' ≤ a → a ∉ framesOf outer := fun a ha z => absurd (frL a z) (Nat.not_lt.mpr ha)
        have kS : SRC ∉ L' :: framesOf outer := fun z => by rcases List.mem_cons.mp z with q | q; exact hSL q; exact offS _ q rfl
        have kc : (L' + 1 : Nat) ∉ L' :: framesOf outer := fun z => by rcases List.mem_cons.mp z with q | q; exact absurd q (Nat.succ_ne_self _); exact offL _ (Nat.le_succ _) q
        have gS := keep3 _ _ (N0 _ (.head _)).1 kS
        have gc := keep3 _ _ (N0 _ (.tail _ (.head _))).1 kc
        have bH : b.StaysIn (hideAll h₁ (L' :: framesOf outer)) := fun a o q => hideAll_get _ (F.keep _ _ (stB _ _ q)) fun z => by
          rcases List.mem_cons.mp z with r | r
          · have := F.above; have := Heap.lt_size (stB _ _ q); rw [r] at this; exact absurd this (Nat.not_lt.mpr F.above)
          · obtain ⟨n0, _⟩ := hff.mem r; rw [q] at n0; cases n0
        have nSE : SRC ≠ ex := fun q => by have := (N0 _ (.head _)).1; rw [q, hx.new] at this; cases this
        have nST : SRC ≠ TT := fun q => by rw [← q, hideAll_get _ (N0 _ (.head _)).1 kS] at g5; cases g5
        have ncT : (L' + 1 : Nat) ≠ TT := fun q => by rw [← q, hideAll_get _ (N0 _ (.tail _ (.head _))).1 kc] at g5; cases g5
        have stB3 : b.StaysIn (cut h3 L' [SRC, ex, TT]) := fun a o q => cut_get (Nat.lt_of_lt_of_le (Heap.lt_size (stB _ _ q)) F.above) (fun z => by
          simp only [List.mem_cons, List.not_mem_nil, or_false] at z
          rcases z with rfl | rfl | rfl
          · rw [hbS] at q; cases q
          · rw [none_sub bH hen] at q; cases q
          · rw [none_sub bH g5] at q; cases q) (st3 _ _ (bH _ _ q))
        have frB3 : Framed outer s.heap (cut h3 L' [SRC, ex, TT]) := fun a ha m n => by
          refine e3_3 (n) ?_
          (try clear n)
          intro o es ep ho hdd r
          obtain ⟨sl, z⟩ := up3 _ _ (hk _ _ ho) fun vs q => by rw [hdd] at q; cases q
          refine ⟨_, es, ep, cut_get (frL a ha) (fun y => ?_) z, hdd, r⟩
          simp only [List.mem_cons, List.not_mem_nil, or_false] at y
          rcases y with y | y | y
          · exact offS a ha y
          · rw [y] at ho; have hn := hx.new; rw [hk _ _ ho] at hn; cases hn
          · rw [y, g7] at z; cases z; rw [hdd] at g8; cases g8
        have F3 : Fr (cut h3 L' [SRC, ex, TT]) L' h3 _ := ⟨up3.ns F.ns, cut_stays, cut_size⟩
        have N3 : News (cut h3 L' [SRC, ex, TT]) L' h3 [(ex, oe), (TT, oT), (SRC, liObj LST 0), (L' + 1, oc)] := by
          intro q hq
          simp only [List.mem_cons, List.not_mem_nil, or_false] at hq
          rcases hq with rfl | rfl | rfl | rfl
          · exact ⟨g1, exL, cut_none (by simp)⟩
          · exact ⟨g7, TL, cut_none (by simp)⟩
          · exact ⟨gS, hSL, cut_none (by simp)⟩
          · exact ⟨gc, Nat.succ_ne_self _, cut_high (Nat.le_succ _)⟩
        have XB3 := X.keeps stB3
        have TB3 := T.keeps stB3
        clear F N0 XB TB frB LB
        generalize hB3 : cut h3 L' [SRC, ex, TT] = B3 at *
        refine wpAny_handleBy_tup2 (T1 := "TypeError") (T2 := "AttributeError") (X := "TypeError") (b1 := true) (b2 := false) (isSubtype_of_subB (by decide +kernel)) (isSubtype_of_subB (by decide +kernel)) (isSubtype_of_subB (by decide +kernel)) (isSubtype_of_subB (by decide +kernel)) (isSubtype_of_subB (by decide +kernel)) (isSubtype_of_subB (by decide +kernel)) ?_
        (repeat' (first | (k_unfold; (try dsimp only)) | ((fail_if_success (with_reducible first | show wpAny _ _ (exec (Stmt.While _ _ _ _) _) _ _ _ | show wpAny _ _ (eval (Expr.Name (Str.ofString "AttributeError") _) _) _ _ _ | show wpAny _ _ (subscriptTail (Expr.Name _ _) (Expr.Slice _ _ _ _) _ _) _ _ _ | show wpAny _ _ (call (Value.builtin "list.sort") _ _) _ _ _ | show wpAny _ _ (pyIter _) _ _ _ | show wpAny _ _ (call (Value.builtin "len") [Value.ref SRC] _) _ _ _ | show wpAny _ _ (call (Value.ref _) _ _) _ _ _)); (fail_if_success (with_reducible show wpAny _ _ (exec (Stmt.For _ _ _ _ _) _) _ _ _)); (fail_if_success (with_reducible show wpAny _ _ (exec (Stmt.Assign _ (Expr.ListComp _ _ _ _) _) _) _ _ _)); (fail_if_success (with_reducible show wpAny _ _ (eval (Expr.ListComp _ _ _ _) _) _ _ _)); first | ((first | (with_reducible show wpAny _ _ (exec (Stmt.Assign _ _ _) _) _ _ _) | (with_reducible show wpAny _ _ (exec (Stmt.Expr _ _) _) _ _ _) | (with_reducible show wpAny _ _ (exec (Stmt.Return _ _) _) _ _ _)); k_fold) | walk1 | (dsimp only; (with_reducible show wpAny _ _ _ _ _); walk1))))
        refine' nameX_B (v := .type "AttributeError") ?zF ?zX ?zT ?ze ?zv ?zn ?_ ?za ?zb ?zc; (case zF => k_asm); (case zX => k_asm); (case zT => k_asm); (case za => rfl); (case zb => rfl); (case zc => decide); (case ze => k_is); (case zv => decide +kernel); (case zn => decide)
        (repeat' (first | (k_unfold; (try dsimp only)) | ((fail_if_success (with_reducible first | show wpAny _ _ (exec (Stmt.While _ _ _ _) _) _ _ _ | show wpAny _ _ (eval (Expr.Name (Str.ofString "AttributeError") _) _) _ _ _ | show wpAny _ _ (subscriptTail (Expr.Name _ _) (Expr.Slice _ _ _ _) _ _) _ _ _ | show wpAny _ _ (call (Value.builtin "list.sort") _ _) _ _ _ | show wpAny _ _ (pyIter _) _ _ _ | show wpAny _ _ (call (Value.builtin "len") [Value.ref SRC] _) _ _ _ | show wpAny _ _ (call (Value.ref _) _ _) _ _ _)); (fail_if_success (with_reducible show wpAny _ _ (exec (Stmt.For _ _ _ _ _) _) _ _ _)); (fail_if_success (with_reducible show wpAny _ _ (exec (Stmt.Assign _ (Expr.ListComp _ _ _ _) _) _) _ _ _)); (fail_if_success (with_reducible show wpAny _ _ (eval (Expr.ListComp _ _ _ _) _) _ _ _)); first | ((first | (with_reducible show wpAny _ _ (exec (Stmt.Assign _ _ _) _) _ _ _) | (with_reducible show wpAny _ _ (exec (Stmt.Expr _ _) _) _ _ _) | (with_reducible show wpAny _ _ (exec (Stmt.Return _ _) _) _ _ _)); k_fold) | walk1 | (dsimp only; (with_reducible show wpAny _ _ _ _ _); walk1))))
        · rename_i D4 h4 F4 N4 _
          exact ⟨_, (N4 _ (.head _)).1, rfl, _, rfl⟩
        · rename_i D4 h4 F4 N4 _
          exact ⟨oe, (N4 _ (.tail _ (.head _))).1, g2⟩
        rename_i D4 h4 F4 N4 _
        have hsz3 : 3 < ts.size := (Array.getElem?_eq_some_iff.mp g9).1
        refine wpAny_setFlight_none (tb := TT) (N4 _ (.tail _ (.head _))).1 g3 g4 (N4 _ (.tail _ (.tail _ (.head _)))).1 g8 hsz3 ?_
        have sb := Heap.SameBut.update h4 TT (Obj.mapFields (·.setIfInBounds 3 Value.none))
        have F5 := fr_change F4 N4 (.tail _ (.tail _ (.head _))) sb
        have N5 : News B3 L' _ [(SRC, liObj LST 0), (L' + 1, oc)] := news_same (fun q hq => N4 q (.tail _ (.tail _ (.tail _ hq)))) sb (fun q hq => by
          simp only [List.mem_cons, List.not_mem_nil, or_false] at hq
          rcases hq with rfl | rfl
          · exact nST
          · exact ncT)
        clear F4 N4
        generalize h4.update TT (Obj.mapFields (·.setIfInBounds 3 Value.none)) = h5 at *
        (repeat' (first | (k_unfold; (try dsimp only)) | ((fail_if_success (with_reducible first | show wpAny _ _ (exec (Stmt.While _ _ _ _) _) _ _ _ | show wpAny _ _ (eval (Expr.Name (Str.ofString "AttributeError") _) _) _ _ _ | show wpAny _ _ (subscriptTail (Expr.Name _ _) (Expr.Slice _ _ _ _) _ _) _ _ _ | show wpAny _ _ (call (Value.builtin "list.sort") _ _) _ _ _ | show wpAny _ _ (pyIter _) _ _ _ | show wpAny _ _ (call (Value.builtin "len") [Value.ref SRC] _) _ _ _ | show wpAny _ _ (call (Value.ref _) _ _) _ _ _)); (fail_if_success (with_reducible show wpAny _ _ (exec (Stmt.For _ _ _ _ _) _) _ _ _)); (fail_if_success (with_reducible show wpAny _ _ (exec (Stmt.Assign _ (Expr.ListComp _ _ _ _) _) _) _ _ _)); (fail_if_success (with_reducible show wpAny _ _ (eval (Expr.ListComp _ _ _ _) _) _ _ _)); first | ((first | (with_reducible show wpAny _ _ (exec (Stmt.Assign _ _ _) _) _ _ _) | (with_reducible show wpAny _ _ (exec (Stmt.Expr _ _) _) _ _ _) | (with_reducible show wpAny _ _ (exec (Stmt.Return _ _) _) _ _ _)); k_fold) | walk1 | (dsimp only; (with_reducible show wpAny _ _ _ _ _); walk1))))
        subst hQ1
        exact .inl ⟨rfl, h5, _, _, B3, rfl, F5, N5, rfl, rfl, stB3, frB3, fun q => by rw [q, hL] at hbS; cases hbS⟩
      --TRE
    · intro f s' hq1
      subst hQ1
      rcases hq1 with ⟨rfl, h₂, tk₂, m₂, B₂, rfl, F2, N2, e1, e2, stB2, frB2, hlt⟩ | ⟨v, rfl, hq⟩
      · have XB2 := X.keeps stB2
        have TB2 := T.keeps stB2
        have LB2 := stB2 _ _ hL
        clear F N0 XB TB LB frB stB
        (repeat' (first | (k_unfold; (try dsimp only)) | ((fail_if_success (with_reducible first | show wpAny _ _ (exec (Stmt.While _ _ _ _) _) _ _ _ | show wpAny _ _ (eval (Expr.Name (Str.ofString "AttributeError") _) _) _ _ _ | show wpAny _ _ (subscriptTail (Expr.Name _ _) (Expr.Slice _ _ _ _) _ _) _ _ _ | show wpAny _ _ (call (Value.builtin "list.sort") _ _) _ _ _ | show wpAny _ _ (pyIter _) _ _ _ | show wpAny _ _ (call (Value.builtin "len") [Value.ref SRC] _) _ _ _ | show wpAny _ _ (call (Value.ref _) _ _) _ _ _)); (fail_if_success (with_reducible show wpAny _ _ (exec (Stmt.For _ _ _ _ _) _) _ _ _)); (fail_if_success (with_reducible show wpAny _ _ (exec (Stmt.Assign _ (Expr.ListComp _ _ _ _) _) _) _ _ _)); (fail_if_success (with_reducible show wpAny _ _ (eval (Expr.ListComp _ _ _ _) _) _ _ _)); first | ((first | (with_reducible show wpAny _ _ (exec (Stmt.Assign _ _ _) _) _ _ _) | (with_reducible show wpAny _ _ (exec (Stmt.Expr _ _) _) _ _ _) | (with_reducible show wpAny _ _ (exec (Stmt.Return _ _) _) _ _ _)); k_fold) | walk1 | (dsimp only; (with_reducible show wpAny _ _ _ _ _); walk1))))
        refine call_iter_src (by assumption) (by assumption) src LB2 ?_
        intro IT h3 F3 N3 _
        clear F2 N2
        (repeat' (first | (k_unfold; (try dsimp only)) | ((fail_if_success (with_reducible first | show wpAny _ _ (exec (Stmt.While _ _ _ _) _) _ _ _ | show wpAny _ _ (eval (Expr.Name (Str.ofString "AttributeError") _) _) _ _ _ | show wpAny _ _ (subscriptTail (Expr.Name _ _) (Expr.Slice _ _ _ _) _ _) _ _ _ | show wpAny _ _ (call (Value.builtin "list.sort") _ _) _ _ _ | show wpAny _ _ (pyIter _) _ _ _ | show wpAny _ _ (call (Value.builtin "len") [Value.ref SRC] _) _ _ _ | show wpAny _ _ (call (Value.ref _) _ _) _ _ _)); (fail_if_success (with_reducible show wpAny _ _ (exec (Stmt.For _ _ _ _ _) _) _ _ _)); (fail_if_success (with_reducible show wpAny _ _ (exec (Stmt.Assign _ (Expr.ListComp _ _ _ _) _) _) _ _ _)); (fail_if_success (with_reducible show wpAny _ _ (eval (Expr.ListComp _ _ _ _) _) _ _ _)); first | ((first | (with_reducible show wpAny _ _ (exec (Stmt.Assign _ _ _) _) _ _ _) | (with_reducible show wpAny _ _ (exec (Stmt.Expr _ _) _) _ _ _) | (with_reducible show wpAny _ _ (exec (Stmt.Return _ _) _) _ _ _)); k_fold) | walk1 | (dsimp only; (with_reducible show wpAny _ _ _ _ _); walk1))))
        refine zip_assign (B := B₂) (L := L') (LST := LST) (IT := IT) (cc := L' + 1) (oc := oc) (m := fun y => if y = Str.ofString "it" then some (.ref IT) else m₂ y) (cl := []) (a0 := 0) (step := -1) (n := min wish.toNat N) (left := wish.toNat) (N := N) (e := e) (c0 := c) (fun j y nw => ∃ T ti, y = .ref T ∧ nw = [(T, { cls := .type "tuple", data := .seq #[e j, .int (0 + j * (-1)) ti] })])
          (by rfl) (by with_unfolding_all rfl) (by with_unfolding_all rfl) (by decide +kernel) (by decide +kernel) (by rfl) (by rfl) (by intro _; rfl) (by exact hA) (by rfl) (by rfl) (by rfl) (by decide) (by rfl) (by lia) d1 LB2 ?_ ?_ ?_
        · (repeat' (first | (k_unfold; (try dsimp only)) | ((fail_if_success (with_reducible first | show wpAny _ _ (exec (Stmt.While _ _ _ _) _) _ _ _ | show wpAny _ _ (eval (Expr.Name (Str.ofString "AttributeError") _) _) _ _ _ | show wpAny _ _ (subscriptTail (Expr.Name _ _) (Expr.Slice _ _ _ _) _ _) _ _ _ | show wpAny _ _ (call (Value.builtin "list.sort") _ _) _ _ _ | show wpAny _ _ (pyIter _) _ _ _ | show wpAny _ _ (call (Value.builtin "len") [Value.ref SRC] _) _ _ _ | show wpAny _ _ (call (Value.ref _) _ _) _ _ _)); (fail_if_success (with_reducible show wpAny _ _ (exec (Stmt.For _ _ _ _ _) _) _ _ _)); (fail_if_success (with_reducible show wpAny _ _ (exec (Stmt.Assign _ (Expr.ListComp _ _ _ _) _) _) _ _ _)); (fail_if_success (with_reducible show wpAny _ _ (eval (Expr.ListComp _ _ _ _) _) _ _ _)); first | ((first | (with_reducible show wpAny _ _ (exec (Stmt.Assign _ _ _) _) _ _ _) | (with_reducible show wpAny _ _ (exec (Stmt.Expr _ _) _) _ _ _) | (with_reducible show wpAny _ _ (exec (Stmt.Return _ _) _) _ _ _)); k_fold) | walk1 | (dsimp only; (with_reducible show wpAny _ _ _ _ _); walk1))))
          exact zip_made (by assumption) (by assumption) (by assumption) (size_down wish) ⟨_, _, rfl⟩
        · intro j h m₃ tk t E' C hj hn q1 q2 _ _
          refine Tuple_ (spliced_more (load_c rfl rfl hn q2 (spliced_more (load_c rfl rfl hn q1 (spliced_none ?_)))))
          refine wpAny_newObj_type ⟨_, _, [(h.objs.size, _)], rfl, fun a o q => Heap.get?_push_of_some _ q, ⟨_, t, rfl, rfl⟩, fun q hq => ?_⟩
          rw [List.mem_singleton] at hq; subst hq
          exact ⟨Heap.get?_push_size _ rfl, Heap.get?_none_of_le (Nat.le_refl _)⟩
        intro D h8 tk8 io c8 rs hlen hYP F8 N8 hio
        have hmin : min wish.toNat N = rs.length := hlen.symm
        (repeat' (first | (k_unfold; (try dsimp only)) | ((fail_if_success (with_reducible first | show wpAny _ _ (exec (Stmt.While _ _ _ _) _) _ _ _ | show wpAny _ _ (eval (Expr.Name (Str.ofString "AttributeError") _) _) _ _ _ | show wpAny _ _ (subscriptTail (Expr.Name _ _) (Expr.Slice _ _ _ _) _ _) _ _ _ | show wpAny _ _ (call (Value.builtin "list.sort") _ _) _ _ _ | show wpAny _ _ (pyIter _) _ _ _ | show wpAny _ _ (call (Value.builtin "len") [Value.ref SRC] _) _ _ _ | show wpAny _ _ (call (Value.ref _) _ _) _ _ _)); (fail_if_success (with_reducible show wpAny _ _ (exec (Stmt.For _ _ _ _ _) _) _ _ _)); (fail_if_success (with_reducible show wpAny _ _ (exec (Stmt.Assign _ (Expr.ListComp _ _ _ _) _) _) _ _ _)); (fail_if_success (with_reducible show wpAny _ _ (eval (Expr.ListComp _ _ _ _) _) _ _ _)); first | ((first | (with_reducible show wpAny _ _ (exec (Stmt.Assign _ _ _) _) _ _ _) | (with_reducible show wpAny _ _ (exec (Stmt.Expr _ _) _) _ _ _) | (with_reducible show wpAny _ _ (exec (Stmt.Return _ _) _) _ _ _)); k_fold) | walk1 | (dsimp only; (with_reducible show wpAny _ _ _ _ _); walk1))))
        · have he : (rs.map (·.1)).isEmpty = true := by assumption
          have he' : rs = [] := by simpa using he
          have hw0 : wish.toNat = 0 := by rw [he'] at hmin; simp at hmin; lia
          refine h D h8 _ c8 (fun a o q => F8.keep _ _ (stB2 _ _ q)) (none_sub stB2 (N8 _ (.head _)).2.2) ?_ (frB2.trans (Framed.of_keeps F8.keep))
          rw [hw0, List.take_zero]
          have z := (N8 _ (.head _)).1
          rw [he'] at z; exact z
        have he : (rs.map (·.1)).isEmpty = false := by assumption
        have hpos : 0 < rs.length := by cases rs with | nil => simp at he | cons a r => simp
        have hle : rs.length ≤ N := by lia
        have I0 : Items x e TupP true (rs.flatMap (·.2)) (mkIts x e true rs) rs.length (-(rs.length : Int)) := mkIts_items (dn := true) fun j r hr => by
          refine e2_2 (hYP j r hr) ?_
          intro T ti q1 q2
          exact ⟨T, _, q1, q2, ti, _, rfl⟩
        rw [← mkIts_v (x := x) (e := e) (dn := true)] at N8
        have B0 : Best x ltI rs.length rs.length (hfy ltI (mkIts x e true rs) ((mkIts x e true rs).length / 2)) := by
          have z := best_start (sc := x) sw_ltI (its := mkIts x e true rs) (by rw [mkIts_len]; exact hpos) (by rw [mkIts_pl, mkIts_len])
          rw [mkIts_len] at z ⊢; exact z
        generalize hits : mkIts x e true rs = its at *
        generalize hts : rs.flatMap (·.2) = ts at *
        have hil : its.length = rs.length := by rw [← hits]; exact mkIts_len
        have LD := (N8 _ (.head _)).2.1
        have BD := (N8 _ (.head _)).2.2
        have hel2 : ∀ p, p < N → ∃ a t n, e p = .ref a ∧ B₂.get? a = some (listOf #[.int (x p) t] n) := fun p hp => by obtain ⟨a, t, n, q1, q2⟩ := hel p hp; exact ⟨a, t, n, q1, stB2 _ _ q2⟩
        have P0 := items_plain (B := B₂) (N := N) I0 hle hel2 F8.keep (N8 _ (.head _)).1 BD fun q hq => (N8 q (.tail _ (.tail _ (.tail _ hq)))).1
        refine heapify (b := hideAll h8 [D]) (xs := its) (n := c8) (lt := ltI) (S := Plain (hideAll h8 [D])) (by show A.depth + 1 ≤ 498; lia) (by show A.units + 3 ≤ 480; lia) hA (fun a o q => of_hideAll _ q) (by rw [hideAll_size]; exact Nat.le_refl _) (XB2.keeps (stays_hide F8.keep BD)) (TB2.keeps (stays_hide F8.keep BD)) (N8 _ (.head _)).1 (hideAll_none _ (.head _)) P0 cmp_plain (by lia) ?_
        intro h9 tk9 st9 gD9
        have F9 := fr_back F8 (Ne.symm LD) BD st9
        have tsT : ∀ q ∈ ts, q.2.cls = .type "tuple" := by
          intro q hq
          rw [← hts] at hq
          refine e1_2 (List.mem_flatMap.mp hq) ?_
          intro r hr hq
          obtain ⟨j, hj, rfl⟩ := List.getElem_of_mem hr
          refine e2_2 (hYP j rs[j] (List.getElem?_eq_getElem hj)) ?_
          intro T ti q1 q2
          rw [q2, List.mem_singleton] at hq; subst hq; rfl
        have io_f : ∃ vs, io.data = .fields vs := by rcases hio with ⟨rfl, _⟩ | ⟨rfl, _⟩ <;> exact ⟨_, rfl⟩
        have off1 : ∀ (items : Array Value) (c : Nat), ∀ q ∈ (IT, io) :: (L' + 1, oc) :: ts, q.2 ≠ listOf items c := by
          intro items c q hq z
          rcases List.mem_cons.mp hq with rfl | hq
          · obtain ⟨vs, hv⟩ := io_f; dsimp only at z; rw [z] at hv; simp [W.listOf] at hv
          rcases List.mem_cons.mp hq with rfl | hq
          · dsimp only at z; rw [z] at d1; simp [W.listOf] at d1
          · have := tsT q hq; rw [z] at this; simp [W.listOf] at this
        have N9 := news_back1 N8 (off1 _ _) st9 gD9
        clear F8 N8
        have Ih := I0.sub (its' := hfy ltI its (its.length / 2)) fun u hu => (heapify_spec sw_ltI its).2.mem_iff.mp hu
        generalize hfy ltI its (its.length / 2) = hs at *
        have hsl := B0.len
        (repeat' (first | (k_unfold; (try dsimp only)) | ((fail_if_success (with_reducible first | show wpAny _ _ (exec (Stmt.While _ _ _ _) _) _ _ _ | show wpAny _ _ (eval (Expr.Name (Str.ofString "AttributeError") _) _) _ _ _ | show wpAny _ _ (subscriptTail (Expr.Name _ _) (Expr.Slice _ _ _ _) _ _) _ _ _ | show wpAny _ _ (call (Value.builtin "list.sort") _ _) _ _ _ | show wpAny _ _ (pyIter _) _ _ _ | show wpAny _ _ (call (Value.builtin "len") [Value.ref SRC] _) _ _ _ | show wpAny _ _ (call (Value.ref _) _ _) _ _ _)); (fail_if_success (with_reducible show wpAny _ _ (exec (Stmt.For _ _ _ _ _) _) _ _ _)); (fail_if_success (with_reducible show wpAny _ _ (exec (Stmt.Assign _ (Expr.ListComp _ _ _ _) _) _) _ _ _)); (fail_if_success (with_reducible show wpAny _ _ (eval (Expr.ListComp _ _ _ _) _) _ _ _)); first | ((first | (with_reducible show wpAny _ _ (exec (Stmt.Assign _ _ _) _) _ _ _) | (with_reducible show wpAny _ _ (exec (Stmt.Expr _ _) _) _ _ _) | (with_reducible show wpAny _ _ (exec (Stmt.Return _ _) _) _ _ _)); k_fold) | walk1 | (dsimp only; (with_reducible show wpAny _ _ _ _ _); walk1))))
        have I1 : Items x e TupP true ts hs rs.length (-wish) := ⟨Ih.good, Ih.idx, fun u hu => by have := Ih.ord u hu; simp only [Bool.false_eq_true, if_false, if_true] at this ⊢; lia⟩
        have r0 : ge hs 0 ∈ hs := ge_mem (by lia)
        obtain ⟨T0, o0, p0, v0, k0, e0, l0, m0, ti0, mm0, ho0⟩ := I1.good _ r0
        rw [show (hs.getD (Int.toNat 0) it0).v = .ref T0 from v0]
        have gT0 := (N9 _ (.tail _ (.tail _ (.tail _ m0)))).1
        rw [ho0] at gT0
        refine tail_any ⟨_, gT0, rfl⟩ F.slot_tuple_getitem.lookup (P.getItem_tuple gT0 (by decide) (by decide) (k := 0) rfl rfl ?_) (by with_unfolding_all rfl)
        rw [e0]
        (repeat' (first | (k_unfold; (try dsimp only)) | ((fail_if_success (with_reducible first | show wpAny _ _ (exec (Stmt.While _ _ _ _) _) _ _ _ | show wpAny _ _ (eval (Expr.Name (Str.ofString "AttributeError") _) _) _ _ _ | show wpAny _ _ (subscriptTail (Expr.Name _ _) (Expr.Slice _ _ _ _) _ _) _ _ _ | show wpAny _ _ (call (Value.builtin "list.sort") _ _) _ _ _ | show wpAny _ _ (pyIter _) _ _ _ | show wpAny _ _ (call (Value.builtin "len") [Value.ref SRC] _) _ _ _ | show wpAny _ _ (call (Value.ref _) _ _) _ _ _)); (fail_if_success (with_reducible show wpAny _ _ (exec (Stmt.For _ _ _ _ _) _) _ _ _)); (fail_if_success (with_reducible show wpAny _ _ (exec (Stmt.Assign _ (Expr.ListComp _ _ _ _) _) _) _ _ _)); (fail_if_success (with_reducible show wpAny _ _ (eval (Expr.ListComp _ _ _ _) _) _ _ _)); first | ((first | (with_reducible show wpAny _ _ (exec (Stmt.Assign _ _ _) _) _ _ _) | (with_reducible show wpAny _ _ (exec (Stmt.Expr _ _) _) _ _ _) | (with_reducible show wpAny _ _ (exec (Stmt.Return _ _) _) _ _ _)); k_fold) | walk1 | (dsimp only; (with_reducible show wpAny _ _ _ _ _); walk1))))
        rename_i h12 F12 N12
        obtain ⟨Q2, hQ2⟩ : ∃ Q2 : Flow → Shared → Prop, Q2 = fun f s' => f = .next ∧ ∃ its ts h tk m₃ od, s' = { s with heap := h, toks := tk } ∧ Fr B₂ L' h m₃ ∧ News B₂ L' h ((D, listOf (its.map It.v).toArray c8) :: ts) ∧ m₃ (Str.ofString "result") = some (.ref D) ∧
          Items x e TupP true ts its N od ∧ Best x ltI rs.length N its ∧ (∀ q ∈ ts, q.2.cls = .type "tuple") := ⟨_, rfl⟩
        refine wpAny_mono (Q := Q2) ?_ ?_ fun _ _ e => e
        ·
          --FOR
          refine wpAny_For ?_
          (repeat' (first | (k_unfold; (try dsimp only)) | ((fail_if_success (with_reducible first | show wpAny _ _ (exec (Stmt.While _ _ _ _) _) _ _ _ | show wpAny _ _ (eval (Expr.Name (Str.ofString "AttributeError") _) _) _ _ _ | show wpAny _ _ (subscriptTail (Expr.Name _ _) (Expr.Slice _ _ _ _) _ _) _ _ _ | show wpAny _ _ (call (Value.builtin "list.sort") _ _) _ _ _ | show wpAny _ _ (pyIter _) _ _ _ | show wpAny _ _ (call (Value.builtin "len") [Value.ref SRC] _) _ _ _ | show wpAny _ _ (call (Value.ref _) _ _) _ _ _)); (fail_if_success (with_reducible show wpAny _ _ (exec (Stmt.For _ _ _ _ _) _) _ _ _)); (fail_if_success (with_reducible show wpAny _ _ (exec (Stmt.Assign _ (Expr.ListComp _ _ _ _) _) _) _ _ _)); (fail_if_success (with_reducible show wpAny _ _ (eval (Expr.ListComp _ _ _ _) _) _ _ _)); first | ((first | (with_reducible show wpAny _ _ (exec (Stmt.Assign _ _ _) _) _ _ _) | (with_reducible show wpAny _ _ (exec (Stmt.Expr _ _) _) _ _ _) | (with_reducible show wpAny _ _ (exec (Stmt.Return _ _) _) _ _ _)); k_fold) | walk1 | (dsimp only; (with_reducible show wpAny _ _ _ _ _); walk1))))
          have io_c : io.cls = .type "list_iterator" := by rcases hio with ⟨rfl, _⟩ | ⟨rfl, _⟩ <;> rfl
          refine pyIter_li (N12 _ (.tail _ (.head _))).1 io_c ?_
          obtain ⟨IV, hIV⟩ : ∃ IV : Nat → Shared → Prop, IV = fun k s' => ∃ j its ts h tk m₃ io od tod, k = N + 1 - j ∧ rs.length ≤ j ∧ j ≤ N ∧ s' = { s with heap := h, toks := tk } ∧ Fr B₂ L' h m₃ ∧ News B₂ L' h ((D, listOf (its.map It.v).toArray c8) :: (IT, io) :: (L' + 1, oc) :: ts) ∧ (io = liObj LST j ∨ (io = liEnd N ∧ j = N)) ∧
            m₃ (Str.ofString "result") = some (.ref D) ∧ m₃ (Str.ofString "top") = some (e (pl (ge its 0))) ∧ m₃ (Str.ofString "order") = some (.int od tod) ∧ m₃ (Str.ofString "_heapreplace") = some (.ref 21) ∧
            Items x e TupP true ts its j od ∧ Best x ltI rs.length j its ∧ (∀ q ∈ ts, q.2.cls = .type "tuple") := ⟨_, rfl⟩
          refine codeF IV (N + 1 - rs.length) ?_ ?_
          · subst hIV
            refine ⟨rs.length, hs, ts, _, _, _, io, -wish, _, rfl, Nat.le_refl _, hle, rfl, F12, N12, ?_, rfl, ?_, rfl, rfl, I1, B0, tsT⟩
            · rcases hio with ⟨rfl, _⟩ | ⟨rfl, h2⟩
              · left; rw [hmin]
              · right; rw [hmin]
                have : rs.length = N := by lia
                rw [this]; exact ⟨rfl, rfl⟩
            · rw [show pl (ge hs 0) = p0 from pl_of k0]; rfl
          clear F12 N12 hio io_f io_c off1 tsT I1 B0 gT0 m0 ho0 v0 k0 e0 l0 r0 Ih hsl gD9
          intro k s' hik
          rw [hIV] at hik
          refine e9_14 (hik) ?_
          (try clear hik)
          intro j its ts h13 tk13 m₃ io od tod zr9 hj1 hj2 zr12 F13 N13 hio e3 e4 e5 e6 I2 B2 tsT
          first | subst zr9 | cases zr9
          first | subst zr12 | cases zr12
          have hlt2 := I2.hlt
          have hil2 := B2.len
          have io_f : ∃ vs, io.data = .fields vs := by rcases hio with rfl | ⟨rfl, _⟩ <;> exact ⟨_, rfl⟩
          have offI : ∀ q ∈ (D, listOf (its.map It.v).toArray c8) :: (L' + 1, oc) :: ts, q.2 ≠ io := by
            intro q hq z
            obtain ⟨vs, hv⟩ := io_f
            rcases List.mem_cons.mp hq with rfl | hq
            · dsimp only at z; rw [← z] at hv; simp [W.listOf] at hv
            rcases List.mem_cons.mp hq with rfl | hq
            · dsimp only at z; rw [← z, d1] at hv; cases hv
            · have hcc := tsT q hq
              rw [z] at hcc
              rcases hio with rfl | ⟨rfl, _⟩
              · simp [liObj] at hcc
              · simp [liEnd] at hcc
          have hIT := N13 _ (.tail _ (.head _))
          by_cases hjN : j < N
          · have hio' : io = liObj LST j := by rcases hio with h1 | ⟨_, h2⟩; exact h1; lia
            subst hio'
            refine pyNext_li_item hIT.1 (F13.keep _ _ LB2) (x := e j) (by simp [hjN]) fun h14 g14 s14 => ?_
            have F14 := fr_ext F13 (Ne.symm hIT.2.1) hIT.2.2 s14.extBut
            have N14 := news_mid N13 offI s14.extBut g14
            clear F13 N13
            (repeat' (first | (k_unfold; (try dsimp only)) | ((fail_if_success (with_reducible first | show wpAny _ _ (exec (Stmt.While _ _ _ _) _) _ _ _ | show wpAny _ _ (eval (Expr.Name (Str.ofString "AttributeError") _) _) _ _ _ | show wpAny _ _ (subscriptTail (Expr.Name _ _) (Expr.Slice _ _ _ _) _ _) _ _ _ | show wpAny _ _ (call (Value.builtin "list.sort") _ _) _ _ _ | show wpAny _ _ (pyIter _) _ _ _ | show wpAny _ _ (call (Value.builtin "len") [Value.ref SRC] _) _ _ _ | show wpAny _ _ (call (Value.ref _) _ _) _ _ _)); (fail_if_success (with_reducible show wpAny _ _ (exec (Stmt.For _ _ _ _ _) _) _ _ _)); (fail_if_success (with_reducible show wpAny _ _ (exec (Stmt.Assign _ (Expr.ListComp _ _ _ _) _) _) _ _ _)); (fail_if_success (with_reducible show wpAny _ _ (eval (Expr.ListComp _ _ _ _) _) _ _ _)); first | ((first | (with_reducible show wpAny _ _ (exec (Stmt.Assign _ _ _) _) _ _ _) | (with_reducible show wpAny _ _ (exec (Stmt.Expr _ _) _) _ _ _) | (with_reducible show wpAny _ _ (exec (Stmt.Return _ _) _) _ _ _)); k_fold) | walk1 | (dsimp only; (with_reducible show wpAny _ _ _ _ _); walk1))))
            rename_i h15 F15 N15
            have r1 : ge its 0 ∈ its := ge_mem (by lia)
            have plt : pl (ge its 0) < j := by
              refine e3_5 (I2.good _ r1) ?_
              intro _ _ p1 _ k1 _ l1 _
              rw [pl_of k1]; exact l1
            refine cmp_e_lt (N := N) (x := x) (by show A.units + 3 < 9000; lia) hel2 F15.keep (by lia) hjN ?_
            (repeat' (first | (k_unfold; (try dsimp only)) | ((fail_if_success (with_reducible first | show wpAny _ _ (exec (Stmt.While _ _ _ _) _) _ _ _ | show wpAny _ _ (eval (Expr.Name (Str.ofString "AttributeError") _) _) _ _ _ | show wpAny _ _ (subscriptTail (Expr.Name _ _) (Expr.Slice _ _ _ _) _ _) _ _ _ | show wpAny _ _ (call (Value.builtin "list.sort") _ _) _ _ _ | show wpAny _ _ (pyIter _) _ _ _ | show wpAny _ _ (call (Value.builtin "len") [Value.ref SRC] _) _ _ _ | show wpAny _ _ (call (Value.ref _) _ _) _ _ _)); (fail_if_success (with_reducible show wpAny _ _ (exec (Stmt.For _ _ _ _ _) _) _ _ _)); (fail_if_success (with_reducible show wpAny _ _ (exec (Stmt.Assign _ (Expr.ListComp _ _ _ _) _) _) _ _ _)); (fail_if_success (with_reducible show wpAny _ _ (eval (Expr.ListComp _ _ _ _) _) _ _ _)); first | ((first | (with_reducible show wpAny _ _ (exec (Stmt.Assign _ _ _) _) _ _ _) | (with_reducible show wpAny _ _ (exec (Stmt.Expr _ _) _) _ _ _) | (with_reducible show wpAny _ _ (exec (Stmt.Return _ _) _) _ _ _)); k_fold) | walk1 | (dsimp only; (with_reducible show wpAny _ _ _ _ _); walk1))))
            · rename_i hxx T5 h16 F16 N16 _
              have I3 := I2.add (y := ⟨.ref T5, [x j, (j : Int)], od, e j⟩) (ts' := (T5, { cls := .type "tuple", data := .seq #[e j, .int od tod] }) :: ts) (fun q hq => .tail _ hq) ⟨T5, _, rfl, rfl, rfl, .head _, tod, _, rfl⟩ rfl
              simp only [Bool.false_eq_true, if_false, if_true] at I3
              have tsT5 : ∀ q ∈ (T5, ({ cls := .type "tuple", data := .seq #[e j, .int od tod] } : Obj)) :: ts, q.2.cls = .type "tuple" := fun q hq => by
                rcases List.mem_cons.mp hq with rfl | hq
                · rfl
                · exact tsT q hq
              have N16' : News B₂ L' h16 ((D, listOf (its.map It.v).toArray c8) :: (IT, liObj LST (j + 1)) :: (L' + 1, oc) :: (T5, { cls := .type "tuple", data := .seq #[e j, .int od tod] }) :: ts) := fun q hq => N16 q (by
                simp only [List.mem_cons] at hq ⊢
                rcases hq with hq | hq | hq | hq | hq
                · exact .inr (.inl hq)
                · exact .inr (.inr (.inl hq))
                · exact .inr (.inr (.inr (.inl hq)))
                · exact .inl hq
                · exact .inr (.inr (.inr (.inr hq))))
              clear N16
              generalize hts5 : (T5, ({ cls := .type "tuple", data := .seq #[e j, .int od tod] } : Obj)) :: ts = ts5 at *
              have P3 := items_plain (B := B₂) (N := N) I3 hjN hel2 F16.keep (N16' _ (.head _)).1 BD fun q hq => (N16' q (.tail _ (.tail _ (.tail _ hq)))).1
              refine heapreplace (b := hideAll h16 [D]) (xs := its) (y := ⟨.ref T5, [x j, (j : Int)], od, e j⟩) (n := c8) (lt := ltI) (S := Plain (hideAll h16 [D])) (by show A.depth + 1 ≤ 498; lia) (by show A.units + 3 ≤ 480; lia) (fun a o q => of_hideAll _ q) (by rw [hideAll_size]; exact Nat.le_refl _) (XB2.keeps (stays_hide F16.keep BD)) (TB2.keeps (stays_hide F16.keep BD)) (N16' _ (.head _)).1 (hideAll_none _ (.head _)) (fun v hv => P3 v (.tail _ hv)) (P3 _ (.head _)) cmp_plain (by lia) (by lia) ?_
              intro vv h17 tk17 st17 gD17
              have F17 := fr_back F16 (Ne.symm LD) BD st17
              have N17 := news_back1 N16' (fun q hq z => by
                rcases List.mem_cons.mp hq with rfl | hq
                · dsimp only at z; have := congrArg Obj.data z; simp [liObj, W.listOf] at this
                rcases List.mem_cons.mp hq with rfl | hq
                · dsimp only at z; rw [z] at d1; simp [W.listOf] at d1
                · have := tsT5 q hq; rw [z] at this; simp [W.listOf] at this) st17 gD17
              have hpy : pl (⟨.ref T5, [x j, (j : Int)], od, e j⟩ : It) = j := pl_of (x := x) rfl
              have B4 := B2.in sw_ltI hlt2 hpy (by lia)
              have I4 := I3.sub (its' := sup ltI (its.set 0 ⟨.ref T5, [x j, (j : Int)], od, e j⟩) 0 0 ⟨.ref T5, [x j, (j : Int)], od, e j⟩) (sup_mem' (by rw [List.length_set]; lia) _ (.head _) fun v hv => by
                rcases List.mem_or_eq_of_mem_set hv with h1 | h1
                · exact .tail _ h1
                · rw [h1]; exact .head _)
              generalize sup ltI (its.set 0 ⟨.ref T5, [x j, (j : Int)], od, e j⟩) 0 0 ⟨.ref T5, [x j, (j : Int)], od, e j⟩ = zs at *
              have hzl := B4.len
              clear F16 N16'
              (repeat' (first | (k_unfold; (try dsimp only)) | ((fail_if_success (with_reducible first | show wpAny _ _ (exec (Stmt.While _ _ _ _) _) _ _ _ | show wpAny _ _ (eval (Expr.Name (Str.ofString "AttributeError") _) _) _ _ _ | show wpAny _ _ (subscriptTail (Expr.Name _ _) (Expr.Slice _ _ _ _) _ _) _ _ _ | show wpAny _ _ (call (Value.builtin "list.sort") _ _) _ _ _ | show wpAny _ _ (pyIter _) _ _ _ | show wpAny _ _ (call (Value.builtin "len") [Value.ref SRC] _) _ _ _ | show wpAny _ _ (call (Value.ref _) _ _) _ _ _)); (fail_if_success (with_reducible show wpAny _ _ (exec (Stmt.For _ _ _ _ _) _) _ _ _)); (fail_if_success (with_reducible show wpAny _ _ (exec (Stmt.Assign _ (Expr.ListComp _ _ _ _) _) _) _ _ _)); (fail_if_success (with_reducible show wpAny _ _ (eval (Expr.ListComp _ _ _ _) _) _ _ _)); first | ((first | (with_reducible show wpAny _ _ (exec (Stmt.Assign _ _ _) _) _ _ _) | (with_reducible show wpAny _ _ (exec (Stmt.Expr _ _) _) _ _ _) | (with_reducible show wpAny _ _ (exec (Stmt.Return _ _) _) _ _ _)); k_fold) | walk1 | (dsimp only; (with_reducible show wpAny _ _ _ _ _); walk1))))
              obtain ⟨T6, o6, p6, v6, k6, f6, l6, m6, ti6, mm6, ho6⟩ := I4.good _ (ge_mem (by lia : 0 < zs.length))
              rw [show (zs.getD (Int.toNat 0) it0).v = .ref T6 from v6]
              have gT6 := (N17 _ (.tail _ (.tail _ (.tail _ m6)))).1
              rw [ho6] at gT6
              refine assign_Tuple_tuple hA ⟨_, gT6, rfl, _, rfl⟩ rfl rfl fun h18 he18 => ?_
              have st18 : h17.StaysIn h18 := fun a o q => he18 a o (Nat.ne_of_lt (Heap.lt_size q)) q
              have F18 := fr_keeps F17 st18
              have N18 := news_keeps N17 st18
              clear F17 N17
              rw [f6]
              (repeat' (first | (k_unfold; (try dsimp only)) | ((fail_if_success (with_reducible first | show wpAny _ _ (exec (Stmt.While _ _ _ _) _) _ _ _ | show wpAny _ _ (eval (Expr.Name (Str.ofString "AttributeError") _) _) _ _ _ | show wpAny _ _ (subscriptTail (Expr.Name _ _) (Expr.Slice _ _ _ _) _ _) _ _ _ | show wpAny _ _ (call (Value.builtin "list.sort") _ _) _ _ _ | show wpAny _ _ (pyIter _) _ _ _ | show wpAny _ _ (call (Value.builtin "len") [Value.ref SRC] _) _ _ _ | show wpAny _ _ (call (Value.ref _) _ _) _ _ _)); (fail_if_success (with_reducible show wpAny _ _ (exec (Stmt.For _ _ _ _ _) _) _ _ _)); (fail_if_success (with_reducible show wpAny _ _ (exec (Stmt.Assign _ (Expr.ListComp _ _ _ _) _) _) _ _ _)); (fail_if_success (with_reducible show wpAny _ _ (eval (Expr.ListComp _ _ _ _) _) _ _ _)); first | ((first | (with_reducible show wpAny _ _ (exec (Stmt.Assign _ _ _) _) _ _ _) | (with_reducible show wpAny _ _ (exec (Stmt.Expr _ _) _) _ _ _) | (with_reducible show wpAny _ _ (exec (Stmt.Return _ _) _) _ _ _)); k_fold) | walk1 | (dsimp only; (with_reducible show wpAny _ _ _ _ _); walk1))))
              rename_i _ h19 F19 N19
              refine wpAny_loadName_local (by rfl) (by rfl) F19.ns (v := .int od tod) (by exact e5) ?_
              (repeat' (first | (k_unfold; (try dsimp only)) | ((fail_if_success (with_reducible first | show wpAny _ _ (exec (Stmt.While _ _ _ _) _) _ _ _ | show wpAny _ _ (eval (Expr.Name (Str.ofString "AttributeError") _) _) _ _ _ | show wpAny _ _ (subscriptTail (Expr.Name _ _) (Expr.Slice _ _ _ _) _ _) _ _ _ | show wpAny _ _ (call (Value.builtin "list.sort") _ _) _ _ _ | show wpAny _ _ (pyIter _) _ _ _ | show wpAny _ _ (call (Value.builtin "len") [Value.ref SRC] _) _ _ _ | show wpAny _ _ (call (Value.ref _) _ _) _ _ _)); (fail_if_success (with_reducible show wpAny _ _ (exec (Stmt.For _ _ _ _ _) _) _ _ _)); (fail_if_success (with_reducible show wpAny _ _ (exec (Stmt.Assign _ (Expr.ListComp _ _ _ _) _) _) _ _ _)); (fail_if_success (with_reducible show wpAny _ _ (eval (Expr.ListComp _ _ _ _) _) _ _ _)); first | ((first | (with_reducible show wpAny _ _ (exec (Stmt.Assign _ _ _) _) _ _ _) | (with_reducible show wpAny _ _ (exec (Stmt.Expr _ _) _) _ _ _) | (with_reducible show wpAny _ _ (exec (Stmt.Return _ _) _) _ _ _)); k_fold) | walk1 | (dsimp only; (with_reducible show wpAny _ _ _ _ _); walk1))))
              rename_i h20 F20 N20
              subst hIV
              exact ⟨N + 1 - (j + 1), by lia, j + 1, zs, ts5, _, _, _, _, od - 1, _, rfl, by lia, hjN, rfl, F20, N20, .inl rfl, e3, (by rw [pl_of k6]; rfl), rfl, e6, I4, B4, tsT5⟩
            · rename_i hx1
              subst hIV
              refine ⟨N + 1 - (j + 1), by lia, j + 1, its, ts, _, _, _, _, od, tod, rfl, by lia, hjN, rfl, F15, N15, .inl rfl, by assumption, by assumption, by assumption, by assumption, I2.skip, B2.out sw_ltI hlt2 (by lia), tsT⟩
          · obtain rfl : j = N := by lia
            have fin : ∀ h' tk' ioo, Fr B₂ L' h' m₃ → News B₂ L' h' ((D, listOf (its.map It.v).toArray c8) :: (IT, ioo) :: (L' + 1, oc) :: ts) → _ := fun h' tk' ioo F' N' => (⟨rfl, its, ts, h', tk', m₃, od, rfl, F', fun q hq => N' q (by rcases List.mem_cons.mp hq with rfl | hq; exact .head _; exact .tail _ (.tail _ (.tail _ hq))), e3, I2, B2, tsT⟩ :
              Flow.next = Flow.next ∧ ∃ its ts h tk m₃ od, ({ s with heap := h', toks := tk' } : Shared) = { s with heap := h, toks := tk } ∧ Fr B₂ L' h m₃ ∧ News B₂ L' h ((D, listOf (its.map It.v).toArray c8) :: ts) ∧ m₃ (Str.ofString "result") = some (.ref D) ∧
                Items x e TupP true ts its j od ∧ Best x ltI rs.length j its ∧ (∀ q ∈ ts, q.2.cls = .type "tuple"))
            rcases hio with rfl | ⟨rfl, _⟩
            · refine pyNext_li_end hA hIT.1 (F13.keep _ _ LB2) (by simp) fun h14 g14 s14 => ?_
              have F14 := fr_ext F13 (Ne.symm hIT.2.1) hIT.2.2 s14
              have N14 := news_mid N13 offI s14 g14
              walk1
              subst hQ2
              exact fin _ _ _ F14 N14
            · refine pyNext_li_gone hA hIT.1 fun h14 s14 => ?_
              have F14 := fr_keeps F13 s14
              have N14 := news_keeps N13 s14
              walk1
              subst hQ2
              exact fin _ _ _ F14 N14
          --FORE
        · intro f s' hq2
          subst hQ2
          obtain ⟨rfl, its, ts, h21, tk21, m₃, od, rfl, F21, N21, e3, I5, B5, tsT5⟩ := hq2
          have e3' : m₃ (Str.ofString "result") = some (.ref D) := e3
          (repeat' (first | (k_unfold; (try dsimp only)) | ((fail_if_success (with_reducible first | show wpAny _ _ (exec (Stmt.While _ _ _ _) _) _ _ _ | show wpAny _ _ (eval (Expr.Name (Str.ofString "AttributeError") _) _) _ _ _ | show wpAny _ _ (subscriptTail (Expr.Name _ _) (Expr.Slice _ _ _ _) _ _) _ _ _ | show wpAny _ _ (call (Value.builtin "list.sort") _ _) _ _ _ | show wpAny _ _ (pyIter _) _ _ _ | show wpAny _ _ (call (Value.builtin "len") [Value.ref SRC] _) _ _ _ | show wpAny _ _ (call (Value.ref _) _ _) _ _ _)); (fail_if_success (with_reducible show wpAny _ _ (exec (Stmt.For _ _ _ _ _) _) _ _ _)); (fail_if_success (with_reducible show wpAny _ _ (exec (Stmt.Assign _ (Expr.ListComp _ _ _ _) _) _) _ _ _)); (fail_if_success (with_reducible show wpAny _ _ (eval (Expr.ListComp _ _ _ _) _) _ _ _)); first | ((first | (with_reducible show wpAny _ _ (exec (Stmt.Assign _ _ _) _) _ _ _) | (with_reducible show wpAny _ _ (exec (Stmt.Expr _ _) _) _ _ _) | (with_reducible show wpAny _ _ (exec (Stmt.Return _ _) _) _ _ _)); k_fold) | walk1 | (dsimp only; (with_reducible show wpAny _ _ _ _ _); walk1))))
          refine callWith_builtin_kwB (by rfl) (by rfl) (evalArgs_kw0 (by rfl) (kws_cons ?_))
          (repeat' (first | (k_unfold; (try dsimp only)) | ((fail_if_success (with_reducible first | show wpAny _ _ (exec (Stmt.While _ _ _ _) _) _ _ _ | show wpAny _ _ (eval (Expr.Name (Str.ofString "AttributeError") _) _) _ _ _ | show wpAny _ _ (subscriptTail (Expr.Name _ _) (Expr.Slice _ _ _ _) _ _) _ _ _ | show wpAny _ _ (call (Value.builtin "list.sort") _ _) _ _ _ | show wpAny _ _ (pyIter _) _ _ _ | show wpAny _ _ (call (Value.builtin "len") [Value.ref SRC] _) _ _ _ | show wpAny _ _ (call (Value.ref _) _ _) _ _ _)); (fail_if_success (with_reducible show wpAny _ _ (exec (Stmt.For _ _ _ _ _) _) _ _ _)); (fail_if_success (with_reducible show wpAny _ _ (exec (Stmt.Assign _ (Expr.ListComp _ _ _ _) _) _) _ _ _)); (fail_if_success (with_reducible show wpAny _ _ (eval (Expr.ListComp _ _ _ _) _) _ _ _)); first | ((first | (with_reducible show wpAny _ _ (exec (Stmt.Assign _ _ _) _) _ _ _) | (with_reducible show wpAny _ _ (exec (Stmt.Expr _ _) _) _ _ _) | (with_reducible show wpAny _ _ (exec (Stmt.Return _ _) _) _ _ _)); k_fold) | walk1 | (dsimp only; (with_reducible show wpAny _ _ _ _ _); walk1))))
          refine wpAny_call_entry_kw slot_list_sort ⟨_, (N21 _ (.head _)).1, rfl⟩ entry_list_sort ?_ (args_sort_rev _ _)
          have hnd : (its.map pl).Nodup := B5.places.nodup_iff.mpr ((ordD_nodup N).sublist (List.take_sublist _ _))
          have P5 := items_plain (B := B₂) (N := N) I5 (Nat.le_refl _) hel2 F21.keep (N21 _ (.head _)).1 BD fun q hq => (N21 q (.tail _ hq)).1
          have hil5 := B5.len
          refine Eq.mpr (congrArg (fun z => wpAny _ _ z _ _ _) (so_p1 D true)) (sort_its (D := D) (its := its) (rev := true) (by show A.units + 3 + _ ≤ 1000; lia) (N21 _ (.head _)).1 (by lia) (I5.nodup_i hnd) (.inl P5) ?_)
          intro zs h22 tk22 c22 hzp hzs st22 gD22
          refine ⟨_, rfl, ?_⟩
          have hzm := best_end B5.places hzp (fun u hu v hv q => (I5.hlt u hu v hv).mp q) (by simpa [ltD] using hzs)
          have F22 := fr_back F21 (Ne.symm LD) BD st22
          have N22 := news_back1 N21 (fun q hq z => by have := tsT5 q hq; rw [z] at this; simp [W.listOf] at this) st22 gD22
          have I6 := I5.sub fun u hu => hzp.mem_iff.mp hu
          have hzl : zs.length = rs.length := hzp.length_eq.trans hil5
          clear F21 N21
          (repeat' (first | (k_unfold; (try dsimp only)) | ((fail_if_success (with_reducible first | show wpAny _ _ (exec (Stmt.While _ _ _ _) _) _ _ _ | show wpAny _ _ (eval (Expr.Name (Str.ofString "AttributeError") _) _) _ _ _ | show wpAny _ _ (subscriptTail (Expr.Name _ _) (Expr.Slice _ _ _ _) _ _) _ _ _ | show wpAny _ _ (call (Value.builtin "list.sort") _ _) _ _ _ | show wpAny _ _ (pyIter _) _ _ _ | show wpAny _ _ (call (Value.builtin "len") [Value.ref SRC] _) _ _ _ | show wpAny _ _ (call (Value.ref _) _ _) _ _ _)); (fail_if_success (with_reducible show wpAny _ _ (exec (Stmt.For _ _ _ _ _) _) _ _ _)); (fail_if_success (with_reducible show wpAny _ _ (exec (Stmt.Assign _ (Expr.ListComp _ _ _ _) _) _) _ _ _)); (fail_if_success (with_reducible show wpAny _ _ (eval (Expr.ListComp _ _ _ _) _) _ _ _)); first | ((first | (with_reducible show wpAny _ _ (exec (Stmt.Assign _ _ _) _) _ _ _) | (with_reducible show wpAny _ _ (exec (Stmt.Expr _ _) _) _ _ _) | (with_reducible show wpAny _ _ (exec (Stmt.Return _ _) _) _ _ _)); k_fold) | walk1 | (dsimp only; (with_reducible show wpAny _ _ _ _ _); walk1))))
          refine list_comp (cl := []) (by with_unfolding_all rfl) (by decide +kernel) (by rfl) (by decide +kernel) ?_
          (repeat' (first | (k_unfold; (try dsimp only)) | ((fail_if_success (with_reducible first | show wpAny _ _ (exec (Stmt.While _ _ _ _) _) _ _ _ | show wpAny _ _ (eval (Expr.Name (Str.ofString "AttributeError") _) _) _ _ _ | show wpAny _ _ (subscriptTail (Expr.Name _ _) (Expr.Slice _ _ _ _) _ _) _ _ _ | show wpAny _ _ (call (Value.builtin "list.sort") _ _) _ _ _ | show wpAny _ _ (pyIter _) _ _ _ | show wpAny _ _ (call (Value.builtin "len") [Value.ref SRC] _) _ _ _ | show wpAny _ _ (call (Value.ref _) _ _) _ _ _)); (fail_if_success (with_reducible show wpAny _ _ (exec (Stmt.For _ _ _ _ _) _) _ _ _)); (fail_if_success (with_reducible show wpAny _ _ (exec (Stmt.Assign _ (Expr.ListComp _ _ _ _) _) _) _ _ _)); (fail_if_success (with_reducible show wpAny _ _ (eval (Expr.ListComp _ _ _ _) _) _ _ _)); first | ((first | (with_reducible show wpAny _ _ (exec (Stmt.Assign _ _ _) _) _ _ _) | (with_reducible show wpAny _ _ (exec (Stmt.Expr _ _) _) _ _ _) | (with_reducible show wpAny _ _ (exec (Stmt.Return _ _) _) _ _ _)); k_fold) | walk1 | (dsimp only; (with_reducible show wpAny _ _ _ _ _); walk1))))
          refine wpAny_pyIter_list (PySem.IsL.isList (N22 _ (.head _)).1) ?_
          intro C D2 h24 tk24 st24 nC nD nDC hC hD2
          have gI : (h22.push (liObj D 0)).get? h22.objs.size = some (liObj D 0) := Heap.get?_push_size _ rfl
          have st22p : h22.StaysIn (h22.push (liObj D 0)) := fun a o q => Heap.get?_push_of_some _ q
          change (h22.push (liObj D 0)).StaysIn h24 at st24
          change (h22.push (liObj D 0)).get? C = none at nC
          change (h22.push (liObj D 0)).get? D2 = none at nD
          have hIB : B₂.get? h22.objs.size = none := none_sub F22.keep (Heap.get?_none_of_le (Nat.le_refl _))
          have hch : ∀ i, ∃ v, i < rs.length → ∃ mm, h22.get? (adOf (zs.getD i it0).v) = some { cls := .type "tuple", data := .seq #[e (pl (zs.getD i it0)), v] mm } := by
            intro i
            by_cases hi : i < rs.length
            · have hu : zs.getD i it0 ∈ zs := by
                rw [List.getD_eq_getElem?_getD, List.getElem?_eq_getElem (by lia)]; exact List.getElem_mem _
              obtain ⟨T7, o7, p7, v7, k7, f7, l7, m7, ti7, mm7, ho7⟩ := I6.good _ hu
              refine ⟨.int (zs.getD i it0).i ti7, fun _ => ⟨mm7, ?_⟩⟩
              have g7 := (N22 _ (.tail _ m7)).1
              rw [ho7, f7] at g7
              rw [v7, pl_of k7]; exact g7
            · exact ⟨.none, fun q => absurd q hi⟩
          obtain ⟨f1, hf1⟩ := Classical.axiomOfChoice hch
          have nof : ∀ X, (h22.push (liObj D 0)).get? X = none → X ≠ h22.objs.size ∧ X ≠ D ∧ ∀ i, i < rs.length → X ≠ adOf (zs.getD i it0).v := by
            intro X q
            refine ⟨fun r => ?_, fun r => ?_, fun i hi r => ?_⟩
            · rw [r, gI] at q; cases q
            · rw [r, st22p _ _ (N22 _ (.head _)).1] at q; cases q
            · obtain ⟨mm, g⟩ := hf1 i hi
              rw [r, st22p _ _ g] at q; cases q
          have hzv : (zs.map It.v) = (List.range rs.length).map fun i => Value.ref (adOf (zs.getD i it0).v) := by
            refine List.ext_getElem (by simp [hzl]) fun i a b => ?_
            have hi : i < zs.length := by simpa using a
            refine e3_2 (I6.good _ (List.getElem_mem hi)) ?_
            intro T7 o7 p7 v7 _
            simp only [List.getElem_map, List.getElem_range, List.getD_eq_getElem?_getD, List.getElem?_eq_getElem hi, Option.getD_some]
            rw [v7]; rfl
          refine ⟨fun Q E q => pyIter_li (st24 _ _ gI) rfl q, ?_⟩
          refine tup_comp2 (I := h22.objs.size) (R0 := D) (n := rs.length) (c0 := c22) (f0 := fun i => e (pl (zs.getD i it0))) (f1 := f1) (Ts := fun i => adOf (zs.getD i it0).v) (by exact hA) (by rfl) (by rfl) (by rfl) (by decide) (by lia)
            (st24 _ _ gI) (by rw [← hzv]; exact st24 _ _ (st22p _ _ (N22 _ (.head _)).1)) (fun i hi => (hf1 i hi).imp fun mm g => st24 _ _ (st22p _ _ g)) hC hD2 nDC (nof C nC) (nof D2 nD) (by decide) ?_
          intro h25 tk25 m25 c25 n25 g25 k25
          refine ⟨rfl, m25, n25, fun h26 s26 => ?_⟩
          have bC : B₂.get? C = none := none_sub F22.keep (none_sub st22p nC)
          have bD2 : B₂.get? D2 = none := none_sub F22.keep (none_sub st22p nD)
          have keepB : B₂.StaysIn h26 := fun a o q => s26.extBut _ _ (fun r => by rw [r, bC] at q; cases q) (k25 _ _ (fun r => by rw [List.mem_singleton.mp r, hIB] at q; cases q) (fun r => by rw [r, bC] at q; cases q) (fun r => by rw [r, bD2] at q; cases q) (st24 _ _ (st22p _ _ (F22.keep _ _ q))))
          refine h D2 h26 _ c25 (fun a o q => keepB _ _ (stB2 _ _ q)) (none_sub stB2 bD2) ?_ (frB2.trans (Framed.of_keeps keepB))
          have g26 := s26.extBut _ _ nDC g25
          rw [places_map hzm hzl, ← hmin, take_min] at g26
          exact g26
      · exact hq
end
-- NS
section
variable {prog : Program} {w : World} {A : Around} {s : Shared} {b : Heap} {mg mb : Str → Option Value} {mean : ExcName → Option Value} {p : Program} {loose : List Str}
set_option maxHeartbeats 40000000 in
theorem ns_plain {Q E : Value → Shared → Prop} {LST SRC : Addr} {N : Nat} {e : Nat → Value} {x : Nat → Int} {c : Nat} {wish : Int} {t : Tok} {outer : List Env}
    (hd : A.depth ≤ 497) (hu : A.units ≤ 470) (hA : A.handled = none) (hfr : A.frames = some outer) (hff : s.heap.FunFrames b outer)
    (st : b.StaysIn s.heap) (hsz : b.objs.size ≤ s.heap.objs.size) (X : (hd03.heap_39 w.params).In b) (T : Top p loose mean mg mb b)
    (hL : b.get? LST = some (listOf ((List.range N).map e).toArray c)) (hN : 0 < N) (h64 : N < 64)
    (hel : ∀ p, p < N → ∃ a t n, e p = .ref a ∧ b.get? a = some (listOf #[.int (x p) t] n))
    (hsrc : SRC = LST ∨ (s.heap.get? SRC = some (liObj LST 0) ∧ b.get? SRC = none))
    (h : ∀ R h' tk c, b.StaysIn h' → b.get? R = none → h'.get? R = some (listOf (((ordD (fun p => - x p) N).take wish.toNat).map e).toArray c) → Framed outer s.heap h' → Q (.ref R) { s with heap := h', toks := tk }) :
    wpAny (model prog w) A (call (.ref 76) [.int wish t, .ref SRC, .none]) Q E s := by
  have X2 := X.keeps st
  refine wpAny_call ?_
  ((k_dflt (refine' enterC ?k1 ?k2 ?k3 ?k4 ?k6 ?k7 ?k8 ?k9 ?kB ?kD ?_ ?c2 ?c3 ?c4; (case k1 => assumption); (case k2 => assumption); (case k3 => assumption); (case k4 => assumption); (case k6 => k_is); (case k7 => k_is); (case k8 => exact Nat.lt_of_le_of_lt (by assumption) (by decide)); (case k9 => first | exact BindsTo.of_eq rfl | exact binds_K (by assumption) rfl (by k_is) rfl rfl rfl); (case kB => exact rfl); (case kD => decide +kernel); (case c2 => exact rfl); (case c3 => exact rfl); (case c4 => exact rfl))))
  intro L' h₁ tk cells F0 N00 Y hk hs1
  have hY := CellsAre.one Y
  refine e1_2 (hY) ?_
  (try clear hY)
  intro oc zr1 d1
  first | subst zr1 | cases zr1
  clear Y
  have hns : s.heap.get? L' = none := by
    cases q : s.heap.get? L' with
    | none => rfl
    | some o => exact absurd (hs1 _ _ q) (Nat.lt_irrefl _)
  have zz9 : ∃ SA so, h₁.get? SA = some so ∧ SA ≠ L' ∧ b.get? SA = none ∧ Src LST SRC SA so ∧ ∀ a ∈ framesOf outer, a ≠ SA := by
    rcases hsrc with rfl | ⟨q1, q2⟩
    · exact ⟨L' + 1, oc, (N00 _ (.head _)).1, (N00 _ (.head _)).2.1, (N00 _ (.head _)).2.2, .inl rfl, fun a ha q => by
        obtain ⟨_, o, ho, _⟩ := hff.mem ha
        have := hs1 _ _ ho
        rw [q] at this; exact absurd this (Nat.not_lt.mpr (Nat.le_succ _))⟩
    · exact ⟨SRC, _, hk _ _ q1, (fun q => by rw [q, hns] at q1; cases q1), q2, .inr ⟨rfl, rfl⟩, fun a ha q => by
        obtain ⟨_, o, ho, hd⟩ := hff.mem ha
        rw [q, q1] at ho; cases ho; exact hd _ rfl⟩
  refine e2_5 zz9 ?_
  clear zz9
  intro SA so hSA hSL hbS src offS
  have stB : b.StaysIn (cut h₁ L' [SA]) := fun a o q => cut_get (Nat.lt_of_lt_of_le (Heap.lt_size q) F0.above) (fun z => by rw [List.mem_singleton] at z; rw [z, hbS] at q; cases q) (F0.keep _ _ q)
  have F : Fr (cut h₁ L' [SA]) L' h₁ _ := ⟨F0.ns, cut_stays, cut_size⟩
  have N0 : News (cut h₁ L' [SA]) L' h₁ [(SA, so), (L' + 1, oc)] := by
    intro q hq
    simp only [List.mem_cons, List.not_mem_nil, or_false] at hq
    rcases hq with rfl | rfl
    · exact ⟨hSA, hSL, cut_none (.head _)⟩
    · exact ⟨(N00 _ (.head _)).1, (N00 _ (.head _)).2.1, cut_high (Nat.le_succ _)⟩
  have frB : Framed outer s.heap (cut h₁ L' [SA]) := fun a ha m n => by
    refine e3_2 (n) ?_
    (try clear n)
    intro o es ep ho r
    exact ⟨o, es, ep, cut_get (hs1 _ _ ho) (fun z => offS a ha (List.mem_singleton.mp z)) (hk _ _ ho), r⟩
  have XB := X.keeps stB
  have TB := T.keeps stB
  have LB := stB _ _ hL
  (try k_fold)
  clear F0 N00 X2
  generalize hB : cut h₁ L' [SA] = B at *
  (repeat' (first | (k_unfold; (try dsimp only)) | ((fail_if_success (with_reducible first | show wpAny _ _ (exec (Stmt.While _ _ _ _) _) _ _ _ | show wpAny _ _ (eval (Expr.Name (Str.ofString "AttributeError") _) _) _ _ _ | show wpAny _ _ (subscriptTail (Expr.Name _ _) (Expr.Slice _ _ _ _) _ _) _ _ _ | show wpAny _ _ (call (Value.builtin "list.sort") _ _) _ _ _ | show wpAny _ _ (pyIter _) _ _ _ | show wpAny _ _ (call (Value.builtin "len") [Value.ref SRC] _) _ _ _ | show wpAny _ _ (call (Value.ref _) _ _) _ _ _)); (fail_if_success (with_reducible show wpAny _ _ (exec (Stmt.For _ _ _ _ _) _) _ _ _)); (fail_if_success (with_reducible show wpAny _ _ (exec (Stmt.Assign _ (Expr.ListComp _ _ _ _) _) _) _ _ _)); (fail_if_success (with_reducible show wpAny _ _ (eval (Expr.ListComp _ _ _ _) _) _ _ _)); first | ((first | (with_reducible show wpAny _ _ (exec (Stmt.Assign _ _ _) _) _ _ _) | (with_reducible show wpAny _ _ (exec (Stmt.Expr _ _) _) _ _ _) | (with_reducible show wpAny _ _ (exec (Stmt.Return _ _) _) _ _ _)); k_fold) | walk1 | (dsimp only; (with_reducible show wpAny _ _ _ _ _); walk1))))
  ·
    --W1
    refine call_iter_src (by assumption) (by assumption) src LB ?_
    intro IT h2 F2 N2 _
    (repeat' (first | (k_unfold; (try dsimp only)) | ((fail_if_success (with_reducible first | show wpAny _ _ (exec (Stmt.While _ _ _ _) _) _ _ _ | show wpAny _ _ (eval (Expr.Name (Str.ofString "AttributeError") _) _) _ _ _ | show wpAny _ _ (subscriptTail (Expr.Name _ _) (Expr.Slice _ _ _ _) _ _) _ _ _ | show wpAny _ _ (call (Value.builtin "list.sort") _ _) _ _ _ | show wpAny _ _ (pyIter _) _ _ _ | show wpAny _ _ (call (Value.builtin "len") [Value.ref SRC] _) _ _ _ | show wpAny _ _ (call (Value.ref _) _ _) _ _ _)); (fail_if_success (with_reducible show wpAny _ _ (exec (Stmt.For _ _ _ _ _) _) _ _ _)); (fail_if_success (with_reducible show wpAny _ _ (exec (Stmt.Assign _ (Expr.ListComp _ _ _ _) _) _) _ _ _)); (fail_if_success (with_reducible show wpAny _ _ (eval (Expr.ListComp _ _ _ _) _) _ _ _)); first | ((first | (with_reducible show wpAny _ _ (exec (Stmt.Assign _ _ _) _) _ _ _) | (with_reducible show wpAny _ _ (exec (Stmt.Expr _ _) _) _ _ _) | (with_reducible show wpAny _ _ (exec (Stmt.Return _ _) _) _ _ _)); k_fold) | walk1 | (dsimp only; (with_reducible show wpAny _ _ _ _ _); walk1))))
    refine call_object ?_
    rename_i h3 F3 N3
    have F4 := F3.push { cls := .type "object" }
    have N4 := N3.push F3 { cls := .type "object" }
    clear F3 N3
    (repeat' (first | (k_unfold; (try dsimp only)) | ((fail_if_success (with_reducible first | show wpAny _ _ (exec (Stmt.While _ _ _ _) _) _ _ _ | show wpAny _ _ (eval (Expr.Name (Str.ofString "AttributeError") _) _) _ _ _ | show wpAny _ _ (subscriptTail (Expr.Name _ _) (Expr.Slice _ _ _ _) _ _) _ _ _ | show wpAny _ _ (call (Value.builtin "list.sort") _ _) _ _ _ | show wpAny _ _ (pyIter _) _ _ _ | show wpAny _ _ (call (Value.builtin "len") [Value.ref SRC] _) _ _ _ | show wpAny _ _ (call (Value.ref _) _ _) _ _ _)); (fail_if_success (with_reducible show wpAny _ _ (exec (Stmt.For _ _ _ _ _) _) _ _ _)); (fail_if_success (with_reducible show wpAny _ _ (exec (Stmt.Assign _ (Expr.ListComp _ _ _ _) _) _) _ _ _)); (fail_if_success (with_reducible show wpAny _ _ (eval (Expr.ListComp _ _ _ _) _) _ _ _)); first | ((first | (with_reducible show wpAny _ _ (exec (Stmt.Assign _ _ _) _) _ _ _) | (with_reducible show wpAny _ _ (exec (Stmt.Expr _ _) _) _ _ _) | (with_reducible show wpAny _ _ (exec (Stmt.Return _ _) _) _ _ _)); k_fold) | walk1 | (dsimp only; (with_reducible show wpAny _ _ _ _ _); walk1))))
    rename_i h5 F5 N5
    have hIT : h5.get? IT = some (liObj LST 0) := (N5 _ (.tail _ (.head _))).1
    have hITL : IT ≠ L' := (N5 _ (.tail _ (.head _))).2.1
    have hITB : B.get? IT = none := (N5 _ (.tail _ (.head _))).2.2
    have nIT : ∀ {a : Addr} {o : Obj}, B.get? a = some o → a ∉ [IT] := fun q z => by rw [List.mem_singleton.mp z, hITB] at q; cases q
    refine call_min_plain (LST := LST) (N := N) (e := e) (sc := (fun p => - x p)) (B := hideAll h5 [IT]) (V := fun i v => v = e i) (d := .ref h3.objs.size) hA (hideAll_get _ (F5.keep _ _ LB) (nIT LB)) (hideAll_none _ (.head _)) (fun a o q => of_hideAll _ q) hIT (fun i _ => rfl) ?_ ?_
    · rintro i j v v' s' Q' E' rfl rfl hi hj st' hq
      refine e3_2 (hel i hi) ?_
      intro a1 t1 n1 q1 q2
      refine e3_2 (hel j hj) ?_
      intro a2 t2 n2 q3 q4
      have q2' := stB _ _ q2
      have q4' := stB _ _ q4
      rw [q1, q3]
      rw [show ∀ a b : Int, decide (-a < -b) = decide (b < a) from fun a b => by simp] at hq; exact rich_one_lt (by show A.units + 3 + _ < 9000; lia) (st' _ _ (hideAll_get _ (F5.keep _ _ q2') (nIT q2'))) (st' _ _ (hideAll_get _ (F5.keep _ _ q4') (nIT q4'))) (hq _)
    intro h6 tk6 st6
    have F6 := fr_back F5 (Ne.symm hITL) hITB st6
    have nSI : h3.objs.size ≠ IT := fun q => by
      have z := (N5 _ (.head _)).1
      rw [q, hIT] at z
      have := congrArg Obj.cls (Option.some.inj z); simp [liObj] at this
    have N6 : News B L' h6 [(h3.objs.size, { cls := .type "object" })] := by
      intro q hq
      rw [List.mem_singleton] at hq; subst hq
      exact ⟨st6 _ _ (hideAll_get _ (N5 _ (.head _)).1 fun z => nSI (List.mem_singleton.mp z)), (N5 _ (.head _)).2⟩
    clear F5 N5
    rw [if_neg (Nat.ne_of_gt hN)]
    refine e3_2 (hel ((ordD (fun p => - x p) N).getD 0 0) (ordD_getD0 hN)) ?_
    intro a0 t0 n0 q1 q2
    rw [q1]
    (repeat' (first | (k_unfold; (try dsimp only)) | ((fail_if_success (with_reducible first | show wpAny _ _ (exec (Stmt.While _ _ _ _) _) _ _ _ | show wpAny _ _ (eval (Expr.Name (Str.ofString "AttributeError") _) _) _ _ _ | show wpAny _ _ (subscriptTail (Expr.Name _ _) (Expr.Slice _ _ _ _) _ _) _ _ _ | show wpAny _ _ (call (Value.builtin "list.sort") _ _) _ _ _ | show wpAny _ _ (pyIter _) _ _ _ | show wpAny _ _ (call (Value.builtin "len") [Value.ref SRC] _) _ _ _ | show wpAny _ _ (call (Value.ref _) _ _) _ _ _)); (fail_if_success (with_reducible show wpAny _ _ (exec (Stmt.For _ _ _ _ _) _) _ _ _)); (fail_if_success (with_reducible show wpAny _ _ (exec (Stmt.Assign _ (Expr.ListComp _ _ _ _) _) _) _ _ _)); (fail_if_success (with_reducible show wpAny _ _ (eval (Expr.ListComp _ _ _ _) _) _ _ _)); first | ((first | (with_reducible show wpAny _ _ (exec (Stmt.Assign _ _ _) _) _ _ _) | (with_reducible show wpAny _ _ (exec (Stmt.Expr _ _) _) _ _ _) | (with_reducible show wpAny _ _ (exec (Stmt.Return _ _) _) _ _ _)); k_fold) | walk1 | (dsimp only; (with_reducible show wpAny _ _ _ _ _); walk1))))
    rename_i h7 F7 N7
    refine wpAny_is_ref_other (fun q => ?_) (F7.keep _ _ (stB _ _ q2)) (N7 _ (.head _)).1 (by simp [W.listOf]) ?_
    · have z := (N7 _ (.head _)).2.2
      rw [← q, stB _ _ q2] at z; cases z
    (repeat' (first | (k_unfold; (try dsimp only)) | ((fail_if_success (with_reducible first | show wpAny _ _ (exec (Stmt.While _ _ _ _) _) _ _ _ | show wpAny _ _ (eval (Expr.Name (Str.ofString "AttributeError") _) _) _ _ _ | show wpAny _ _ (subscriptTail (Expr.Name _ _) (Expr.Slice _ _ _ _) _ _) _ _ _ | show wpAny _ _ (call (Value.builtin "list.sort") _ _) _ _ _ | show wpAny _ _ (pyIter _) _ _ _ | show wpAny _ _ (call (Value.builtin "len") [Value.ref SRC] _) _ _ _ | show wpAny _ _ (call (Value.ref _) _ _) _ _ _)); (fail_if_success (with_reducible show wpAny _ _ (exec (Stmt.For _ _ _ _ _) _) _ _ _)); (fail_if_success (with_reducible show wpAny _ _ (exec (Stmt.Assign _ (Expr.ListComp _ _ _ _) _) _) _ _ _)); (fail_if_success (with_reducible show wpAny _ _ (eval (Expr.ListComp _ _ _ _) _) _ _ _)); first | ((first | (with_reducible show wpAny _ _ (exec (Stmt.Assign _ _ _) _) _ _ _) | (with_reducible show wpAny _ _ (exec (Stmt.Expr _ _) _) _ _ _) | (with_reducible show wpAny _ _ (exec (Stmt.Return _ _) _) _ _ _)); k_fold) | walk1 | (dsimp only; (with_reducible show wpAny _ _ _ _ _); walk1))))
    rename_i R h8 F8 N8 _
    refine h _ _ _ 0 (fun a o q => F8.keep _ _ (stB _ _ q)) (none_sub stB (N8 _ (.head _)).2.2) ?_ (frB.trans (Framed.of_keeps F8.keep))
    have : ((ordD (fun p => - x p) N).take (1 : Int).toNat).map e = [.ref a0] := by rw [ordD_take1 hN, List.map_singleton, q1]
    have hw : wish = 1 := by assumption
    rw [hw, this]; exact (N8 _ (.head _)).1
    --W1E
  · have hw1 : wish ≠ 1 := by assumption
    obtain ⟨Q1, hQ1⟩ : ∃ Q1 : Flow → Shared → Prop, Q1 = fun f s' => (f = .next ∧ ∃ h₂ tk₂ m₂ B₂, s' = { s with heap := h₂, toks := tk₂ } ∧ Fr B₂ L' h₂ m₂ ∧ News B₂ L' h₂ [(SA, so), (L' + 1, oc)] ∧ m₂ (Str.ofString "n") = some (.int wish t) ∧ m₂ (Str.ofString "iterable") = some (.ref SRC) ∧
      b.StaysIn B₂ ∧ Framed outer s.heap B₂ ∧ (SRC = LST → wish < N)) ∨ (∃ v, f = .ret v ∧ Q v s') := ⟨_, rfl⟩
    refine wpAny_mono (Q := Q1) ?_ ?_ fun _ _ e => e
    ·
      --TR
      refine wpAny_Try_except ?_
      have src' := src
      rcases src' with rfl | ⟨rfl, rfl⟩
      · (repeat' (first | (k_unfold; (try dsimp only)) | ((fail_if_success (with_reducible first | show wpAny _ _ (exec (Stmt.While _ _ _ _) _) _ _ _ | show wpAny _ _ (eval (Expr.Name (Str.ofString "AttributeError") _) _) _ _ _ | show wpAny _ _ (subscriptTail (Expr.Name _ _) (Expr.Slice _ _ _ _) _ _) _ _ _ | show wpAny _ _ (call (Value.builtin "list.sort") _ _) _ _ _ | show wpAny _ _ (pyIter _) _ _ _ | show wpAny _ _ (call (Value.builtin "len") [Value.ref SRC] _) _ _ _ | show wpAny _ _ (call (Value.ref _) _ _) _ _ _)); (fail_if_success (with_reducible show wpAny _ _ (exec (Stmt.For _ _ _ _ _) _) _ _ _)); (fail_if_success (with_reducible show wpAny _ _ (exec (Stmt.Assign _ (Expr.ListComp _ _ _ _) _) _) _ _ _)); (fail_if_success (with_reducible show wpAny _ _ (eval (Expr.ListComp _ _ _ _) _) _ _ _)); first | ((first | (with_reducible show wpAny _ _ (exec (Stmt.Assign _ _ _) _) _ _ _) | (with_reducible show wpAny _ _ (exec (Stmt.Expr _ _) _) _ _ _) | (with_reducible show wpAny _ _ (exec (Stmt.Return _ _) _) _ _ _)); k_fold) | walk1 | (dsimp only; (with_reducible show wpAny _ _ _ _ _); walk1))))
        refine Calls.call_len_list (PySem.IsL.isList (F.keep _ _ LB)) (by simp; lia) ?_
        rw [show ((List.range N).map e).toArray.size = N by simp]
        (repeat' (first | (k_unfold; (try dsimp only)) | ((fail_if_success (with_reducible first | show wpAny _ _ (exec (Stmt.While _ _ _ _) _) _ _ _ | show wpAny _ _ (eval (Expr.Name (Str.ofString "AttributeError") _) _) _ _ _ | show wpAny _ _ (subscriptTail (Expr.Name _ _) (Expr.Slice _ _ _ _) _ _) _ _ _ | show wpAny _ _ (call (Value.builtin "list.sort") _ _) _ _ _ | show wpAny _ _ (pyIter _) _ _ _ | show wpAny _ _ (call (Value.builtin "len") [Value.ref SRC] _) _ _ _ | show wpAny _ _ (call (Value.ref _) _ _) _ _ _)); (fail_if_success (with_reducible show wpAny _ _ (exec (Stmt.For _ _ _ _ _) _) _ _ _)); (fail_if_success (with_reducible show wpAny _ _ (exec (Stmt.Assign _ (Expr.ListComp _ _ _ _) _) _) _ _ _)); (fail_if_success (with_reducible show wpAny _ _ (eval (Expr.ListComp _ _ _ _) _) _ _ _)); first | ((first | (with_reducible show wpAny _ _ (exec (Stmt.Assign _ _ _) _) _ _ _) | (with_reducible show wpAny _ _ (exec (Stmt.Expr _ _) _) _ _ _) | (with_reducible show wpAny _ _ (exec (Stmt.Return _ _) _) _ _ _)); k_fold) | walk1 | (dsimp only; (with_reducible show wpAny _ _ _ _ _); walk1))))
        · rename_i h4 F4 N4 hge
          show wpAny _ _ (call (.builtin "sorted") [.ref SRC] [(Str.ofString "key", .none)]) _ _ _
          refine call_sorted_one (rev := false) (x := x) (N := N) (e := e) (by show A.units + 3 ≤ 900; lia) (check_sorted1 · _) (fun a => ksk_l1 _ _) (fun R => so_p2 R) (F4.keep _ _ LB) h64 (fun p hp => ?_) ?_
          · refine e3_2 (hel p hp) ?_
            intro a1 t1 n1 q1 q2
            exact ⟨a1, t1, n1, q1, F4.keep _ _ (stB _ _ q2)⟩
          intro R h5 tk5 c5 st5 hR5 gR5
          have F5 := fr_keeps F4 st5
          have nRL : R ≠ L' := fun q => by obtain ⟨o, ho⟩ := ns_there F4.ns; rw [← q, hR5] at ho; cases ho
          have N5 : News B L' h5 [(R, listOf ((ordD (fun p => if false then x p else - x p) N).map e).toArray c5)] := fun q hq => by
            rw [List.mem_singleton] at hq; subst hq
            exact ⟨gR5, nRL, none_sub F4.keep hR5⟩
          clear F4 N4
          (repeat' (first | (k_unfold; (try dsimp only)) | ((fail_if_success (with_reducible first | show wpAny _ _ (exec (Stmt.While _ _ _ _) _) _ _ _ | show wpAny _ _ (eval (Expr.Name (Str.ofString "AttributeError") _) _) _ _ _ | show wpAny _ _ (subscriptTail (Expr.Name _ _) (Expr.Slice _ _ _ _) _ _) _ _ _ | show wpAny _ _ (call (Value.builtin "list.sort") _ _) _ _ _ | show wpAny _ _ (pyIter _) _ _ _ | show wpAny _ _ (call (Value.builtin "len") [Value.ref SRC] _) _ _ _ | show wpAny _ _ (call (Value.ref _) _ _) _ _ _)); (fail_if_success (with_reducible show wpAny _ _ (exec (Stmt.For _ _ _ _ _) _) _ _ _)); (fail_if_success (with_reducible show wpAny _ _ (exec (Stmt.Assign _ (Expr.ListComp _ _ _ _) _) _) _ _ _)); (fail_if_success (with_reducible show wpAny _ _ (eval (Expr.ListComp _ _ _ _) _) _ _ _)); first | ((first | (with_reducible show wpAny _ _ (exec (Stmt.Assign _ _ _) _) _ _ _) | (with_reducible show wpAny _ _ (exec (Stmt.Expr _ _) _) _ _ _) | (with_reducible show wpAny _ _ (exec (Stmt.Return _ _) _) _ _ _)); k_fold) | walk1 | (dsimp only; (with_reducible show wpAny _ _ _ _ _); walk1))))
          refine kmk_slice F5 N5 (PySem.IsL.isList gR5) .none (.int _ _) ?_ (by with_unfolding_all rfl) (by intro _; with_unfolding_all rfl) (by simp [ordD_len, sizeLine_eq]; lia)
          intro R6 h6 F6 N6 _
          subst hQ1
          refine .inr ⟨_, rfl, h _ _ _ 0 (fun a o q => F6.keep _ _ (stB _ _ q)) (none_sub stB (N6 _ (.head _)).2.2) ?_ (frB.trans (Framed.of_keeps F6.keep))⟩
          have z := (N6 _ (.head _)).1
          have e1 : ∀ k : Nat, slicePick (((ordD (fun p => if false then x p else - x p) N).map e).toArray) none (some (k : Int)) none = (((ordD (fun p => - x p) N).take (k : Int).toNat).map e).toArray := fun k => by
            rw [slicePick_upto']; simp [List.map_take]
          have e2 : wish = ((wish.toNat : Nat) : Int) := by lia
          rw [e2, e1, ← e2] at z; exact z
        · rename_i h4 F4 N4 hge
          subst hQ1
          exact .inl ⟨rfl, h4, _, _, B, rfl, F4, N4, rfl, rfl, stB, frB, fun _ => by lia⟩
      · (repeat' (first | (k_unfold; (try dsimp only)) | ((fail_if_success (with_reducible first | show wpAny _ _ (exec (Stmt.While _ _ _ _) _) _ _ _ | show wpAny _ _ (eval (Expr.Name (Str.ofString "AttributeError") _) _) _ _ _ | show wpAny _ _ (subscriptTail (Expr.Name _ _) (Expr.Slice _ _ _ _) _ _) _ _ _ | show wpAny _ _ (call (Value.builtin "list.sort") _ _) _ _ _ | show wpAny _ _ (pyIter _) _ _ _ | show wpAny _ _ (call (Value.builtin "len") [Value.ref SRC] _) _ _ _ | show wpAny _ _ (call (Value.ref _) _ _) _ _ _)); (fail_if_success (with_reducible show wpAny _ _ (exec (Stmt.For _ _ _ _ _) _) _ _ _)); (fail_if_success (with_reducible show wpAny _ _ (exec (Stmt.Assign _ (Expr.ListComp _ _ _ _) _) _) _ _ _)); (fail_if_success (with_reducible show wpAny _ _ (eval (Expr.ListComp _ _ _ _) _) _ _ _)); first | ((first | (with_reducible show wpAny _ _ (exec (Stmt.Assign _ _ _) _) _ _ _) | (with_reducible show wpAny _ _ (exec (Stmt.Expr _ _) _) _ _ _) | (with_reducible show wpAny _ _ (exec (Stmt.Return _ _) _) _ _ _)); k_fold) | walk1 | (dsimp only; (with_reducible show wpAny _ _ _ _ _); walk1))))
        refine call_len_li (N0 _ (.head _)).1 hA fun h2 tk2 ex hx => ?_
        refine noted1 (B := hideAll h₁ (L' :: framesOf outer)) (outer := outer) (L := L') (by show A.frames.map _ = _; rw [hfr]; rfl) rfl ?_ (fun a o q => of_hideAll _ q) hx ?_
        · refine Heap.FunFrames.cons (by intro q; cases q) rfl F.ns (hideAll_none _ (.head _)) (hide_frames (b := b) (hff.of_keeps fun a o q _ => ⟨o, hk _ _ q, rfl⟩) fun env he a ha => .tail _ (framesOf_mem env he a ha))
        intro h3 a0 hen st3 ff3 tr3 up3
        refine e5_9 (tr3) ?_
        (try clear tr3)
        intro oe vs TT oT ts g1 zr6 g3 g4 g5 g6 g7 g8 g9
        rcases zr6 with ⟨g2, g2'⟩
        have hL1 := ns_there F.ns
        have exL : ex ≠ L' := fun q => by obtain ⟨o, ho⟩ := hL1; rw [q] at hx; rw [hx.new] at ho; cases ho
        have TL : TT ≠ L' := fun q => by
          refine e3_3 (up3.ns F.ns) ?_
          intro o es ep ho hdd _
          rw [← q, g7] at ho; cases ho; rw [g8] at hdd; cases hdd
        have keep3 : ∀ a o, h₁.get? a = some o → a ∉ L' :: framesOf outer → h3.get? a = some o := fun a o q1 q2 => st3 _ _ (hideAll_get _ q1 q2)
        have frL : ∀ a ∈ framesOf outer, a < L' := fun a ha => by obtain ⟨_, o, ho, _⟩ := hff.mem ha; exact hs1 _ _ ho
        have offL : ∀ a, L' ≤ a → a ∉ framesOf outer := fun a ha z => absurd (frL a z) (Nat.not_lt.mpr ha)
        have kS : SRC ∉ L' :: framesOf outer := fun z => by rcases List.mem_cons.mp z with q | q; exact hSL q; exact offS _ q rfl
        have kc : (L' + 1 : Nat) ∉ L' :: framesOf outer := fun z => by rcases List.mem_cons.mp z with q | q; exact absurd q (Nat.succ_ne_self _); exact offL _ (Nat.le_succ _) q
        have gS := keep3 _ _ (N0 _ (.head _)).1 kS
        have gc := keep3 _ _ (N0 _ (.tail _ (.head _))).1 kc
        have bH : b.StaysIn (hideAll h₁ (L' :: framesOf outer)) := fun a o q => hideAll_get _ (F.keep _ _ (stB _ _ q)) fun z => by
          rcases List.mem_cons.mp z with r | r
          · have := F.above; have := Heap.lt_size (stB _ _ q); rw [r] at this; exact absurd this (Nat.not_lt.mpr F.above)
          · obtain ⟨n0, _⟩ := hff.mem r; rw [q] at n0; cases n0
        have nSE : SRC ≠ ex := fun q => by have := (N0 _ (.head _)).1; rw [q, hx.new] at this; cases this
        have nST : SRC ≠ TT := fun q => by rw [← q, hideAll_get _ (N0 _ (.head _)).1 kS] at g5; cases g5
        have ncT : (L' + 1 : Nat) ≠ TT := fun q => by rw [← q, hideAll_get _ (N0 _ (.tail _ (.head _))).1 kc] at g5; cases g5
        have stB3 : b.StaysIn (cut h3 L' [SRC, ex, TT]) := fun a o q => cut_get (Nat.lt_of_lt_of_le (Heap.lt_size (stB _ _ q)) F.above) (fun z => by
          simp only [List.mem_cons, List.not_mem_nil, or_false] at z
          rcases z with rfl | rfl | rfl
          · rw [hbS] at q; cases q
          · rw [none_sub bH hen] at q; cases q
          · rw [none_sub bH g5] at q; cases q) (st3 _ _ (bH _ _ q))
        have frB3 : Framed outer s.heap (cut h3 L' [SRC, ex, TT]) := fun a ha m n => by
          refine e3_3 (n) ?_
          (try clear n)
          intro o es ep ho hdd r
          obtain ⟨sl, z⟩ := up3 _ _ (hk _ _ ho) fun vs q => by rw [hdd] at q; cases q
          refine ⟨_, es, ep, cut_get (frL a ha) (fun y => ?_) z, hdd, r⟩
          simp only [List.mem_cons, List.not_mem_nil, or_false] at y
          rcases y with y | y | y
          · exact offS a ha y
          · rw [y] at ho; have hn := hx.new; rw [hk _ _ ho] at hn; cases hn
          · rw [y, g7] at z; cases z; rw [hdd] at g8; cases g8
        have F3 : Fr (cut h3 L' [SRC, ex, TT]) L' h3 _ := ⟨up3.ns F.ns, cut_stays, cut_size⟩
        have N3 : News (cut h3 L' [SRC, ex, TT]) L' h3 [(ex, oe), (TT, oT), (SRC, liObj LST 0), (L' + 1, oc)] := by
          intro q hq
          simp only [List.mem_cons, List.not_mem_nil, or_false] at hq
          rcases hq with rfl | rfl | rfl | rfl
          · exact ⟨g1, exL, cut_none (by simp)⟩
          · exact ⟨g7, TL, cut_none (by simp)⟩
          · exact ⟨gS, hSL, cut_none (by simp)⟩
          · exact ⟨gc, Nat.succ_ne_self _, cut_high (Nat.le_succ _)⟩
        have XB3 := X.keeps stB3
        have TB3 := T.keeps stB3
        clear F N0 XB TB frB LB
        generalize hB3 : cut h3 L' [SRC, ex, TT] = B3 at *
        refine wpAny_handleBy_tup2 (T1 := "TypeError") (T2 := "AttributeError") (X := "TypeError") (b1 := true) (b2 := false) (isSubtype_of_subB (by decide +kernel)) (isSubtype_of_subB (by decide +kernel)) (isSubtype_of_subB (by decide +kernel)) (isSubtype_of_subB (by decide +kernel)) (isSubtype_of_subB (by decide +kernel)) (isSubtype_of_subB (by decide +kernel)) ?_
        (repeat' (first | (k_unfold; (try dsimp only)) | ((fail_if_success (with_reducible first | show wpAny _ _ (exec (Stmt.While _ _ _ _) _) _ _ _ | show wpAny _ _ (eval (Expr.Name (Str.ofString "AttributeError") _) _) _ _ _ | show wpAny _ _ (subscriptTail (Expr.Name _ _) (Expr.Slice _ _ _ _) _ _) _ _ _ | show wpAny _ _ (call (Value.builtin "list.sort") _ _) _ _ _ | show wpAny _ _ (pyIter _) _ _ _ | show wpAny _ _ (call (Value.builtin "len") [Value.ref SRC] _) _ _ _ | show wpAny _ _ (call (Value.ref _) _ _) _ _ _)); (fail_if_success (with_reducible show wpAny _ _ (exec (Stmt.For _ _ _ _ _) _) _ _ _)); (fail_if_success (with_reducible show wpAny _ _ (exec (Stmt.Assign _ (Expr.ListComp _ _ _ _) _) _) _ _ _)); (fail_if_success (with_reducible show wpAny _ _ (eval (Expr.ListComp _ _ _ _) _) _ _ _)); first | ((first | (with_reducible show wpAny _ _ (exec (Stmt.Assign _ _ _) _) _ _ _) | (with_reducible show wpAny _ _ (exec (Stmt.Expr _ _) _) _ _ _) | (with_reducible show wpAny _ _ (exec (Stmt.Return _ _) _) _ _ _)); k_fold) | walk1 | (dsimp only; (with_reducible show wpAny _ _ _ _ _); walk1))))
        refine' nameX_B (v := .type "AttributeError") ?zF ?zX ?zT ?ze ?zv ?zn ?_ ?za ?zb ?zc; (case zF => k_asm); (case zX => k_asm); (case zT => k_asm); (case za => rfl); (case zb => rfl); (case zc => decide); (case ze => k_is); (case zv => decide +kernel); (case zn => decide)
        (repeat' (first | (k_unfold; (try dsimp only)) | ((fail_if_success (with_reducible first | show wpAny _ _ (exec (Stmt.While _ _ _ _) _) _ _ _ | show wpAny _ _ (eval (Expr.Name (Str.ofString "AttributeError") _) _) _ _ _ | show wpAny _ _ (subscriptTail (Expr.Name _ _) (Expr.Slice _ _ _ _) _ _) _ _ _ | show wpAny _ _ (call (Value.builtin "list.sort") _ _) _ _ _ | show wpAny _ _ (pyIter _) _ _ _ | show wpAny _ _ (call (Value.builtin "len") [Value.ref SRC] _) _ _ _ | show wpAny _ _ (call (Value.ref _) _ _) _ _ _)); (fail_if_success (with_reducible show wpAny _ _ (exec (Stmt.For _ _ _ _ _) _) _ _ _)); (fail_if_success (with_reducible show wpAny _ _ (exec (Stmt.Assign _ (Expr.ListComp _ _ _ _) _) _) _ _ _)); (fail_if_success (with_reducible show wpAny _ _ (eval (Expr.ListComp _ _ _ _) _) _ _ _)); first | ((first | (with_reducible show wpAny _ _ (exec (Stmt.Assign _ _ _) _) _ _ _) | (with_reducible show wpAny _ _ (exec (Stmt.Expr _ _) _) _ _ _) | (with_reducible show wpAny _ _ (exec (Stmt.Return _ _) _) _ _ _)); k_fold) | walk1 | (dsimp only; (with_reducible show wpAny _ _ _ _ _); walk1))))
        · rename_i D4 h4 F4 N4 _
          exact ⟨_, (N4 _ (.head _)).1, rfl, _, rfl⟩
        · rename_i D4 h4 F4 N4 _
          exact ⟨oe, (N4 _ (.tail _ (.head _))).1, g2⟩
        rename_i D4 h4 F4 N4 _
        have hsz3 : 3 < ts.size := (Array.getElem?_eq_some_iff.mp g9).1
        refine wpAny_setFlight_none (tb := TT) (N4 _ (.tail _ (.head _))).1 g3 g4 (N4 _ (.tail _ (.tail _ (.head _)))).1 g8 hsz3 ?_
        have sb := Heap.SameBut.update h4 TT (Obj.mapFields (·.setIfInBounds 3 Value.none))
        have F5 := fr_change F4 N4 (.tail _ (.tail _ (.head _))) sb
        have N5 : News B3 L' _ [(SRC, liObj LST 0), (L' + 1, oc)] := news_same (fun q hq => N4 q (.tail _ (.tail _ (.tail _ hq)))) sb (fun q hq => by
          simp only [List.mem_cons, List.not_mem_nil, or_false] at hq
          rcases hq with rfl | rfl
          · exact nST
          · exact ncT)
        clear F4 N4
        generalize h4.update TT (Obj.mapFields (·.setIfInBounds 3 Value.none)) = h5 at *
        (repeat' (first | (k_unfold; (try dsimp only)) | ((fail_if_success (with_reducible first | show wpAny _ _ (exec (Stmt.While _ _ _ _) _) _ _ _ | show wpAny _ _ (eval (Expr.Name (Str.ofString "AttributeError") _) _) _ _ _ | show wpAny _ _ (subscriptTail (Expr.Name _ _) (Expr.Slice _ _ _ _) _ _) _ _ _ | show wpAny _ _ (call (Value.builtin "list.sort") _ _) _ _ _ | show wpAny _ _ (pyIter _) _ _ _ | show wpAny _ _ (call (Value.builtin "len") [Value.ref SRC] _) _ _ _ | show wpAny _ _ (call (Value.ref _) _ _) _ _ _)); (fail_if_success (with_reducible show wpAny _ _ (exec (Stmt.For _ _ _ _ _) _) _ _ _)); (fail_if_success (with_reducible show wpAny _ _ (exec (Stmt.Assign _ (Expr.ListComp _ _ _ _) _) _) _ _ _)); (fail_if_success (with_reducible show wpAny _ _ (eval (Expr.ListComp _ _ _ _) _) _ _ _)); first | ((first | (with_reducible show wpAny _ _ (exec (Stmt.Assign _ _ _) _) _ _ _) | (with_reducible show wpAny _ _ (exec (Stmt.Expr _ _) _) _ _ _) | (with_reducible show wpAny _ _ (exec (Stmt.Return _ _) _) _ _ _)); k_fold) | walk1 | (dsimp only; (with_reducible show wpAny _ _ _ _ _); walk1))))
        subst hQ1
        exact .inl ⟨rfl, h5, _, _, B3, rfl, F5, N5, rfl, rfl, stB3, frB3, fun q => by rw [q, hL] at hbS; cases hbS⟩
      --TRE
    · intro f s' hq1
      subst hQ1
      rcases hq1 with ⟨rfl, h₂, tk₂, m₂, B₂, rfl, F2, N2, e1, e2, stB2, frB2, hlt⟩ | ⟨v, rfl, hq⟩
      · have XB2 := X.keeps stB2
        have TB2 := T.keeps stB2
        have LB2 := stB2 _ _ hL
        clear F N0 XB TB LB frB stB
        (repeat' (first | (k_unfold; (try dsimp only)) | ((fail_if_success (with_reducible first | show wpAny _ _ (exec (Stmt.While _ _ _ _) _) _ _ _ | show wpAny _ _ (eval (Expr.Name (Str.ofString "AttributeError") _) _) _ _ _ | show wpAny _ _ (subscriptTail (Expr.Name _ _) (Expr.Slice _ _ _ _) _ _) _ _ _ | show wpAny _ _ (call (Value.builtin "list.sort") _ _) _ _ _ | show wpAny _ _ (pyIter _) _ _ _ | show wpAny _ _ (call (Value.builtin "len") [Value.ref SRC] _) _ _ _ | show wpAny _ _ (call (Value.ref _) _ _) _ _ _)); (fail_if_success (with_reducible show wpAny _ _ (exec (Stmt.For _ _ _ _ _) _) _ _ _)); (fail_if_success (with_reducible show wpAny _ _ (exec (Stmt.Assign _ (Expr.ListComp _ _ _ _) _) _) _ _ _)); (fail_if_success (with_reducible show wpAny _ _ (eval (Expr.ListComp _ _ _ _) _) _ _ _)); first | ((first | (with_reducible show wpAny _ _ (exec (Stmt.Assign _ _ _) _) _ _ _) | (with_reducible show wpAny _ _ (exec (Stmt.Expr _ _) _) _ _ _) | (with_reducible show wpAny _ _ (exec (Stmt.Return _ _) _) _ _ _)); k_fold) | walk1 | (dsimp only; (with_reducible show wpAny _ _ _ _ _); walk1))))
        refine call_iter_src (by assumption) (by assumption) src LB2 ?_
        intro IT h3 F3 N3 _
        clear F2 N2
        (repeat' (first | (k_unfold; (try dsimp only)) | ((fail_if_success (with_reducible first | show wpAny _ _ (exec (Stmt.While _ _ _ _) _) _ _ _ | show wpAny _ _ (eval (Expr.Name (Str.ofString "AttributeError") _) _) _ _ _ | show wpAny _ _ (subscriptTail (Expr.Name _ _) (Expr.Slice _ _ _ _) _ _) _ _ _ | show wpAny _ _ (call (Value.builtin "list.sort") _ _) _ _ _ | show wpAny _ _ (pyIter _) _ _ _ | show wpAny _ _ (call (Value.builtin "len") [Value.ref SRC] _) _ _ _ | show wpAny _ _ (call (Value.ref _) _ _) _ _ _)); (fail_if_success (with_reducible show wpAny _ _ (exec (Stmt.For _ _ _ _ _) _) _ _ _)); (fail_if_success (with_reducible show wpAny _ _ (exec (Stmt.Assign _ (Expr.ListComp _ _ _ _) _) _) _ _ _)); (fail_if_success (with_reducible show wpAny _ _ (eval (Expr.ListComp _ _ _ _) _) _ _ _)); first | ((first | (with_reducible show wpAny _ _ (exec (Stmt.Assign _ _ _) _) _ _ _) | (with_reducible show wpAny _ _ (exec (Stmt.Expr _ _) _) _ _ _) | (with_reducible show wpAny _ _ (exec (Stmt.Return _ _) _) _ _ _)); k_fold) | walk1 | (dsimp only; (with_reducible show wpAny _ _ _ _ _); walk1))))
        refine zip_assign (B := B₂) (L := L') (LST := LST) (IT := IT) (cc := L' + 1) (oc := oc) (m := fun y => if y = Str.ofString "it" then some (.ref IT) else m₂ y) (cl := []) (a0 := 0) (step := 1) (n := min wish.toNat N) (left := wish.toNat) (N := N) (e := e) (c0 := c) (fun j y nw => ∃ T ti, y = .ref T ∧ nw = [(T, { cls := .type "tuple", data := .seq #[e j, .int (0 + j * (1)) ti] })])
          (by rfl) (by with_unfolding_all rfl) (by with_unfolding_all rfl) (by decide +kernel) (by decide +kernel) (by rfl) (by rfl) (by intro _; rfl) (by exact hA) (by rfl) (by rfl) (by rfl) (by decide) (by rfl) (by lia) d1 LB2 ?_ ?_ ?_
        · (repeat' (first | (k_unfold; (try dsimp only)) | ((fail_if_success (with_reducible first | show wpAny _ _ (exec (Stmt.While _ _ _ _) _) _ _ _ | show wpAny _ _ (eval (Expr.Name (Str.ofString "AttributeError") _) _) _ _ _ | show wpAny _ _ (subscriptTail (Expr.Name _ _) (Expr.Slice _ _ _ _) _ _) _ _ _ | show wpAny _ _ (call (Value.builtin "list.sort") _ _) _ _ _ | show wpAny _ _ (pyIter _) _ _ _ | show wpAny _ _ (call (Value.builtin "len") [Value.ref SRC] _) _ _ _ | show wpAny _ _ (call (Value.ref _) _ _) _ _ _)); (fail_if_success (with_reducible show wpAny _ _ (exec (Stmt.For _ _ _ _ _) _) _ _ _)); (fail_if_success (with_reducible show wpAny _ _ (exec (Stmt.Assign _ (Expr.ListComp _ _ _ _) _) _) _ _ _)); (fail_if_success (with_reducible show wpAny _ _ (eval (Expr.ListComp _ _ _ _) _) _ _ _)); first | ((first | (with_reducible show wpAny _ _ (exec (Stmt.Assign _ _ _) _) _ _ _) | (with_reducible show wpAny _ _ (exec (Stmt.Expr _ _) _) _ _ _) | (with_reducible show wpAny _ _ (exec (Stmt.Return _ _) _) _ _ _)); k_fold) | walk1 | (dsimp only; (with_reducible show wpAny _ _ _ _ _); walk1))))
          exact zip_made (by assumption) (by assumption) (by assumption) (size_up wish) ⟨_, _, rfl⟩
        · intro j h m₃ tk t E' C hj hn q1 q2 _ _
          refine Tuple_ (spliced_more (load_c rfl rfl hn q2 (spliced_more (load_c rfl rfl hn q1 (spliced_none ?_)))))
          refine wpAny_newObj_type ⟨_, _, [(h.objs.size, _)], rfl, fun a o q => Heap.get?_push_of_some _ q, ⟨_, t, rfl, rfl⟩, fun q hq => ?_⟩
          rw [List.mem_singleton] at hq; subst hq
          exact ⟨Heap.get?_push_size _ rfl, Heap.get?_none_of_le (Nat.le_refl _)⟩
        intro D h8 tk8 io c8 rs hlen hYP F8 N8 hio
        have hmin : min wish.toNat N = rs.length := hlen.symm
        (repeat' (first | (k_unfold; (try dsimp only)) | ((fail_if_success (with_reducible first | show wpAny _ _ (exec (Stmt.While _ _ _ _) _) _ _ _ | show wpAny _ _ (eval (Expr.Name (Str.ofString "AttributeError") _) _) _ _ _ | show wpAny _ _ (subscriptTail (Expr.Name _ _) (Expr.Slice _ _ _ _) _ _) _ _ _ | show wpAny _ _ (call (Value.builtin "list.sort") _ _) _ _ _ | show wpAny _ _ (pyIter _) _ _ _ | show wpAny _ _ (call (Value.builtin "len") [Value.ref SRC] _) _ _ _ | show wpAny _ _ (call (Value.ref _) _ _) _ _ _)); (fail_if_success (with_reducible show wpAny _ _ (exec (Stmt.For _ _ _ _ _) _) _ _ _)); (fail_if_success (with_reducible show wpAny _ _ (exec (Stmt.Assign _ (Expr.ListComp _ _ _ _) _) _) _ _ _)); (fail_if_success (with_reducible show wpAny _ _ (eval (Expr.ListComp _ _ _ _) _) _ _ _)); first | ((first | (with_reducible show wpAny _ _ (exec (Stmt.Assign _ _ _) _) _ _ _) | (with_reducible show wpAny _ _ (exec (Stmt.Expr _ _) _) _ _ _) | (with_reducible show wpAny _ _ (exec (Stmt.Return _ _) _) _ _ _)); k_fold) | walk1 | (dsimp only; (with_reducible show wpAny _ _ _ _ _); walk1))))
        · have he : (rs.map (·.1)).isEmpty = true := by assumption
          have he' : rs = [] := by simpa using he
          have hw0 : wish.toNat = 0 := by rw [he'] at hmin; simp at hmin; lia
          refine h D h8 _ c8 (fun a o q => F8.keep _ _ (stB2 _ _ q)) (none_sub stB2 (N8 _ (.head _)).2.2) ?_ (frB2.trans (Framed.of_keeps F8.keep))
          rw [hw0, List.take_zero]
          have z := (N8 _ (.head _)).1
          rw [he'] at z; exact z
        have he : (rs.map (·.1)).isEmpty = false := by assumption
        have hpos : 0 < rs.length := by cases rs with | nil => simp at he | cons a r => simp
        have hle : rs.length ≤ N := by lia
        have I0 : Items x e TupP false (rs.flatMap (·.2)) (mkIts x e false rs) rs.length (rs.length : Int) := mkIts_items (dn := false) fun j r hr => by
          refine e2_2 (hYP j r hr) ?_
          intro T ti q1 q2
          exact ⟨T, _, q1, q2, ti, _, rfl⟩
        rw [← mkIts_v (x := x) (e := e) (dn := false)] at N8
        have B0 : Best (fun p => - x p) (fun a b => ltI b a) rs.length rs.length (hfy (fun a b => ltI b a) (mkIts x e false rs) ((mkIts x e false rs).length / 2)) := by
          have z := best_start (sc := (fun p => - x p)) sw_ltI.flip (its := mkIts x e false rs) (by rw [mkIts_len]; exact hpos) (by rw [mkIts_pl, mkIts_len])
          rw [mkIts_len] at z ⊢; exact z
        generalize hits : mkIts x e false rs = its at *
        generalize hts : rs.flatMap (·.2) = ts at *
        have hil : its.length = rs.length := by rw [← hits]; exact mkIts_len
        have LD := (N8 _ (.head _)).2.1
        have BD := (N8 _ (.head _)).2.2
        have hel2 : ∀ p, p < N → ∃ a t n, e p = .ref a ∧ B₂.get? a = some (listOf #[.int (x p) t] n) := fun p hp => by obtain ⟨a, t, n, q1, q2⟩ := hel p hp; exact ⟨a, t, n, q1, stB2 _ _ q2⟩
        have P0 := items_plain (B := B₂) (N := N) I0 hle hel2 F8.keep (N8 _ (.head _)).1 BD fun q hq => (N8 q (.tail _ (.tail _ (.tail _ hq)))).1
        refine heapify_max (b := hideAll h8 [D]) (xs := its) (n := c8) (lt := ltI) (S := Plain (hideAll h8 [D])) (by show A.depth + 1 ≤ 498; lia) (by show A.units + 3 ≤ 480; lia) hA (fun a o q => of_hideAll _ q) (by rw [hideAll_size]; exact Nat.le_refl _) (XB2.keeps (stays_hide F8.keep BD)) (TB2.keeps (stays_hide F8.keep BD)) (N8 _ (.head _)).1 (hideAll_none _ (.head _)) P0 cmp_plain (by lia) ?_
        intro h9 tk9 st9 gD9
        have F9 := fr_back F8 (Ne.symm LD) BD st9
        have tsT : ∀ q ∈ ts, q.2.cls = .type "tuple" := by
          intro q hq
          rw [← hts] at hq
          refine e1_2 (List.mem_flatMap.mp hq) ?_
          intro r hr hq
          obtain ⟨j, hj, rfl⟩ := List.getElem_of_mem hr
          refine e2_2 (hYP j rs[j] (List.getElem?_eq_getElem hj)) ?_
          intro T ti q1 q2
          rw [q2, List.mem_singleton] at hq; subst hq; rfl
        have io_f : ∃ vs, io.data = .fields vs := by rcases hio with ⟨rfl, _⟩ | ⟨rfl, _⟩ <;> exact ⟨_, rfl⟩
        have off1 : ∀ (items : Array Value) (c : Nat), ∀ q ∈ (IT, io) :: (L' + 1, oc) :: ts, q.2 ≠ listOf items c := by
          intro items c q hq z
          rcases List.mem_cons.mp hq with rfl | hq
          · obtain ⟨vs, hv⟩ := io_f; dsimp only at z; rw [z] at hv; simp [W.listOf] at hv
          rcases List.mem_cons.mp hq with rfl | hq
          · dsimp only at z; rw [z] at d1; simp [W.listOf] at d1
          · have := tsT q hq; rw [z] at this; simp [W.listOf] at this
        have N9 := news_back1 N8 (off1 _ _) st9 gD9
        clear F8 N8
        have Ih := I0.sub (its' := hfy (fun a b => ltI b a) its (its.length / 2)) fun u hu => (heapify_spec sw_ltI.flip its).2.mem_iff.mp hu
        generalize hfy (fun a b => ltI b a) its (its.length / 2) = hs at *
        have hsl := B0.len
        (repeat' (first | (k_unfold; (try dsimp only)) | ((fail_if_success (with_reducible first | show wpAny _ _ (exec (Stmt.While _ _ _ _) _) _ _ _ | show wpAny _ _ (eval (Expr.Name (Str.ofString "AttributeError") _) _) _ _ _ | show wpAny _ _ (subscriptTail (Expr.Name _ _) (Expr.Slice _ _ _ _) _ _) _ _ _ | show wpAny _ _ (call (Value.builtin "list.sort") _ _) _ _ _ | show wpAny _ _ (pyIter _) _ _ _ | show wpAny _ _ (call (Value.builtin "len") [Value.ref SRC] _) _ _ _ | show wpAny _ _ (call (Value.ref _) _ _) _ _ _)); (fail_if_success (with_reducible show wpAny _ _ (exec (Stmt.For _ _ _ _ _) _) _ _ _)); (fail_if_success (with_reducible show wpAny _ _ (exec (Stmt.Assign _ (Expr.ListComp _ _ _ _) _) _) _ _ _)); (fail_if_success (with_reducible show wpAny _ _ (eval (Expr.ListComp _ _ _ _) _) _ _ _)); first | ((first | (with_reducible show wpAny _ _ (exec (Stmt.Assign _ _ _) _) _ _ _) | (with_reducible show wpAny _ _ (exec (Stmt.Expr _ _) _) _ _ _) | (with_reducible show wpAny _ _ (exec (Stmt.Return _ _) _) _ _ _)); k_fold) | walk1 | (dsimp only; (with_reducible show wpAny _ _ _ _ _); walk1))))
        have I1 : Items x e TupP false ts hs rs.length (wish) := ⟨Ih.good, Ih.idx, fun u hu => by have := Ih.ord u hu; simp only [Bool.false_eq_true, if_false, if_true] at this ⊢; lia⟩
        have r0 : ge hs 0 ∈ hs := ge_mem (by lia)
        obtain ⟨T0, o0, p0, v0, k0, e0, l0, m0, ti0, mm0, ho0⟩ := I1.good _ r0
        rw [show (hs.getD (Int.toNat 0) it0).v = .ref T0 from v0]
        have gT0 := (N9 _ (.tail _ (.tail _ (.tail _ m0)))).1
        rw [ho0] at gT0
        refine tail_any ⟨_, gT0, rfl⟩ F.slot_tuple_getitem.lookup (P.getItem_tuple gT0 (by decide) (by decide) (k := 0) rfl rfl ?_) (by with_unfolding_all rfl)
        rw [e0]
        (repeat' (first | (k_unfold; (try dsimp only)) | ((fail_if_success (with_reducible first | show wpAny _ _ (exec (Stmt.While _ _ _ _) _) _ _ _ | show wpAny _ _ (eval (Expr.Name (Str.ofString "AttributeError") _) _) _ _ _ | show wpAny _ _ (subscriptTail (Expr.Name _ _) (Expr.Slice _ _ _ _) _ _) _ _ _ | show wpAny _ _ (call (Value.builtin "list.sort") _ _) _ _ _ | show wpAny _ _ (pyIter _) _ _ _ | show wpAny _ _ (call (Value.builtin "len") [Value.ref SRC] _) _ _ _ | show wpAny _ _ (call (Value.ref _) _ _) _ _ _)); (fail_if_success (with_reducible show wpAny _ _ (exec (Stmt.For _ _ _ _ _) _) _ _ _)); (fail_if_success (with_reducible show wpAny _ _ (exec (Stmt.Assign _ (Expr.ListComp _ _ _ _) _) _) _ _ _)); (fail_if_success (with_reducible show wpAny _ _ (eval (Expr.ListComp _ _ _ _) _) _ _ _)); first | ((first | (with_reducible show wpAny _ _ (exec (Stmt.Assign _ _ _) _) _ _ _) | (with_reducible show wpAny _ _ (exec (Stmt.Expr _ _) _) _ _ _) | (with_reducible show wpAny _ _ (exec (Stmt.Return _ _) _) _ _ _)); k_fold) | walk1 | (dsimp only; (with_reducible show wpAny _ _ _ _ _); walk1))))
        rename_i h12 F12 N12
        obtain ⟨Q2, hQ2⟩ : ∃ Q2 : Flow → Shared → Prop, Q2 = fun f s' => f = .next ∧ ∃ its ts h tk m₃ od, s' = { s with heap := h, toks := tk } ∧ Fr B₂ L' h m₃ ∧ News B₂ L' h ((D, listOf (its.map It.v).toArray c8) :: ts) ∧ m₃ (Str.ofString "result") = some (.ref D) ∧
          Items x e TupP false ts its N od ∧ Best (fun p => - x p) (fun a b => ltI b a) rs.length N its ∧ (∀ q ∈ ts, q.2.cls = .type "tuple") := ⟨_, rfl⟩
        refine wpAny_mono (Q := Q2) ?_ ?_ fun _ _ e => e
        ·
          --FOR
          refine wpAny_For ?_
          (repeat' (first | (k_unfold; (try dsimp only)) | ((fail_if_success (with_reducible first | show wpAny _ _ (exec (Stmt.While _ _ _ _) _) _ _ _ | show wpAny _ _ (eval (Expr.Name (Str.ofString "AttributeError") _) _) _ _ _ | show wpAny _ _ (subscriptTail (Expr.Name _ _) (Expr.Slice _ _ _ _) _ _) _ _ _ | show wpAny _ _ (call (Value.builtin "list.sort") _ _) _ _ _ | show wpAny _ _ (pyIter _) _ _ _ | show wpAny _ _ (call (Value.builtin "len") [Value.ref SRC] _) _ _ _ | show wpAny _ _ (call (Value.ref _) _ _) _ _ _)); (fail_if_success (with_reducible show wpAny _ _ (exec (Stmt.For _ _ _ _ _) _) _ _ _)); (fail_if_success (with_reducible show wpAny _ _ (exec (Stmt.Assign _ (Expr.ListComp _ _ _ _) _) _) _ _ _)); (fail_if_success (with_reducible show wpAny _ _ (eval (Expr.ListComp _ _ _ _) _) _ _ _)); first | ((first | (with_reducible show wpAny _ _ (exec (Stmt.Assign _ _ _) _) _ _ _) | (with_reducible show wpAny _ _ (exec (Stmt.Expr _ _) _) _ _ _) | (with_reducible show wpAny _ _ (exec (Stmt.Return _ _) _) _ _ _)); k_fold) | walk1 | (dsimp only; (with_reducible show wpAny _ _ _ _ _); walk1))))
          have io_c : io.cls = .type "list_iterator" := by rcases hio with ⟨rfl, _⟩ | ⟨rfl, _⟩ <;> rfl
          refine pyIter_li (N12 _ (.tail _ (.head _))).1 io_c ?_
          obtain ⟨IV, hIV⟩ : ∃ IV : Nat → Shared → Prop, IV = fun k s' => ∃ j its ts h tk m₃ io od tod, k = N + 1 - j ∧ rs.length ≤ j ∧ j ≤ N ∧ s' = { s with heap := h, toks := tk } ∧ Fr B₂ L' h m₃ ∧ News B₂ L' h ((D, listOf (its.map It.v).toArray c8) :: (IT, io) :: (L' + 1, oc) :: ts) ∧ (io = liObj LST j ∨ (io = liEnd N ∧ j = N)) ∧
            m₃ (Str.ofString "result") = some (.ref D) ∧ m₃ (Str.ofString "top") = some (e (pl (ge its 0))) ∧ m₃ (Str.ofString "order") = some (.int od tod) ∧ m₃ (Str.ofString "_heapreplace") = some (.ref 35) ∧
            Items x e TupP false ts its j od ∧ Best (fun p => - x p) (fun a b => ltI b a) rs.length j its ∧ (∀ q ∈ ts, q.2.cls = .type "tuple") := ⟨_, rfl⟩
          refine codeF IV (N + 1 - rs.length) ?_ ?_
          · subst hIV
            refine ⟨rs.length, hs, ts, _, _, _, io, wish, _, rfl, Nat.le_refl _, hle, rfl, F12, N12, ?_, rfl, ?_, rfl, rfl, I1, B0, tsT⟩
            · rcases hio with ⟨rfl, _⟩ | ⟨rfl, h2⟩
              · left; rw [hmin]
              · right; rw [hmin]
                have : rs.length = N := by lia
                rw [this]; exact ⟨rfl, rfl⟩
            · rw [show pl (ge hs 0) = p0 from pl_of k0]; rfl
          clear F12 N12 hio io_f io_c off1 tsT I1 B0 gT0 m0 ho0 v0 k0 e0 l0 r0 Ih hsl gD9
          intro k s' hik
          rw [hIV] at hik
          refine e9_14 (hik) ?_
          (try clear hik)
          intro j its ts h13 tk13 m₃ io od tod zr9 hj1 hj2 zr12 F13 N13 hio e3 e4 e5 e6 I2 B2 tsT
          first | subst zr9 | cases zr9
          first | subst zr12 | cases zr12
          have hlt2 := I2.hlt
          have hil2 := B2.len
          have io_f : ∃ vs, io.data = .fields vs := by rcases hio with rfl | ⟨rfl, _⟩ <;> exact ⟨_, rfl⟩
          have offI : ∀ q ∈ (D, listOf (its.map It.v).toArray c8) :: (L' + 1, oc) :: ts, q.2 ≠ io := by
            intro q hq z
            obtain ⟨vs, hv⟩ := io_f
            rcases List.mem_cons.mp hq with rfl | hq
            · dsimp only at z; rw [← z] at hv; simp [W.listOf] at hv
            rcases List.mem_cons.mp hq with rfl | hq
            · dsimp only at z; rw [← z, d1] at hv; cases hv
            · have hcc := tsT q hq
              rw [z] at hcc
              rcases hio with rfl | ⟨rfl, _⟩
              · simp [liObj] at hcc
              · simp [liEnd] at hcc
          have hIT := N13 _ (.tail _ (.head _))
          by_cases hjN : j < N
          · have hio' : io = liObj LST j := by rcases hio with h1 | ⟨_, h2⟩; exact h1; lia
            subst hio'
            refine pyNext_li_item hIT.1 (F13.keep _ _ LB2) (x := e j) (by simp [hjN]) fun h14 g14 s14 => ?_
            have F14 := fr_ext F13 (Ne.symm hIT.2.1) hIT.2.2 s14.extBut
            have N14 := news_mid N13 offI s14.extBut g14
            clear F13 N13
            (repeat' (first | (k_unfold; (try dsimp only)) | ((fail_if_success (with_reducible first | show wpAny _ _ (exec (Stmt.While _ _ _ _) _) _ _ _ | show wpAny _ _ (eval (Expr.Name (Str.ofString "AttributeError") _) _) _ _ _ | show wpAny _ _ (subscriptTail (Expr.Name _ _) (Expr.Slice _ _ _ _) _ _) _ _ _ | show wpAny _ _ (call (Value.builtin "list.sort") _ _) _ _ _ | show wpAny _ _ (pyIter _) _ _ _ | show wpAny _ _ (call (Value.builtin "len") [Value.ref SRC] _) _ _ _ | show wpAny _ _ (call (Value.ref _) _ _) _ _ _)); (fail_if_success (with_reducible show wpAny _ _ (exec (Stmt.For _ _ _ _ _) _) _ _ _)); (fail_if_success (with_reducible show wpAny _ _ (exec (Stmt.Assign _ (Expr.ListComp _ _ _ _) _) _) _ _ _)); (fail_if_success (with_reducible show wpAny _ _ (eval (Expr.ListComp _ _ _ _) _) _ _ _)); first | ((first | (with_reducible show wpAny _ _ (exec (Stmt.Assign _ _ _) _) _ _ _) | (with_reducible show wpAny _ _ (exec (Stmt.Expr _ _) _) _ _ _) | (with_reducible show wpAny _ _ (exec (Stmt.Return _ _) _) _ _ _)); k_fold) | walk1 | (dsimp only; (with_reducible show wpAny _ _ _ _ _); walk1))))
            rename_i h15 F15 N15
            have r1 : ge its 0 ∈ its := ge_mem (by lia)
            have plt : pl (ge its 0) < j := by
              refine e3_5 (I2.good _ r1) ?_
              intro _ _ p1 _ k1 _ l1 _
              rw [pl_of k1]; exact l1
            refine cmp_e_lt (N := N) (x := x) (by show A.units + 3 < 9000; lia) hel2 F15.keep hjN (by lia) ?_
            (repeat' (first | (k_unfold; (try dsimp only)) | ((fail_if_success (with_reducible first | show wpAny _ _ (exec (Stmt.While _ _ _ _) _) _ _ _ | show wpAny _ _ (eval (Expr.Name (Str.ofString "AttributeError") _) _) _ _ _ | show wpAny _ _ (subscriptTail (Expr.Name _ _) (Expr.Slice _ _ _ _) _ _) _ _ _ | show wpAny _ _ (call (Value.builtin "list.sort") _ _) _ _ _ | show wpAny _ _ (pyIter _) _ _ _ | show wpAny _ _ (call (Value.builtin "len") [Value.ref SRC] _) _ _ _ | show wpAny _ _ (call (Value.ref _) _ _) _ _ _)); (fail_if_success (with_reducible show wpAny _ _ (exec (Stmt.For _ _ _ _ _) _) _ _ _)); (fail_if_success (with_reducible show wpAny _ _ (exec (Stmt.Assign _ (Expr.ListComp _ _ _ _) _) _) _ _ _)); (fail_if_success (with_reducible show wpAny _ _ (eval (Expr.ListComp _ _ _ _) _) _ _ _)); first | ((first | (with_reducible show wpAny _ _ (exec (Stmt.Assign _ _ _) _) _ _ _) | (with_reducible show wpAny _ _ (exec (Stmt.Expr _ _) _) _ _ _) | (with_reducible show wpAny _ _ (exec (Stmt.Return _ _) _) _ _ _)); k_fold) | walk1 | (dsimp only; (with_reducible show wpAny _ _ _ _ _); walk1))))
            · rename_i hxx T5 h16 F16 N16 _
              have I3 := I2.add (y := ⟨.ref T5, [x j, (j : Int)], od, e j⟩) (ts' := (T5, { cls := .type "tuple", data := .seq #[e j, .int od tod] }) :: ts) (fun q hq => .tail _ hq) ⟨T5, _, rfl, rfl, rfl, .head _, tod, _, rfl⟩ rfl
              simp only [Bool.false_eq_true, if_false, if_true] at I3
              have tsT5 : ∀ q ∈ (T5, ({ cls := .type "tuple", data := .seq #[e j, .int od tod] } : Obj)) :: ts, q.2.cls = .type "tuple" := fun q hq => by
                rcases List.mem_cons.mp hq with rfl | hq
                · rfl
                · exact tsT q hq
              have N16' : News B₂ L' h16 ((D, listOf (its.map It.v).toArray c8) :: (IT, liObj LST (j + 1)) :: (L' + 1, oc) :: (T5, { cls := .type "tuple", data := .seq #[e j, .int od tod] }) :: ts) := fun q hq => N16 q (by
                simp only [List.mem_cons] at hq ⊢
                rcases hq with hq | hq | hq | hq | hq
                · exact .inr (.inl hq)
                · exact .inr (.inr (.inl hq))
                · exact .inr (.inr (.inr (.inl hq)))
                · exact .inl hq
                · exact .inr (.inr (.inr (.inr hq))))
              clear N16
              generalize hts5 : (T5, ({ cls := .type "tuple", data := .seq #[e j, .int od tod] } : Obj)) :: ts = ts5 at *
              have P3 := items_plain (B := B₂) (N := N) I3 hjN hel2 F16.keep (N16' _ (.head _)).1 BD fun q hq => (N16' q (.tail _ (.tail _ (.tail _ hq)))).1
              refine heapreplace_max (b := hideAll h16 [D]) (xs := its) (y := ⟨.ref T5, [x j, (j : Int)], od, e j⟩) (n := c8) (lt := ltI) (S := Plain (hideAll h16 [D])) (by show A.depth + 1 ≤ 498; lia) (by show A.units + 3 ≤ 480; lia) (fun a o q => of_hideAll _ q) (by rw [hideAll_size]; exact Nat.le_refl _) (XB2.keeps (stays_hide F16.keep BD)) (TB2.keeps (stays_hide F16.keep BD)) (N16' _ (.head _)).1 (hideAll_none _ (.head _)) (fun v hv => P3 v (.tail _ hv)) (P3 _ (.head _)) cmp_plain (by lia) (by lia) ?_
              intro vv h17 tk17 st17 gD17
              have F17 := fr_back F16 (Ne.symm LD) BD st17
              have N17 := news_back1 N16' (fun q hq z => by
                rcases List.mem_cons.mp hq with rfl | hq
                · dsimp only at z; have := congrArg Obj.data z; simp [liObj, W.listOf] at this
                rcases List.mem_cons.mp hq with rfl | hq
                · dsimp only at z; rw [z] at d1; simp [W.listOf] at d1
                · have := tsT5 q hq; rw [z] at this; simp [W.listOf] at this) st17 gD17
              have hpy : pl (⟨.ref T5, [x j, (j : Int)], od, e j⟩ : It) = j := pl_of (x := x) rfl
              have B4 := B2.in sw_ltI.flip hlt2 hpy (by lia)
              have I4 := I3.sub (its' := sup (fun a b => ltI b a) (its.set 0 ⟨.ref T5, [x j, (j : Int)], od, e j⟩) 0 0 ⟨.ref T5, [x j, (j : Int)], od, e j⟩) (sup_mem' (by rw [List.length_set]; lia) _ (.head _) fun v hv => by
                rcases List.mem_or_eq_of_mem_set hv with h1 | h1
                · exact .tail _ h1
                · rw [h1]; exact .head _)
              generalize sup (fun a b => ltI b a) (its.set 0 ⟨.ref T5, [x j, (j : Int)], od, e j⟩) 0 0 ⟨.ref T5, [x j, (j : Int)], od, e j⟩ = zs at *
              have hzl := B4.len
              clear F16 N16'
              (repeat' (first | (k_unfold; (try dsimp only)) | ((fail_if_success (with_reducible first | show wpAny _ _ (exec (Stmt.While _ _ _ _) _) _ _ _ | show wpAny _ _ (eval (Expr.Name (Str.ofString "AttributeError") _) _) _ _ _ | show wpAny _ _ (subscriptTail (Expr.Name _ _) (Expr.Slice _ _ _ _) _ _) _ _ _ | show wpAny _ _ (call (Value.builtin "list.sort") _ _) _ _ _ | show wpAny _ _ (pyIter _) _ _ _ | show wpAny _ _ (call (Value.builtin "len") [Value.ref SRC] _) _ _ _ | show wpAny _ _ (call (Value.ref _) _ _) _ _ _)); (fail_if_success (with_reducible show wpAny _ _ (exec (Stmt.For _ _ _ _ _) _) _ _ _)); (fail_if_success (with_reducible show wpAny _ _ (exec (Stmt.Assign _ (Expr.ListComp _ _ _ _) _) _) _ _ _)); (fail_if_success (with_reducible show wpAny _ _ (eval (Expr.ListComp _ _ _ _) _) _ _ _)); first | ((first | (with_reducible show wpAny _ _ (exec (Stmt.Assign _ _ _) _) _ _ _) | (with_reducible show wpAny _ _ (exec (Stmt.Expr _ _) _) _ _ _) | (with_reducible show wpAny _ _ (exec (Stmt.Return _ _) _) _ _ _)); k_fold) | walk1 | (dsimp only; (with_reducible show wpAny _ _ _ _ _); walk1))))
              obtain ⟨T6, o6, p6, v6, k6, f6, l6, m6, ti6, mm6, ho6⟩ := I4.good _ (ge_mem (by lia : 0 < zs.length))
              rw [show (zs.getD (Int.toNat 0) it0).v = .ref T6 from v6]
              have gT6 := (N17 _ (.tail _ (.tail _ (.tail _ m6)))).1
              rw [ho6] at gT6
              refine assign_Tuple_tuple hA ⟨_, gT6, rfl, _, rfl⟩ rfl rfl fun h18 he18 => ?_
              have st18 : h17.StaysIn h18 := fun a o q => he18 a o (Nat.ne_of_lt (Heap.lt_size q)) q
              have F18 := fr_keeps F17 st18
              have N18 := news_keeps N17 st18
              clear F17 N17
              rw [f6]
              (repeat' (first | (k_unfold; (try dsimp only)) | ((fail_if_success (with_reducible first | show wpAny _ _ (exec (Stmt.While _ _ _ _) _) _ _ _ | show wpAny _ _ (eval (Expr.Name (Str.ofString "AttributeError") _) _) _ _ _ | show wpAny _ _ (subscriptTail (Expr.Name _ _) (Expr.Slice _ _ _ _) _ _) _ _ _ | show wpAny _ _ (call (Value.builtin "list.sort") _ _) _ _ _ | show wpAny _ _ (pyIter _) _ _ _ | show wpAny _ _ (call (Value.builtin "len") [Value.ref SRC] _) _ _ _ | show wpAny _ _ (call (Value.ref _) _ _) _ _ _)); (fail_if_success (with_reducible show wpAny _ _ (exec (Stmt.For _ _ _ _ _) _) _ _ _)); (fail_if_success (with_reducible show wpAny _ _ (exec (Stmt.Assign _ (Expr.ListComp _ _ _ _) _) _) _ _ _)); (fail_if_success (with_reducible show wpAny _ _ (eval (Expr.ListComp _ _ _ _) _) _ _ _)); first | ((first | (with_reducible show wpAny _ _ (exec (Stmt.Assign _ _ _) _) _ _ _) | (with_reducible show wpAny _ _ (exec (Stmt.Expr _ _) _) _ _ _) | (with_reducible show wpAny _ _ (exec (Stmt.Return _ _) _) _ _ _)); k_fold) | walk1 | (dsimp only; (with_reducible show wpAny _ _ _ _ _); walk1))))
              rename_i _ h19 F19 N19
              refine wpAny_loadName_local (by rfl) (by rfl) F19.ns (v := .int od tod) (by exact e5) ?_
              (repeat' (first | (k_unfold; (try dsimp only)) | ((fail_if_success (with_reducible first | show wpAny _ _ (exec (Stmt.While _ _ _ _) _) _ _ _ | show wpAny _ _ (eval (Expr.Name (Str.ofString "AttributeError") _) _) _ _ _ | show wpAny _ _ (subscriptTail (Expr.Name _ _) (Expr.Slice _ _ _ _) _ _) _ _ _ | show wpAny _ _ (call (Value.builtin "list.sort") _ _) _ _ _ | show wpAny _ _ (pyIter _) _ _ _ | show wpAny _ _ (call (Value.builtin "len") [Value.ref SRC] _) _ _ _ | show wpAny _ _ (call (Value.ref _) _ _) _ _ _)); (fail_if_success (with_reducible show wpAny _ _ (exec (Stmt.For _ _ _ _ _) _) _ _ _)); (fail_if_success (with_reducible show wpAny _ _ (exec (Stmt.Assign _ (Expr.ListComp _ _ _ _) _) _) _ _ _)); (fail_if_success (with_reducible show wpAny _ _ (eval (Expr.ListComp _ _ _ _) _) _ _ _)); first | ((first | (with_reducible show wpAny _ _ (exec (Stmt.Assign _ _ _) _) _ _ _) | (with_reducible show wpAny _ _ (exec (Stmt.Expr _ _) _) _ _ _) | (with_reducible show wpAny _ _ (exec (Stmt.Return _ _) _) _ _ _)); k_fold) | walk1 | (dsimp only; (with_reducible show wpAny _ _ _ _ _); walk1))))
              rename_i h20 F20 N20
              subst hIV
              exact ⟨N + 1 - (j + 1), by lia, j + 1, zs, ts5, _, _, _, _, od + 1, _, rfl, by lia, hjN, rfl, F20, N20, .inl rfl, e3, (by rw [pl_of k6]; rfl), rfl, e6, I4, B4, tsT5⟩
            · rename_i hx1
              subst hIV
              refine ⟨N + 1 - (j + 1), by lia, j + 1, its, ts, _, _, _, _, od, tod, rfl, by lia, hjN, rfl, F15, N15, .inl rfl, by assumption, by assumption, by assumption, by assumption, I2.skip, B2.out sw_ltI.flip hlt2 (by lia), tsT⟩
          · obtain rfl : j = N := by lia
            have fin : ∀ h' tk' ioo, Fr B₂ L' h' m₃ → News B₂ L' h' ((D, listOf (its.map It.v).toArray c8) :: (IT, ioo) :: (L' + 1, oc) :: ts) → _ := fun h' tk' ioo F' N' => (⟨rfl, its, ts, h', tk', m₃, od, rfl, F', fun q hq => N' q (by rcases List.mem_cons.mp hq with rfl | hq; exact .head _; exact .tail _ (.tail _ (.tail _ hq))), e3, I2, B2, tsT⟩ :
              Flow.next = Flow.next ∧ ∃ its ts h tk m₃ od, ({ s with heap := h', toks := tk' } : Shared) = { s with heap := h, toks := tk } ∧ Fr B₂ L' h m₃ ∧ News B₂ L' h ((D, listOf (its.map It.v).toArray c8) :: ts) ∧ m₃ (Str.ofString "result") = some (.ref D) ∧
                Items x e TupP false ts its j od ∧ Best (fun p => - x p) (fun a b => ltI b a) rs.length j its ∧ (∀ q ∈ ts, q.2.cls = .type "tuple"))
            rcases hio with rfl | ⟨rfl, _⟩
            · refine pyNext_li_end hA hIT.1 (F13.keep _ _ LB2) (by simp) fun h14 g14 s14 => ?_
              have F14 := fr_ext F13 (Ne.symm hIT.2.1) hIT.2.2 s14
              have N14 := news_mid N13 offI s14 g14
              walk1
              subst hQ2
              exact fin _ _ _ F14 N14
            · refine pyNext_li_gone hA hIT.1 fun h14 s14 => ?_
              have F14 := fr_keeps F13 s14
              have N14 := news_keeps N13 s14
              walk1
              subst hQ2
              exact fin _ _ _ F14 N14
          --FORE
        · intro f s' hq2
          subst hQ2
          obtain ⟨rfl, its, ts, h21, tk21, m₃, od, rfl, F21, N21, e3, I5, B5, tsT5⟩ := hq2
          have e3' : m₃ (Str.ofString "result") = some (.ref D) := e3
          (repeat' (first | (k_unfold; (try dsimp only)) | ((fail_if_success (with_reducible first | show wpAny _ _ (exec (Stmt.While _ _ _ _) _) _ _ _ | show wpAny _ _ (eval (Expr.Name (Str.ofString "AttributeError") _) _) _ _ _ | show wpAny _ _ (subscriptTail (Expr.Name _ _) (Expr.Slice _ _ _ _) _ _) _ _ _ | show wpAny _ _ (call (Value.builtin "list.sort") _ _) _ _ _ | show wpAny _ _ (pyIter _) _ _ _ | show wpAny _ _ (call (Value.builtin "len") [Value.ref SRC] _) _ _ _ | show wpAny _ _ (call (Value.ref _) _ _) _ _ _)); (fail_if_success (with_reducible show wpAny _ _ (exec (Stmt.For _ _ _ _ _) _) _ _ _)); (fail_if_success (with_reducible show wpAny _ _ (exec (Stmt.Assign _ (Expr.ListComp _ _ _ _) _) _) _ _ _)); (fail_if_success (with_reducible show wpAny _ _ (eval (Expr.ListComp _ _ _ _) _) _ _ _)); first | ((first | (with_reducible show wpAny _ _ (exec (Stmt.Assign _ _ _) _) _ _ _) | (with_reducible show wpAny _ _ (exec (Stmt.Expr _ _) _) _ _ _) | (with_reducible show wpAny _ _ (exec (Stmt.Return _ _) _) _ _ _)); k_fold) | walk1 | (dsimp only; (with_reducible show wpAny _ _ _ _ _); walk1))))
          refine wpAny_call_entry slot_list_sort ⟨_, (N21 _ (.head _)).1, rfl⟩ entry_list_sort ?_ (args_list_sort _)
          have hnd : (its.map pl).Nodup := B5.places.nodup_iff.mpr ((ordD_nodup N).sublist (List.take_sublist _ _))
          have P5 := items_plain (B := B₂) (N := N) I5 (Nat.le_refl _) hel2 F21.keep (N21 _ (.head _)).1 BD fun q hq => (N21 q (.tail _ hq)).1
          have hil5 := B5.len
          refine Eq.mpr (congrArg (fun z => wpAny _ _ z _ _ _) (so_p0 D)) (sort_its (D := D) (its := its) (rev := false) (by show A.units + 3 + _ ≤ 1000; lia) (N21 _ (.head _)).1 (by lia) (I5.nodup_i hnd) (.inl P5) ?_)
          intro zs h22 tk22 c22 hzp hzs st22 gD22
          refine ⟨_, rfl, ?_⟩
          have hzm := best_end B5.places hzp (fun u hu v hv q => (I5.hlt u hu v hv).mp q) (by simpa [ltD] using hzs)
          have F22 := fr_back F21 (Ne.symm LD) BD st22
          have N22 := news_back1 N21 (fun q hq z => by have := tsT5 q hq; rw [z] at this; simp [W.listOf] at this) st22 gD22
          have I6 := I5.sub fun u hu => hzp.mem_iff.mp hu
          have hzl : zs.length = rs.length := hzp.length_eq.trans hil5
          clear F21 N21
          (repeat' (first | (k_unfold; (try dsimp only)) | ((fail_if_success (with_reducible first | show wpAny _ _ (exec (Stmt.While _ _ _ _) _) _ _ _ | show wpAny _ _ (eval (Expr.Name (Str.ofString "AttributeError") _) _) _ _ _ | show wpAny _ _ (subscriptTail (Expr.Name _ _) (Expr.Slice _ _ _ _) _ _) _ _ _ | show wpAny _ _ (call (Value.builtin "list.sort") _ _) _ _ _ | show wpAny _ _ (pyIter _) _ _ _ | show wpAny _ _ (call (Value.builtin "len") [Value.ref SRC] _) _ _ _ | show wpAny _ _ (call (Value.ref _) _ _) _ _ _)); (fail_if_success (with_reducible show wpAny _ _ (exec (Stmt.For _ _ _ _ _) _) _ _ _)); (fail_if_success (with_reducible show wpAny _ _ (exec (Stmt.Assign _ (Expr.ListComp _ _ _ _) _) _) _ _ _)); (fail_if_success (with_reducible show wpAny _ _ (eval (Expr.ListComp _ _ _ _) _) _ _ _)); first | ((first | (with_reducible show wpAny _ _ (exec (Stmt.Assign _ _ _) _) _ _ _) | (with_reducible show wpAny _ _ (exec (Stmt.Expr _ _) _) _ _ _) | (with_reducible show wpAny _ _ (exec (Stmt.Return _ _) _) _ _ _)); k_fold) | walk1 | (dsimp only; (with_reducible show wpAny _ _ _ _ _); walk1))))
          refine list_comp (cl := []) (by with_unfolding_all rfl) (by decide +kernel) (by rfl) (by decide +kernel) ?_
          (repeat' (first | (k_unfold; (try dsimp only)) | ((fail_if_success (with_reducible first | show wpAny _ _ (exec (Stmt.While _ _ _ _) _) _ _ _ | show wpAny _ _ (eval (Expr.Name (Str.ofString "AttributeError") _) _) _ _ _ | show wpAny _ _ (subscriptTail (Expr.Name _ _) (Expr.Slice _ _ _ _) _ _) _ _ _ | show wpAny _ _ (call (Value.builtin "list.sort") _ _) _ _ _ | show wpAny _ _ (pyIter _) _ _ _ | show wpAny _ _ (call (Value.builtin "len") [Value.ref SRC] _) _ _ _ | show wpAny _ _ (call (Value.ref _) _ _) _ _ _)); (fail_if_success (with_reducible show wpAny _ _ (exec (Stmt.For _ _ _ _ _) _) _ _ _)); (fail_if_success (with_reducible show wpAny _ _ (exec (Stmt.Assign _ (Expr.ListComp _ _ _ _) _) _) _ _ _)); (fail_if_success (with_reducible show wpAny _ _ (eval (Expr.ListComp _ _ _ _) _) _ _ _)); first | ((first | (with_reducible show wpAny _ _ (exec (Stmt.Assign _ _ _) _) _ _ _) | (with_reducible show wpAny _ _ (exec (Stmt.Expr _ _) _) _ _ _) | (with_reducible show wpAny _ _ (exec (Stmt.Return _ _) _) _ _ _)); k_fold) | walk1 | (dsimp only; (with_reducible show wpAny _ _ _ _ _); walk1))))
          refine wpAny_pyIter_list (PySem.IsL.isList (N22 _ (.head _)).1) ?_
          intro C D2 h24 tk24 st24 nC nD nDC hC hD2
          have gI : (h22.push (liObj D 0)).get? h22.objs.size = some (liObj D 0) := Heap.get?_push_size _ rfl
          have st22p : h22.StaysIn (h22.push (liObj D 0)) := fun a o q => Heap.get?_push_of_some _ q
          change (h22.push (liObj D 0)).StaysIn h24 at st24
          change (h22.push (liObj D 0)).get? C = none at nC
          change (h22.push (liObj D 0)).get? D2 = none at nD
          have hIB : B₂.get? h22.objs.size = none := none_sub F22.keep (Heap.get?_none_of_le (Nat.le_refl _))
          have hch : ∀ i, ∃ v, i < rs.length → ∃ mm, h22.get? (adOf (zs.getD i it0).v) = some { cls := .type "tuple", data := .seq #[e (pl (zs.getD i it0)), v] mm } := by
            intro i
            by_cases hi : i < rs.length
            · have hu : zs.getD i it0 ∈ zs := by
                rw [List.getD_eq_getElem?_getD, List.getElem?_eq_getElem (by lia)]; exact List.getElem_mem _
              obtain ⟨T7, o7, p7, v7, k7, f7, l7, m7, ti7, mm7, ho7⟩ := I6.good _ hu
              refine ⟨.int (zs.getD i it0).i ti7, fun _ => ⟨mm7, ?_⟩⟩
              have g7 := (N22 _ (.tail _ m7)).1
              rw [ho7, f7] at g7
              rw [v7, pl_of k7]; exact g7
            · exact ⟨.none, fun q => absurd q hi⟩
          obtain ⟨f1, hf1⟩ := Classical.axiomOfChoice hch
          have nof : ∀ X, (h22.push (liObj D 0)).get? X = none → X ≠ h22.objs.size ∧ X ≠ D ∧ ∀ i, i < rs.length → X ≠ adOf (zs.getD i it0).v := by
            intro X q
            refine ⟨fun r => ?_, fun r => ?_, fun i hi r => ?_⟩
            · rw [r, gI] at q; cases q
            · rw [r, st22p _ _ (N22 _ (.head _)).1] at q; cases q
            · obtain ⟨mm, g⟩ := hf1 i hi
              rw [r, st22p _ _ g] at q; cases q
          have hzv : (zs.map It.v) = (List.range rs.length).map fun i => Value.ref (adOf (zs.getD i it0).v) := by
            refine List.ext_getElem (by simp [hzl]) fun i a b => ?_
            have hi : i < zs.length := by simpa using a
            refine e3_2 (I6.good _ (List.getElem_mem hi)) ?_
            intro T7 o7 p7 v7 _
            simp only [List.getElem_map, List.getElem_range, List.getD_eq_getElem?_getD, List.getElem?_eq_getElem hi, Option.getD_some]
            rw [v7]; rfl
          refine ⟨fun Q E q => pyIter_li (st24 _ _ gI) rfl q, ?_⟩
          refine tup_comp2 (I := h22.objs.size) (R0 := D) (n := rs.length) (c0 := c22) (f0 := fun i => e (pl (zs.getD i it0))) (f1 := f1) (Ts := fun i => adOf (zs.getD i it0).v) (by exact hA) (by rfl) (by rfl) (by rfl) (by decide) (by lia)
            (st24 _ _ gI) (by rw [← hzv]; exact st24 _ _ (st22p _ _ (N22 _ (.head _)).1)) (fun i hi => (hf1 i hi).imp fun mm g => st24 _ _ (st22p _ _ g)) hC hD2 nDC (nof C nC) (nof D2 nD) (by decide) ?_
          intro h25 tk25 m25 c25 n25 g25 k25
          refine ⟨rfl, m25, n25, fun h26 s26 => ?_⟩
          have bC : B₂.get? C = none := none_sub F22.keep (none_sub st22p nC)
          have bD2 : B₂.get? D2 = none := none_sub F22.keep (none_sub st22p nD)
          have keepB : B₂.StaysIn h26 := fun a o q => s26.extBut _ _ (fun r => by rw [r, bC] at q; cases q) (k25 _ _ (fun r => by rw [List.mem_singleton.mp r, hIB] at q; cases q) (fun r => by rw [r, bC] at q; cases q) (fun r => by rw [r, bD2] at q; cases q) (st24 _ _ (st22p _ _ (F22.keep _ _ q))))
          refine h D2 h26 _ c25 (fun a o q => keepB _ _ (stB2 _ _ q)) (none_sub stB2 bD2) ?_ (frB2.trans (Framed.of_keeps keepB))
          have g26 := s26.extBut _ _ nDC g25
          rw [places_map hzm hzl, ← hmin, take_min] at g26
          exact g26
      · exact hq
end
-- NLK
section
variable {prog : Program} {w : World} {A : Around} {s : Shared} {b : Heap} {mg mb : Str → Option Value} {mean : ExcName → Option Value} {p : Program} {loose : List Str}
set_option maxHeartbeats 40000000 in
theorem nl_key {Q E : Value → Shared → Prop} {LST SRC : Addr} {N : Nat} {e : Nat → Value} {x : Nat → Int} {c : Nat} {wish : Int} {t : Tok} {outer : List Env} {fq : Addr} {fo : Obj} {fd : FuncData}
    (hd : A.depth ≤ 497) (hu : A.units ≤ 470) (hA : A.handled = none) (hfr : A.frames = some outer) (hff : s.heap.FunFrames b outer)
    (st : b.StaysIn s.heap) (hsz : b.objs.size ≤ s.heap.objs.size) (X : (hd03.heap_39 w.params).In b) (T : Top p loose mean mg mb b)
    (hL : b.get? LST = some (listOf ((List.range N).map e).toArray c)) (hN : 0 < N) (h64 : N < 64)
    (hel : ∀ p, p < N → ∃ a o, e p = .ref a ∧ b.get? a = some o ∧ o.cls ≠ .type "tuple") (hfq : b.get? fq = some fo) (hfd : fo.data = .func fd)
    (hkey : ∀ p (A' : Around) (b' : Heap) (s' : Shared) (Q E : Value → Shared → Prop), p < N → A'.depth ≤ 499 → A'.units ≤ 800 → A'.handled = none → b.StaysIn b' → b'.StaysIn s'.heap → b'.objs.size ≤ s'.heap.objs.size → (∀ t h' tk, b'.StaysIn h' → Q (.int (x p) t) { s' with heap := h', toks := tk }) → wpAny (model prog w) A' (call (.ref fq) [e p]) Q E s')
    (hsrc : SRC = LST ∨ (s.heap.get? SRC = some (liObj LST 0) ∧ b.get? SRC = none))
    (h : ∀ R h' tk c, b.StaysIn h' → b.get? R = none → h'.get? R = some (listOf (((ordD x N).take wish.toNat).map e).toArray c) → Framed outer s.heap h' → Q (.ref R) { s with heap := h', toks := tk }) :
    wpAny (model prog w) A (call (.ref 82) [.int wish t, .ref SRC, .ref fq]) Q E s := by
  have X2 := X.keeps st
  refine wpAny_call ?_
  ((k_dflt (refine' enterC ?k1 ?k2 ?k3 ?k4 ?k6 ?k7 ?k8 ?k9 ?kB ?kD ?_ ?c2 ?c3 ?c4; (case k1 => assumption); (case k2 => assumption); (case k3 => assumption); (case k4 => assumption); (case k6 => k_is); (case k7 => k_is); (case k8 => exact Nat.lt_of_le_of_lt (by assumption) (by decide)); (case k9 => first | exact BindsTo.of_eq rfl | exact binds_K (by assumption) rfl (by k_is) rfl rfl rfl); (case kB => exact rfl); (case kD => decide +kernel); (case c2 => exact rfl); (case c3 => exact rfl); (case c4 => exact rfl))))
  intro L' h₁ tk cells F0 N00 Y hk hs1
  have hY := CellsAre.one Y
  refine e1_2 (hY) ?_
  (try clear hY)
  intro oc zr1 d1
  first | subst zr1 | cases zr1
  clear Y
  have hns : s.heap.get? L' = none := by
    cases q : s.heap.get? L' with
    | none => rfl
    | some o => exact absurd (hs1 _ _ q) (Nat.lt_irrefl _)
  have zz9 : ∃ SA so, h₁.get? SA = some so ∧ SA ≠ L' ∧ b.get? SA = none ∧ Src LST SRC SA so ∧ ∀ a ∈ framesOf outer, a ≠ SA := by
    rcases hsrc with rfl | ⟨q1, q2⟩
    · exact ⟨L' + 1, oc, (N00 _ (.head _)).1, (N00 _ (.head _)).2.1, (N00 _ (.head _)).2.2, .inl rfl, fun a ha q => by
        obtain ⟨_, o, ho, _⟩ := hff.mem ha
        have := hs1 _ _ ho
        rw [q] at this; exact absurd this (Nat.not_lt.mpr (Nat.le_succ _))⟩
    · exact ⟨SRC, _, hk _ _ q1, (fun q => by rw [q, hns] at q1; cases q1), q2, .inr ⟨rfl, rfl⟩, fun a ha q => by
        obtain ⟨_, o, ho, hd⟩ := hff.mem ha
        rw [q, q1] at ho; cases ho; exact hd _ rfl⟩
  refine e2_5 zz9 ?_
  clear zz9
  intro SA so hSA hSL hbS src offS
  have stB : b.StaysIn (cut h₁ L' [SA]) := fun a o q => cut_get (Nat.lt_of_lt_of_le (Heap.lt_size q) F0.above) (fun z => by rw [List.mem_singleton] at z; rw [z, hbS] at q; cases q) (F0.keep _ _ q)
  have F : Fr (cut h₁ L' [SA]) L' h₁ _ := ⟨F0.ns, cut_stays, cut_size⟩
  have N0 : News (cut h₁ L' [SA]) L' h₁ [(SA, so), (L' + 1, oc)] := by
    intro q hq
    simp only [List.mem_cons, List.not_mem_nil, or_false] at hq
    rcases hq with rfl | rfl
    · exact ⟨hSA, hSL, cut_none (.head _)⟩
    · exact ⟨(N00 _ (.head _)).1, (N00 _ (.head _)).2.1, cut_high (Nat.le_succ _)⟩
  have frB : Framed outer s.heap (cut h₁ L' [SA]) := fun a ha m n => by
    refine e3_2 (n) ?_
    (try clear n)
    intro o es ep ho r
    exact ⟨o, es, ep, cut_get (hs1 _ _ ho) (fun z => offS a ha (List.mem_singleton.mp z)) (hk _ _ ho), r⟩
  have XB := X.keeps stB
  have TB := T.keeps stB
  have LB := stB _ _ hL
  (try k_fold)
  clear F0 N00 X2
  generalize hB : cut h₁ L' [SA] = B at *
  (repeat' (first | (k_unfold; (try dsimp only)) | ((fail_if_success (with_reducible first | show wpAny _ _ (exec (Stmt.While _ _ _ _) _) _ _ _ | show wpAny _ _ (eval (Expr.Name (Str.ofString "AttributeError") _) _) _ _ _ | show wpAny _ _ (subscriptTail (Expr.Name _ _) (Expr.Slice _ _ _ _) _ _) _ _ _ | show wpAny _ _ (call (Value.builtin "list.sort") _ _) _ _ _ | show wpAny _ _ (pyIter _) _ _ _ | show wpAny _ _ (call (Value.builtin "len") [Value.ref SRC] _) _ _ _ | show wpAny _ _ (call (Value.ref _) _ _) _ _ _)); (fail_if_success (with_reducible show wpAny _ _ (exec (Stmt.For _ _ _ _ _) _) _ _ _)); (fail_if_success (with_reducible show wpAny _ _ (exec (Stmt.Assign _ (Expr.ListComp _ _ _ _) _) _) _ _ _)); (fail_if_success (with_reducible show wpAny _ _ (eval (Expr.ListComp _ _ _ _) _) _ _ _)); first | ((first | (with_reducible show wpAny _ _ (exec (Stmt.Assign _ _ _) _) _ _ _) | (with_reducible show wpAny _ _ (exec (Stmt.Expr _ _) _) _ _ _) | (with_reducible show wpAny _ _ (exec (Stmt.Return _ _) _) _ _ _)); k_fold) | walk1 | (dsimp only; (with_reducible show wpAny _ _ _ _ _); walk1))))
  ·
    --W1
    refine call_iter_src (by assumption) (by assumption) src LB ?_
    intro IT h2 F2 N2 _
    (repeat' (first | (k_unfold; (try dsimp only)) | ((fail_if_success (with_reducible first | show wpAny _ _ (exec (Stmt.While _ _ _ _) _) _ _ _ | show wpAny _ _ (eval (Expr.Name (Str.ofString "AttributeError") _) _) _ _ _ | show wpAny _ _ (subscriptTail (Expr.Name _ _) (Expr.Slice _ _ _ _) _ _) _ _ _ | show wpAny _ _ (call (Value.builtin "list.sort") _ _) _ _ _ | show wpAny _ _ (pyIter _) _ _ _ | show wpAny _ _ (call (Value.builtin "len") [Value.ref SRC] _) _ _ _ | show wpAny _ _ (call (Value.ref _) _ _) _ _ _)); (fail_if_success (with_reducible show wpAny _ _ (exec (Stmt.For _ _ _ _ _) _) _ _ _)); (fail_if_success (with_reducible show wpAny _ _ (exec (Stmt.Assign _ (Expr.ListComp _ _ _ _) _) _) _ _ _)); (fail_if_success (with_reducible show wpAny _ _ (eval (Expr.ListComp _ _ _ _) _) _ _ _)); first | ((first | (with_reducible show wpAny _ _ (exec (Stmt.Assign _ _ _) _) _ _ _) | (with_reducible show wpAny _ _ (exec (Stmt.Expr _ _) _) _ _ _) | (with_reducible show wpAny _ _ (exec (Stmt.Return _ _) _) _ _ _)); k_fold) | walk1 | (dsimp only; (with_reducible show wpAny _ _ _ _ _); walk1))))
    refine call_object ?_
    rename_i h3 F3 N3
    have F4 := F3.push { cls := .type "object" }
    have N4 := N3.push F3 { cls := .type "object" }
    clear F3 N3
    (repeat' (first | (k_unfold; (try dsimp only)) | ((fail_if_success (with_reducible first | show wpAny _ _ (exec (Stmt.While _ _ _ _) _) _ _ _ | show wpAny _ _ (eval (Expr.Name (Str.ofString "AttributeError") _) _) _ _ _ | show wpAny _ _ (subscriptTail (Expr.Name _ _) (Expr.Slice _ _ _ _) _ _) _ _ _ | show wpAny _ _ (call (Value.builtin "list.sort") _ _) _ _ _ | show wpAny _ _ (pyIter _) _ _ _ | show wpAny _ _ (call (Value.builtin "len") [Value.ref SRC] _) _ _ _ | show wpAny _ _ (call (Value.ref _) _ _) _ _ _)); (fail_if_success (with_reducible show wpAny _ _ (exec (Stmt.For _ _ _ _ _) _) _ _ _)); (fail_if_success (with_reducible show wpAny _ _ (exec (Stmt.Assign _ (Expr.ListComp _ _ _ _) _) _) _ _ _)); (fail_if_success (with_reducible show wpAny _ _ (eval (Expr.ListComp _ _ _ _) _) _ _ _)); first | ((first | (with_reducible show wpAny _ _ (exec (Stmt.Assign _ _ _) _) _ _ _) | (with_reducible show wpAny _ _ (exec (Stmt.Expr _ _) _) _ _ _) | (with_reducible show wpAny _ _ (exec (Stmt.Return _ _) _) _ _ _)); k_fold) | walk1 | (dsimp only; (with_reducible show wpAny _ _ _ _ _); walk1))))
    rename_i h5 F5 N5
    have hIT : h5.get? IT = some (liObj LST 0) := (N5 _ (.tail _ (.head _))).1
    have hITL : IT ≠ L' := (N5 _ (.tail _ (.head _))).2.1
    have hITB : B.get? IT = none := (N5 _ (.tail _ (.head _))).2.2
    have nIT : ∀ {a : Addr} {o : Obj}, B.get? a = some o → a ∉ [IT] := fun q z => by rw [List.mem_singleton.mp z, hITB] at q; cases q
    refine call_max_key (fq := fq) (LST := LST) (N := N) (e := e) (sc := x) (B := hideAll h5 [IT]) (V := fun i v => ∃ t, v = .int (x i) t) (d := .ref h3.objs.size) hA (hideAll_get _ (F5.keep _ _ LB) (nIT LB)) (hideAll_none _ (.head _)) (fun a o q => of_hideAll _ q) hIT ?_ ?_ ?_
    · intro i b' s' Q' E' hi st1 st2 sz k
      exact hkey i _ b' s' Q' E' hi (by show A.depth + 1 ≤ 499; lia) (by show A.units + 3 + _ ≤ 800; lia) hA (fun a o q => st1 _ _ (hideAll_get _ (F5.keep _ _ (stB _ _ q)) (nIT (stB _ _ q)))) st2 sz fun t h' tk st => k _ h' tk ⟨t, rfl⟩ st
    · rintro i j v v' s' Q' E' ⟨t1, rfl⟩ ⟨t2, rfl⟩ hi hj st' hq
      exact rich_gt_int (hq _)
    intro h6 tk6 st6
    have F6 := fr_back F5 (Ne.symm hITL) hITB st6
    have nSI : h3.objs.size ≠ IT := fun q => by
      have z := (N5 _ (.head _)).1
      rw [q, hIT] at z
      have := congrArg Obj.cls (Option.some.inj z); simp [liObj] at this
    have N6 : News B L' h6 [(h3.objs.size, { cls := .type "object" })] := by
      intro q hq
      rw [List.mem_singleton] at hq; subst hq
      exact ⟨st6 _ _ (hideAll_get _ (N5 _ (.head _)).1 fun z => nSI (List.mem_singleton.mp z)), (N5 _ (.head _)).2⟩
    clear F5 N5
    rw [if_neg (Nat.ne_of_gt hN)]
    refine e2_3 (hel ((ordD x N).getD 0 0) (ordD_getD0 hN)) ?_
    intro a0 o0 q1 q2 q3
    rw [q1]
    (repeat' (first | (k_unfold; (try dsimp only)) | ((fail_if_success (with_reducible first | show wpAny _ _ (exec (Stmt.While _ _ _ _) _) _ _ _ | show wpAny _ _ (eval (Expr.Name (Str.ofString "AttributeError") _) _) _ _ _ | show wpAny _ _ (subscriptTail (Expr.Name _ _) (Expr.Slice _ _ _ _) _ _) _ _ _ | show wpAny _ _ (call (Value.builtin "list.sort") _ _) _ _ _ | show wpAny _ _ (pyIter _) _ _ _ | show wpAny _ _ (call (Value.builtin "len") [Value.ref SRC] _) _ _ _ | show wpAny _ _ (call (Value.ref _) _ _) _ _ _)); (fail_if_success (with_reducible show wpAny _ _ (exec (Stmt.For _ _ _ _ _) _) _ _ _)); (fail_if_success (with_reducible show wpAny _ _ (exec (Stmt.Assign _ (Expr.ListComp _ _ _ _) _) _) _ _ _)); (fail_if_success (with_reducible show wpAny _ _ (eval (Expr.ListComp _ _ _ _) _) _ _ _)); first | ((first | (with_reducible show wpAny _ _ (exec (Stmt.Assign _ _ _) _) _ _ _) | (with_reducible show wpAny _ _ (exec (Stmt.Expr _ _) _) _ _ _) | (with_reducible show wpAny _ _ (exec (Stmt.Return _ _) _) _ _ _)); k_fold) | walk1 | (dsimp only; (with_reducible show wpAny _ _ _ _ _); walk1))))
    rename_i h7 F7 N7
    refine wpAny_is_ref_other (fun q => ?_) (F7.keep _ _ (stB _ _ q2)) (N7 _ (.head _)).1 q3 ?_
    · have z := (N7 _ (.head _)).2.2
      rw [← q, stB _ _ q2] at z; cases z
    (repeat' (first | (k_unfold; (try dsimp only)) | ((fail_if_success (with_reducible first | show wpAny _ _ (exec (Stmt.While _ _ _ _) _) _ _ _ | show wpAny _ _ (eval (Expr.Name (Str.ofString "AttributeError") _) _) _ _ _ | show wpAny _ _ (subscriptTail (Expr.Name _ _) (Expr.Slice _ _ _ _) _ _) _ _ _ | show wpAny _ _ (call (Value.builtin "list.sort") _ _) _ _ _ | show wpAny _ _ (pyIter _) _ _ _ | show wpAny _ _ (call (Value.builtin "len") [Value.ref SRC] _) _ _ _ | show wpAny _ _ (call (Value.ref _) _ _) _ _ _)); (fail_if_success (with_reducible show wpAny _ _ (exec (Stmt.For _ _ _ _ _) _) _ _ _)); (fail_if_success (with_reducible show wpAny _ _ (exec (Stmt.Assign _ (Expr.ListComp _ _ _ _) _) _) _ _ _)); (fail_if_success (with_reducible show wpAny _ _ (eval (Expr.ListComp _ _ _ _) _) _ _ _)); first | ((first | (with_reducible show wpAny _ _ (exec (Stmt.Assign _ _ _) _) _ _ _) | (with_reducible show wpAny _ _ (exec (Stmt.Expr _ _) _) _ _ _) | (with_reducible show wpAny _ _ (exec (Stmt.Return _ _) _) _ _ _)); k_fold) | walk1 | (dsimp only; (with_reducible show wpAny _ _ _ _ _); walk1))))
    rename_i R h8 F8 N8 _
    refine h _ _ _ 0 (fun a o q => F8.keep _ _ (stB _ _ q)) (none_sub stB (N8 _ (.head _)).2.2) ?_ (frB.trans (Framed.of_keeps F8.keep))
    have : ((ordD x N).take (1 : Int).toNat).map e = [.ref a0] := by rw [ordD_take1 hN, List.map_singleton, q1]
    have hw : wish = 1 := by assumption
    rw [hw, this]; exact (N8 _ (.head _)).1
    --W1E
  · have hw1 : wish ≠ 1 := by assumption
    obtain ⟨Q1, hQ1⟩ : ∃ Q1 : Flow → Shared → Prop, Q1 = fun f s' => (f = .next ∧ ∃ h₂ tk₂ m₂ B₂, s' = { s with heap := h₂, toks := tk₂ } ∧ Fr B₂ L' h₂ m₂ ∧ News B₂ L' h₂ [(SA, so), (L' + 1, oc)] ∧ m₂ (Str.ofString "n") = some (.int wish t) ∧ m₂ (Str.ofString "iterable") = some (.ref SRC) ∧
      b.StaysIn B₂ ∧ Framed outer s.heap B₂ ∧ (SRC = LST → wish < N)) ∨ (∃ v, f = .ret v ∧ Q v s') := ⟨_, rfl⟩
    refine wpAny_mono (Q := Q1) ?_ ?_ fun _ _ e => e
    ·
      --TR
      refine wpAny_Try_except ?_
      have src' := src
      rcases src' with rfl | ⟨rfl, rfl⟩
      · (repeat' (first | (k_unfold; (try dsimp only)) | ((fail_if_success (with_reducible first | show wpAny _ _ (exec (Stmt.While _ _ _ _) _) _ _ _ | show wpAny _ _ (eval (Expr.Name (Str.ofString "AttributeError") _) _) _ _ _ | show wpAny _ _ (subscriptTail (Expr.Name _ _) (Expr.Slice _ _ _ _) _ _) _ _ _ | show wpAny _ _ (call (Value.builtin "list.sort") _ _) _ _ _ | show wpAny _ _ (pyIter _) _ _ _ | show wpAny _ _ (call (Value.builtin "len") [Value.ref SRC] _) _ _ _ | show wpAny _ _ (call (Value.ref _) _ _) _ _ _)); (fail_if_success (with_reducible show wpAny _ _ (exec (Stmt.For _ _ _ _ _) _) _ _ _)); (fail_if_success (with_reducible show wpAny _ _ (exec (Stmt.Assign _ (Expr.ListComp _ _ _ _) _) _) _ _ _)); (fail_if_success (with_reducible show wpAny _ _ (eval (Expr.ListComp _ _ _ _) _) _ _ _)); first | ((first | (with_reducible show wpAny _ _ (exec (Stmt.Assign _ _ _) _) _ _ _) | (with_reducible show wpAny _ _ (exec (Stmt.Expr _ _) _) _ _ _) | (with_reducible show wpAny _ _ (exec (Stmt.Return _ _) _) _ _ _)); k_fold) | walk1 | (dsimp only; (with_reducible show wpAny _ _ _ _ _); walk1))))
        refine Calls.call_len_list (PySem.IsL.isList (F.keep _ _ LB)) (by simp; lia) ?_
        rw [show ((List.range N).map e).toArray.size = N by simp]
        (repeat' (first | (k_unfold; (try dsimp only)) | ((fail_if_success (with_reducible first | show wpAny _ _ (exec (Stmt.While _ _ _ _) _) _ _ _ | show wpAny _ _ (eval (Expr.Name (Str.ofString "AttributeError") _) _) _ _ _ | show wpAny _ _ (subscriptTail (Expr.Name _ _) (Expr.Slice _ _ _ _) _ _) _ _ _ | show wpAny _ _ (call (Value.builtin "list.sort") _ _) _ _ _ | show wpAny _ _ (pyIter _) _ _ _ | show wpAny _ _ (call (Value.builtin "len") [Value.ref SRC] _) _ _ _ | show wpAny _ _ (call (Value.ref _) _ _) _ _ _)); (fail_if_success (with_reducible show wpAny _ _ (exec (Stmt.For _ _ _ _ _) _) _ _ _)); (fail_if_success (with_reducible show wpAny _ _ (exec (Stmt.Assign _ (Expr.ListComp _ _ _ _) _) _) _ _ _)); (fail_if_success (with_reducible show wpAny _ _ (eval (Expr.ListComp _ _ _ _) _) _ _ _)); first | ((first | (with_reducible show wpAny _ _ (exec (Stmt.Assign _ _ _) _) _ _ _) | (with_reducible show wpAny _ _ (exec (Stmt.Expr _ _) _) _ _ _) | (with_reducible show wpAny _ _ (exec (Stmt.Return _ _) _) _ _ _)); k_fold) | walk1 | (dsimp only; (with_reducible show wpAny _ _ _ _ _); walk1))))
        · rename_i h4 F4 N4 hge
          show wpAny _ _ (call (.builtin "sorted") [.ref SRC] [(Str.ofString "key", .ref fq), (Str.ofString "reverse", .bool true)]) _ _ _
          refine call_sorted_key (fq := fq) (rev := true) (x := x) (N := N) (e := e) (check_sorted2 · _ _) (fun a => ksk_l2 _ _ _) (fun R => so_k2 fq R true) (F4.keep _ _ LB) h64 (fun p b' s' Q' E' hp s1 s2 sz k => hkey p _ b' s' Q' E' hp (by show A.depth + 1 ≤ 499; lia) (by show A.units + 3 + _ + _ ≤ 800; lia) hA (fun a o q => s1 _ _ (F4.keep _ _ (stB _ _ q))) s2 sz k) ?_
          intro R h5 tk5 c5 st5 hR5 gR5
          have F5 := fr_keeps F4 st5
          have nRL : R ≠ L' := fun q => by obtain ⟨o, ho⟩ := ns_there F4.ns; rw [← q, hR5] at ho; cases ho
          have N5 : News B L' h5 [(R, listOf ((ordD (fun p => if true then x p else - x p) N).map e).toArray c5)] := fun q hq => by
            rw [List.mem_singleton] at hq; subst hq
            exact ⟨gR5, nRL, none_sub F4.keep hR5⟩
          clear F4 N4
          (repeat' (first | (k_unfold; (try dsimp only)) | ((fail_if_success (with_reducible first | show wpAny _ _ (exec (Stmt.While _ _ _ _) _) _ _ _ | show wpAny _ _ (eval (Expr.Name (Str.ofString "AttributeError") _) _) _ _ _ | show wpAny _ _ (subscriptTail (Expr.Name _ _) (Expr.Slice _ _ _ _) _ _) _ _ _ | show wpAny _ _ (call (Value.builtin "list.sort") _ _) _ _ _ | show wpAny _ _ (pyIter _) _ _ _ | show wpAny _ _ (call (Value.builtin "len") [Value.ref SRC] _) _ _ _ | show wpAny _ _ (call (Value.ref _) _ _) _ _ _)); (fail_if_success (with_reducible show wpAny _ _ (exec (Stmt.For _ _ _ _ _) _) _ _ _)); (fail_if_success (with_reducible show wpAny _ _ (exec (Stmt.Assign _ (Expr.ListComp _ _ _ _) _) _) _ _ _)); (fail_if_success (with_reducible show wpAny _ _ (eval (Expr.ListComp _ _ _ _) _) _ _ _)); first | ((first | (with_reducible show wpAny _ _ (exec (Stmt.Assign _ _ _) _) _ _ _) | (with_reducible show wpAny _ _ (exec (Stmt.Expr _ _) _) _ _ _) | (with_reducible show wpAny _ _ (exec (Stmt.Return _ _) _) _ _ _)); k_fold) | walk1 | (dsimp only; (with_reducible show wpAny _ _ _ _ _); walk1))))
          refine kmk_slice F5 N5 (PySem.IsL.isList gR5) .none (.int _ _) ?_ (by with_unfolding_all rfl) (by intro _; with_unfolding_all rfl) (by simp [ordD_len, sizeLine_eq]; lia)
          intro R6 h6 F6 N6 _
          subst hQ1
          refine .inr ⟨_, rfl, h _ _ _ 0 (fun a o q => F6.keep _ _ (stB _ _ q)) (none_sub stB (N6 _ (.head _)).2.2) ?_ (frB.trans (Framed.of_keeps F6.keep))⟩
          have z := (N6 _ (.head _)).1
          have e1 : ∀ k : Nat, slicePick (((ordD (fun p => if true then x p else - x p) N).map e).toArray) none (some (k : Int)) none = (((ordD x N).take (k : Int).toNat).map e).toArray := fun k => by
            rw [slicePick_upto']; simp [List.map_take]
          have e2 : wish = ((wish.toNat : Nat) : Int) := by lia
          rw [e2, e1, ← e2] at z; exact z
        · rename_i h4 F4 N4 hge
          subst hQ1
          exact .inl ⟨rfl, h4, _, _, B, rfl, F4, N4, rfl, rfl, stB, frB, fun _ => by lia⟩
      · (repeat' (first | (k_unfold; (try dsimp only)) | ((fail_if_success (with_reducible first | show wpAny _ _ (exec (Stmt.While _ _ _ _) _) _ _ _ | show wpAny _ _ (eval (Expr.Name (Str.ofString "AttributeError") _) _) _ _ _ | show wpAny _ _ (subscriptTail (Expr.Name _ _) (Expr.Slice _ _ _ _) _ _) _ _ _ | show wpAny _ _ (call (Value.builtin "list.sort") _ _) _ _ _ | show wpAny _ _ (pyIter _) _ _ _ | show wpAny _ _ (call (Value.builtin "len") [Value.ref SRC] _) _ _ _ | show wpAny _ _ (call (Value.ref _) _ _) _ _ _)); (fail_if_success (with_reducible show wpAny _ _ (exec (Stmt.For _ _ _ _ _) _) _ _ _)); (fail_if_success (with_reducible show wpAny _ _ (exec (Stmt.Assign _ (Expr.ListComp _ _ _ _) _) _) _ _ _)); (fail_if_success (with_reducible show wpAny _ _ (eval (Expr.ListComp _ _ _ _) _) _ _ _)); first | ((first | (with_reducible show wpAny _ _ (exec (Stmt.Assign _ _ _) _) _ _ _) | (with_reducible show wpAny _ _ (exec (Stmt.Expr _ _) _) _ _ _) | (with_reducible show wpAny _ _ (exec (Stmt.Return _ _) _) _ _ _)); k_fold) | walk1 | (dsimp only; (with_reducible show wpAny _ _ _ _ _); walk1))))
        refine call_len_li (N0 _ (.head _)).1 hA fun h2 tk2 ex hx => ?_
        refine noted1 (B := hideAll h₁ (L' :: framesOf outer)) (outer := outer) (L := L') (by show A.frames.map _ = _; rw [hfr]; rfl) rfl ?_ (fun a o q => of_hideAll _ q) hx ?_
        · refine Heap.FunFrames.cons (by intro q; cases q) rfl F.ns (hideAll_none _ (.head _)) (hide_frames (b := b) (hff.of_keeps fun a o q _ => ⟨o, hk _ _ q, rfl⟩) fun env he a ha => .tail _ (framesOf_mem env he a ha))
        intro h3 a0 hen st3 ff3 tr3 up3
        refine e5_9 (tr3) ?_
        (try clear tr3)
        intro oe vs TT oT ts g1 zr6 g3 g4 g5 g6 g7 g8 g9
        rcases zr6 with ⟨g2, g2'⟩
        have hL1 := ns_there F.ns
        have exL : ex ≠ L' := fun q => by obtain ⟨o, ho⟩ := hL1; rw [q] at hx; rw [hx.new] at ho; cases ho
        have TL : TT ≠ L' := fun q => by
          refine e3_3 (up3.ns F.ns) ?_
          intro o es ep ho hdd _
          rw [← q, g7] at ho; cases ho; rw [g8] at hdd; cases hdd
        have keep3 : ∀ a o, h₁.get? a = some o → a ∉ L' :: framesOf outer → h3.get? a = some o := fun a o q1 q2 => st3 _ _ (hideAll_get _ q1 q2)
        have frL : ∀ a ∈ framesOf outer, a < L' := fun a ha => by obtain ⟨_, o, ho, _⟩ := hff.mem ha; exact hs1 _ _ ho
        have offL : ∀ a, L' ≤ a → a ∉ framesOf outer := fun a ha z => absurd (frL a z) (Nat.not_lt.mpr ha)
        have kS : SRC ∉ L' :: framesOf outer := fun z => by rcases List.mem_cons.mp z with q | q; exact hSL q; exact offS _ q rfl
        have kc : (L' + 1 : Nat) ∉ L' :: framesOf outer := fun z => by rcases List.mem_cons.mp z with q | q; exact absurd q (Nat.succ_ne_self _); exact offL _ (Nat.le_succ _) q
        have gS := keep3 _ _ (N0 _ (.head _)).1 kS
        have gc := keep3 _ _ (N0 _ (.tail _ (.head _))).1 kc
        have bH : b.StaysIn (hideAll h₁ (L' :: framesOf outer)) := fun a o q => hideAll_get _ (F.keep _ _ (stB _ _ q)) fun z => by
          rcases List.mem_cons.mp z with r | r
          · have := F.above; have := Heap.lt_size (stB _ _ q); rw [r] at this; exact absurd this (Nat.not_lt.mpr F.above)
          · obtain ⟨n0, _⟩ := hff.mem r; rw [q] at n0; cases n0
        have nSE : SRC ≠ ex := fun q => by have := (N0 _ (.head _)).1; rw [q, hx.new] at this; cases this
        have nST : SRC ≠ TT := fun q => by rw [← q, hideAll_get _ (N0 _ (.head _)).1 kS] at g5; cases g5
        have ncT : (L' + 1 : Nat) ≠ TT := fun q => by rw [← q, hideAll_get _ (N0 _ (.tail _ (.head _))).1 kc] at g5; cases g5
        have stB3 : b.StaysIn (cut h3 L' [SRC, ex, TT]) := fun a o q => cut_get (Nat.lt_of_lt_of_le (Heap.lt_size (stB _ _ q)) F.above) (fun z => by
          simp only [List.mem_cons, List.not_mem_nil, or_false] at z
          rcases z with rfl | rfl | rfl
          · rw [hbS] at q; cases q
          · rw [none_sub bH hen] at q; cases q
          · rw [none_sub bH g5] at q; cases q) (st3 _ _ (bH _ _ q))
        have frB3 : Framed outer s.heap (cut h3 L' [SRC, ex, TT]) := fun a ha m n => by
          refine e3_3 (n) ?_
          (try clear n)
          intro o es ep ho hdd r
          obtain ⟨sl, z⟩ := up3 _ _ (hk _ _ ho) fun vs q => by rw [hdd] at q; cases q
          refine ⟨_, es, ep, cut_get (frL a ha) (fun y => ?_) z, hdd, r⟩
          simp only [List.mem_cons, List.not_mem_nil, or_false] at y
          rcases y with y | y | y
          · exact offS a ha y
          · rw [y] at ho; have hn := hx.new; rw [hk _ _ ho] at hn; cases hn
          · rw [y, g7] at z; cases z; rw [hdd] at g8; cases g8
        have F3 : Fr (cut h3 L' [SRC, ex, TT]) L' h3 _ := ⟨up3.ns F.ns, cut_stays, cut_size⟩
        have N3 : News (cut h3 L' [SRC, ex, TT]) L' h3 [(ex, oe), (TT, oT), (SRC, liObj LST 0), (L' + 1, oc)] := by
          intro q hq
          simp only [List.mem_cons, List.not_mem_nil, or_false] at hq
          rcases hq with rfl | rfl | rfl | rfl
          · exact ⟨g1, exL, cut_none (by simp)⟩
          · exact ⟨g7, TL, cut_none (by simp)⟩
          · exact ⟨gS, hSL, cut_none (by simp)⟩
          · exact ⟨gc, Nat.succ_ne_self _, cut_high (Nat.le_succ _)⟩
        have XB3 := X.keeps stB3
        have TB3 := T.keeps stB3
        clear F N0 XB TB frB LB
        generalize hB3 : cut h3 L' [SRC, ex, TT] = B3 at *
        refine wpAny_handleBy_tup2 (T1 := "TypeError") (T2 := "AttributeError") (X := "TypeError") (b1 := true) (b2 := false) (isSubtype_of_subB (by decide +kernel)) (isSubtype_of_subB (by decide +kernel)) (isSubtype_of_subB (by decide +kernel)) (isSubtype_of_subB (by decide +kernel)) (isSubtype_of_subB (by decide +kernel)) (isSubtype_of_subB (by decide +kernel)) ?_
        (repeat' (first | (k_unfold; (try dsimp only)) | ((fail_if_success (with_reducible first | show wpAny _ _ (exec (Stmt.While _ _ _ _) _) _ _ _ | show wpAny _ _ (eval (Expr.Name (Str.ofString "AttributeError") _) _) _ _ _ | show wpAny _ _ (subscriptTail (Expr.Name _ _) (Expr.Slice _ _ _ _) _ _) _ _ _ | show wpAny _ _ (call (Value.builtin "list.sort") _ _) _ _ _ | show wpAny _ _ (pyIter _) _ _ _ | show wpAny _ _ (call (Value.builtin "len") [Value.ref SRC] _) _ _ _ | show wpAny _ _ (call (Value.ref _) _ _) _ _ _)); (fail_if_success (with_reducible show wpAny _ _ (exec (Stmt.For _ _ _ _ _) _) _ _ _)); (fail_if_success (with_reducible show wpAny _ _ (exec (Stmt.Assign _ (Expr.ListComp _ _ _ _) _) _) _ _ _)); (fail_if_success (with_reducible show wpAny _ _ (eval (Expr.ListComp _ _ _ _) _) _ _ _)); first | ((first | (with_reducible show wpAny _ _ (exec (Stmt.Assign _ _ _) _) _ _ _) | (with_reducible show wpAny _ _ (exec (Stmt.Expr _ _) _) _ _ _) | (with_reducible show wpAny _ _ (exec (Stmt.Return _ _) _) _ _ _)); k_fold) | walk1 | (dsimp only; (with_reducible show wpAny _ _ _ _ _); walk1))))
        refine' nameX_B (v := .type "AttributeError") ?zF ?zX ?zT ?ze ?zv ?zn ?_ ?za ?zb ?zc; (case zF => k_asm); (case zX => k_asm); (case zT => k_asm); (case za => rfl); (case zb => rfl); (case zc => decide); (case ze => k_is); (case zv => decide +kernel); (case zn => decide)
        (repeat' (first | (k_unfold; (try dsimp only)) | ((fail_if_success (with_reducible first | show wpAny _ _ (exec (Stmt.While _ _ _ _) _) _ _ _ | show wpAny _ _ (eval (Expr.Name (Str.ofString "AttributeError") _) _) _ _ _ | show wpAny _ _ (subscriptTail (Expr.Name _ _) (Expr.Slice _ _ _ _) _ _) _ _ _ | show wpAny _ _ (call (Value.builtin "list.sort") _ _) _ _ _ | show wpAny _ _ (pyIter _) _ _ _ | show wpAny _ _ (call (Value.builtin "len") [Value.ref SRC] _) _ _ _ | show wpAny _ _ (call (Value.ref _) _ _) _ _ _)); (fail_if_success (with_reducible show wpAny _ _ (exec (Stmt.For _ _ _ _ _) _) _ _ _)); (fail_if_success (with_reducible show wpAny _ _ (exec (Stmt.Assign _ (Expr.ListComp _ _ _ _) _) _) _ _ _)); (fail_if_success (with_reducible show wpAny _ _ (eval (Expr.ListComp _ _ _ _) _) _ _ _)); first | ((first | (with_reducible show wpAny _ _ (exec (Stmt.Assign _ _ _) _) _ _ _) | (with_reducible show wpAny _ _ (exec (Stmt.Expr _ _) _) _ _ _) | (with_reducible show wpAny _ _ (exec (Stmt.Return _ _) _) _ _ _)); k_fold) | walk1 | (dsimp only; (with_reducible show wpAny _ _ _ _ _); walk1))))
        · rename_i D4 h4 F4 N4 _
          exact ⟨_, (N4 _ (.head _)).1, rfl, _, rfl⟩
        · rename_i D4 h4 F4 N4 _
          exact ⟨oe, (N4 _ (.tail _ (.head _))).1, g2⟩
        rename_i D4 h4 F4 N4 _
        have hsz3 : 3 < ts.size := (Array.getElem?_eq_some_iff.mp g9).1
        refine wpAny_setFlight_none (tb := TT) (N4 _ (.tail _ (.head _))).1 g3 g4 (N4 _ (.tail _ (.tail _ (.head _)))).1 g8 hsz3 ?_
        have sb := Heap.SameBut.update h4 TT (Obj.mapFields (·.setIfInBounds 3 Value.none))
        have F5 := fr_change F4 N4 (.tail _ (.tail _ (.head _))) sb
        have N5 : News B3 L' _ [(SRC, liObj LST 0), (L' + 1, oc)] := news_same (fun q hq => N4 q (.tail _ (.tail _ (.tail _ hq)))) sb (fun q hq => by
          simp only [List.mem_cons, List.not_mem_nil, or_false] at hq
          rcases hq with rfl | rfl
          · exact nST
          · exact ncT)
        clear F4 N4
        generalize h4.update TT (Obj.mapFields (·.setIfInBounds 3 Value.none)) = h5 at *
        (repeat' (first | (k_unfold; (try dsimp only)) | ((fail_if_success (with_reducible first | show wpAny _ _ (exec (Stmt.While _ _ _ _) _) _ _ _ | show wpAny _ _ (eval (Expr.Name (Str.ofString "AttributeError") _) _) _ _ _ | show wpAny _ _ (subscriptTail (Expr.Name _ _) (Expr.Slice _ _ _ _) _ _) _ _ _ | show wpAny _ _ (call (Value.builtin "list.sort") _ _) _ _ _ | show wpAny _ _ (pyIter _) _ _ _ | show wpAny _ _ (call (Value.builtin "len") [Value.ref SRC] _) _ _ _ | show wpAny _ _ (call (Value.ref _) _ _) _ _ _)); (fail_if_success (with_reducible show wpAny _ _ (exec (Stmt.For _ _ _ _ _) _) _ _ _)); (fail_if_success (with_reducible show wpAny _ _ (exec (Stmt.Assign _ (Expr.ListComp _ _ _ _) _) _) _ _ _)); (fail_if_success (with_reducible show wpAny _ _ (eval (Expr.ListComp _ _ _ _) _) _ _ _)); first | ((first | (with_reducible show wpAny _ _ (exec (Stmt.Assign _ _ _) _) _ _ _) | (with_reducible show wpAny _ _ (exec (Stmt.Expr _ _) _) _ _ _) | (with_reducible show wpAny _ _ (exec (Stmt.Return _ _) _) _ _ _)); k_fold) | walk1 | (dsimp only; (with_reducible show wpAny _ _ _ _ _); walk1))))
        subst hQ1
        exact .inl ⟨rfl, h5, _, _, B3, rfl, F5, N5, rfl, rfl, stB3, frB3, fun q => by rw [q, hL] at hbS; cases hbS⟩
      --TRE
    · intro f s' hq1
      subst hQ1
      rcases hq1 with ⟨rfl, h₂, tk₂, m₂, B₂, rfl, F2, N2, e1, e2, stB2, frB2, hlt⟩ | ⟨v, rfl, hq⟩
      · have XB2 := X.keeps stB2
        have TB2 := T.keeps stB2
        have LB2 := stB2 _ _ hL
        clear F N0 XB TB LB frB stB
        (repeat' (first | (k_unfold; (try dsimp only)) | ((fail_if_success (with_reducible first | show wpAny _ _ (exec (Stmt.While _ _ _ _) _) _ _ _ | show wpAny _ _ (eval (Expr.Name (Str.ofString "AttributeError") _) _) _ _ _ | show wpAny _ _ (subscriptTail (Expr.Name _ _) (Expr.Slice _ _ _ _) _ _) _ _ _ | show wpAny _ _ (call (Value.builtin "list.sort") _ _) _ _ _ | show wpAny _ _ (pyIter _) _ _ _ | show wpAny _ _ (call (Value.builtin "len") [Value.ref SRC] _) _ _ _ | show wpAny _ _ (call (Value.ref _) _ _) _ _ _)); (fail_if_success (with_reducible show wpAny _ _ (exec (Stmt.For _ _ _ _ _) _) _ _ _)); (fail_if_success (with_reducible show wpAny _ _ (exec (Stmt.Assign _ (Expr.ListComp _ _ _ _) _) _) _ _ _)); (fail_if_success (with_reducible show wpAny _ _ (eval (Expr.ListComp _ _ _ _) _) _ _ _)); first | ((first | (with_reducible show wpAny _ _ (exec (Stmt.Assign _ _ _) _) _ _ _) | (with_reducible show wpAny _ _ (exec (Stmt.Expr _ _) _) _ _ _) | (with_reducible show wpAny _ _ (exec (Stmt.Return _ _) _) _ _ _)); k_fold) | walk1 | (dsimp only; (with_reducible show wpAny _ _ _ _ _); walk1))))
        refine call_iter_src (by assumption) (by assumption) src LB2 ?_
        intro IT h3 F3 N3 _
        clear F2 N2
        (repeat' (first | (k_unfold; (try dsimp only)) | ((fail_if_success (with_reducible first | show wpAny _ _ (exec (Stmt.While _ _ _ _) _) _ _ _ | show wpAny _ _ (eval (Expr.Name (Str.ofString "AttributeError") _) _) _ _ _ | show wpAny _ _ (subscriptTail (Expr.Name _ _) (Expr.Slice _ _ _ _) _ _) _ _ _ | show wpAny _ _ (call (Value.builtin "list.sort") _ _) _ _ _ | show wpAny _ _ (pyIter _) _ _ _ | show wpAny _ _ (call (Value.builtin "len") [Value.ref SRC] _) _ _ _ | show wpAny _ _ (call (Value.ref _) _ _) _ _ _)); (fail_if_success (with_reducible show wpAny _ _ (exec (Stmt.For _ _ _ _ _) _) _ _ _)); (fail_if_success (with_reducible show wpAny _ _ (exec (Stmt.Assign _ (Expr.ListComp _ _ _ _) _) _) _ _ _)); (fail_if_success (with_reducible show wpAny _ _ (eval (Expr.ListComp _ _ _ _) _) _ _ _)); first | ((first | (with_reducible show wpAny _ _ (exec (Stmt.Assign _ _ _) _) _ _ _) | (with_reducible show wpAny _ _ (exec (Stmt.Expr _ _) _) _ _ _) | (with_reducible show wpAny _ _ (exec (Stmt.Return _ _) _) _ _ _)); k_fold) | walk1 | (dsimp only; (with_reducible show wpAny _ _ _ _ _); walk1))))
        refine zip_assign (B := B₂) (L := L') (LST := LST) (IT := IT) (cc := L' + 1) (oc := oc) (m := fun y => if y = Str.ofString "it" then some (.ref IT) else m₂ y) (cl := [(Str.ofString "key", L' + 1)]) (a0 := 0) (step := -1) (n := min wish.toNat N) (left := wish.toNat) (N := N) (e := e) (c0 := c) (fun j y nw => ∃ T ti tq, y = .ref T ∧ nw = [(T, { cls := .type "tuple", data := .seq #[.int (x j) tq, .int (0 + j * (-1)) ti, e j] })])
          (by rfl) (by with_unfolding_all rfl) (by with_unfolding_all rfl) (by decide +kernel) (by decide +kernel) (by rfl) (by rfl) (by intro _; rfl) (by exact hA) (by rfl) (by rfl) (by rfl) (by decide) (by rfl) (by lia) d1 LB2 ?_ ?_ ?_
        · (repeat' (first | (k_unfold; (try dsimp only)) | ((fail_if_success (with_reducible first | show wpAny _ _ (exec (Stmt.While _ _ _ _) _) _ _ _ | show wpAny _ _ (eval (Expr.Name (Str.ofString "AttributeError") _) _) _ _ _ | show wpAny _ _ (subscriptTail (Expr.Name _ _) (Expr.Slice _ _ _ _) _ _) _ _ _ | show wpAny _ _ (call (Value.builtin "list.sort") _ _) _ _ _ | show wpAny _ _ (pyIter _) _ _ _ | show wpAny _ _ (call (Value.builtin "len") [Value.ref SRC] _) _ _ _ | show wpAny _ _ (call (Value.ref _) _ _) _ _ _)); (fail_if_success (with_reducible show wpAny _ _ (exec (Stmt.For _ _ _ _ _) _) _ _ _)); (fail_if_success (with_reducible show wpAny _ _ (exec (Stmt.Assign _ (Expr.ListComp _ _ _ _) _) _) _ _ _)); (fail_if_success (with_reducible show wpAny _ _ (eval (Expr.ListComp _ _ _ _) _) _ _ _)); first | ((first | (with_reducible show wpAny _ _ (exec (Stmt.Assign _ _ _) _) _ _ _) | (with_reducible show wpAny _ _ (exec (Stmt.Expr _ _) _) _ _ _) | (with_reducible show wpAny _ _ (exec (Stmt.Return _ _) _) _ _ _)); k_fold) | walk1 | (dsimp only; (with_reducible show wpAny _ _ _ _ _); walk1))))
          exact zip_made (by assumption) (by assumption) (by assumption) (size_down wish) ⟨_, _, rfl⟩
        · intro j h m₃ tk t E' C hj hn q1 q2 b1 g1
          --ELT
          have hj' : j < N := by lia
          refine Tuple_ (spliced_more ?_)
          walk1
          refine load_cl (by rfl) (by rfl) (by rfl) g1 d1 ?_
          refine callWith_def hfd ?_
          refine spliced_more (load_c (by rfl) (by rfl) hn q2 (spliced_none ?_))
          refine ⟨b1 _ _ (stB2 _ _ hfq), hkey j _ h _ _ _ hj' (by show A.depth + 1 ≤ 499; lia) (by show A.units + 3 ≤ 800; lia) hA (fun a o q => b1 _ _ (stB2 _ _ q)) (fun _ _ q => q) (Nat.le_refl _) fun tq h7 tk7 st7 => ?_⟩
          refine spliced_more (load_c (by rfl) (by rfl) (ns_at hn fun o q => st7 _ _ q) q1 (spliced_more (load_c (by rfl) (by rfl) (ns_at hn fun o q => st7 _ _ q) q2 (spliced_none ?_))))
          refine wpAny_newObj_type ⟨_, _, [(h7.objs.size, _)], rfl, fun a o q => Heap.get?_push_of_some _ (st7 _ _ q), ⟨_, t, tq, rfl, rfl⟩, fun q hq => ?_⟩
          rw [List.mem_singleton] at hq; subst hq
          exact ⟨Heap.get?_push_size _ rfl, none_sub st7 (Heap.get?_none_of_le (Nat.le_refl _))⟩
        intro D h8 tk8 io c8 rs hlen hYP F8 N8 hio
        have hmin : min wish.toNat N = rs.length := hlen.symm
        (repeat' (first | (k_unfold; (try dsimp only)) | ((fail_if_success (with_reducible first | show wpAny _ _ (exec (Stmt.While _ _ _ _) _) _ _ _ | show wpAny _ _ (eval (Expr.Name (Str.ofString "AttributeError") _) _) _ _ _ | show wpAny _ _ (subscriptTail (Expr.Name _ _) (Expr.Slice _ _ _ _) _ _) _ _ _ | show wpAny _ _ (call (Value.builtin "list.sort") _ _) _ _ _ | show wpAny _ _ (pyIter _) _ _ _ | show wpAny _ _ (call (Value.builtin "len") [Value.ref SRC] _) _ _ _ | show wpAny _ _ (call (Value.ref _) _ _) _ _ _)); (fail_if_success (with_reducible show wpAny _ _ (exec (Stmt.For _ _ _ _ _) _) _ _ _)); (fail_if_success (with_reducible show wpAny _ _ (exec (Stmt.Assign _ (Expr.ListComp _ _ _ _) _) _) _ _ _)); (fail_if_success (with_reducible show wpAny _ _ (eval (Expr.ListComp _ _ _ _) _) _ _ _)); first | ((first | (with_reducible show wpAny _ _ (exec (Stmt.Assign _ _ _) _) _ _ _) | (with_reducible show wpAny _ _ (exec (Stmt.Expr _ _) _) _ _ _) | (with_reducible show wpAny _ _ (exec (Stmt.Return _ _) _) _ _ _)); k_fold) | walk1 | (dsimp only; (with_reducible show wpAny _ _ _ _ _); walk1))))
        · have he : (rs.map (·.1)).isEmpty = true := by assumption
          have he' : rs = [] := by simpa using he
          have hw0 : wish.toNat = 0 := by rw [he'] at hmin; simp at hmin; lia
          refine h D h8 _ c8 (fun a o q => F8.keep _ _ (stB2 _ _ q)) (none_sub stB2 (N8 _ (.head _)).2.2) ?_ (frB2.trans (Framed.of_keeps F8.keep))
          rw [hw0, List.take_zero]
          have z := (N8 _ (.head _)).1
          rw [he'] at z; exact z
        have he : (rs.map (·.1)).isEmpty = false := by assumption
        have hpos : 0 < rs.length := by cases rs with | nil => simp at he | cons a r => simp
        have hle : rs.length ≤ N := by lia
        have I0 : Items x e TupK true (rs.flatMap (·.2)) (mkIts x e true rs) rs.length (-(rs.length : Int)) := mkIts_items (dn := true) fun j r hr => by
          refine e3_2 (hYP j r hr) ?_
          intro T ti tq q1 q2
          exact ⟨T, _, q1, q2, tq, ti, _, rfl⟩
        rw [← mkIts_v (x := x) (e := e) (dn := true)] at N8
        have B0 : Best x ltI rs.length rs.length (hfy ltI (mkIts x e true rs) ((mkIts x e true rs).length / 2)) := by
          have z := best_start (sc := x) sw_ltI (its := mkIts x e true rs) (by rw [mkIts_len]; exact hpos) (by rw [mkIts_pl, mkIts_len])
          rw [mkIts_len] at z ⊢; exact z
        have hpl : (mkIts x e true rs).map pl = List.range rs.length := mkIts_pl
        generalize hits : mkIts x e true rs = its at *
        generalize hts : rs.flatMap (·.2) = ts at *
        have hil : its.length = rs.length := by rw [← hits]; exact mkIts_len
        have LD := (N8 _ (.head _)).2.1
        have BD := (N8 _ (.head _)).2.2
        have P0 := items_keyd I0 (N8 _ (.head _)).1 fun q hq => (N8 q (.tail _ (.tail _ (.tail _ hq)))).1
        refine heapify (b := hideAll h8 [D]) (xs := its) (n := c8) (lt := ltI) (S := fun u => u ∈ its) (by show A.depth + 1 ≤ 498; lia) (by show A.units + 3 ≤ 480; lia) hA (fun a o q => of_hideAll _ q) (by rw [hideAll_size]; exact Nat.le_refl _) (XB2.keeps (stays_hide F8.keep BD)) (TB2.keeps (stays_hide F8.keep BD)) (N8 _ (.head _)).1 (hideAll_none _ (.head _)) (fun _ q => q) (cmp_keyd P0 fun u v hu hv => I0.inj (by rw [hpl]; exact List.nodup_range) u hu v hv) (by lia) ?_
        intro h9 tk9 st9 gD9
        have F9 := fr_back F8 (Ne.symm LD) BD st9
        have tsT : ∀ q ∈ ts, q.2.cls = .type "tuple" := by
          intro q hq
          rw [← hts] at hq
          refine e1_2 (List.mem_flatMap.mp hq) ?_
          intro r hr hq
          obtain ⟨j, hj, rfl⟩ := List.getElem_of_mem hr
          refine e3_2 (hYP j rs[j] (List.getElem?_eq_getElem hj)) ?_
          intro T ti tq q1 q2
          rw [q2, List.mem_singleton] at hq; subst hq; rfl
        have io_f : ∃ vs, io.data = .fields vs := by rcases hio with ⟨rfl, _⟩ | ⟨rfl, _⟩ <;> exact ⟨_, rfl⟩
        have off1 : ∀ (items : Array Value) (c : Nat), ∀ q ∈ (IT, io) :: (L' + 1, oc) :: ts, q.2 ≠ listOf items c := by
          intro items c q hq z
          rcases List.mem_cons.mp hq with rfl | hq
          · obtain ⟨vs, hv⟩ := io_f; dsimp only at z; rw [z] at hv; simp [W.listOf] at hv
          rcases List.mem_cons.mp hq with rfl | hq
          · dsimp only at z; rw [z] at d1; simp [W.listOf] at d1
          · have := tsT q hq; rw [z] at this; simp [W.listOf] at this
        have N9 := news_back1 N8 (off1 _ _) st9 gD9
        clear F8 N8
        have Ih := I0.sub (its' := hfy ltI its (its.length / 2)) fun u hu => (heapify_spec sw_ltI its).2.mem_iff.mp hu
        generalize hfy ltI its (its.length / 2) = hs at *
        have hsl := B0.len
        (repeat' (first | (k_unfold; (try dsimp only)) | ((fail_if_success (with_reducible first | show wpAny _ _ (exec (Stmt.While _ _ _ _) _) _ _ _ | show wpAny _ _ (eval (Expr.Name (Str.ofString "AttributeError") _) _) _ _ _ | show wpAny _ _ (subscriptTail (Expr.Name _ _) (Expr.Slice _ _ _ _) _ _) _ _ _ | show wpAny _ _ (call (Value.builtin "list.sort") _ _) _ _ _ | show wpAny _ _ (pyIter _) _ _ _ | show wpAny _ _ (call (Value.builtin "len") [Value.ref SRC] _) _ _ _ | show wpAny _ _ (call (Value.ref _) _ _) _ _ _)); (fail_if_success (with_reducible show wpAny _ _ (exec (Stmt.For _ _ _ _ _) _) _ _ _)); (fail_if_success (with_reducible show wpAny _ _ (exec (Stmt.Assign _ (Expr.ListComp _ _ _ _) _) _) _ _ _)); (fail_if_success (with_reducible show wpAny _ _ (eval (Expr.ListComp _ _ _ _) _) _ _ _)); first | ((first | (with_reducible show wpAny _ _ (exec (Stmt.Assign _ _ _) _) _ _ _) | (with_reducible show wpAny _ _ (exec (Stmt.Expr _ _) _) _ _ _) | (with_reducible show wpAny _ _ (exec (Stmt.Return _ _) _) _ _ _)); k_fold) | walk1 | (dsimp only; (with_reducible show wpAny _ _ _ _ _); walk1))))
        have I1 : Items x e TupK true ts hs rs.length (-wish) := ⟨Ih.good, Ih.idx, fun u hu => by have := Ih.ord u hu; simp only [Bool.false_eq_true, if_false, if_true] at this ⊢; lia⟩
        have r0 : ge hs 0 ∈ hs := ge_mem (by lia)
        obtain ⟨T0, o0, p0, v0, k0, e0, l0, m0, tq0, ti0, mm0, ho0⟩ := I1.good _ r0
        rw [show (hs.getD (Int.toNat 0) it0).v = .ref T0 from v0]
        have gT0 := (N9 _ (.tail _ (.tail _ (.tail _ m0)))).1
        rw [ho0] at gT0
        refine tail_any ⟨_, gT0, rfl⟩ F.slot_tuple_getitem.lookup (P.getItem_tuple gT0 (by decide) (by decide) (k := 0) rfl rfl ?_) (by with_unfolding_all rfl)
        rw [kh_of k0]
        (repeat' (first | (k_unfold; (try dsimp only)) | ((fail_if_success (with_reducible first | show wpAny _ _ (exec (Stmt.While _ _ _ _) _) _ _ _ | show wpAny _ _ (eval (Expr.Name (Str.ofString "AttributeError") _) _) _ _ _ | show wpAny _ _ (subscriptTail (Expr.Name _ _) (Expr.Slice _ _ _ _) _ _) _ _ _ | show wpAny _ _ (call (Value.builtin "list.sort") _ _) _ _ _ | show wpAny _ _ (pyIter _) _ _ _ | show wpAny _ _ (call (Value.builtin "len") [Value.ref SRC] _) _ _ _ | show wpAny _ _ (call (Value.ref _) _ _) _ _ _)); (fail_if_success (with_reducible show wpAny _ _ (exec (Stmt.For _ _ _ _ _) _) _ _ _)); (fail_if_success (with_reducible show wpAny _ _ (exec (Stmt.Assign _ (Expr.ListComp _ _ _ _) _) _) _ _ _)); (fail_if_success (with_reducible show wpAny _ _ (eval (Expr.ListComp _ _ _ _) _) _ _ _)); first | ((first | (with_reducible show wpAny _ _ (exec (Stmt.Assign _ _ _) _) _ _ _) | (with_reducible show wpAny _ _ (exec (Stmt.Expr _ _) _) _ _ _) | (with_reducible show wpAny _ _ (exec (Stmt.Return _ _) _) _ _ _)); k_fold) | walk1 | (dsimp only; (with_reducible show wpAny _ _ _ _ _); walk1))))
        rename_i h12 F12 N12
        obtain ⟨Q2, hQ2⟩ : ∃ Q2 : Flow → Shared → Prop, Q2 = fun f s' => f = .next ∧ ∃ its ts h tk m₃ od, s' = { s with heap := h, toks := tk } ∧ Fr B₂ L' h m₃ ∧ News B₂ L' h ((D, listOf (its.map It.v).toArray c8) :: ts) ∧ m₃ (Str.ofString "result") = some (.ref D) ∧
          Items x e TupK true ts its N od ∧ Best x ltI rs.length N its ∧ (∀ q ∈ ts, q.2.cls = .type "tuple") := ⟨_, rfl⟩
        refine wpAny_mono (Q := Q2) ?_ ?_ fun _ _ e => e
        ·
          --FOR
          refine wpAny_For ?_
          (repeat' (first | (k_unfold; (try dsimp only)) | ((fail_if_success (with_reducible first | show wpAny _ _ (exec (Stmt.While _ _ _ _) _) _ _ _ | show wpAny _ _ (eval (Expr.Name (Str.ofString "AttributeError") _) _) _ _ _ | show wpAny _ _ (subscriptTail (Expr.Name _ _) (Expr.Slice _ _ _ _) _ _) _ _ _ | show wpAny _ _ (call (Value.builtin "list.sort") _ _) _ _ _ | show wpAny _ _ (pyIter _) _ _ _ | show wpAny _ _ (call (Value.builtin "len") [Value.ref SRC] _) _ _ _ | show wpAny _ _ (call (Value.ref _) _ _) _ _ _)); (fail_if_success (with_reducible show wpAny _ _ (exec (Stmt.For _ _ _ _ _) _) _ _ _)); (fail_if_success (with_reducible show wpAny _ _ (exec (Stmt.Assign _ (Expr.ListComp _ _ _ _) _) _) _ _ _)); (fail_if_success (with_reducible show wpAny _ _ (eval (Expr.ListComp _ _ _ _) _) _ _ _)); first | ((first | (with_reducible show wpAny _ _ (exec (Stmt.Assign _ _ _) _) _ _ _) | (with_reducible show wpAny _ _ (exec (Stmt.Expr _ _) _) _ _ _) | (with_reducible show wpAny _ _ (exec (Stmt.Return _ _) _) _ _ _)); k_fold) | walk1 | (dsimp only; (with_reducible show wpAny _ _ _ _ _); walk1))))
          have io_c : io.cls = .type "list_iterator" := by rcases hio with ⟨rfl, _⟩ | ⟨rfl, _⟩ <;> rfl
          refine pyIter_li (N12 _ (.tail _ (.head _))).1 io_c ?_
          obtain ⟨IV, hIV⟩ : ∃ IV : Nat → Shared → Prop, IV = fun k s' => ∃ j its ts h tk m₃ io od tod ttop, k = N + 1 - j ∧ rs.length ≤ j ∧ j ≤ N ∧ s' = { s with heap := h, toks := tk } ∧ Fr B₂ L' h m₃ ∧ News B₂ L' h ((D, listOf (its.map It.v).toArray c8) :: (IT, io) :: (L' + 1, oc) :: ts) ∧ (io = liObj LST j ∨ (io = liEnd N ∧ j = N)) ∧
            m₃ (Str.ofString "result") = some (.ref D) ∧ m₃ (Str.ofString "top") = some (.int (x (pl (ge its 0))) ttop) ∧ m₃ (Str.ofString "order") = some (.int od tod) ∧ m₃ (Str.ofString "_heapreplace") = some (.ref 21) ∧
            Items x e TupK true ts its j od ∧ Best x ltI rs.length j its ∧ (∀ q ∈ ts, q.2.cls = .type "tuple") := ⟨_, rfl⟩
          refine codeF IV (N + 1 - rs.length) ?_ ?_
          · subst hIV
            refine ⟨rs.length, hs, ts, _, _, _, io, -wish, _, tq0, rfl, Nat.le_refl _, hle, rfl, F12, N12, ?_, rfl, ?_, rfl, rfl, I1, B0, tsT⟩
            · rcases hio with ⟨rfl, _⟩ | ⟨rfl, h2⟩
              · left; rw [hmin]
              · right; rw [hmin]
                have : rs.length = N := by lia
                rw [this]; exact ⟨rfl, rfl⟩
            · rw [show pl (ge hs 0) = p0 from pl_of k0]; rfl
          clear F12 N12 hio io_f io_c off1 tsT I1 B0 gT0 m0 ho0 v0 k0 e0 l0 r0 Ih hsl gD9
          intro k s' hik
          rw [hIV] at hik
          refine e10_14 (hik) ?_
          (try clear hik)
          intro j its ts h13 tk13 m₃ io od tod ttop zr10 hj1 hj2 zr13 F13 N13 hio e3 e4 e5 e6 I2 B2 tsT
          first | subst zr10 | cases zr10
          first | subst zr13 | cases zr13
          have hlt2 := I2.hlt
          have hil2 := B2.len
          have io_f : ∃ vs, io.data = .fields vs := by rcases hio with rfl | ⟨rfl, _⟩ <;> exact ⟨_, rfl⟩
          have offI : ∀ q ∈ (D, listOf (its.map It.v).toArray c8) :: (L' + 1, oc) :: ts, q.2 ≠ io := by
            intro q hq z
            obtain ⟨vs, hv⟩ := io_f
            rcases List.mem_cons.mp hq with rfl | hq
            · dsimp only at z; rw [← z] at hv; simp [W.listOf] at hv
            rcases List.mem_cons.mp hq with rfl | hq
            · dsimp only at z; rw [← z, d1] at hv; cases hv
            · have hcc := tsT q hq
              rw [z] at hcc
              rcases hio with rfl | ⟨rfl, _⟩
              · simp [liObj] at hcc
              · simp [liEnd] at hcc
          have hIT := N13 _ (.tail _ (.head _))
          by_cases hjN : j < N
          · have hio' : io = liObj LST j := by rcases hio with h1 | ⟨_, h2⟩; exact h1; lia
            subst hio'
            refine pyNext_li_item hIT.1 (F13.keep _ _ LB2) (x := e j) (by simp [hjN]) fun h14 g14 s14 => ?_
            have F14 := fr_ext F13 (Ne.symm hIT.2.1) hIT.2.2 s14.extBut
            have N14 := news_mid N13 offI s14.extBut g14
            clear F13 N13
            (repeat' (first | (k_unfold; (try dsimp only)) | ((fail_if_success (with_reducible first | show wpAny _ _ (exec (Stmt.While _ _ _ _) _) _ _ _ | show wpAny _ _ (eval (Expr.Name (Str.ofString "AttributeError") _) _) _ _ _ | show wpAny _ _ (subscriptTail (Expr.Name _ _) (Expr.Slice _ _ _ _) _ _) _ _ _ | show wpAny _ _ (call (Value.builtin "list.sort") _ _) _ _ _ | show wpAny _ _ (pyIter _) _ _ _ | show wpAny _ _ (call (Value.builtin "len") [Value.ref SRC] _) _ _ _ | show wpAny _ _ (call (Value.ref _) _ _) _ _ _)); (fail_if_success (with_reducible show wpAny _ _ (exec (Stmt.For _ _ _ _ _) _) _ _ _)); (fail_if_success (with_reducible show wpAny _ _ (exec (Stmt.Assign _ (Expr.ListComp _ _ _ _) _) _) _ _ _)); (fail_if_success (with_reducible show wpAny _ _ (eval (Expr.ListComp _ _ _ _) _) _ _ _)); first | ((first | (with_reducible show wpAny _ _ (exec (Stmt.Assign _ _ _) _) _ _ _) | (with_reducible show wpAny _ _ (exec (Stmt.Expr _ _) _) _ _ _) | (with_reducible show wpAny _ _ (exec (Stmt.Return _ _) _) _ _ _)); k_fold) | walk1 | (dsimp only; (with_reducible show wpAny _ _ _ _ _); walk1))))
            · rename_i h15 F15 N15
              exact F15.keep _ _ (stB2 _ _ hfq)
            rename_i h15 F15 N15
            refine hkey j _ h15 _ _ _ hjN (by show A.depth + 1 ≤ 499; lia) (by show A.units + 3 ≤ 800; lia) hA (fun a o q => F15.keep _ _ (stB2 _ _ q)) (fun _ _ q => q) (Nat.le_refl _) fun tq h15b tk15b st15b => ?_
            have F15b := fr_keeps F15 st15b
            have N15b := news_keeps N15 st15b
            clear F15 N15
            have r1 : ge its 0 ∈ its := ge_mem (by lia)
            have plt : pl (ge its 0) < j := by
              refine e3_5 (I2.good _ r1) ?_
              intro _ _ p1 _ k1 _ l1 _
              rw [pl_of k1]; exact l1
            (repeat' (first | (k_unfold; (try dsimp only)) | ((fail_if_success (with_reducible first | show wpAny _ _ (exec (Stmt.While _ _ _ _) _) _ _ _ | show wpAny _ _ (eval (Expr.Name (Str.ofString "AttributeError") _) _) _ _ _ | show wpAny _ _ (subscriptTail (Expr.Name _ _) (Expr.Slice _ _ _ _) _ _) _ _ _ | show wpAny _ _ (call (Value.builtin "list.sort") _ _) _ _ _ | show wpAny _ _ (pyIter _) _ _ _ | show wpAny _ _ (call (Value.builtin "len") [Value.ref SRC] _) _ _ _ | show wpAny _ _ (call (Value.ref _) _ _) _ _ _)); (fail_if_success (with_reducible show wpAny _ _ (exec (Stmt.For _ _ _ _ _) _) _ _ _)); (fail_if_success (with_reducible show wpAny _ _ (exec (Stmt.Assign _ (Expr.ListComp _ _ _ _) _) _) _ _ _)); (fail_if_success (with_reducible show wpAny _ _ (eval (Expr.ListComp _ _ _ _) _) _ _ _)); first | ((first | (with_reducible show wpAny _ _ (exec (Stmt.Assign _ _ _) _) _ _ _) | (with_reducible show wpAny _ _ (exec (Stmt.Expr _ _) _) _ _ _) | (with_reducible show wpAny _ _ (exec (Stmt.Return _ _) _) _ _ _)); k_fold) | walk1 | (dsimp only; (with_reducible show wpAny _ _ _ _ _); walk1))))
            · rename_i hxx T5 h16 F16 N16 _
              have I3 := I2.add (y := ⟨.ref T5, [x j, (j : Int)], od, e j⟩) (ts' := (T5, { cls := .type "tuple", data := .seq #[.int (x j) tq, .int od tod, e j] }) :: ts) (fun q hq => .tail _ hq) ⟨T5, _, rfl, rfl, rfl, .head _, tq, tod, _, rfl⟩ rfl
              simp only [Bool.false_eq_true, if_false, if_true] at I3
              have tsT5 : ∀ q ∈ (T5, ({ cls := .type "tuple", data := .seq #[.int (x j) tq, .int od tod, e j] } : Obj)) :: ts, q.2.cls = .type "tuple" := fun q hq => by
                rcases List.mem_cons.mp hq with rfl | hq
                · rfl
                · exact tsT q hq
              have N16' : News B₂ L' h16 ((D, listOf (its.map It.v).toArray c8) :: (IT, liObj LST (j + 1)) :: (L' + 1, oc) :: (T5, { cls := .type "tuple", data := .seq #[.int (x j) tq, .int od tod, e j] }) :: ts) := fun q hq => N16 q (by
                simp only [List.mem_cons] at hq ⊢
                rcases hq with hq | hq | hq | hq | hq
                · exact .inr (.inl hq)
                · exact .inr (.inr (.inl hq))
                · exact .inr (.inr (.inr (.inl hq)))
                · exact .inl hq
                · exact .inr (.inr (.inr (.inr hq))))
              clear N16
              generalize hts5 : (T5, ({ cls := .type "tuple", data := .seq #[.int (x j) tq, .int od tod, e j] } : Obj)) :: ts = ts5 at *
              have hpy : pl (⟨.ref T5, [x j, (j : Int)], od, e j⟩ : It) = j := pl_of (x := x) rfl
              have hndy : ((⟨.ref T5, [x j, (j : Int)], od, e j⟩ : It) :: its).map pl |>.Nodup := by
                rw [List.map_cons, List.nodup_cons, hpy]
                refine ⟨fun z => ?_, B2.places.nodup_iff.mpr ((ordD_nodup j).sublist (List.take_sublist _ _))⟩
                have := List.mem_of_mem_take (B2.places.mem_iff.mp z)
                exact absurd (ordD_mem.mp this) (Nat.lt_irrefl _)
              have P3 := items_keyd I3 (N16' _ (.head _)).1 fun q hq => (N16' q (.tail _ (.tail _ (.tail _ hq)))).1
              refine heapreplace (b := hideAll h16 [D]) (xs := its) (y := ⟨.ref T5, [x j, (j : Int)], od, e j⟩) (n := c8) (lt := ltI) (S := fun u => u ∈ (⟨.ref T5, [x j, (j : Int)], od, e j⟩ : It) :: its) (by show A.depth + 1 ≤ 498; lia) (by show A.units + 3 ≤ 480; lia) (fun a o q => of_hideAll _ q) (by rw [hideAll_size]; exact Nat.le_refl _) (XB2.keeps (stays_hide F16.keep BD)) (TB2.keeps (stays_hide F16.keep BD)) (N16' _ (.head _)).1 (hideAll_none _ (.head _)) (fun v hv => .tail _ hv) (.head _) (cmp_keyd P3 fun u v hu hv => I3.inj hndy u hu v hv) (by lia) (by lia) ?_
              intro vv h17 tk17 st17 gD17
              have F17 := fr_back F16 (Ne.symm LD) BD st17
              have N17 := news_back1 N16' (fun q hq z => by
                rcases List.mem_cons.mp hq with rfl | hq
                · dsimp only at z; have := congrArg Obj.data z; simp [liObj, W.listOf] at this
                rcases List.mem_cons.mp hq with rfl | hq
                · dsimp only at z; rw [z] at d1; simp [W.listOf] at d1
                · have := tsT5 q hq; rw [z] at this; simp [W.listOf] at this) st17 gD17
              have B4 := B2.in sw_ltI hlt2 hpy (by lia)
              have I4 := I3.sub (its' := sup ltI (its.set 0 ⟨.ref T5, [x j, (j : Int)], od, e j⟩) 0 0 ⟨.ref T5, [x j, (j : Int)], od, e j⟩) (sup_mem' (by rw [List.length_set]; lia) _ (.head _) fun v hv => by
                rcases List.mem_or_eq_of_mem_set hv with h1 | h1
                · exact .tail _ h1
                · rw [h1]; exact .head _)
              generalize sup ltI (its.set 0 ⟨.ref T5, [x j, (j : Int)], od, e j⟩) 0 0 ⟨.ref T5, [x j, (j : Int)], od, e j⟩ = zs at *
              have hzl := B4.len
              clear F16 N16'
              (repeat' (first | (k_unfold; (try dsimp only)) | ((fail_if_success (with_reducible first | show wpAny _ _ (exec (Stmt.While _ _ _ _) _) _ _ _ | show wpAny _ _ (eval (Expr.Name (Str.ofString "AttributeError") _) _) _ _ _ | show wpAny _ _ (subscriptTail (Expr.Name _ _) (Expr.Slice _ _ _ _) _ _) _ _ _ | show wpAny _ _ (call (Value.builtin "list.sort") _ _) _ _ _ | show wpAny _ _ (pyIter _) _ _ _ | show wpAny _ _ (call (Value.builtin "len") [Value.ref SRC] _) _ _ _ | show wpAny _ _ (call (Value.ref _) _ _) _ _ _)); (fail_if_success (with_reducible show wpAny _ _ (exec (Stmt.For _ _ _ _ _) _) _ _ _)); (fail_if_success (with_reducible show wpAny _ _ (exec (Stmt.Assign _ (Expr.ListComp _ _ _ _) _) _) _ _ _)); (fail_if_success (with_reducible show wpAny _ _ (eval (Expr.ListComp _ _ _ _) _) _ _ _)); first | ((first | (with_reducible show wpAny _ _ (exec (Stmt.Assign _ _ _) _) _ _ _) | (with_reducible show wpAny _ _ (exec (Stmt.Expr _ _) _) _ _ _) | (with_reducible show wpAny _ _ (exec (Stmt.Return _ _) _) _ _ _)); k_fold) | walk1 | (dsimp only; (with_reducible show wpAny _ _ _ _ _); walk1))))
              obtain ⟨T6, o6, p6, v6, k6, f6, l6, m6, tq6, ti6, mm6, ho6⟩ := I4.good _ (ge_mem (by lia : 0 < zs.length))
              rw [show (zs.getD (Int.toNat 0) it0).v = .ref T6 from v6]
              have gT6 := (N17 _ (.tail _ (.tail _ (.tail _ m6)))).1
              rw [ho6] at gT6
              refine assign_Tuple_tuple hA ⟨_, gT6, rfl, _, rfl⟩ rfl rfl fun h18 he18 => ?_
              have st18 : h17.StaysIn h18 := fun a o q => he18 a o (Nat.ne_of_lt (Heap.lt_size q)) q
              have F18 := fr_keeps F17 st18
              have N18 := news_keeps N17 st18
              clear F17 N17
              rw [kh_of k6]
              (repeat' (first | (k_unfold; (try dsimp only)) | ((fail_if_success (with_reducible first | show wpAny _ _ (exec (Stmt.While _ _ _ _) _) _ _ _ | show wpAny _ _ (eval (Expr.Name (Str.ofString "AttributeError") _) _) _ _ _ | show wpAny _ _ (subscriptTail (Expr.Name _ _) (Expr.Slice _ _ _ _) _ _) _ _ _ | show wpAny _ _ (call (Value.builtin "list.sort") _ _) _ _ _ | show wpAny _ _ (pyIter _) _ _ _ | show wpAny _ _ (call (Value.builtin "len") [Value.ref SRC] _) _ _ _ | show wpAny _ _ (call (Value.ref _) _ _) _ _ _)); (fail_if_success (with_reducible show wpAny _ _ (exec (Stmt.For _ _ _ _ _) _) _ _ _)); (fail_if_success (with_reducible show wpAny _ _ (exec (Stmt.Assign _ (Expr.ListComp _ _ _ _) _) _) _ _ _)); (fail_if_success (with_reducible show wpAny _ _ (eval (Expr.ListComp _ _ _ _) _) _ _ _)); first | ((first | (with_reducible show wpAny _ _ (exec (Stmt.Assign _ _ _) _) _ _ _) | (with_reducible show wpAny _ _ (exec (Stmt.Expr _ _) _) _ _ _) | (with_reducible show wpAny _ _ (exec (Stmt.Return _ _) _) _ _ _)); k_fold) | walk1 | (dsimp only; (with_reducible show wpAny _ _ _ _ _); walk1))))
              rename_i _ h19 F19 N19
              refine wpAny_loadName_local (by rfl) (by rfl) F19.ns (v := .int od tod) (by exact e5) ?_
              (repeat' (first | (k_unfold; (try dsimp only)) | ((fail_if_success (with_reducible first | show wpAny _ _ (exec (Stmt.While _ _ _ _) _) _ _ _ | show wpAny _ _ (eval (Expr.Name (Str.ofString "AttributeError") _) _) _ _ _ | show wpAny _ _ (subscriptTail (Expr.Name _ _) (Expr.Slice _ _ _ _) _ _) _ _ _ | show wpAny _ _ (call (Value.builtin "list.sort") _ _) _ _ _ | show wpAny _ _ (pyIter _) _ _ _ | show wpAny _ _ (call (Value.builtin "len") [Value.ref SRC] _) _ _ _ | show wpAny _ _ (call (Value.ref _) _ _) _ _ _)); (fail_if_success (with_reducible show wpAny _ _ (exec (Stmt.For _ _ _ _ _) _) _ _ _)); (fail_if_success (with_reducible show wpAny _ _ (exec (Stmt.Assign _ (Expr.ListComp _ _ _ _) _) _) _ _ _)); (fail_if_success (with_reducible show wpAny _ _ (eval (Expr.ListComp _ _ _ _) _) _ _ _)); first | ((first | (with_reducible show wpAny _ _ (exec (Stmt.Assign _ _ _) _) _ _ _) | (with_reducible show wpAny _ _ (exec (Stmt.Expr _ _) _) _ _ _) | (with_reducible show wpAny _ _ (exec (Stmt.Return _ _) _) _ _ _)); k_fold) | walk1 | (dsimp only; (with_reducible show wpAny _ _ _ _ _); walk1))))
              rename_i h20 F20 N20
              subst hIV
              exact ⟨N + 1 - (j + 1), by lia, j + 1, zs, ts5, _, _, _, _, od - 1, _, tq6, rfl, by lia, hjN, rfl, F20, N20, .inl rfl, e3, (by rw [pl_of k6]; rfl), rfl, e6, I4, B4, tsT5⟩
            · rename_i h15c F15c N15c hx1
              subst hIV
              refine ⟨N + 1 - (j + 1), by lia, j + 1, its, ts, _, _, _, _, od, tod, ttop, rfl, by lia, hjN, rfl, F15c, N15c, .inl rfl, by assumption, by assumption, by assumption, by assumption, I2.skip, B2.out sw_ltI hlt2 (by lia), tsT⟩
          · obtain rfl : j = N := by lia
            have fin : ∀ h' tk' ioo, Fr B₂ L' h' m₃ → News B₂ L' h' ((D, listOf (its.map It.v).toArray c8) :: (IT, ioo) :: (L' + 1, oc) :: ts) → _ := fun h' tk' ioo F' N' => (⟨rfl, its, ts, h', tk', m₃, od, rfl, F', fun q hq => N' q (by rcases List.mem_cons.mp hq with rfl | hq; exact .head _; exact .tail _ (.tail _ (.tail _ hq))), e3, I2, B2, tsT⟩ :
              Flow.next = Flow.next ∧ ∃ its ts h tk m₃ od, ({ s with heap := h', toks := tk' } : Shared) = { s with heap := h, toks := tk } ∧ Fr B₂ L' h m₃ ∧ News B₂ L' h ((D, listOf (its.map It.v).toArray c8) :: ts) ∧ m₃ (Str.ofString "result") = some (.ref D) ∧
                Items x e TupK true ts its j od ∧ Best x ltI rs.length j its ∧ (∀ q ∈ ts, q.2.cls = .type "tuple"))
            rcases hio with rfl | ⟨rfl, _⟩
            · refine pyNext_li_end hA hIT.1 (F13.keep _ _ LB2) (by simp) fun h14 g14 s14 => ?_
              have F14 := fr_ext F13 (Ne.symm hIT.2.1) hIT.2.2 s14
              have N14 := news_mid N13 offI s14 g14
              walk1
              subst hQ2
              exact fin _ _ _ F14 N14
            · refine pyNext_li_gone hA hIT.1 fun h14 s14 => ?_
              have F14 := fr_keeps F13 s14
              have N14 := news_keeps N13 s14
              walk1
              subst hQ2
              exact fin _ _ _ F14 N14
          --FORE
        · intro f s' hq2
          subst hQ2
          obtain ⟨rfl, its, ts, h21, tk21, m₃, od, rfl, F21, N21, e3, I5, B5, tsT5⟩ := hq2
          have e3' : m₃ (Str.ofString "result") = some (.ref D) := e3
          (repeat' (first | (k_unfold; (try dsimp only)) | ((fail_if_success (with_reducible first | show wpAny _ _ (exec (Stmt.While _ _ _ _) _) _ _ _ | show wpAny _ _ (eval (Expr.Name (Str.ofString "AttributeError") _) _) _ _ _ | show wpAny _ _ (subscriptTail (Expr.Name _ _) (Expr.Slice _ _ _ _) _ _) _ _ _ | show wpAny _ _ (call (Value.builtin "list.sort") _ _) _ _ _ | show wpAny _ _ (pyIter _) _ _ _ | show wpAny _ _ (call (Value.builtin "len") [Value.ref SRC] _) _ _ _ | show wpAny _ _ (call (Value.ref _) _ _) _ _ _)); (fail_if_success (with_reducible show wpAny _ _ (exec (Stmt.For _ _ _ _ _) _) _ _ _)); (fail_if_success (with_reducible show wpAny _ _ (exec (Stmt.Assign _ (Expr.ListComp _ _ _ _) _) _) _ _ _)); (fail_if_success (with_reducible show wpAny _ _ (eval (Expr.ListComp _ _ _ _) _) _ _ _)); first | ((first | (with_reducible show wpAny _ _ (exec (Stmt.Assign _ _ _) _) _ _ _) | (with_reducible show wpAny _ _ (exec (Stmt.Expr _ _) _) _ _ _) | (with_reducible show wpAny _ _ (exec (Stmt.Return _ _) _) _ _ _)); k_fold) | walk1 | (dsimp only; (with_reducible show wpAny _ _ _ _ _); walk1))))
          refine callWith_builtin_kwB (by rfl) (by rfl) (evalArgs_kw0 (by rfl) (kws_cons ?_))
          (repeat' (first | (k_unfold; (try dsimp only)) | ((fail_if_success (with_reducible first | show wpAny _ _ (exec (Stmt.While _ _ _ _) _) _ _ _ | show wpAny _ _ (eval (Expr.Name (Str.ofString "AttributeError") _) _) _ _ _ | show wpAny _ _ (subscriptTail (Expr.Name _ _) (Expr.Slice _ _ _ _) _ _) _ _ _ | show wpAny _ _ (call (Value.builtin "list.sort") _ _) _ _ _ | show wpAny _ _ (pyIter _) _ _ _ | show wpAny _ _ (call (Value.builtin "len") [Value.ref SRC] _) _ _ _ | show wpAny _ _ (call (Value.ref _) _ _) _ _ _)); (fail_if_success (with_reducible show wpAny _ _ (exec (Stmt.For _ _ _ _ _) _) _ _ _)); (fail_if_success (with_reducible show wpAny _ _ (exec (Stmt.Assign _ (Expr.ListComp _ _ _ _) _) _) _ _ _)); (fail_if_success (with_reducible show wpAny _ _ (eval (Expr.ListComp _ _ _ _) _) _ _ _)); first | ((first | (with_reducible show wpAny _ _ (exec (Stmt.Assign _ _ _) _) _ _ _) | (with_reducible show wpAny _ _ (exec (Stmt.Expr _ _) _) _ _ _) | (with_reducible show wpAny _ _ (exec (Stmt.Return _ _) _) _ _ _)); k_fold) | walk1 | (dsimp only; (with_reducible show wpAny _ _ _ _ _); walk1))))
          refine wpAny_call_entry_kw slot_list_sort ⟨_, (N21 _ (.head _)).1, rfl⟩ entry_list_sort ?_ (args_sort_rev _ _)
          have hnd : (its.map pl).Nodup := B5.places.nodup_iff.mpr ((ordD_nodup N).sublist (List.take_sublist _ _))
          have P5 := items_keyd I5 (N21 _ (.head _)).1 fun q hq => (N21 q (.tail _ hq)).1
          have hil5 := B5.len
          refine Eq.mpr (congrArg (fun z => wpAny _ _ z _ _ _) (so_p1 D true)) (sort_its (D := D) (its := its) (rev := true) (by show A.units + 3 + _ ≤ 1000; lia) (N21 _ (.head _)).1 (by lia) (I5.nodup_i hnd) (.inr P5) ?_)
          intro zs h22 tk22 c22 hzp hzs st22 gD22
          refine ⟨_, rfl, ?_⟩
          have hzm := best_end B5.places hzp (fun u hu v hv q => (I5.hlt u hu v hv).mp q) (by simpa [ltD] using hzs)
          have F22 := fr_back F21 (Ne.symm LD) BD st22
          have N22 := news_back1 N21 (fun q hq z => by have := tsT5 q hq; rw [z] at this; simp [W.listOf] at this) st22 gD22
          have I6 := I5.sub fun u hu => hzp.mem_iff.mp hu
          have hzl : zs.length = rs.length := hzp.length_eq.trans hil5
          clear F21 N21
          (repeat' (first | (k_unfold; (try dsimp only)) | ((fail_if_success (with_reducible first | show wpAny _ _ (exec (Stmt.While _ _ _ _) _) _ _ _ | show wpAny _ _ (eval (Expr.Name (Str.ofString "AttributeError") _) _) _ _ _ | show wpAny _ _ (subscriptTail (Expr.Name _ _) (Expr.Slice _ _ _ _) _ _) _ _ _ | show wpAny _ _ (call (Value.builtin "list.sort") _ _) _ _ _ | show wpAny _ _ (pyIter _) _ _ _ | show wpAny _ _ (call (Value.builtin "len") [Value.ref SRC] _) _ _ _ | show wpAny _ _ (call (Value.ref _) _ _) _ _ _)); (fail_if_success (with_reducible show wpAny _ _ (exec (Stmt.For _ _ _ _ _) _) _ _ _)); (fail_if_success (with_reducible show wpAny _ _ (exec (Stmt.Assign _ (Expr.ListComp _ _ _ _) _) _) _ _ _)); (fail_if_success (with_reducible show wpAny _ _ (eval (Expr.ListComp _ _ _ _) _) _ _ _)); first | ((first | (with_reducible show wpAny _ _ (exec (Stmt.Assign _ _ _) _) _ _ _) | (with_reducible show wpAny _ _ (exec (Stmt.Expr _ _) _) _ _ _) | (with_reducible show wpAny _ _ (exec (Stmt.Return _ _) _) _ _ _)); k_fold) | walk1 | (dsimp only; (with_reducible show wpAny _ _ _ _ _); walk1))))
          refine list_comp (cl := []) (by with_unfolding_all rfl) (by decide +kernel) (by rfl) (by decide +kernel) ?_
          (repeat' (first | (k_unfold; (try dsimp only)) | ((fail_if_success (with_reducible first | show wpAny _ _ (exec (Stmt.While _ _ _ _) _) _ _ _ | show wpAny _ _ (eval (Expr.Name (Str.ofString "AttributeError") _) _) _ _ _ | show wpAny _ _ (subscriptTail (Expr.Name _ _) (Expr.Slice _ _ _ _) _ _) _ _ _ | show wpAny _ _ (call (Value.builtin "list.sort") _ _) _ _ _ | show wpAny _ _ (pyIter _) _ _ _ | show wpAny _ _ (call (Value.builtin "len") [Value.ref SRC] _) _ _ _ | show wpAny _ _ (call (Value.ref _) _ _) _ _ _)); (fail_if_success (with_reducible show wpAny _ _ (exec (Stmt.For _ _ _ _ _) _) _ _ _)); (fail_if_success (with_reducible show wpAny _ _ (exec (Stmt.Assign _ (Expr.ListComp _ _ _ _) _) _) _ _ _)); (fail_if_success (with_reducible show wpAny _ _ (eval (Expr.ListComp _ _ _ _) _) _ _ _)); first | ((first | (with_reducible show wpAny _ _ (exec (Stmt.Assign _ _ _) _) _ _ _) | (with_reducible show wpAny _ _ (exec (Stmt.Expr _ _) _) _ _ _) | (with_reducible show wpAny _ _ (exec (Stmt.Return _ _) _) _ _ _)); k_fold) | walk1 | (dsimp only; (with_reducible show wpAny _ _ _ _ _); walk1))))
          refine wpAny_pyIter_list (PySem.IsL.isList (N22 _ (.head _)).1) ?_
          intro C D2 h24 tk24 st24 nC nD nDC hC hD2
          have gI : (h22.push (liObj D 0)).get? h22.objs.size = some (liObj D 0) := Heap.get?_push_size _ rfl
          have st22p : h22.StaysIn (h22.push (liObj D 0)) := fun a o q => Heap.get?_push_of_some _ q
          change (h22.push (liObj D 0)).StaysIn h24 at st24
          change (h22.push (liObj D 0)).get? C = none at nC
          change (h22.push (liObj D 0)).get? D2 = none at nD
          have hIB : B₂.get? h22.objs.size = none := none_sub F22.keep (Heap.get?_none_of_le (Nat.le_refl _))
          have hch : ∀ i, ∃ v : Value × Value, i < rs.length → ∃ mm, h22.get? (adOf (zs.getD i it0).v) = some { cls := .type "tuple", data := .seq #[v.1, v.2, e (pl (zs.getD i it0))] mm } := by
            intro i
            by_cases hi : i < rs.length
            · have hu : zs.getD i it0 ∈ zs := by
                rw [List.getD_eq_getElem?_getD, List.getElem?_eq_getElem (by lia)]; exact List.getElem_mem _
              obtain ⟨T7, o7, p7, v7, k7, f7, l7, m7, tq7, ti7, mm7, ho7⟩ := I6.good _ hu
              refine ⟨(.int (kh (zs.getD i it0).k) tq7, .int (zs.getD i it0).i ti7), fun _ => ⟨mm7, ?_⟩⟩
              have g7 := (N22 _ (.tail _ m7)).1
              rw [ho7, f7] at g7
              rw [v7, pl_of k7]; exact g7
            · exact ⟨(.none, .none), fun q => absurd q hi⟩
          obtain ⟨f1, hf1⟩ := Classical.axiomOfChoice hch
          have nof : ∀ X, (h22.push (liObj D 0)).get? X = none → X ≠ h22.objs.size ∧ X ≠ D ∧ ∀ i, i < rs.length → X ≠ adOf (zs.getD i it0).v := by
            intro X q
            refine ⟨fun r => ?_, fun r => ?_, fun i hi r => ?_⟩
            · rw [r, gI] at q; cases q
            · rw [r, st22p _ _ (N22 _ (.head _)).1] at q; cases q
            · obtain ⟨mm, g⟩ := hf1 i hi
              rw [r, st22p _ _ g] at q; cases q
          have hzv : (zs.map It.v) = (List.range rs.length).map fun i => Value.ref (adOf (zs.getD i it0).v) := by
            refine List.ext_getElem (by simp [hzl]) fun i a b => ?_
            have hi : i < zs.length := by simpa using a
            refine e3_2 (I6.good _ (List.getElem_mem hi)) ?_
            intro T7 o7 p7 v7 _
            simp only [List.getElem_map, List.getElem_range, List.getD_eq_getElem?_getD, List.getElem?_eq_getElem hi, Option.getD_some]
            rw [v7]; rfl
          refine ⟨fun Q E q => pyIter_li (st24 _ _ gI) rfl q, ?_⟩
          refine tup_comp3 (I := h22.objs.size) (R0 := D) (n := rs.length) (c0 := c22) (f0 := fun i => (f1 i).1) (f1 := fun i => (f1 i).2) (f2 := fun i => e (pl (zs.getD i it0))) (Ts := fun i => adOf (zs.getD i it0).v) (by exact hA) (by rfl) (by rfl) (by rfl) (by rfl) (by decide) (by decide) (by decide) (by lia)
            (st24 _ _ gI) (by rw [← hzv]; exact st24 _ _ (st22p _ _ (N22 _ (.head _)).1)) (fun i hi => (hf1 i hi).imp fun mm g => st24 _ _ (st22p _ _ g)) hC hD2 nDC (nof C nC) (nof D2 nD) (by decide) ?_
          intro h25 tk25 m25 c25 n25 g25 k25
          refine ⟨rfl, m25, n25, fun h26 s26 => ?_⟩
          have bC : B₂.get? C = none := none_sub F22.keep (none_sub st22p nC)
          have bD2 : B₂.get? D2 = none := none_sub F22.keep (none_sub st22p nD)
          have keepB : B₂.StaysIn h26 := fun a o q => s26.extBut _ _ (fun r => by rw [r, bC] at q; cases q) (k25 _ _ (fun r => by rw [List.mem_singleton.mp r, hIB] at q; cases q) (fun r => by rw [r, bC] at q; cases q) (fun r => by rw [r, bD2] at q; cases q) (st24 _ _ (st22p _ _ (F22.keep _ _ q))))
          refine h D2 h26 _ c25 (fun a o q => keepB _ _ (stB2 _ _ q)) (none_sub stB2 bD2) ?_ (frB2.trans (Framed.of_keeps keepB))
          have g26 := s26.extBut _ _ nDC g25
          rw [places_map hzm hzl, ← hmin, take_min] at g26
          exact g26
      · exact hq
end
-- NSK
section
variable {prog : Program} {w : World} {A : Around} {s : Shared} {b : Heap} {mg mb : Str → Option Value} {mean : ExcName → Option Value} {p : Program} {loose : List Str}
set_option maxHeartbeats 40000000 in
theorem ns_key {Q E : Value → Shared → Prop} {LST SRC : Addr} {N : Nat} {e : Nat → Value} {x : Nat → Int} {c : Nat} {wish : Int} {t : Tok} {outer : List Env} {fq : Addr} {fo : Obj} {fd : FuncData}
    (hd : A.depth ≤ 497) (hu : A.units ≤ 470) (hA : A.handled = none) (hfr : A.frames = some outer) (hff : s.heap.FunFrames b outer)
    (st : b.StaysIn s.heap) (hsz : b.objs.size ≤ s.heap.objs.size) (X : (hd03.heap_39 w.params).In b) (T : Top p loose mean mg mb b)
    (hL : b.get? LST = some (listOf ((List.range N).map e).toArray c)) (hN : 0 < N) (h64 : N < 64)
    (hel : ∀ p, p < N → ∃ a o, e p = .ref a ∧ b.get? a = some o ∧ o.cls ≠ .type "tuple") (hfq : b.get? fq = some fo) (hfd : fo.data = .func fd)
    (hkey : ∀ p (A' : Around) (b' : Heap) (s' : Shared) (Q E : Value → Shared → Prop), p < N → A'.depth ≤ 499 → A'.units ≤ 800 → A'.handled = none → b.StaysIn b' → b'.StaysIn s'.heap → b'.objs.size ≤ s'.heap.objs.size → (∀ t h' tk, b'.StaysIn h' → Q (.int (x p) t) { s' with heap := h', toks := tk }) → wpAny (model prog w) A' (call (.ref fq) [e p]) Q E s')
    (hsrc : SRC = LST ∨ (s.heap.get? SRC = some (liObj LST 0) ∧ b.get? SRC = none))
    (h : ∀ R h' tk c, b.StaysIn h' → b.get? R = none → h'.get? R = some (listOf (((ordD (fun p => - x p) N).take wish.toNat).map e).toArray c) → Framed outer s.heap h' → Q (.ref R) { s with heap := h', toks := tk }) :
    wpAny (model prog w) A (call (.ref 76) [.int wish t, .ref SRC, .ref fq]) Q E s := by
  have X2 := X.keeps st
  refine wpAny_call ?_
  ((k_dflt (refine' enterC ?k1 ?k2 ?k3 ?k4 ?k6 ?k7 ?k8 ?k9 ?kB ?kD ?_ ?c2 ?c3 ?c4; (case k1 => assumption); (case k2 => assumption); (case k3 => assumption); (case k4 => assumption); (case k6 => k_is); (case k7 => k_is); (case k8 => exact Nat.lt_of_le_of_lt (by assumption) (by decide)); (case k9 => first | exact BindsTo.of_eq rfl | exact binds_K (by assumption) rfl (by k_is) rfl rfl rfl); (case kB => exact rfl); (case kD => decide +kernel); (case c2 => exact rfl); (case c3 => exact rfl); (case c4 => exact rfl))))
  intro L' h₁ tk cells F0 N00 Y hk hs1
  have hY := CellsAre.one Y
  refine e1_2 (hY) ?_
  (try clear hY)
  intro oc zr1 d1
  first | subst zr1 | cases zr1
  clear Y
  have hns : s.heap.get? L' = none := by
    cases q : s.heap.get? L' with
    | none => rfl
    | some o => exact absurd (hs1 _ _ q) (Nat.lt_irrefl _)
  have zz9 : ∃ SA so, h₁.get? SA = some so ∧ SA ≠ L' ∧ b.get? SA = none ∧ Src LST SRC SA so ∧ ∀ a ∈ framesOf outer, a ≠ SA := by
    rcases hsrc with rfl | ⟨q1, q2⟩
    · exact ⟨L' + 1, oc, (N00 _ (.head _)).1, (N00 _ (.head _)).2.1, (N00 _ (.head _)).2.2, .inl rfl, fun a ha q => by
        obtain ⟨_, o, ho, _⟩ := hff.mem ha
        have := hs1 _ _ ho
        rw [q] at this; exact absurd this (Nat.not_lt.mpr (Nat.le_succ _))⟩
    · exact ⟨SRC, _, hk _ _ q1, (fun q => by rw [q, hns] at q1; cases q1), q2, .inr ⟨rfl, rfl⟩, fun a ha q => by
        obtain ⟨_, o, ho, hd⟩ := hff.mem ha
        rw [q, q1] at ho; cases ho; exact hd _ rfl⟩
  refine e2_5 zz9 ?_
  clear zz9
  intro SA so hSA hSL hbS src offS
  have stB : b.StaysIn (cut h₁ L' [SA]) := fun a o q => cut_get (Nat.lt_of_lt_of_le (Heap.lt_size q) F0.above) (fun z => by rw [List.mem_singleton] at z; rw [z, hbS] at q; cases q) (F0.keep _ _ q)
  have F : Fr (cut h₁ L' [SA]) L' h₁ _ := ⟨F0.ns, cut_stays, cut_size⟩
  have N0 : News (cut h₁ L' [SA]) L' h₁ [(SA, so), (L' + 1, oc)] := by
    intro q hq
    simp only [List.mem_cons, List.not_mem_nil, or_false] at hq
    rcases hq with rfl | rfl
    · exact ⟨hSA, hSL, cut_none (.head _)⟩
    · exact ⟨(N00 _ (.head _)).1, (N00 _ (.head _)).2.1, cut_high (Nat.le_succ _)⟩
  have frB : Framed outer s.heap (cut h₁ L' [SA]) := fun a ha m n => by
    refine e3_2 (n) ?_
    (try clear n)
    intro o es ep ho r
    exact ⟨o, es, ep, cut_get (hs1 _ _ ho) (fun z => offS a ha (List.mem_singleton.mp z)) (hk _ _ ho), r⟩
  have XB := X.keeps stB
  have TB := T.keeps stB
  have LB := stB _ _ hL
  (try k_fold)
  clear F0 N00 X2
  generalize hB : cut h₁ L' [SA] = B at *
  (repeat' (first | (k_unfold; (try dsimp only)) | ((fail_if_success (with_reducible first | show wpAny _ _ (exec (Stmt.While _ _ _ _) _) _ _ _ | show wpAny _ _ (eval (Expr.Name (Str.ofString "AttributeError") _) _) _ _ _ | show wpAny _ _ (subscriptTail (Expr.Name _ _) (Expr.Slice _ _ _ _) _ _) _ _ _ | show wpAny _ _ (call (Value.builtin "list.sort") _ _) _ _ _ | show wpAny _ _ (pyIter _) _ _ _ | show wpAny _ _ (call (Value.builtin "len") [Value.ref SRC] _) _ _ _ | show wpAny _ _ (call (Value.ref _) _ _) _ _ _)); (fail_if_success (with_reducible show wpAny _ _ (exec (Stmt.For _ _ _ _ _) _) _ _ _)); (fail_if_success (with_reducible show wpAny _ _ (exec (Stmt.Assign _ (Expr.ListComp _ _ _ _) _) _) _ _ _)); (fail_if_success (with_reducible show wpAny _ _ (eval (Expr.ListComp _ _ _ _) _) _ _ _)); first | ((first | (with_reducible show wpAny _ _ (exec (Stmt.Assign _ _ _) _) _ _ _) | (with_reducible show wpAny _ _ (exec (Stmt.Expr _ _) _) _ _ _) | (with_reducible show wpAny _ _ (exec (Stmt.Return _ _) _) _ _ _)); k_fold) | walk1 | (dsimp only; (with_reducible show wpAny _ _ _ _ _); walk1))))
  ·
    --W1
    refine call_iter_src (by assumption) (by assumption) src LB ?_
    intro IT h2 F2 N2 _
    (repeat' (first | (k_unfold; (try dsimp only)) | ((fail_if_success (with_reducible first | show wpAny _ _ (exec (Stmt.While _ _ _ _) _) _ _ _ | show wpAny _ _ (eval (Expr.Name (Str.ofString "AttributeError") _) _) _ _ _ | show wpAny _ _ (subscriptTail (Expr.Name _ _) (Expr.Slice _ _ _ _) _ _) _ _ _ | show wpAny _ _ (call (Value.builtin "list.sort") _ _) _ _ _ | show wpAny _ _ (pyIter _) _ _ _ | show wpAny _ _ (call (Value.builtin "len") [Value.ref SRC] _) _ _ _ | show wpAny _ _ (call (Value.ref _) _ _) _ _ _)); (fail_if_success (with_reducible show wpAny _ _ (exec (Stmt.For _ _ _ _ _) _) _ _ _)); (fail_if_success (with_reducible show wpAny _ _ (exec (Stmt.Assign _ (Expr.ListComp _ _ _ _) _) _) _ _ _)); (fail_if_success (with_reducible show wpAny _ _ (eval (Expr.ListComp _ _ _ _) _) _ _ _)); first | ((first | (with_reducible show wpAny _ _ (exec (Stmt.Assign _ _ _) _) _ _ _) | (with_reducible show wpAny _ _ (exec (Stmt.Expr _ _) _) _ _ _) | (with_reducible show wpAny _ _ (exec (Stmt.Return _ _) _) _ _ _)); k_fold) | walk1 | (dsimp only; (with_reducible show wpAny _ _ _ _ _); walk1))))
    refine call_object ?_
    rename_i h3 F3 N3
    have F4 := F3.push { cls := .type "object" }
    have N4 := N3.push F3 { cls := .type "object" }
    clear F3 N3
    (repeat' (first | (k_unfold; (try dsimp only)) | ((fail_if_success (with_reducible first | show wpAny _ _ (exec (Stmt.While _ _ _ _) _) _ _ _ | show wpAny _ _ (eval (Expr.Name (Str.ofString "AttributeError") _) _) _ _ _ | show wpAny _ _ (subscriptTail (Expr.Name _ _) (Expr.Slice _ _ _ _) _ _) _ _ _ | show wpAny _ _ (call (Value.builtin "list.sort") _ _) _ _ _ | show wpAny _ _ (pyIter _) _ _ _ | show wpAny _ _ (call (Value.builtin "len") [Value.ref SRC] _) _ _ _ | show wpAny _ _ (call (Value.ref _) _ _) _ _ _)); (fail_if_success (with_reducible show wpAny _ _ (exec (Stmt.For _ _ _ _ _) _) _ _ _)); (fail_if_success (with_reducible show wpAny _ _ (exec (Stmt.Assign _ (Expr.ListComp _ _ _ _) _) _) _ _ _)); (fail_if_success (with_reducible show wpAny _ _ (eval (Expr.ListComp _ _ _ _) _) _ _ _)); first | ((first | (with_reducible show wpAny _ _ (exec (Stmt.Assign _ _ _) _) _ _ _) | (with_reducible show wpAny _ _ (exec (Stmt.Expr _ _) _) _ _ _) | (with_reducible show wpAny _ _ (exec (Stmt.Return _ _) _) _ _ _)); k_fold) | walk1 | (dsimp only; (with_reducible show wpAny _ _ _ _ _); walk1))))
    rename_i h5 F5 N5
    have hIT : h5.get? IT = some (liObj LST 0) := (N5 _ (.tail _ (.head _))).1
    have hITL : IT ≠ L' := (N5 _ (.tail _ (.head _))).2.1
    have hITB : B.get? IT = none := (N5 _ (.tail _ (.head _))).2.2
    have nIT : ∀ {a : Addr} {o : Obj}, B.get? a = some o → a ∉ [IT] := fun q z => by rw [List.mem_singleton.mp z, hITB] at q; cases q
    refine call_min_key (fq := fq) (LST := LST) (N := N) (e := e) (sc := (fun p => - x p)) (B := hideAll h5 [IT]) (V := fun i v => ∃ t, v = .int (x i) t) (d := .ref h3.objs.size) hA (hideAll_get _ (F5.keep _ _ LB) (nIT LB)) (hideAll_none _ (.head _)) (fun a o q => of_hideAll _ q) hIT ?_ ?_ ?_
    · intro i b' s' Q' E' hi st1 st2 sz k
      exact hkey i _ b' s' Q' E' hi (by show A.depth + 1 ≤ 499; lia) (by show A.units + 3 + _ ≤ 800; lia) hA (fun a o q => st1 _ _ (hideAll_get _ (F5.keep _ _ (stB _ _ q)) (nIT (stB _ _ q)))) st2 sz fun t h' tk st => k _ h' tk ⟨t, rfl⟩ st
    · rintro i j v v' s' Q' E' ⟨t1, rfl⟩ ⟨t2, rfl⟩ hi hj st' hq
      rw [show ∀ a b : Int, decide (-a < -b) = decide (b < a) from fun a b => by simp] at hq; exact rich_lt_int (hq _)
    intro h6 tk6 st6
    have F6 := fr_back F5 (Ne.symm hITL) hITB st6
    have nSI : h3.objs.size ≠ IT := fun q => by
      have z := (N5 _ (.head _)).1
      rw [q, hIT] at z
      have := congrArg Obj.cls (Option.some.inj z); simp [liObj] at this
    have N6 : News B L' h6 [(h3.objs.size, { cls := .type "object" })] := by
      intro q hq
      rw [List.mem_singleton] at hq; subst hq
      exact ⟨st6 _ _ (hideAll_get _ (N5 _ (.head _)).1 fun z => nSI (List.mem_singleton.mp z)), (N5 _ (.head _)).2⟩
    clear F5 N5
    rw [if_neg (Nat.ne_of_gt hN)]
    refine e2_3 (hel ((ordD (fun p => - x p) N).getD 0 0) (ordD_getD0 hN)) ?_
    intro a0 o0 q1 q2 q3
    rw [q1]
    (repeat' (first | (k_unfold; (try dsimp only)) | ((fail_if_success (with_reducible first | show wpAny _ _ (exec (Stmt.While _ _ _ _) _) _ _ _ | show wpAny _ _ (eval (Expr.Name (Str.ofString "AttributeError") _) _) _ _ _ | show wpAny _ _ (subscriptTail (Expr.Name _ _) (Expr.Slice _ _ _ _) _ _) _ _ _ | show wpAny _ _ (call (Value.builtin "list.sort") _ _) _ _ _ | show wpAny _ _ (pyIter _) _ _ _ | show wpAny _ _ (call (Value.builtin "len") [Value.ref SRC] _) _ _ _ | show wpAny _ _ (call (Value.ref _) _ _) _ _ _)); (fail_if_success (with_reducible show wpAny _ _ (exec (Stmt.For _ _ _ _ _) _) _ _ _)); (fail_if_success (with_reducible show wpAny _ _ (exec (Stmt.Assign _ (Expr.ListComp _ _ _ _) _) _) _ _ _)); (fail_if_success (with_reducible show wpAny _ _ (eval (Expr.ListComp _ _ _ _) _) _ _ _)); first | ((first | (with_reducible show wpAny _ _ (exec (Stmt.Assign _ _ _) _) _ _ _) | (with_reducible show wpAny _ _ (exec (Stmt.Expr _ _) _) _ _ _) | (with_reducible show wpAny _ _ (exec (Stmt.Return _ _) _) _ _ _)); k_fold) | walk1 | (dsimp only; (with_reducible show wpAny _ _ _ _ _); walk1))))
    rename_i h7 F7 N7
    refine wpAny_is_ref_other (fun q => ?_) (F7.keep _ _ (stB _ _ q2)) (N7 _ (.head _)).1 q3 ?_
    · have z := (N7 _ (.head _)).2.2
      rw [← q, stB _ _ q2] at z; cases z
    (repeat' (first | (k_unfold; (try dsimp only)) | ((fail_if_success (with_reducible first | show wpAny _ _ (exec (Stmt.While _ _ _ _) _) _ _ _ | show wpAny _ _ (eval (Expr.Name (Str.ofString "AttributeError") _) _) _ _ _ | show wpAny _ _ (subscriptTail (Expr.Name _ _) (Expr.Slice _ _ _ _) _ _) _ _ _ | show wpAny _ _ (call (Value.builtin "list.sort") _ _) _ _ _ | show wpAny _ _ (pyIter _) _ _ _ | show wpAny _ _ (call (Value.builtin "len") [Value.ref SRC] _) _ _ _ | show wpAny _ _ (call (Value.ref _) _ _) _ _ _)); (fail_if_success (with_reducible show wpAny _ _ (exec (Stmt.For _ _ _ _ _) _) _ _ _)); (fail_if_success (with_reducible show wpAny _ _ (exec (Stmt.Assign _ (Expr.ListComp _ _ _ _) _) _) _ _ _)); (fail_if_success (with_reducible show wpAny _ _ (eval (Expr.ListComp _ _ _ _) _) _ _ _)); first | ((first | (with_reducible show wpAny _ _ (exec (Stmt.Assign _ _ _) _) _ _ _) | (with_reducible show wpAny _ _ (exec (Stmt.Expr _ _) _) _ _ _) | (with_reducible show wpAny _ _ (exec (Stmt.Return _ _) _) _ _ _)); k_fold) | walk1 | (dsimp only; (with_reducible show wpAny _ _ _ _ _); walk1))))
    rename_i R h8 F8 N8 _
    refine h _ _ _ 0 (fun a o q => F8.keep _ _ (stB _ _ q)) (none_sub stB (N8 _ (.head _)).2.2) ?_ (frB.trans (Framed.of_keeps F8.keep))
    have : ((ordD (fun p => - x p) N).take (1 : Int).toNat).map e = [.ref a0] := by rw [ordD_take1 hN, List.map_singleton, q1]
    have hw : wish = 1 := by assumption
    rw [hw, this]; exact (N8 _ (.head _)).1
    --W1E
  · have hw1 : wish ≠ 1 := by assumption
    obtain ⟨Q1, hQ1⟩ : ∃ Q1 : Flow → Shared → Prop, Q1 = fun f s' => (f = .next ∧ ∃ h₂ tk₂ m₂ B₂, s' = { s with heap := h₂, toks := tk₂ } ∧ Fr B₂ L' h₂ m₂ ∧ News B₂ L' h₂ [(SA, so), (L' + 1, oc)] ∧ m₂ (Str.ofString "n") = some (.int wish t) ∧ m₂ (Str.ofString "iterable") = some (.ref SRC) ∧
      b.StaysIn B₂ ∧ Framed outer s.heap B₂ ∧ (SRC = LST → wish < N)) ∨ (∃ v, f = .ret v ∧ Q v s') := ⟨_, rfl⟩
    refine wpAny_mono (Q := Q1) ?_ ?_ fun _ _ e => e
    ·
      --TR
      refine wpAny_Try_except ?_
      have src' := src
      rcases src' with rfl | ⟨rfl, rfl⟩
      · (repeat' (first | (k_unfold; (try dsimp only)) | ((fail_if_success (with_reducible first | show wpAny _ _ (exec (Stmt.While _ _ _ _) _) _ _ _ | show wpAny _ _ (eval (Expr.Name (Str.ofString "AttributeError") _) _) _ _ _ | show wpAny _ _ (subscriptTail (Expr.Name _ _) (Expr.Slice _ _ _ _) _ _) _ _ _ | show wpAny _ _ (call (Value.builtin "list.sort") _ _) _ _ _ | show wpAny _ _ (pyIter _) _ _ _ | show wpAny _ _ (call (Value.builtin "len") [Value.ref SRC] _) _ _ _ | show wpAny _ _ (call (Value.ref _) _ _) _ _ _)); (fail_if_success (with_reducible show wpAny _ _ (exec (Stmt.For _ _ _ _ _) _) _ _ _)); (fail_if_success (with_reducible show wpAny _ _ (exec (Stmt.Assign _ (Expr.ListComp _ _ _ _) _) _) _ _ _)); (fail_if_success (with_reducible show wpAny _ _ (eval (Expr.ListComp _ _ _ _) _) _ _ _)); first | ((first | (with_reducible show wpAny _ _ (exec (Stmt.Assign _ _ _) _) _ _ _) | (with_reducible show wpAny _ _ (exec (Stmt.Expr _ _) _) _ _ _) | (with_reducible show wpAny _ _ (exec (Stmt.Return _ _) _) _ _ _)); k_fold) | walk1 | (dsimp only; (with_reducible show wpAny _ _ _ _ _); walk1))))
        refine Calls.call_len_list (PySem.IsL.isList (F.keep _ _ LB)) (by simp; lia) ?_
        rw [show ((List.range N).map e).toArray.size = N by simp]
        (repeat' (first | (k_unfold; (try dsimp only)) | ((fail_if_success (with_reducible first | show wpAny _ _ (exec (Stmt.While _ _ _ _) _) _ _ _ | show wpAny _ _ (eval (Expr.Name (Str.ofString "AttributeError") _) _) _ _ _ | show wpAny _ _ (subscriptTail (Expr.Name _ _) (Expr.Slice _ _ _ _) _ _) _ _ _ | show wpAny _ _ (call (Value.builtin "list.sort") _ _) _ _ _ | show wpAny _ _ (pyIter _) _ _ _ | show wpAny _ _ (call (Value.builtin "len") [Value.ref SRC] _) _ _ _ | show wpAny _ _ (call (Value.ref _) _ _) _ _ _)); (fail_if_success (with_reducible show wpAny _ _ (exec (Stmt.For _ _ _ _ _) _) _ _ _)); (fail_if_success (with_reducible show wpAny _ _ (exec (Stmt.Assign _ (Expr.ListComp _ _ _ _) _) _) _ _ _)); (fail_if_success (with_reducible show wpAny _ _ (eval (Expr.ListComp _ _ _ _) _) _ _ _)); first | ((first | (with_reducible show wpAny _ _ (exec (Stmt.Assign _ _ _) _) _ _ _) | (with_reducible show wpAny _ _ (exec (Stmt.Expr _ _) _) _ _ _) | (with_reducible show wpAny _ _ (exec (Stmt.Return _ _) _) _ _ _)); k_fold) | walk1 | (dsimp only; (with_reducible show wpAny _ _ _ _ _); walk1))))
        · rename_i h4 F4 N4 hge
          show wpAny _ _ (call (.builtin "sorted") [.ref SRC] [(Str.ofString "key", .ref fq)]) _ _ _
          refine call_sorted_key (fq := fq) (rev := false) (x := x) (N := N) (e := e) (check_sorted1 · _) (fun a => ksk_l1 _ _) (fun R => so_k1 fq R) (F4.keep _ _ LB) h64 (fun p b' s' Q' E' hp s1 s2 sz k => hkey p _ b' s' Q' E' hp (by show A.depth + 1 ≤ 499; lia) (by show A.units + 3 + _ + _ ≤ 800; lia) hA (fun a o q => s1 _ _ (F4.keep _ _ (stB _ _ q))) s2 sz k) ?_
          intro R h5 tk5 c5 st5 hR5 gR5
          have F5 := fr_keeps F4 st5
          have nRL : R ≠ L' := fun q => by obtain ⟨o, ho⟩ := ns_there F4.ns; rw [← q, hR5] at ho; cases ho
          have N5 : News B L' h5 [(R, listOf ((ordD (fun p => if false then x p else - x p) N).map e).toArray c5)] := fun q hq => by
            rw [List.mem_singleton] at hq; subst hq
            exact ⟨gR5, nRL, none_sub F4.keep hR5⟩
          clear F4 N4
          (repeat' (first | (k_unfold; (try dsimp only)) | ((fail_if_success (with_reducible first | show wpAny _ _ (exec (Stmt.While _ _ _ _) _) _ _ _ | show wpAny _ _ (eval (Expr.Name (Str.ofString "AttributeError") _) _) _ _ _ | show wpAny _ _ (subscriptTail (Expr.Name _ _) (Expr.Slice _ _ _ _) _ _) _ _ _ | show wpAny _ _ (call (Value.builtin "list.sort") _ _) _ _ _ | show wpAny _ _ (pyIter _) _ _ _ | show wpAny _ _ (call (Value.builtin "len") [Value.ref SRC] _) _ _ _ | show wpAny _ _ (call (Value.ref _) _ _) _ _ _)); (fail_if_success (with_reducible show wpAny _ _ (exec (Stmt.For _ _ _ _ _) _) _ _ _)); (fail_if_success (with_reducible show wpAny _ _ (exec (Stmt.Assign _ (Expr.ListComp _ _ _ _) _) _) _ _ _)); (fail_if_success (with_reducible show wpAny _ _ (eval (Expr.ListComp _ _ _ _) _) _ _ _)); first | ((first | (with_reducible show wpAny _ _ (exec (Stmt.Assign _ _ _) _) _ _ _) | (with_reducible show wpAny _ _ (exec (Stmt.Expr _ _) _) _ _ _) | (with_reducible show wpAny _ _ (exec (Stmt.Return _ _) _) _ _ _)); k_fold) | walk1 | (dsimp only; (with_reducible show wpAny _ _ _ _ _); walk1))))
          refine kmk_slice F5 N5 (PySem.IsL.isList gR5) .none (.int _ _) ?_ (by with_unfolding_all rfl) (by intro _; with_unfolding_all rfl) (by simp [ordD_len, sizeLine_eq]; lia)
          intro R6 h6 F6 N6 _
          subst hQ1
          refine .inr ⟨_, rfl, h _ _ _ 0 (fun a o q => F6.keep _ _ (stB _ _ q)) (none_sub stB (N6 _ (.head _)).2.2) ?_ (frB.trans (Framed.of_keeps F6.keep))⟩
          have z := (N6 _ (.head _)).1
          have e1 : ∀ k : Nat, slicePick (((ordD (fun p => if false then x p else - x p) N).map e).toArray) none (some (k : Int)) none = (((ordD (fun p => - x p) N).take (k : Int).toNat).map e).toArray := fun k => by
            rw [slicePick_upto']; simp [List.map_take]
          have e2 : wish = ((wish.toNat : Nat) : Int) := by lia
          rw [e2, e1, ← e2] at z; exact z
        · rename_i h4 F4 N4 hge
          subst hQ1
          exact .inl ⟨rfl, h4, _, _, B, rfl, F4, N4, rfl, rfl, stB, frB, fun _ => by lia⟩
      · (repeat' (first | (k_unfold; (try dsimp only)) | ((fail_if_success (with_reducible first | show wpAny _ _ (exec (Stmt.While _ _ _ _) _) _ _ _ | show wpAny _ _ (eval (Expr.Name (Str.ofString "AttributeError") _) _) _ _ _ | show wpAny _ _ (subscriptTail (Expr.Name _ _) (Expr.Slice _ _ _ _) _ _) _ _ _ | show wpAny _ _ (call (Value.builtin "list.sort") _ _) _ _ _ | show wpAny _ _ (pyIter _) _ _ _ | show wpAny _ _ (call (Value.builtin "len") [Value.ref SRC] _) _ _ _ | show wpAny _ _ (call (Value.ref _) _ _) _ _ _)); (fail_if_success (with_reducible show wpAny _ _ (exec (Stmt.For _ _ _ _ _) _) _ _ _)); (fail_if_success (with_reducible show wpAny _ _ (exec (Stmt.Assign _ (Expr.ListComp _ _ _ _) _) _) _ _ _)); (fail_if_success (with_reducible show wpAny _ _ (eval (Expr.ListComp _ _ _ _) _) _ _ _)); first | ((first | (with_reducible show wpAny _ _ (exec (Stmt.Assign _ _ _) _) _ _ _) | (with_reducible show wpAny _ _ (exec (Stmt.Expr _ _) _) _ _ _) | (with_reducible show wpAny _ _ (exec (Stmt.Return _ _) _) _ _ _)); k_fold) | walk1 | (dsimp only; (with_reducible show wpAny _ _ _ _ _); walk1))))
        refine call_len_li (N0 _ (.head _)).1 hA fun h2 tk2 ex hx => ?_
        refine noted1 (B := hideAll h₁ (L' :: framesOf outer)) (outer := outer) (L := L') (by show A.frames.map _ = _; rw [hfr]; rfl) rfl ?_ (fun a o q => of_hideAll _ q) hx ?_
        · refine Heap.FunFrames.cons (by intro q; cases q) rfl F.ns (hideAll_none _ (.head _)) (hide_frames (b := b) (hff.of_keeps fun a o q _ => ⟨o, hk _ _ q, rfl⟩) fun env he a ha => .tail _ (framesOf_mem env he a ha))
        intro h3 a0 hen st3 ff3 tr3 up3
        refine e5_9 (tr3) ?_
        (try clear tr3)
        intro oe vs TT oT ts g1 zr6 g3 g4 g5 g6 g7 g8 g9
        rcases zr6 with ⟨g2, g2'⟩
        have hL1 := ns_there F.ns
        have exL : ex ≠ L' := fun q => by obtain ⟨o, ho⟩ := hL1; rw [q] at hx; rw [hx.new] at ho; cases ho
        have TL : TT ≠ L' := fun q => by
          refine e3_3 (up3.ns F.ns) ?_
          intro o es ep ho hdd _
          rw [← q, g7] at ho; cases ho; rw [g8] at hdd; cases hdd
        have keep3 : ∀ a o, h₁.get? a = some o → a ∉ L' :: framesOf outer → h3.get? a = some o := fun a o q1 q2 => st3 _ _ (hideAll_get _ q1 q2)
        have frL : ∀ a ∈ framesOf outer, a < L' := fun a ha => by obtain ⟨_, o, ho, _⟩ := hff.mem ha; exact hs1 _ _ ho
        have offL : ∀ a, L' ≤ a → a ∉ framesOf outer := fun a ha z => absurd (frL a z) (Nat.not_lt.mpr ha)
        have kS : SRC ∉ L' :: framesOf outer := fun z => by rcases List.mem_cons.mp z with q | q; exact hSL q; exact offS _ q rfl
        have kc : (L' + 1 : Nat) ∉ L' :: framesOf outer := fun z => by rcases List.mem_cons.mp z with q | q; exact absurd q (Nat.succ_ne_self _); exact offL _ (Nat.le_succ _) q
        have gS := keep3 _ _ (N0 _ (.head _)).1 kS
        have gc := keep3 _ _ (N0 _ (.tail _ (.head _))).1 kc
        have bH : b.StaysIn (hideAll h₁ (L' :: framesOf outer)) := fun a o q => hideAll_get _ (F.keep _ _ (stB _ _ q)) fun z => by
          rcases List.mem_cons.mp z with r | r
          · have := F.above; have := Heap.lt_size (stB _ _ q); rw [r] at this; exact absurd this (Nat.not_lt.mpr F.above)
          · obtain ⟨n0, _⟩ := hff.mem r; rw [q] at n0; cases n0
        have nSE : SRC ≠ ex := fun q => by have := (N0 _ (.head _)).1; rw [q, hx.new] at this; cases this
        have nST : SRC ≠ TT := fun q => by rw [← q, hideAll_get _ (N0 _ (.head _)).1 kS] at g5; cases g5
        have ncT : (L' + 1 : Nat) ≠ TT := fun q => by rw [← q, hideAll_get _ (N0 _ (.tail _ (.head _))).1 kc] at g5; cases g5
        have stB3 : b.StaysIn (cut h3 L' [SRC, ex, TT]) := fun a o q => cut_get (Nat.lt_of_lt_of_le (Heap.lt_size (stB _ _ q)) F.above) (fun z => by
          simp only [List.mem_cons, List.not_mem_nil, or_false] at z
          rcases z with rfl | rfl | rfl
          · rw [hbS] at q; cases q
          · rw [none_sub bH hen] at q; cases q
          · rw [none_sub bH g5] at q; cases q) (st3 _ _ (bH _ _ q))
        have frB3 : Framed outer s.heap (cut h3 L' [SRC, ex, TT]) := fun a ha m n => by
          refine e3_3 (n) ?_
          (try clear n)
          intro o es ep ho hdd r
          obtain ⟨sl, z⟩ := up3 _ _ (hk _ _ ho) fun vs q => by rw [hdd] at q; cases q
          refine ⟨_, es, ep, cut_get (frL a ha) (fun y => ?_) z, hdd, r⟩
          simp only [List.mem_cons, List.not_mem_nil, or_false] at y
          rcases y with y | y | y
          · exact offS a ha y
          · rw [y] at ho; have hn := hx.new; rw [hk _ _ ho] at hn; cases hn
          · rw [y, g7] at z; cases z; rw [hdd] at g8; cases g8
        have F3 : Fr (cut h3 L' [SRC, ex, TT]) L' h3 _ := ⟨up3.ns F.ns, cut_stays, cut_size⟩
        have N3 : News (cut h3 L' [SRC, ex, TT]) L' h3 [(ex, oe), (TT, oT), (SRC, liObj LST 0), (L' + 1, oc)] := by
          intro q hq
          simp only [List.mem_cons, List.not_mem_nil, or_false] at hq
          rcases hq with rfl | rfl | rfl | rfl
          · exact ⟨g1, exL, cut_none (by simp)⟩
          · exact ⟨g7, TL, cut_none (by simp)⟩
          · exact ⟨gS, hSL, cut_none (by simp)⟩
          · exact ⟨gc, Nat.succ_ne_self _, cut_high (Nat.le_succ _)⟩
        have XB3 := X.keeps stB3
        have TB3 := T.keeps stB3
        clear F N0 XB TB frB LB
        generalize hB3 : cut h3 L' [SRC, ex, TT] = B3 at *
        refine wpAny_handleBy_tup2 (T1 := "TypeError") (T2 := "AttributeError") (X := "TypeError") (b1 := true) (b2 := false) (isSubtype_of_subB (by decide +kernel)) (isSubtype_of_subB (by decide +kernel)) (isSubtype_of_subB (by decide +kernel)) (isSubtype_of_subB (by decide +kernel)) (isSubtype_of_subB (by decide +kernel)) (isSubtype_of_subB (by decide +kernel)) ?_
        (repeat' (first | (k_unfold; (try dsimp only)) | ((fail_if_success (with_reducible first | show wpAny _ _ (exec (Stmt.While _ _ _ _) _) _ _ _ | show wpAny _ _ (eval (Expr.Name (Str.ofString "AttributeError") _) _) _ _ _ | show wpAny _ _ (subscriptTail (Expr.Name _ _) (Expr.Slice _ _ _ _) _ _) _ _ _ | show wpAny _ _ (call (Value.builtin "list.sort") _ _) _ _ _ | show wpAny _ _ (pyIter _) _ _ _ | show wpAny _ _ (call (Value.builtin "len") [Value.ref SRC] _) _ _ _ | show wpAny _ _ (call (Value.ref _) _ _) _ _ _)); (fail_if_success (with_reducible show wpAny _ _ (exec (Stmt.For _ _ _ _ _) _) _ _ _)); (fail_if_success (with_reducible show wpAny _ _ (exec (Stmt.Assign _ (Expr.ListComp _ _ _ _) _) _) _ _ _)); (fail_if_success (with_reducible show wpAny _ _ (eval (Expr.ListComp _ _ _ _) _) _ _ _)); first | ((first | (with_reducible show wpAny _ _ (exec (Stmt.Assign _ _ _) _) _ _ _) | (with_reducible show wpAny _ _ (exec (Stmt.Expr _ _) _) _ _ _) | (with_reducible show wpAny _ _ (exec (Stmt.Return _ _) _) _ _ _)); k_fold) | walk1 | (dsimp only; (with_reducible show wpAny _ _ _ _ _); walk1))))
        refine' nameX_B (v := .type "AttributeError") ?zF ?zX ?zT ?ze ?zv ?zn ?_ ?za ?zb ?zc; (case zF => k_asm); (case zX => k_asm); (case zT => k_asm); (case za => rfl); (case zb => rfl); (case zc => decide); (case ze => k_is); (case zv => decide +kernel); (case zn => decide)
        (repeat' (first | (k_unfold; (try dsimp only)) | ((fail_if_success (with_reducible first | show wpAny _ _ (exec (Stmt.While _ _ _ _) _) _ _ _ | show wpAny _ _ (eval (Expr.Name (Str.ofString "AttributeError") _) _) _ _ _ | show wpAny _ _ (subscriptTail (Expr.Name _ _) (Expr.Slice _ _ _ _) _ _) _ _ _ | show wpAny _ _ (call (Value.builtin "list.sort") _ _) _ _ _ | show wpAny _ _ (pyIter _) _ _ _ | show wpAny _ _ (call (Value.builtin "len") [Value.ref SRC] _) _ _ _ | show wpAny _ _ (call (Value.ref _) _ _) _ _ _)); (fail_if_success (with_reducible show wpAny _ _ (exec (Stmt.For _ _ _ _ _) _) _ _ _)); (fail_if_success (with_reducible show wpAny _ _ (exec (Stmt.Assign _ (Expr.ListComp _ _ _ _) _) _) _ _ _)); (fail_if_success (with_reducible show wpAny _ _ (eval (Expr.ListComp _ _ _ _) _) _ _ _)); first | ((first | (with_reducible show wpAny _ _ (exec (Stmt.Assign _ _ _) _) _ _ _) | (with_reducible show wpAny _ _ (exec (Stmt.Expr _ _) _) _ _ _) | (with_reducible show wpAny _ _ (exec (Stmt.Return _ _) _) _ _ _)); k_fold) | walk1 | (dsimp only; (with_reducible show wpAny _ _ _ _ _); walk1))))
        · rename_i D4 h4 F4 N4 _
          exact ⟨_, (N4 _ (.head _)).1, rfl, _, rfl⟩
        · rename_i D4 h4 F4 N4 _
          exact ⟨oe, (N4 _ (.tail _ (.head _))).1, g2⟩
        rename_i D4 h4 F4 N4 _
        have hsz3 : 3 < ts.size := (Array.getElem?_eq_some_iff.mp g9).1
        refine wpAny_setFlight_none (tb := TT) (N4 _ (.tail _ (.head _))).1 g3 g4 (N4 _ (.tail _ (.tail _ (.head _)))).1 g8 hsz3 ?_
        have sb := Heap.SameBut.update h4 TT (Obj.mapFields (·.setIfInBounds 3 Value.none))
        have F5 := fr_change F4 N4 (.tail _ (.tail _ (.head _))) sb
        have N5 : News B3 L' _ [(SRC, liObj LST 0), (L' + 1, oc)] := news_same (fun q hq => N4 q (.tail _ (.tail _ (.tail _ hq)))) sb (fun q hq => by
          simp only [List.mem_cons, List.not_mem_nil, or_false] at hq
          rcases hq with rfl | rfl
          · exact nST
          · exact ncT)
        clear F4 N4
        generalize h4.update TT (Obj.mapFields (·.setIfInBounds 3 Value.none)) = h5 at *
        (repeat' (first | (k_unfold; (try dsimp only)) | ((fail_if_success (with_reducible first | show wpAny _ _ (exec (Stmt.While _ _ _ _) _) _ _ _ | show wpAny _ _ (eval (Expr.Name (Str.ofString "AttributeError") _) _) _ _ _ | show wpAny _ _ (subscriptTail (Expr.Name _ _) (Expr.Slice _ _ _ _) _ _) _ _ _ | show wpAny _ _ (call (Value.builtin "list.sort") _ _) _ _ _ | show wpAny _ _ (pyIter _) _ _ _ | show wpAny _ _ (call (Value.builtin "len") [Value.ref SRC] _) _ _ _ | show wpAny _ _ (call (Value.ref _) _ _) _ _ _)); (fail_if_success (with_reducible show wpAny _ _ (exec (Stmt.For _ _ _ _ _) _) _ _ _)); (fail_if_success (with_reducible show wpAny _ _ (exec (Stmt.Assign _ (Expr.ListComp _ _ _ _) _) _) _ _ _)); (fail_if_success (with_reducible show wpAny _ _ (eval (Expr.ListComp _ _ _ _) _) _ _ _)); first | ((first | (with_reducible show wpAny _ _ (exec (Stmt.Assign _ _ _) _) _ _ _) | (with_reducible show wpAny _ _ (exec (Stmt.Expr _ _) _) _ _ _) | (with_reducible show wpAny _ _ (exec (Stmt.Return _ _) _) _ _ _)); k_fold) | walk1 | (dsimp only; (with_reducible show wpAny _ _ _ _ _); walk1))))
        subst hQ1
        exact .inl ⟨rfl, h5, _, _, B3, rfl, F5, N5, rfl, rfl, stB3, frB3, fun q => by rw [q, hL] at hbS; cases hbS⟩
      --TRE
    · intro f s' hq1
      subst hQ1
      rcases hq1 with ⟨rfl, h₂, tk₂, m₂, B₂, rfl, F2, N2, e1, e2, stB2, frB2, hlt⟩ | ⟨v, rfl, hq⟩
      · have XB2 := X.keeps stB2
        have TB2 := T.keeps stB2
        have LB2 := stB2 _ _ hL
        clear F N0 XB TB LB frB stB
        (repeat' (first | (k_unfold; (try dsimp only)) | ((fail_if_success (with_reducible first | show wpAny _ _ (exec (Stmt.While _ _ _ _) _) _ _ _ | show wpAny _ _ (eval (Expr.Name (Str.ofString "AttributeError") _) _) _ _ _ | show wpAny _ _ (subscriptTail (Expr.Name _ _) (Expr.Slice _ _ _ _) _ _) _ _ _ | show wpAny _ _ (call (Value.builtin "list.sort") _ _) _ _ _ | show wpAny _ _ (pyIter _) _ _ _ | show wpAny _ _ (call (Value.builtin "len") [Value.ref SRC] _) _ _ _ | show wpAny _ _ (call (Value.ref _) _ _) _ _ _)); (fail_if_success (with_reducible show wpAny _ _ (exec (Stmt.For _ _ _ _ _) _) _ _ _)); (fail_if_success (with_reducible show wpAny _ _ (exec (Stmt.Assign _ (Expr.ListComp _ _ _ _) _) _) _ _ _)); (fail_if_success (with_reducible show wpAny _ _ (eval (Expr.ListComp _ _ _ _) _) _ _ _)); first | ((first | (with_reducible show wpAny _ _ (exec (Stmt.Assign _ _ _) _) _ _ _) | (with_reducible show wpAny _ _ (exec (Stmt.Expr _ _) _) _ _ _) | (with_reducible show wpAny _ _ (exec (Stmt.Return _ _) _) _ _ _)); k_fold) | walk1 | (dsimp only; (with_reducible show wpAny _ _ _ _ _); walk1))))
        refine call_iter_src (by assumption) (by assumption) src LB2 ?_
        intro IT h3 F3 N3 _
        clear F2 N2
        (repeat' (first | (k_unfold; (try dsimp only)) | ((fail_if_success (with_reducible first | show wpAny _ _ (exec (Stmt.While _ _ _ _) _) _ _ _ | show wpAny _ _ (eval (Expr.Name (Str.ofString "AttributeError") _) _) _ _ _ | show wpAny _ _ (subscriptTail (Expr.Name _ _) (Expr.Slice _ _ _ _) _ _) _ _ _ | show wpAny _ _ (call (Value.builtin "list.sort") _ _) _ _ _ | show wpAny _ _ (pyIter _) _ _ _ | show wpAny _ _ (call (Value.builtin "len") [Value.ref SRC] _) _ _ _ | show wpAny _ _ (call (Value.ref _) _ _) _ _ _)); (fail_if_success (with_reducible show wpAny _ _ (exec (Stmt.For _ _ _ _ _) _) _ _ _)); (fail_if_success (with_reducible show wpAny _ _ (exec (Stmt.Assign _ (Expr.ListComp _ _ _ _) _) _) _ _ _)); (fail_if_success (with_reducible show wpAny _ _ (eval (Expr.ListComp _ _ _ _) _) _ _ _)); first | ((first | (with_reducible show wpAny _ _ (exec (Stmt.Assign _ _ _) _) _ _ _) | (with_reducible show wpAny _ _ (exec (Stmt.Expr _ _) _) _ _ _) | (with_reducible show wpAny _ _ (exec (Stmt.Return _ _) _) _ _ _)); k_fold) | walk1 | (dsimp only; (with_reducible show wpAny _ _ _ _ _); walk1))))
        refine zip_assign (B := B₂) (L := L') (LST := LST) (IT := IT) (cc := L' + 1) (oc := oc) (m := fun y => if y = Str.ofString "it" then some (.ref IT) else m₂ y) (cl := [(Str.ofString "key", L' + 1)]) (a0 := 0) (step := 1) (n := min wish.toNat N) (left := wish.toNat) (N := N) (e := e) (c0 := c) (fun j y nw => ∃ T ti tq, y = .ref T ∧ nw = [(T, { cls := .type "tuple", data := .seq #[.int (x j) tq, .int (0 + j * (1)) ti, e j] })])
          (by rfl) (by with_unfolding_all rfl) (by with_unfolding_all rfl) (by decide +kernel) (by decide +kernel) (by rfl) (by rfl) (by intro _; rfl) (by exact hA) (by rfl) (by rfl) (by rfl) (by decide) (by rfl) (by lia) d1 LB2 ?_ ?_ ?_
        · (repeat' (first | (k_unfold; (try dsimp only)) | ((fail_if_success (with_reducible first | show wpAny _ _ (exec (Stmt.While _ _ _ _) _) _ _ _ | show wpAny _ _ (eval (Expr.Name (Str.ofString "AttributeError") _) _) _ _ _ | show wpAny _ _ (subscriptTail (Expr.Name _ _) (Expr.Slice _ _ _ _) _ _) _ _ _ | show wpAny _ _ (call (Value.builtin "list.sort") _ _) _ _ _ | show wpAny _ _ (pyIter _) _ _ _ | show wpAny _ _ (call (Value.builtin "len") [Value.ref SRC] _) _ _ _ | show wpAny _ _ (call (Value.ref _) _ _) _ _ _)); (fail_if_success (with_reducible show wpAny _ _ (exec (Stmt.For _ _ _ _ _) _) _ _ _)); (fail_if_success (with_reducible show wpAny _ _ (exec (Stmt.Assign _ (Expr.ListComp _ _ _ _) _) _) _ _ _)); (fail_if_success (with_reducible show wpAny _ _ (eval (Expr.ListComp _ _ _ _) _) _ _ _)); first | ((first | (with_reducible show wpAny _ _ (exec (Stmt.Assign _ _ _) _) _ _ _) | (with_reducible show wpAny _ _ (exec (Stmt.Expr _ _) _) _ _ _) | (with_reducible show wpAny _ _ (exec (Stmt.Return _ _) _) _ _ _)); k_fold) | walk1 | (dsimp only; (with_reducible show wpAny _ _ _ _ _); walk1))))
          exact zip_made (by assumption) (by assumption) (by assumption) (size_up wish) ⟨_, _, rfl⟩
        · intro j h m₃ tk t E' C hj hn q1 q2 b1 g1
          --ELT
          have hj' : j < N := by lia
          refine Tuple_ (spliced_more ?_)
          walk1
          refine load_cl (by rfl) (by rfl) (by rfl) g1 d1 ?_
          refine callWith_def hfd ?_
          refine spliced_more (load_c (by rfl) (by rfl) hn q2 (spliced_none ?_))
          refine ⟨b1 _ _ (stB2 _ _ hfq), hkey j _ h _ _ _ hj' (by show A.depth + 1 ≤ 499; lia) (by show A.units + 3 ≤ 800; lia) hA (fun a o q => b1 _ _ (stB2 _ _ q)) (fun _ _ q => q) (Nat.le_refl _) fun tq h7 tk7 st7 => ?_⟩
          refine spliced_more (load_c (by rfl) (by rfl) (ns_at hn fun o q => st7 _ _ q) q1 (spliced_more (load_c (by rfl) (by rfl) (ns_at hn fun o q => st7 _ _ q) q2 (spliced_none ?_))))
          refine wpAny_newObj_type ⟨_, _, [(h7.objs.size, _)], rfl, fun a o q => Heap.get?_push_of_some _ (st7 _ _ q), ⟨_, t, tq, rfl, rfl⟩, fun q hq => ?_⟩
          rw [List.mem_singleton] at hq; subst hq
          exact ⟨Heap.get?_push_size _ rfl, none_sub st7 (Heap.get?_none_of_le (Nat.le_refl _))⟩
        intro D h8 tk8 io c8 rs hlen hYP F8 N8 hio
        have hmin : min wish.toNat N = rs.length := hlen.symm
        (repeat' (first | (k_unfold; (try dsimp only)) | ((fail_if_success (with_reducible first | show wpAny _ _ (exec (Stmt.While _ _ _ _) _) _ _ _ | show wpAny _ _ (eval (Expr.Name (Str.ofString "AttributeError") _) _) _ _ _ | show wpAny _ _ (subscriptTail (Expr.Name _ _) (Expr.Slice _ _ _ _) _ _) _ _ _ | show wpAny _ _ (call (Value.builtin "list.sort") _ _) _ _ _ | show wpAny _ _ (pyIter _) _ _ _ | show wpAny _ _ (call (Value.builtin "len") [Value.ref SRC] _) _ _ _ | show wpAny _ _ (call (Value.ref _) _ _) _ _ _)); (fail_if_success (with_reducible show wpAny _ _ (exec (Stmt.For _ _ _ _ _) _) _ _ _)); (fail_if_success (with_reducible show wpAny _ _ (exec (Stmt.Assign _ (Expr.ListComp _ _ _ _) _) _) _ _ _)); (fail_if_success (with_reducible show wpAny _ _ (eval (Expr.ListComp _ _ _ _) _) _ _ _)); first | ((first | (with_reducible show wpAny _ _ (exec (Stmt.Assign _ _ _) _) _ _ _) | (with_reducible show wpAny _ _ (exec (Stmt.Expr _ _) _) _ _ _) | (with_reducible show wpAny _ _ (exec (Stmt.Return _ _) _) _ _ _)); k_fold) | walk1 | (dsimp only; (with_reducible show wpAny _ _ _ _ _); walk1))))
        · have he : (rs.map (·.1)).isEmpty = true := by assumption
          have he' : rs = [] := by simpa using he
          have hw0 : wish.toNat = 0 := by rw [he'] at hmin; simp at hmin; lia
          refine h D h8 _ c8 (fun a o q => F8.keep _ _ (stB2 _ _ q)) (none_sub stB2 (N8 _ (.head _)).2.2) ?_ (frB2.trans (Framed.of_keeps F8.keep))
          rw [hw0, List.take_zero]
          have z := (N8 _ (.head _)).1
          rw [he'] at z; exact z
        have he : (rs.map (·.1)).isEmpty = false := by assumption
        have hpos : 0 < rs.length := by cases rs with | nil => simp at he | cons a r => simp
        have hle : rs.length ≤ N := by lia
        have I0 : Items x e TupK false (rs.flatMap (·.2)) (mkIts x e false rs) rs.length (rs.length : Int) := mkIts_items (dn := false) fun j r hr => by
          refine e3_2 (hYP j r hr) ?_
          intro T ti tq q1 q2
          exact ⟨T, _, q1, q2, tq, ti, _, rfl⟩
        rw [← mkIts_v (x := x) (e := e) (dn := false)] at N8
        have B0 : Best (fun p => - x p) (fun a b => ltI b a) rs.length rs.length (hfy (fun a b => ltI b a) (mkIts x e false rs) ((mkIts x e false rs).length / 2)) := by
          have z := best_start (sc := (fun p => - x p)) sw_ltI.flip (its := mkIts x e false rs) (by rw [mkIts_len]; exact hpos) (by rw [mkIts_pl, mkIts_len])
          rw [mkIts_len] at z ⊢; exact z
        have hpl : (mkIts x e false rs).map pl = List.range rs.length := mkIts_pl
        generalize hits : mkIts x e false rs = its at *
        generalize hts : rs.flatMap (·.2) = ts at *
        have hil : its.length = rs.length := by rw [← hits]; exact mkIts_len
        have LD := (N8 _ (.head _)).2.1
        have BD := (N8 _ (.head _)).2.2
        have P0 := items_keyd I0 (N8 _ (.head _)).1 fun q hq => (N8 q (.tail _ (.tail _ (.tail _ hq)))).1
        refine heapify_max (b := hideAll h8 [D]) (xs := its) (n := c8) (lt := ltI) (S := fun u => u ∈ its) (by show A.depth + 1 ≤ 498; lia) (by show A.units + 3 ≤ 480; lia) hA (fun a o q => of_hideAll _ q) (by rw [hideAll_size]; exact Nat.le_refl _) (XB2.keeps (stays_hide F8.keep BD)) (TB2.keeps (stays_hide F8.keep BD)) (N8 _ (.head _)).1 (hideAll_none _ (.head _)) (fun _ q => q) (cmp_keyd P0 fun u v hu hv => I0.inj (by rw [hpl]; exact List.nodup_range) u hu v hv) (by lia) ?_
        intro h9 tk9 st9 gD9
        have F9 := fr_back F8 (Ne.symm LD) BD st9
        have tsT : ∀ q ∈ ts, q.2.cls = .type "tuple" := by
          intro q hq
          rw [← hts] at hq
          refine e1_2 (List.mem_flatMap.mp hq) ?_
          intro r hr hq
          obtain ⟨j, hj, rfl⟩ := List.getElem_of_mem hr
          refine e3_2 (hYP j rs[j] (List.getElem?_eq_getElem hj)) ?_
          intro T ti tq q1 q2
          rw [q2, List.mem_singleton] at hq; subst hq; rfl
        have io_f : ∃ vs, io.data = .fields vs := by rcases hio with ⟨rfl, _⟩ | ⟨rfl, _⟩ <;> exact ⟨_, rfl⟩
        have off1 : ∀ (items : Array Value) (c : Nat), ∀ q ∈ (IT, io) :: (L' + 1, oc) :: ts, q.2 ≠ listOf items c := by
          intro items c q hq z
          rcases List.mem_cons.mp hq with rfl | hq
          · obtain ⟨vs, hv⟩ := io_f; dsimp only at z; rw [z] at hv; simp [W.listOf] at hv
          rcases List.mem_cons.mp hq with rfl | hq
          · dsimp only at z; rw [z] at d1; simp [W.listOf] at d1
          · have := tsT q hq; rw [z] at this; simp [W.listOf] at this
        have N9 := news_back1 N8 (off1 _ _) st9 gD9
        clear F8 N8
        have Ih := I0.sub (its' := hfy (fun a b => ltI b a) its (its.length / 2)) fun u hu => (heapify_spec sw_ltI.flip its).2.mem_iff.mp hu
        generalize hfy (fun a b => ltI b a) its (its.length / 2) = hs at *
        have hsl := B0.len
        (repeat' (first | (k_unfold; (try dsimp only)) | ((fail_if_success (with_reducible first | show wpAny _ _ (exec (Stmt.While _ _ _ _) _) _ _ _ | show wpAny _ _ (eval (Expr.Name (Str.ofString "AttributeError") _) _) _ _ _ | show wpAny _ _ (subscriptTail (Expr.Name _ _) (Expr.Slice _ _ _ _) _ _) _ _ _ | show wpAny _ _ (call (Value.builtin "list.sort") _ _) _ _ _ | show wpAny _ _ (pyIter _) _ _ _ | show wpAny _ _ (call (Value.builtin "len") [Value.ref SRC] _) _ _ _ | show wpAny _ _ (call (Value.ref _) _ _) _ _ _)); (fail_if_success (with_reducible show wpAny _ _ (exec (Stmt.For _ _ _ _ _) _) _ _ _)); (fail_if_success (with_reducible show wpAny _ _ (exec (Stmt.Assign _ (Expr.ListComp _ _ _ _) _) _) _ _ _)); (fail_if_success (with_reducible show wpAny _ _ (eval (Expr.ListComp _ _ _ _) _) _ _ _)); first | ((first | (with_reducible show wpAny _ _ (exec (Stmt.Assign _ _ _) _) _ _ _) | (with_reducible show wpAny _ _ (exec (Stmt.Expr _ _) _) _ _ _) | (with_reducible show wpAny _ _ (exec (Stmt.Return _ _) _) _ _ _)); k_fold) | walk1 | (dsimp only; (with_reducible show wpAny _ _ _ _ _); walk1))))
        have I1 : Items x e TupK false ts hs rs.length (wish) := ⟨Ih.good, Ih.idx, fun u hu => by have := Ih.ord u hu; simp only [Bool.false_eq_true, if_false, if_true] at this ⊢; lia⟩
        have r0 : ge hs 0 ∈ hs := ge_mem (by lia)
        obtain ⟨T0, o0, p0, v0, k0, e0, l0, m0, tq0, ti0, mm0, ho0⟩ := I1.good _ r0
        rw [show (hs.getD (Int.toNat 0) it0).v = .ref T0 from v0]
        have gT0 := (N9 _ (.tail _ (.tail _ (.tail _ m0)))).1
        rw [ho0] at gT0
        refine tail_any ⟨_, gT0, rfl⟩ F.slot_tuple_getitem.lookup (P.getItem_tuple gT0 (by decide) (by decide) (k := 0) rfl rfl ?_) (by with_unfolding_all rfl)
        rw [kh_of k0]
        (repeat' (first | (k_unfold; (try dsimp only)) | ((fail_if_success (with_reducible first | show wpAny _ _ (exec (Stmt.While _ _ _ _) _) _ _ _ | show wpAny _ _ (eval (Expr.Name (Str.ofString "AttributeError") _) _) _ _ _ | show wpAny _ _ (subscriptTail (Expr.Name _ _) (Expr.Slice _ _ _ _) _ _) _ _ _ | show wpAny _ _ (call (Value.builtin "list.sort") _ _) _ _ _ | show wpAny _ _ (pyIter _) _ _ _ | show wpAny _ _ (call (Value.builtin "len") [Value.ref SRC] _) _ _ _ | show wpAny _ _ (call (Value.ref _) _ _) _ _ _)); (fail_if_success (with_reducible show wpAny _ _ (exec (Stmt.For _ _ _ _ _) _) _ _ _)); (fail_if_success (with_reducible show wpAny _ _ (exec (Stmt.Assign _ (Expr.ListComp _ _ _ _) _) _) _ _ _)); (fail_if_success (with_reducible show wpAny _ _ (eval (Expr.ListComp _ _ _ _) _) _ _ _)); first | ((first | (with_reducible show wpAny _ _ (exec (Stmt.Assign _ _ _) _) _ _ _) | (with_reducible show wpAny _ _ (exec (Stmt.Expr _ _) _) _ _ _) | (with_reducible show wpAny _ _ (exec (Stmt.Return _ _) _) _ _ _)); k_fold) | walk1 | (dsimp only; (with_reducible show wpAny _ _ _ _ _); walk1))))
        rename_i h12 F12 N12
        obtain ⟨Q2, hQ2⟩ : ∃ Q2 : Flow → Shared → Prop, Q2 = fun f s' => f = .next ∧ ∃ its ts h tk m₃ od, s' = { s with heap := h, toks := tk } ∧ Fr B₂ L' h m₃ ∧ News B₂ L' h ((D, listOf (its.map It.v).toArray c8) :: ts) ∧ m₃ (Str.ofString "result") = some (.ref D) ∧
          Items x e TupK false ts its N od ∧ Best (fun p => - x p) (fun a b => ltI b a) rs.length N its ∧ (∀ q ∈ ts, q.2.cls = .type "tuple") := ⟨_, rfl⟩
        refine wpAny_mono (Q := Q2) ?_ ?_ fun _ _ e => e
        ·
          --FOR
          refine wpAny_For ?_
          (repeat' (first | (k_unfold; (try dsimp only)) | ((fail_if_success (with_reducible first | show wpAny _ _ (exec (Stmt.While _ _ _ _) _) _ _ _ | show wpAny _ _ (eval (Expr.Name (Str.ofString "AttributeError") _) _) _ _ _ | show wpAny _ _ (subscriptTail (Expr.Name _ _) (Expr.Slice _ _ _ _) _ _) _ _ _ | show wpAny _ _ (call (Value.builtin "list.sort") _ _) _ _ _ | show wpAny _ _ (pyIter _) _ _ _ | show wpAny _ _ (call (Value.builtin "len") [Value.ref SRC] _) _ _ _ | show wpAny _ _ (call (Value.ref _) _ _) _ _ _)); (fail_if_success (with_reducible show wpAny _ _ (exec (Stmt.For _ _ _ _ _) _) _ _ _)); (fail_if_success (with_reducible show wpAny _ _ (exec (Stmt.Assign _ (Expr.ListComp _ _ _ _) _) _) _ _ _)); (fail_if_success (with_reducible show wpAny _ _ (eval (Expr.ListComp _ _ _ _) _) _ _ _)); first | ((first | (with_reducible show wpAny _ _ (exec (Stmt.Assign _ _ _) _) _ _ _) | (with_reducible show wpAny _ _ (exec (Stmt.Expr _ _) _) _ _ _) | (with_reducible show wpAny _ _ (exec (Stmt.Return _ _) _) _ _ _)); k_fold) | walk1 | (dsimp only; (with_reducible show wpAny _ _ _ _ _); walk1))))
          have io_c : io.cls = .type "list_iterator" := by rcases hio with ⟨rfl, _⟩ | ⟨rfl, _⟩ <;> rfl
          refine pyIter_li (N12 _ (.tail _ (.head _))).1 io_c ?_
          obtain ⟨IV, hIV⟩ : ∃ IV : Nat → Shared → Prop, IV = fun k s' => ∃ j its ts h tk m₃ io od tod ttop, k = N + 1 - j ∧ rs.length ≤ j ∧ j ≤ N ∧ s' = { s with heap := h, toks := tk } ∧ Fr B₂ L' h m₃ ∧ News B₂ L' h ((D, listOf (its.map It.v).toArray c8) :: (IT, io) :: (L' + 1, oc) :: ts) ∧ (io = liObj LST j ∨ (io = liEnd N ∧ j = N)) ∧
            m₃ (Str.ofString "result") = some (.ref D) ∧ m₃ (Str.ofString "top") = some (.int (x (pl (ge its 0))) ttop) ∧ m₃ (Str.ofString "order") = some (.int od tod) ∧ m₃ (Str.ofString "_heapreplace") = some (.ref 35) ∧
            Items x e TupK false ts its j od ∧ Best (fun p => - x p) (fun a b => ltI b a) rs.length j its ∧ (∀ q ∈ ts, q.2.cls = .type "tuple") := ⟨_, rfl⟩
          refine codeF IV (N + 1 - rs.length) ?_ ?_
          · subst hIV
            refine ⟨rs.length, hs, ts, _, _, _, io, wish, _, tq0, rfl, Nat.le_refl _, hle, rfl, F12, N12, ?_, rfl, ?_, rfl, rfl, I1, B0, tsT⟩
            · rcases hio with ⟨rfl, _⟩ | ⟨rfl, h2⟩
              · left; rw [hmin]
              · right; rw [hmin]
                have : rs.length = N := by lia
                rw [this]; exact ⟨rfl, rfl⟩
            · rw [show pl (ge hs 0) = p0 from pl_of k0]; rfl
          clear F12 N12 hio io_f io_c off1 tsT I1 B0 gT0 m0 ho0 v0 k0 e0 l0 r0 Ih hsl gD9
          intro k s' hik
          rw [hIV] at hik
          refine e10_14 (hik) ?_
          (try clear hik)
          intro j its ts h13 tk13 m₃ io od tod ttop zr10 hj1 hj2 zr13 F13 N13 hio e3 e4 e5 e6 I2 B2 tsT
          first | subst zr10 | cases zr10
          first | subst zr13 | cases zr13
          have hlt2 := I2.hlt
          have hil2 := B2.len
          have io_f : ∃ vs, io.data = .fields vs := by rcases hio with rfl | ⟨rfl, _⟩ <;> exact ⟨_, rfl⟩
          have offI : ∀ q ∈ (D, listOf (its.map It.v).toArray c8) :: (L' + 1, oc) :: ts, q.2 ≠ io := by
            intro q hq z
            obtain ⟨vs, hv⟩ := io_f
            rcases List.mem_cons.mp hq with rfl | hq
            · dsimp only at z; rw [← z] at hv; simp [W.listOf] at hv
            rcases List.mem_cons.mp hq with rfl | hq
            · dsimp only at z; rw [← z, d1] at hv; cases hv
            · have hcc := tsT q hq
              rw [z] at hcc
              rcases hio with rfl | ⟨rfl, _⟩
              · simp [liObj] at hcc
              · simp [liEnd] at hcc
          have hIT := N13 _ (.tail _ (.head _))
          by_cases hjN : j < N
          · have hio' : io = liObj LST j := by rcases hio with h1 | ⟨_, h2⟩; exact h1; lia
            subst hio'
            refine pyNext_li_item hIT.1 (F13.keep _ _ LB2) (x := e j) (by simp [hjN]) fun h14 g14 s14 => ?_
            have F14 := fr_ext F13 (Ne.symm hIT.2.1) hIT.2.2 s14.extBut
            have N14 := news_mid N13 offI s14.extBut g14
            clear F13 N13
            (repeat' (first | (k_unfold; (try dsimp only)) | ((fail_if_success (with_reducible first | show wpAny _ _ (exec (Stmt.While _ _ _ _) _) _ _ _ | show wpAny _ _ (eval (Expr.Name (Str.ofString "AttributeError") _) _) _ _ _ | show wpAny _ _ (subscriptTail (Expr.Name _ _) (Expr.Slice _ _ _ _) _ _) _ _ _ | show wpAny _ _ (call (Value.builtin "list.sort") _ _) _ _ _ | show wpAny _ _ (pyIter _) _ _ _ | show wpAny _ _ (call (Value.builtin "len") [Value.ref SRC] _) _ _ _ | show wpAny _ _ (call (Value.ref _) _ _) _ _ _)); (fail_if_success (with_reducible show wpAny _ _ (exec (Stmt.For _ _ _ _ _) _) _ _ _)); (fail_if_success (with_reducible show wpAny _ _ (exec (Stmt.Assign _ (Expr.ListComp _ _ _ _) _) _) _ _ _)); (fail_if_success (with_reducible show wpAny _ _ (eval (Expr.ListComp _ _ _ _) _) _ _ _)); first | ((first | (with_reducible show wpAny _ _ (exec (Stmt.Assign _ _ _) _) _ _ _) | (with_reducible show wpAny _ _ (exec (Stmt.Expr _ _) _) _ _ _) | (with_reducible show wpAny _ _ (exec (Stmt.Return _ _) _) _ _ _)); k_fold) | walk1 | (dsimp only; (with_reducible show wpAny _ _ _ _ _); walk1))))
            · rename_i h15 F15 N15
              exact F15.keep _ _ (stB2 _ _ hfq)
            rename_i h15 F15 N15
            refine hkey j _ h15 _ _ _ hjN (by show A.depth + 1 ≤ 499; lia) (by show A.units + 3 ≤ 800; lia) hA (fun a o q => F15.keep _ _ (stB2 _ _ q)) (fun _ _ q => q) (Nat.le_refl _) fun tq h15b tk15b st15b => ?_
            have F15b := fr_keeps F15 st15b
            have N15b := news_keeps N15 st15b
            clear F15 N15
            have r1 : ge its 0 ∈ its := ge_mem (by lia)
            have plt : pl (ge its 0) < j := by
              refine e3_5 (I2.good _ r1) ?_
              intro _ _ p1 _ k1 _ l1 _
              rw [pl_of k1]; exact l1
            (repeat' (first | (k_unfold; (try dsimp only)) | ((fail_if_success (with_reducible first | show wpAny _ _ (exec (Stmt.While _ _ _ _) _) _ _ _ | show wpAny _ _ (eval (Expr.Name (Str.ofString "AttributeError") _) _) _ _ _ | show wpAny _ _ (subscriptTail (Expr.Name _ _) (Expr.Slice _ _ _ _) _ _) _ _ _ | show wpAny _ _ (call (Value.builtin "list.sort") _ _) _ _ _ | show wpAny _ _ (pyIter _) _ _ _ | show wpAny _ _ (call (Value.builtin "len") [Value.ref SRC] _) _ _ _ | show wpAny _ _ (call (Value.ref _) _ _) _ _ _)); (fail_if_success (with_reducible show wpAny _ _ (exec (Stmt.For _ _ _ _ _) _) _ _ _)); (fail_if_success (with_reducible show wpAny _ _ (exec (Stmt.Assign _ (Expr.ListComp _ _ _ _) _) _) _ _ _)); (fail_if_success (with_reducible show wpAny _ _ (eval (Expr.ListComp _ _ _ _) _) _ _ _)); first | ((first | (with_reducible show wpAny _ _ (exec (Stmt.Assign _ _ _) _) _ _ _) | (with_reducible show wpAny _ _ (exec (Stmt.Expr _ _) _) _ _ _) | (with_reducible show wpAny _ _ (exec (Stmt.Return _ _) _) _ _ _)); k_fold) | walk1 | (dsimp only; (with_reducible show wpAny _ _ _ _ _); walk1))))
            · rename_i hxx T5 h16 F16 N16 _
              have I3 := I2.add (y := ⟨.ref T5, [x j, (j : Int)], od, e j⟩) (ts' := (T5, { cls := .type "tuple", data := .seq #[.int (x j) tq, .int od tod, e j] }) :: ts) (fun q hq => .tail _ hq) ⟨T5, _, rfl, rfl, rfl, .head _, tq, tod, _, rfl⟩ rfl
              simp only [Bool.false_eq_true, if_false, if_true] at I3
              have tsT5 : ∀ q ∈ (T5, ({ cls := .type "tuple", data := .seq #[.int (x j) tq, .int od tod, e j] } : Obj)) :: ts, q.2.cls = .type "tuple" := fun q hq => by
                rcases List.mem_cons.mp hq with rfl | hq
                · rfl
                · exact tsT q hq
              have N16' : News B₂ L' h16 ((D, listOf (its.map It.v).toArray c8) :: (IT, liObj LST (j + 1)) :: (L' + 1, oc) :: (T5, { cls := .type "tuple", data := .seq #[.int (x j) tq, .int od tod, e j] }) :: ts) := fun q hq => N16 q (by
                simp only [List.mem_cons] at hq ⊢
                rcases hq with hq | hq | hq | hq | hq
                · exact .inr (.inl hq)
                · exact .inr (.inr (.inl hq))
                · exact .inr (.inr (.inr (.inl hq)))
                · exact .inl hq
                · exact .inr (.inr (.inr (.inr hq))))
              clear N16
              generalize hts5 : (T5, ({ cls := .type "tuple", data := .seq #[.int (x j) tq, .int od tod, e j] } : Obj)) :: ts = ts5 at *
              have hpy : pl (⟨.ref T5, [x j, (j : Int)], od, e j⟩ : It) = j := pl_of (x := x) rfl
              have hndy : ((⟨.ref T5, [x j, (j : Int)], od, e j⟩ : It) :: its).map pl |>.Nodup := by
                rw [List.map_cons, List.nodup_cons, hpy]
                refine ⟨fun z => ?_, B2.places.nodup_iff.mpr ((ordD_nodup j).sublist (List.take_sublist _ _))⟩
                have := List.mem_of_mem_take (B2.places.mem_iff.mp z)
                exact absurd (ordD_mem.mp this) (Nat.lt_irrefl _)
              have P3 := items_keyd I3 (N16' _ (.head _)).1 fun q hq => (N16' q (.tail _ (.tail _ (.tail _ hq)))).1
              refine heapreplace_max (b := hideAll h16 [D]) (xs := its) (y := ⟨.ref T5, [x j, (j : Int)], od, e j⟩) (n := c8) (lt := ltI) (S := fun u => u ∈ (⟨.ref T5, [x j, (j : Int)], od, e j⟩ : It) :: its) (by show A.depth + 1 ≤ 498; lia) (by show A.units + 3 ≤ 480; lia) (fun a o q => of_hideAll _ q) (by rw [hideAll_size]; exact Nat.le_refl _) (XB2.keeps (stays_hide F16.keep BD)) (TB2.keeps (stays_hide F16.keep BD)) (N16' _ (.head _)).1 (hideAll_none _ (.head _)) (fun v hv => .tail _ hv) (.head _) (cmp_keyd P3 fun u v hu hv => I3.inj hndy u hu v hv) (by lia) (by lia) ?_
              intro vv h17 tk17 st17 gD17
              have F17 := fr_back F16 (Ne.symm LD) BD st17
              have N17 := news_back1 N16' (fun q hq z => by
                rcases List.mem_cons.mp hq with rfl | hq
                · dsimp only at z; have := congrArg Obj.data z; simp [liObj, W.listOf] at this
                rcases List.mem_cons.mp hq with rfl | hq
                · dsimp only at z; rw [z] at d1; simp [W.listOf] at d1
                · have := tsT5 q hq; rw [z] at this; simp [W.listOf] at this) st17 gD17
              have B4 := B2.in sw_ltI.flip hlt2 hpy (by lia)
              have I4 := I3.sub (its' := sup (fun a b => ltI b a) (its.set 0 ⟨.ref T5, [x j, (j : Int)], od, e j⟩) 0 0 ⟨.ref T5, [x j, (j : Int)], od, e j⟩) (sup_mem' (by rw [List.length_set]; lia) _ (.head _) fun v hv => by
                rcases List.mem_or_eq_of_mem_set hv with h1 | h1
                · exact .tail _ h1
                · rw [h1]; exact .head _)
              generalize sup (fun a b => ltI b a) (its.set 0 ⟨.ref T5, [x j, (j : Int)], od, e j⟩) 0 0 ⟨.ref T5, [x j, (j : Int)], od, e j⟩ = zs at *
              have hzl := B4.len
              clear F16 N16'
              (repeat' (first | (k_unfold; (try dsimp only)) | ((fail_if_success (with_reducible first | show wpAny _ _ (exec (Stmt.While _ _ _ _) _) _ _ _ | show wpAny _ _ (eval (Expr.Name (Str.ofString "AttributeError") _) _) _ _ _ | show wpAny _ _ (subscriptTail (Expr.Name _ _) (Expr.Slice _ _ _ _) _ _) _ _ _ | show wpAny _ _ (call (Value.builtin "list.sort") _ _) _ _ _ | show wpAny _ _ (pyIter _) _ _ _ | show wpAny _ _ (call (Value.builtin "len") [Value.ref SRC] _) _ _ _ | show wpAny _ _ (call (Value.ref _) _ _) _ _ _)); (fail_if_success (with_reducible show wpAny _ _ (exec (Stmt.For _ _ _ _ _) _) _ _ _)); (fail_if_success (with_reducible show wpAny _ _ (exec (Stmt.Assign _ (Expr.ListComp _ _ _ _) _) _) _ _ _)); (fail_if_success (with_reducible show wpAny _ _ (eval (Expr.ListComp _ _ _ _) _) _ _ _)); first | ((first | (with_reducible show wpAny _ _ (exec (Stmt.Assign _ _ _) _) _ _ _) | (with_reducible show wpAny _ _ (exec (Stmt.Expr _ _) _) _ _ _) | (with_reducible show wpAny _ _ (exec (Stmt.Return _ _) _) _ _ _)); k_fold) | walk1 | (dsimp only; (with_reducible show wpAny _ _ _ _ _); walk1))))
              obtain ⟨T6, o6, p6, v6, k6, f6, l6, m6, tq6, ti6, mm6, ho6⟩ := I4.good _ (ge_mem (by lia : 0 < zs.length))
              rw [show (zs.getD (Int.toNat 0) it0).v = .ref T6 from v6]
              have gT6 := (N17 _ (.tail _ (.tail _ (.tail _ m6)))).1
              rw [ho6] at gT6
              refine assign_Tuple_tuple hA ⟨_, gT6, rfl, _, rfl⟩ rfl rfl fun h18 he18 => ?_
              have st18 : h17.StaysIn h18 := fun a o q => he18 a o (Nat.ne_of_lt (Heap.lt_size q)) q
              have F18 := fr_keeps F17 st18
              have N18 := news_keeps N17 st18
              clear F17 N17
              rw [kh_of k6]
              (repeat' (first | (k_unfold; (try dsimp only)) | ((fail_if_success (with_reducible first | show wpAny _ _ (exec (Stmt.While _ _ _ _) _) _ _ _ | show wpAny _ _ (eval (Expr.Name (Str.ofString "AttributeError") _) _) _ _ _ | show wpAny _ _ (subscriptTail (Expr.Name _ _) (Expr.Slice _ _ _ _) _ _) _ _ _ | show wpAny _ _ (call (Value.builtin "list.sort") _ _) _ _ _ | show wpAny _ _ (pyIter _) _ _ _ | show wpAny _ _ (call (Value.builtin "len") [Value.ref SRC] _) _ _ _ | show wpAny _ _ (call (Value.ref _) _ _) _ _ _)); (fail_if_success (with_reducible show wpAny _ _ (exec (Stmt.For _ _ _ _ _) _) _ _ _)); (fail_if_success (with_reducible show wpAny _ _ (exec (Stmt.Assign _ (Expr.ListComp _ _ _ _) _) _) _ _ _)); (fail_if_success (with_reducible show wpAny _ _ (eval (Expr.ListComp _ _ _ _) _) _ _ _)); first | ((first | (with_reducible show wpAny _ _ (exec (Stmt.Assign _ _ _) _) _ _ _) | (with_reducible show wpAny _ _ (exec (Stmt.Expr _ _) _) _ _ _) | (with_reducible show wpAny _ _ (exec (Stmt.Return _ _) _) _ _ _)); k_fold) | walk1 | (dsimp only; (with_reducible show wpAny _ _ _ _ _); walk1))))
              rename_i _ h19 F19 N19
              refine wpAny_loadName_local (by rfl) (by rfl) F19.ns (v := .int od tod) (by exact e5) ?_
              (repeat' (first | (k_unfold; (try dsimp only)) | ((fail_if_success (with_reducible first | show wpAny _ _ (exec (Stmt.While _ _ _ _) _) _ _ _ | show wpAny _ _ (eval (Expr.Name (Str.ofString "AttributeError") _) _) _ _ _ | show wpAny _ _ (subscriptTail (Expr.Name _ _) (Expr.Slice _ _ _ _) _ _) _ _ _ | show wpAny _ _ (call (Value.builtin "list.sort") _ _) _ _ _ | show wpAny _ _ (pyIter _) _ _ _ | show wpAny _ _ (call (Value.builtin "len") [Value.ref SRC] _) _ _ _ | show wpAny _ _ (call (Value.ref _) _ _) _ _ _)); (fail_if_success (with_reducible show wpAny _ _ (exec (Stmt.For _ _ _ _ _) _) _ _ _)); (fail_if_success (with_reducible show wpAny _ _ (exec (Stmt.Assign _ (Expr.ListComp _ _ _ _) _) _) _ _ _)); (fail_if_success (with_reducible show wpAny _ _ (eval (Expr.ListComp _ _ _ _) _) _ _ _)); first | ((first | (with_reducible show wpAny _ _ (exec (Stmt.Assign _ _ _) _) _ _ _) | (with_reducible show wpAny _ _ (exec (Stmt.Expr _ _) _) _ _ _) | (with_reducible show wpAny _ _ (exec (Stmt.Return _ _) _) _ _ _)); k_fold) | walk1 | (dsimp only; (with_reducible show wpAny _ _ _ _ _); walk1))))
              rename_i h20 F20 N20
              subst hIV
              exact ⟨N + 1 - (j + 1), by lia, j + 1, zs, ts5, _, _, _, _, od + 1, _, tq6, rfl, by lia, hjN, rfl, F20, N20, .inl rfl, e3, (by rw [pl_of k6]; rfl), rfl, e6, I4, B4, tsT5⟩
            · rename_i h15c F15c N15c hx1
              subst hIV
              refine ⟨N + 1 - (j + 1), by lia, j + 1, its, ts, _, _, _, _, od, tod, ttop, rfl, by lia, hjN, rfl, F15c, N15c, .inl rfl, by assumption, by assumption, by assumption, by assumption, I2.skip, B2.out sw_ltI.flip hlt2 (by lia), tsT⟩
          · obtain rfl : j = N := by lia
            have fin : ∀ h' tk' ioo, Fr B₂ L' h' m₃ → News B₂ L' h' ((D, listOf (its.map It.v).toArray c8) :: (IT, ioo) :: (L' + 1, oc) :: ts) → _ := fun h' tk' ioo F' N' => (⟨rfl, its, ts, h', tk', m₃, od, rfl, F', fun q hq => N' q (by rcases List.mem_cons.mp hq with rfl | hq; exact .head _; exact .tail _ (.tail _ (.tail _ hq))), e3, I2, B2, tsT⟩ :
              Flow.next = Flow.next ∧ ∃ its ts h tk m₃ od, ({ s with heap := h', toks := tk' } : Shared) = { s with heap := h, toks := tk } ∧ Fr B₂ L' h m₃ ∧ News B₂ L' h ((D, listOf (its.map It.v).toArray c8) :: ts) ∧ m₃ (Str.ofString "result") = some (.ref D) ∧
                Items x e TupK false ts its j od ∧ Best (fun p => - x p) (fun a b => ltI b a) rs.length j its ∧ (∀ q ∈ ts, q.2.cls = .type "tuple"))
            rcases hio with rfl | ⟨rfl, _⟩
            · refine pyNext_li_end hA hIT.1 (F13.keep _ _ LB2) (by simp) fun h14 g14 s14 => ?_
              have F14 := fr_ext F13 (Ne.symm hIT.2.1) hIT.2.2 s14
              have N14 := news_mid N13 offI s14 g14
              walk1
              subst hQ2
              exact fin _ _ _ F14 N14
            · refine pyNext_li_gone hA hIT.1 fun h14 s14 => ?_
              have F14 := fr_keeps F13 s14
              have N14 := news_keeps N13 s14
              walk1
              subst hQ2
              exact fin _ _ _ F14 N14
          --FORE
        · intro f s' hq2
          subst hQ2
          obtain ⟨rfl, its, ts, h21, tk21, m₃, od, rfl, F21, N21, e3, I5, B5, tsT5⟩ := hq2
          have e3' : m₃ (Str.ofString "result") = some (.ref D) := e3
          (repeat' (first | (k_unfold; (try dsimp only)) | ((fail_if_success (with_reducible first | show wpAny _ _ (exec (Stmt.While _ _ _ _) _) _ _ _ | show wpAny _ _ (eval (Expr.Name (Str.ofString "AttributeError") _) _) _ _ _ | show wpAny _ _ (subscriptTail (Expr.Name _ _) (Expr.Slice _ _ _ _) _ _) _ _ _ | show wpAny _ _ (call (Value.builtin "list.sort") _ _) _ _ _ | show wpAny _ _ (pyIter _) _ _ _ | show wpAny _ _ (call (Value.builtin "len") [Value.ref SRC] _) _ _ _ | show wpAny _ _ (call (Value.ref _) _ _) _ _ _)); (fail_if_success (with_reducible show wpAny _ _ (exec (Stmt.For _ _ _ _ _) _) _ _ _)); (fail_if_success (with_reducible show wpAny _ _ (exec (Stmt.Assign _ (Expr.ListComp _ _ _ _) _) _) _ _ _)); (fail_if_success (with_reducible show wpAny _ _ (eval (Expr.ListComp _ _ _ _) _) _ _ _)); first | ((first | (with_reducible show wpAny _ _ (exec (Stmt.Assign _ _ _) _) _ _ _) | (with_reducible show wpAny _ _ (exec (Stmt.Expr _ _) _) _ _ _) | (with_reducible show wpAny _ _ (exec (Stmt.Return _ _) _) _ _ _)); k_fold) | walk1 | (dsimp only; (with_reducible show wpAny _ _ _ _ _); walk1))))
          refine wpAny_call_entry slot_list_sort ⟨_, (N21 _ (.head _)).1, rfl⟩ entry_list_sort ?_ (args_list_sort _)
          have hnd : (its.map pl).Nodup := B5.places.nodup_iff.mpr ((ordD_nodup N).sublist (List.take_sublist _ _))
          have P5 := items_keyd I5 (N21 _ (.head _)).1 fun q hq => (N21 q (.tail _ hq)).1
          have hil5 := B5.len
          refine Eq.mpr (congrArg (fun z => wpAny _ _ z _ _ _) (so_p0 D)) (sort_its (D := D) (its := its) (rev := false) (by show A.units + 3 + _ ≤ 1000; lia) (N21 _ (.head _)).1 (by lia) (I5.nodup_i hnd) (.inr P5) ?_)
          intro zs h22 tk22 c22 hzp hzs st22 gD22
          refine ⟨_, rfl, ?_⟩
          have hzm := best_end B5.places hzp (fun u hu v hv q => (I5.hlt u hu v hv).mp q) (by simpa [ltD] using hzs)
          have F22 := fr_back F21 (Ne.symm LD) BD st22
          have N22 := news_back1 N21 (fun q hq z => by have := tsT5 q hq; rw [z] at this; simp [W.listOf] at this) st22 gD22
          have I6 := I5.sub fun u hu => hzp.mem_iff.mp hu
          have hzl : zs.length = rs.length := hzp.length_eq.trans hil5
          clear F21 N21
          (repeat' (first | (k_unfold; (try dsimp only)) | ((fail_if_success (with_reducible first | show wpAny _ _ (exec (Stmt.While _ _ _ _) _) _ _ _ | show wpAny _ _ (eval (Expr.Name (Str.ofString "AttributeError") _) _) _ _ _ | show wpAny _ _ (subscriptTail (Expr.Name _ _) (Expr.Slice _ _ _ _) _ _) _ _ _ | show wpAny _ _ (call (Value.builtin "list.sort") _ _) _ _ _ | show wpAny _ _ (pyIter _) _ _ _ | show wpAny _ _ (call (Value.builtin "len") [Value.ref SRC] _) _ _ _ | show wpAny _ _ (call (Value.ref _) _ _) _ _ _)); (fail_if_success (with_reducible show wpAny _ _ (exec (Stmt.For _ _ _ _ _) _) _ _ _)); (fail_if_success (with_reducible show wpAny _ _ (exec (Stmt.Assign _ (Expr.ListComp _ _ _ _) _) _) _ _ _)); (fail_if_success (with_reducible show wpAny _ _ (eval (Expr.ListComp _ _ _ _) _) _ _ _)); first | ((first | (with_reducible show wpAny _ _ (exec (Stmt.Assign _ _ _) _) _ _ _) | (with_reducible show wpAny _ _ (exec (Stmt.Expr _ _) _) _ _ _) | (with_reducible show wpAny _ _ (exec (Stmt.Return _ _) _) _ _ _)); k_fold) | walk1 | (dsimp only; (with_reducible show wpAny _ _ _ _ _); walk1))))
          refine list_comp (cl := []) (by with_unfolding_all rfl) (by decide +kernel) (by rfl) (by decide +kernel) ?_
          (repeat' (first | (k_unfold; (try dsimp only)) | ((fail_if_success (with_reducible first | show wpAny _ _ (exec (Stmt.While _ _ _ _) _) _ _ _ | show wpAny _ _ (eval (Expr.Name (Str.ofString "AttributeError") _) _) _ _ _ | show wpAny _ _ (subscriptTail (Expr.Name _ _) (Expr.Slice _ _ _ _) _ _) _ _ _ | show wpAny _ _ (call (Value.builtin "list.sort") _ _) _ _ _ | show wpAny _ _ (pyIter _) _ _ _ | show wpAny _ _ (call (Value.builtin "len") [Value.ref SRC] _) _ _ _ | show wpAny _ _ (call (Value.ref _) _ _) _ _ _)); (fail_if_success (with_reducible show wpAny _ _ (exec (Stmt.For _ _ _ _ _) _) _ _ _)); (fail_if_success (with_reducible show wpAny _ _ (exec (Stmt.Assign _ (Expr.ListComp _ _ _ _) _) _) _ _ _)); (fail_if_success (with_reducible show wpAny _ _ (eval (Expr.ListComp _ _ _ _) _) _ _ _)); first | ((first | (with_reducible show wpAny _ _ (exec (Stmt.Assign _ _ _) _) _ _ _) | (with_reducible show wpAny _ _ (exec (Stmt.Expr _ _) _) _ _ _) | (with_reducible show wpAny _ _ (exec (Stmt.Return _ _) _) _ _ _)); k_fold) | walk1 | (dsimp only; (with_reducible show wpAny _ _ _ _ _); walk1))))
          refine wpAny_pyIter_list (PySem.IsL.isList (N22 _ (.head _)).1) ?_
          intro C D2 h24 tk24 st24 nC nD nDC hC hD2
          have gI : (h22.push (liObj D 0)).get? h22.objs.size = some (liObj D 0) := Heap.get?_push_size _ rfl
          have st22p : h22.StaysIn (h22.push (liObj D 0)) := fun a o q => Heap.get?_push_of_some _ q
          change (h22.push (liObj D 0)).StaysIn h24 at st24
          change (h22.push (liObj D 0)).get? C = none at nC
          change (h22.push (liObj D 0)).get? D2 = none at nD
          have hIB : B₂.get? h22.objs.size = none := none_sub F22.keep (Heap.get?_none_of_le (Nat.le_refl _))
          have hch : ∀ i, ∃ v : Value × Value, i < rs.length → ∃ mm, h22.get? (adOf (zs.getD i it0).v) = some { cls := .type "tuple", data := .seq #[v.1, v.2, e (pl (zs.getD i it0))] mm } := by
            intro i
            by_cases hi : i < rs.length
            · have hu : zs.getD i it0 ∈ zs := by
                rw [List.getD_eq_getElem?_getD, List.getElem?_eq_getElem (by lia)]; exact List.getElem_mem _
              obtain ⟨T7, o7, p7, v7, k7, f7, l7, m7, tq7, ti7, mm7, ho7⟩ := I6.good _ hu
              refine ⟨(.int (kh (zs.getD i it0).k) tq7, .int (zs.getD i it0).i ti7), fun _ => ⟨mm7, ?_⟩⟩
              have g7 := (N22 _ (.tail _ m7)).1
              rw [ho7, f7] at g7
              rw [v7, pl_of k7]; exact g7
            · exact ⟨(.none, .none), fun q => absurd q hi⟩
          obtain ⟨f1, hf1⟩ := Classical.axiomOfChoice hch
          have nof : ∀ X, (h22.push (liObj D 0)).get? X = none → X ≠ h22.objs.size ∧ X ≠ D ∧ ∀ i, i < rs.length → X ≠ adOf (zs.getD i it0).v := by
            intro X q
            refine ⟨fun r => ?_, fun r => ?_, fun i hi r => ?_⟩
            · rw [r, gI] at q; cases q
            · rw [r, st22p _ _ (N22 _ (.head _)).1] at q; cases q
            · obtain ⟨mm, g⟩ := hf1 i hi
              rw [r, st22p _ _ g] at q; cases q
          have hzv : (zs.map It.v) = (List.range rs.length).map fun i => Value.ref (adOf (zs.getD i it0).v) := by
            refine List.ext_getElem (by simp [hzl]) fun i a b => ?_
            have hi : i < zs.length := by simpa using a
            refine e3_2 (I6.good _ (List.getElem_mem hi)) ?_
            intro T7 o7 p7 v7 _
            simp only [List.getElem_map, List.getElem_range, List.getD_eq_getElem?_getD, List.getElem?_eq_getElem hi, Option.getD_some]
            rw [v7]; rfl
          refine ⟨fun Q E q => pyIter_li (st24 _ _ gI) rfl q, ?_⟩
          refine tup_comp3 (I := h22.objs.size) (R0 := D) (n := rs.length) (c0 := c22) (f0 := fun i => (f1 i).1) (f1 := fun i => (f1 i).2) (f2 := fun i => e (pl (zs.getD i it0))) (Ts := fun i => adOf (zs.getD i it0).v) (by exact hA) (by rfl) (by rfl) (by rfl) (by rfl) (by decide) (by decide) (by decide) (by lia)
            (st24 _ _ gI) (by rw [← hzv]; exact st24 _ _ (st22p _ _ (N22 _ (.head _)).1)) (fun i hi => (hf1 i hi).imp fun mm g => st24 _ _ (st22p _ _ g)) hC hD2 nDC (nof C nC) (nof D2 nD) (by decide) ?_
          intro h25 tk25 m25 c25 n25 g25 k25
          refine ⟨rfl, m25, n25, fun h26 s26 => ?_⟩
          have bC : B₂.get? C = none := none_sub F22.keep (none_sub st22p nC)
          have bD2 : B₂.get? D2 = none := none_sub F22.keep (none_sub st22p nD)
          have keepB : B₂.StaysIn h26 := fun a o q => s26.extBut _ _ (fun r => by rw [r, bC] at q; cases q) (k25 _ _ (fun r => by rw [List.mem_singleton.mp r, hIB] at q; cases q) (fun r => by rw [r, bC] at q; cases q) (fun r => by rw [r, bD2] at q; cases q) (st24 _ _ (st22p _ _ (F22.keep _ _ q))))
          refine h D2 h26 _ c25 (fun a o q => keepB _ _ (stB2 _ _ q)) (none_sub stB2 bD2) ?_ (frB2.trans (Framed.of_keeps keepB))
          have g26 := s26.extBut _ _ nDC g25
          rw [places_map hzm hzl, ← hmin, take_min] at g26
          exact g26
      · exact hq
end
end
-- LM0
section
variable {prog : Program} {w : World} {A : Around} {s : Shared} {b : Heap} {mg mb : Str → Option Value} {mean : ExcName → Option Value} {p : Program} {loose : List Str}

theorem filterMap_all {α β : Type} {f : α → Option β} {g : α → β} : ∀ l : List α, (∀ k ∈ l, f k = some (g k)) → l.filterMap f = l.map g
  | [], _ => rfl
  | a :: r, h => by
    rw [List.filterMap_cons, h a (.head _), List.map_cons, filterMap_all r fun k hk => h k (.tail _ hk)]
theorem slice_rev (items : Array Value) : (slicePick items none none (some (-1))).toList = items.toList.reverse := by
  have e : sliceBounds none none (some (-1)) items.size = ((items.size : Int) - 1, -1, -1) := by simp [sliceBounds]
  unfold slicePick
  rw [e]
  have r : sliceRange ((items.size : Int) - 1) (-1) (-1) = (List.range items.size).map fun k => items.size - 1 - k := by
    unfold sliceRange
    have c : (if ((items.size : Int) - 1) > -1 then (((items.size : Int) - 1) - (-1) - (-1) - 1) / (-(-1)) else 0) = (items.size : Int) := by
      split
      · rw [show (-(-1) : Int) = 1 from rfl, Int.ediv_one]; lia
      · lia
    simp only [show ¬ ((-1 : Int) > 0) from by decide, if_false, c, Int.toNat_natCast]
    refine List.map_congr_left fun k hk => ?_
    have := List.mem_range.mp hk
    lia
  rw [r]
  dsimp only
  refine List.ext_getElem? fun i => ?_
  rw [List.filterMap_map]
  have all : (List.range items.size).filterMap ((fun k => items[k]?) ∘ fun k => items.size - 1 - k) = (List.range items.size).map fun k => items[items.size - 1 - k]?.getD .none := by
    refine filterMap_all _ fun k hk => ?_
    have := List.mem_range.mp hk
    have h : items.size - 1 - k < items.size := by lia
    simp [h]
  rw [all]
  by_cases hi : i < items.size
  · rw [List.getElem?_map, List.getElem?_range hi, List.getElem?_reverse (by simpa using hi)]
    have h : items.size - 1 - i < items.size := by lia
    simp [h]
  · rw [List.getElem?_eq_none (by simp; lia), List.getElem?_eq_none (by simp; lia)]

theorem frames_after {h h' B : Heap} {outer : List Env} (hff : h.FunFrames B outer) (hns : ∀ a ∈ framesOf outer, ∃ m, h.Ns a m) (fr : Framed outer h h') : h'.FunFrames B outer := by
  induction outer with
  | nil => trivial
  | cons env r ih =>
    refine e0_3 (hff) ?_
    (try clear hff)
    intro h1 zr1 h6
    rcases zr1 with ⟨L, o, h2, h3, h4, h5⟩
    have hm : L ∈ framesOf (env :: r) := framesOf_mem env (.head _) L h2
    obtain ⟨m, hm'⟩ := hns L hm
    have sub : ∀ a, a ∈ framesOf r → a ∈ framesOf (env :: r) := fun a ha => by
      unfold framesOf at *; rw [List.filterMap_cons, h2]; exact .tail _ ha
    exact Heap.FunFrames.cons h1 h2 (fr L hm m hm') h3 (ih h6 (fun a ha => hns a (sub a ha)) fun a ha => fr a (sub a ha))
theorem ns_after {h h' : Heap} {outer : List Env} (hns : ∀ a ∈ framesOf outer, ∃ m, h.Ns a m) (fr : Framed outer h h') : ∀ a ∈ framesOf outer, ∃ m, h'.Ns a m := fun a ha => (hns a ha).imp fun m q => fr a ha m q
theorem Framed.tail {h h' : Heap} {env : Env} {outer : List Env} {L : Addr} (he : env.frame = some L) (fr : Framed (env :: outer) h h') : Framed outer h h' := fun a ha m n => fr a (by unfold framesOf at *; rw [List.filterMap_cons, he]; exact .tail _ ha) m n
theorem Framed.head {h h' : Heap} {env : Env} {outer : List Env} {L : Addr} {m : Str → Option Value} (he : env.frame = some L) (fr : Framed (env :: outer) h h') (n : h.Ns L m) : h'.Ns L m := fr L (framesOf_mem env (.head _) L he) m n
theorem off_frames {h : Heap} {outer : List Env} {a : Addr} {o : Obj} (hns : ∀ a ∈ framesOf outer, ∃ m, h.Ns a m) (g : h.get? a = some o) (hd : ∀ d k, o.data ≠ .dict d k) : a ∉ framesOf outer := fun q => by
  refine e4_3 (hns a q) ?_
  intro m o' es ep ho hd' _
  rw [g] at ho; cases ho; exact hd _ _ hd'
/-- the base for a call out of a frame: all but the frames and S -/
def callB (h : Heap) (L : Addr) (outer : List Env) (S : List Addr) : Heap := hideAll h (L :: (framesOf outer ++ S))
theorem callB_stays {h : Heap} {L : Addr} {outer : List Env} {S : List Addr} : (callB h L outer S).StaysIn h := fun a o q => of_hideAll _ q
theorem callB_size {h : Heap} {L : Addr} {outer : List Env} {S : List Addr} : (callB h L outer S).objs.size ≤ h.objs.size := by unfold callB; rw [hideAll_size]; exact Nat.le_refl _
theorem callB_get {h : Heap} {L a : Addr} {outer : List Env} {S : List Addr} {o : Obj} (g : h.get? a = some o) (h1 : a ≠ L) (h2 : a ∉ framesOf outer) (h3 : a ∉ S) : (callB h L outer S).get? a = some o :=
  hideAll_get _ g fun z => by
    rcases List.mem_cons.mp z with q | q
    · exact h1 q
    · rcases List.mem_append.mp q with q | q
      · exact h2 q
      · exact h3 q
theorem callB_base {h : Heap} {L : Addr} {outer : List Env} {S : List Addr} {m : Str → Option Value} (F : Fr b L h m) (hff : h.FunFrames b outer) (hS : ∀ a ∈ S, b.get? a = none) : b.StaysIn (callB h L outer S) := fun a o q => callB_get (F.keep _ _ q) (fun r => by
    rw [r] at q; exact absurd (Heap.lt_size q) (Nat.not_lt.mpr F.above)) (fun r => by obtain ⟨n0, _⟩ := hff.mem r; rw [q] at n0; cases n0) fun r => by rw [hS a r] at q; cases q
theorem callB_frames {h : Heap} {L : Addr} {env : Env} {outer : List Env} {S : List Addr} {m : Str → Option Value} (hk : env.scope.kind ≠ .module) (he : env.frame = some L) (F : Fr b L h m) (hff : h.FunFrames b outer) : h.FunFrames (callB h L outer S) (env :: outer) :=
  Heap.FunFrames.cons hk he F.ns (hideAll_none _ (.head _)) (hide_frames hff fun env he a ha => .tail _ (List.mem_append_left _ (framesOf_mem env he a ha)))
theorem callB_hid {h : Heap} {L a : Addr} {outer : List Env} {S : List Addr} (ha : a ∈ S) : (callB h L outer S).get? a = none := hideAll_none _ (.tail _ (List.mem_append_right _ ha))
theorem list_off {items : Array Value} {c : Nat} : ∀ d k, (listOf items c).data ≠ .dict d k := fun d k q => by simp [W.listOf] at q
theorem after_call {h' : Heap} {L' : Addr} {outer : List Env} {m : Str → Option Value} {S' : List (Addr × Obj)} (hS : ∀ q ∈ S', h'.get? q.1 = some q.2 ∧ q.1 ≠ L' ∧ b.get? q.1 = none ∧ ∀ d k, q.2.data ≠ .dict d k)
    (ns : h'.Ns L' m) (bst : b.StaysIn h') (hbL : b.objs.size ≤ L') (hns : ∀ a ∈ framesOf outer, ∃ m, s.heap.Ns a m) (frh : Framed outer s.heap h') (hlt : ∀ a ∈ framesOf outer, a < L') :
    ∃ B, Fr B L' h' m ∧ News B L' h' S' ∧ b.StaysIn B ∧ Framed outer s.heap B := by
  refine ⟨cut h' L' (S'.map (·.1)), ⟨ns, cut_stays, cut_size⟩, fun q hq => ⟨(hS q hq).1, (hS q hq).2.1, cut_none (List.mem_map_of_mem hq)⟩, fun a o q => cut_get (Nat.lt_of_lt_of_le (Heap.lt_size q) hbL) (fun z => ?_) (bst _ _ q), fun a ha m n => ?_⟩
  · refine e1_2 (List.mem_map.mp z) ?_
    intro q' hq' zr2
    first | subst zr2 | cases zr2
    rw [(hS q' hq').2.2.1] at q; cases q
  · have n' := frh a ha m n
    refine e3_3 (n') ?_
    (try clear n')
    intro o es ep ho hd r
    refine ⟨o, es, ep, cut_get (hlt a ha) (fun z => ?_) ho, hd, r⟩
    refine e1_2 (List.mem_map.mp z) ?_
    intro q' hq' zr2
    first | subst zr2 | cases zr2
    have := hS q' hq'
    rw [this.1] at ho; cases ho
    exact this.2.2.2 _ _ hd
theorem ns_not_list {h : Heap} {L a : Addr} {m : Str → Option Value} {items : Array Value} {c : Nat} (n : h.Ns L m) (g : h.get? a = some (listOf items c)) : a ≠ L := fun q => by
  refine e3_3 (n) ?_
  (try clear n)
  intro o es ep ho hd _
  rw [q, ho] at g; cases g; exact list_off _ _ hd
theorem meet_map {x : Nat → Int} {N : Nat} {wish : Int} {e : Nat → Value} : ((ordD x N).take wish.toNat).map e ++ (((ordD (fun p => - x (N - 1 - p)) N).take ((N : Int) - wish).toNat).map fun p => e (N - 1 - p)).reverse = (ordD x N).map e := by
  have z := congrArg (List.map e) (meet_eq x N wish)
  rw [List.map_append, List.map_reverse, List.map_map] at z
  exact z
theorem nw {h : Heap} {L : Addr} {q : Addr × Obj} {l : List (Addr × Obj)} (a : h.get? q.1 = some q.2 ∧ q.1 ≠ L ∧ b.get? q.1 = none) (r : News b L h l) : News b L h (q :: l) := fun p hp => by
  rcases List.mem_cons.mp hp with rfl | hp
  · exact a
  · exact r p hp
theorem nw_tl {h : Heap} {L : Addr} {q : Addr × Obj} {l : List (Addr × Obj)} (N : News b L h (q :: l)) : News b L h l := fun p hp => N p (.tail _ hp)
theorem nw_hd {h : Heap} {L : Addr} {q : Addr × Obj} {l : List (Addr × Obj)} (N : News b L h (q :: l)) : h.get? q.1 = some q.2 ∧ q.1 ≠ L ∧ b.get? q.1 = none := N q (.head _)
theorem nw_app {h : Heap} {L : Addr} {l r : List (Addr × Obj)} (N : News b L h l) (M : News b L h r) : News b L h (l ++ r) := fun p hp => (List.mem_append.mp hp).elim (N p) (M p)
theorem nw_app_l {h : Heap} {L : Addr} {l r : List (Addr × Obj)} (N : News b L h (l ++ r)) : News b L h l := fun p hp => N p (List.mem_append_left _ hp)
theorem nw_app_r {h : Heap} {L : Addr} {l r : List (Addr × Obj)} (N : News b L h (l ++ r)) : News b L h r := fun p hp => N p (List.mem_append_right _ hp)
theorem back_list {e : Nat → Value} {N : Nat} : ((List.range N).map e).reverse = (List.range N).map fun p => e (N - 1 - p) := by
  refine List.ext_getElem (by simp) fun i a b => ?_
  simp
end
-- LT
section
variable {prog : Program} {w : World} {A : Around} {s : Shared} {b : Heap} {mg mb : Str → Option Value} {mean : ExcName → Option Value} {p : Program} {loose : List Str}

theorem rangeSize_two (N : Nat) : Builtin.Range.rangeSize 0 ((2 * N : Nat) : Int) 2 = (N : Int) := by
  unfold Builtin.Range.rangeSize
  simp only [show ((2 : Int) > 0) from by decide, if_true]
  split <;> lia
set_option maxHeartbeats 40000000 in
theorem law_things {Q E : Value → Shared → Prop} {S : Addr} {vs : List Value} {ns : List Int} 
    (hd : A.depth ≤ 496) (hu : A.units ≤ 460) (hA : A.handled = none)
    (st : b.StaysIn s.heap) (hsz : b.objs.size ≤ s.heap.objs.size) (X : (hd03.heap_39 w.params).In b) (T : Top p loose mean mg mb b)
    (hS : b.IsList S vs.toArray) (hI : IntsAre vs ns) (hn : ns.length ≤ 63)
    (h : ∀ R h' tk c N (e : Nat → Value) (x : Nat → Int), b.StaysIn h' → b.get? R = none → 0 < N → N < 64 → h'.get? R = some (listOf ((List.range N).map e).toArray c) → (∀ p, p < N → ∃ a t n, e p = .ref a ∧ b.get? a = none ∧ h'.get? a = some (listOf #[.int (x p) t] n)) → Q (.ref R) { s with heap := h', toks := tk }) :
    wpAny (model prog w) A (call (.ref 89) [.ref S]) Q E s := by
  refine wpAny_call ?_
  ((k_dflt (refine' enter ?k1 ?k2 ?k3 ?k4 ?k6 ?k7 ?k8 ?k9 ?kB ?_ ?c2 ?c3 ?c4 ?c5; (case k1 => assumption); (case k2 => assumption); (case k3 => assumption); (case k4 => assumption); (case k6 => k_is); (case k7 => k_is); (case k8 => exact Nat.lt_of_le_of_lt (by assumption) (by decide)); (case k9 => exact BindsTo.of_eq rfl); (case c5 => decide); (case kB => exact locs rfl); (case c2 => exact rfl); (case c3 => exact rfl); (case c4 => exact rfl))))
  intro L' h₁ F hk hs1
  have N0 : News b L' h₁ [] := News.nil
  (try k_fold)
  (repeat' (first | (k_unfold; (try dsimp only)) | ((fail_if_success (with_reducible show wpAny _ _ (exec (Stmt.While _ _ _ _) _) _ _ _)); (fail_if_success (with_reducible show wpAny _ _ (exec (Stmt.For _ _ _ _ _) _) _ _ _)); (fail_if_success (with_reducible show wpAny _ _ (exec (Stmt.Assign _ (Expr.ListComp _ _ _ _) _) _) _ _ _)); (fail_if_success (with_reducible show wpAny _ _ (eval (Expr.ListComp _ _ _ _) _) _ _ _)); first | ((first | (with_reducible show wpAny _ _ (exec (Stmt.Assign _ _ _) _) _ _ _) | (with_reducible show wpAny _ _ (exec (Stmt.Expr _ _) _) _ _ _) | (with_reducible show wpAny _ _ (exec (Stmt.Return _ _) _) _ _ _)); k_fold) | walk1 | (dsimp only; (with_reducible show wpAny _ _ _ _ _); walk1))))
  rename_i D ws h3 hI2 l2 h4 tk4 TH h5 l5 h6 F6 N6
  obtain ⟨nums, hnums, N, hN1, hN2, hN3⟩ : ∃ nums, IntsAre ws nums ∧ ∃ N : Nat, nums.length = 2 * N ∧ 0 < N ∧ N < 64 := by
    refine ⟨_, hI2, (ns.length + 1) / 2 + 2, ?_, by lia, by lia⟩
    have e : ((ns.length : Int).fmod 2).toNat = ns.length % 2 := by
      rw [Int.fmod_eq_emod_of_nonneg _ (by decide)]; lia
    simp [e]; lia
  clear hI2
  obtain ⟨cD, N7⟩ : ∃ c, News b L' h6 [(TH, listOf #[] 0), (D, listOf ws.toArray c)] := ⟨_, fun q hq => N6 q (by
    simp only [List.mem_cons, List.not_mem_nil, or_false] at hq
    rcases hq with rfl | rfl
    · exact .head _
    · exact .tail _ (.head _))⟩
  clear N6
  have hDT : D < TH := l5.1
  refine wpAny_For ?_
  (repeat' (first | (k_unfold; (try dsimp only)) | ((fail_if_success (with_reducible show wpAny _ _ (exec (Stmt.While _ _ _ _) _) _ _ _)); (fail_if_success (with_reducible show wpAny _ _ (exec (Stmt.For _ _ _ _ _) _) _ _ _)); (fail_if_success (with_reducible show wpAny _ _ (exec (Stmt.Assign _ (Expr.ListComp _ _ _ _) _) _) _ _ _)); (fail_if_success (with_reducible show wpAny _ _ (eval (Expr.ListComp _ _ _ _) _) _ _ _)); first | ((first | (with_reducible show wpAny _ _ (exec (Stmt.Assign _ _ _) _) _ _ _) | (with_reducible show wpAny _ _ (exec (Stmt.Expr _ _) _) _ _ _) | (with_reducible show wpAny _ _ (exec (Stmt.Return _ _) _) _ _ _)); k_fold) | walk1 | (dsimp only; (with_reducible show wpAny _ _ _ _ _); walk1))))
  rename_i N8 h7 tk7 t1 u1 v1 hr F8 N9 k8
  dsimp only at hr k8
  rw [hN1] at hr
  refine wpAny_pyIter_range hr (by unfold Builtin.Range.small Builtin.Range.rangeFitsLong; rw [rangeSize_two]; simp; lia) ?_
  rw [rangeSize_two]
  have F9 := F8.push (krsIt 0 (N : Int) 2)
  have N10 := N9.push F8 (krsIt 0 (N : Int) 2)
  have hni := next_is_new F8
  have hIL : h7.objs.size ≠ L' := Nat.ne_of_gt F8.ns.lt
  dsimp only
  generalize hHI : h7.objs.size = I at *
  refine codeF (fun c s' => ∃ (ts : List (Addr × Int × Tok)), ∃ h' tk m' cc, c = N - ts.length ∧ ts.length ≤ N ∧ s' = { s with heap := h', toks := tk } ∧ Fr b L' h' m' ∧
      News b L' h' ((I, krsIt (2 * ts.length : Int) ((N : Int) - ts.length) 2) :: (TH, listOf (ts.map fun q => Value.ref q.1).toArray cc) :: (D, listOf ws.toArray cD) :: ts.map fun q => (q.1, listOf #[.int q.2.1 q.2.2] 0)) ∧
      m' "things" = some (.ref TH) ∧ m' "numbers" = some (.ref D) ∧ (∀ q ∈ ts, q.1 ≠ TH ∧ q.1 ≠ I) ∧ TH ≠ I ∧ D ≠ I) N ⟨[], _, _, _, 0, rfl, Nat.zero_le _, rfl, F9, ?_, rfl, rfl, by simp, ?_, ?_⟩ ?_
  · simp only [List.length_nil, List.map_nil, Int.natCast_zero, Int.mul_zero, Int.sub_zero]
    exact N10
  · rw [← hHI]; exact Nat.ne_of_lt (Heap.lt_size (N9 _ (.head _)).1)
  · rw [← hHI]; exact Nat.ne_of_lt (Heap.lt_size (N9 _ (.tail _ (.head _))).1)
  clear F9 N10 N9 F8 N8 hr k8
  rintro c s' ⟨ts, h', tk, m', cc, rfl, hle, rfl, F', N', e1, e2, hoff, hTI, hDI⟩
  have nI := N' _ (.head _)
  by_cases hlt : ts.length < N
  · refine wpAny_pyNext_range_item nI.1 (by lia) fun h8 it8 k8 => ?_
    have F8 := fr_change F' N' (.head _) k8
    have N8 : News b L' h8 ((I, krsIt (2 * ts.length + 2 : Int) ((N : Int) - ts.length - 1) 2) :: (TH, listOf (ts.map fun q => Value.ref q.1).toArray cc) :: (D, listOf ws.toArray cD) :: ts.map fun q => (q.1, listOf #[.int q.2.1 q.2.2] 0)) := by
      intro q hq
      rcases List.mem_cons.mp hq with rfl | hq
      · exact ⟨it8, nI.2⟩
      · refine ⟨k8.extBut _ _ (fun z => ?_) (N' _ (.tail _ hq)).1, (N' _ (.tail _ hq)).2⟩
        rcases List.mem_cons.mp hq with rfl | hq
        · exact hTI z
        rcases List.mem_cons.mp hq with rfl | hq
        · exact hDI z
        · refine e1_2 (List.mem_map.mp hq) ?_
          intro q' hq' zr2
          first | subst zr2 | cases zr2
          exact (hoff _ hq').2 z
    clear F' N' nI
    (repeat' (first | (k_unfold; (try dsimp only)) | ((fail_if_success (with_reducible show wpAny _ _ (exec (Stmt.While _ _ _ _) _) _ _ _)); (fail_if_success (with_reducible show wpAny _ _ (exec (Stmt.For _ _ _ _ _) _) _ _ _)); (fail_if_success (with_reducible show wpAny _ _ (exec (Stmt.Assign _ (Expr.ListComp _ _ _ _) _) _) _ _ _)); (fail_if_success (with_reducible show wpAny _ _ (eval (Expr.ListComp _ _ _ _) _) _ _ _)); first | ((first | (with_reducible show wpAny _ _ (exec (Stmt.Assign _ _ _) _) _ _ _) | (with_reducible show wpAny _ _ (exec (Stmt.Expr _ _) _) _ _ _) | (with_reducible show wpAny _ _ (exec (Stmt.Return _ _) _) _ _ _)); k_fold) | walk1 | (dsimp only; (with_reducible show wpAny _ _ _ _ _); walk1))))
    rename_i h9 tk9 t9 t10 TU h10 F9 N9 l9
    have gT := (N9 _ (.head _)).1
    dsimp only at gT
    refine unpackItemsN_ F9 N9 (ht := ⟨_, gT, rfl, _, rfl⟩) hA (by rfl) ?_
    intro h11 F11 N11
    clear F9 N9 gT
    have hsec : ∃ sec : Int, sec = Int.fmod (nums.getD (2 * (ts.length : Int) + 1).toNat 0) 4 ∧ 0 ≤ sec ∧ sec < 4 := ⟨_, rfl, Int.fmod_nonneg_of_pos _ (by decide), Int.fmod_lt_of_pos _ (by decide)⟩
    refine e1_3 (hsec) ?_
    (try clear hsec)
    intro sec hsec hs0 hs4
    rw [← hsec] at N11
    rw [← hsec]
    clear hsec
    generalize nums.getD (2 * (ts.length : Int)).toNat 0 = fst at *
    generalize hrest : (ts.map fun q => ((q.1, listOf #[.int q.2.1 q.2.2] 0) : Addr × Obj)) = rest at *
    (repeat' (first | (k_unfold; (try dsimp only)) | ((fail_if_success (with_reducible show wpAny _ _ (exec (Stmt.While _ _ _ _) _) _ _ _)); (fail_if_success (with_reducible show wpAny _ _ (exec (Stmt.For _ _ _ _ _) _) _ _ _)); (fail_if_success (with_reducible show wpAny _ _ (exec (Stmt.Assign _ (Expr.ListComp _ _ _ _) _) _) _ _ _)); (fail_if_success (with_reducible show wpAny _ _ (eval (Expr.ListComp _ _ _ _) _) _ _ _)); first | ((first | (with_reducible show wpAny _ _ (exec (Stmt.Assign _ _ _) _) _ _ _) | (with_reducible show wpAny _ _ (exec (Stmt.Expr _ _) _) _ _ _) | (with_reducible show wpAny _ _ (exec (Stmt.Return _ _) _) _ _ _)); k_fold) | walk1 | (dsimp only; (with_reducible show wpAny _ _ _ _ _); walk1))))
    all_goals (
      rename_i l h12 F12 N12 l12
      have zz9 : ∃ v t, h12.get? l = some (listOf #[.int v t] 0) := ⟨_, _, (N12 _ (.head _)).1⟩
      refine e2_1 zz9 ?_
      clear zz9
      intro v t hv
      have hl2 := (N12 _ (.head _)).2
      have gTH := (N12 _ (.tail _ (.tail _ (.tail _ (.head _))))).1
      have gI := (N12 _ (.tail _ (.tail _ (.head _)))).1
      dsimp only at gTH gI
      have lTH : l ≠ TH := Nat.ne_of_gt l12.2.2.1
      have lI : l ≠ I := Nat.ne_of_gt l12.2.1
      refine wpAny_list_append_plain ⟨_, gTH⟩ (fun h13 l6 s6 => ?_) (hsz := by rw [List.size_toArray, List.length_map, sizeLine_eq]; lia)
      obtain ⟨c6, l6⟩ := l6
      have F13 := fr_change F12 N12 (.tail _ (.tail _ (.tail _ (.head _)))) s6
      have N13 : News b L' h13 ((I, krsIt (2 * ((ts ++ [(l, v, t)]).length : Nat) : Int) ((N : Int) - ((ts ++ [(l, v, t)]).length : Nat)) 2) :: (TH, listOf ((ts ++ [(l, v, t)]).map fun q => Value.ref q.1).toArray c6) :: (D, listOf ws.toArray cD) :: (ts ++ [(l, v, t)]).map fun q => (q.1, listOf #[.int q.2.1 q.2.2] 0)) := by
        intro q hq
        rcases List.mem_cons.mp hq with rfl | hq
        · refine ⟨?_, (N12 _ (.tail _ (.tail _ (.head _)))).2⟩
          have := s6.extBut _ _ (Ne.symm hTI) gI
          rw [show (2 * ((ts ++ [(l, v, t)]).length : Nat) : Int) = 2 * (ts.length : Int) + 2 by simp; lia, show ((N : Int) - ((ts ++ [(l, v, t)]).length : Nat)) = (N : Int) - ts.length - 1 by simp; lia]
          exact this
        rcases List.mem_cons.mp hq with rfl | hq
        · exact ⟨by simpa using l6, (N12 _ (.tail _ (.tail _ (.tail _ (.head _))))).2⟩
        rcases List.mem_cons.mp hq with rfl | hq
        · have z := N12 _ (.tail _ (.tail _ (.tail _ (.tail _ (.head _)))))
          exact ⟨s6.extBut _ _ (Nat.ne_of_lt hDT) z.1, z.2⟩
        · rw [List.map_append, List.mem_append, hrest] at hq
          rcases hq with hq | hq
          · have z := N12 _ (.tail _ (.tail _ (.tail _ (.tail _ (.tail _ hq)))))
            refine ⟨s6.extBut _ _ (fun y => ?_) z.1, z.2⟩
            rw [← hrest] at hq
            refine e1_2 (List.mem_map.mp hq) ?_
            intro q' hq' zr2
            first | subst zr2 | cases zr2
            exact (hoff _ hq').1 y
          · simp only [List.map_cons, List.map_nil, List.mem_singleton] at hq
            subst hq
            exact ⟨s6.extBut _ _ lTH hv, hl2⟩
      clear F12 N12
      (repeat' (first | (k_unfold; (try dsimp only)) | ((fail_if_success (with_reducible show wpAny _ _ (exec (Stmt.While _ _ _ _) _) _ _ _)); (fail_if_success (with_reducible show wpAny _ _ (exec (Stmt.For _ _ _ _ _) _) _ _ _)); (fail_if_success (with_reducible show wpAny _ _ (exec (Stmt.Assign _ (Expr.ListComp _ _ _ _) _) _) _ _ _)); (fail_if_success (with_reducible show wpAny _ _ (eval (Expr.ListComp _ _ _ _) _) _ _ _)); first | ((first | (with_reducible show wpAny _ _ (exec (Stmt.Assign _ _ _) _) _ _ _) | (with_reducible show wpAny _ _ (exec (Stmt.Expr _ _) _) _ _ _) | (with_reducible show wpAny _ _ (exec (Stmt.Return _ _) _) _ _ _)); k_fold) | walk1 | (dsimp only; (with_reducible show wpAny _ _ _ _ _); walk1))))
      refine ⟨N - (ts ++ [(l, v, t)]).length, by simp; lia, ts ++ [(l, v, t)], _, _, _, c6, rfl, by simp; lia, rfl, F13, N13, e1, e2, fun q hq => ?_, hTI, hDI⟩
      rcases List.mem_append.mp hq with hq | hq
      · exact hoff q hq
      · rw [List.mem_singleton] at hq; subst hq; exact ⟨lTH, lI⟩)
  · have hN : ts.length = N := by lia
    refine wpAny_pyNext_range_end hA nI.1 (by lia) fun h8 k8 => ?_
    have F8 := fr_ext F' nI.2.1.symm nI.2.2 k8
    (repeat' (first | (k_unfold; (try dsimp only)) | ((fail_if_success (with_reducible show wpAny _ _ (exec (Stmt.While _ _ _ _) _) _ _ _)); (fail_if_success (with_reducible show wpAny _ _ (exec (Stmt.For _ _ _ _ _) _) _ _ _)); (fail_if_success (with_reducible show wpAny _ _ (exec (Stmt.Assign _ (Expr.ListComp _ _ _ _) _) _) _ _ _)); (fail_if_success (with_reducible show wpAny _ _ (eval (Expr.ListComp _ _ _ _) _) _ _ _)); first | ((first | (with_reducible show wpAny _ _ (exec (Stmt.Assign _ _ _) _) _ _ _) | (with_reducible show wpAny _ _ (exec (Stmt.Expr _ _) _) _ _ _) | (with_reducible show wpAny _ _ (exec (Stmt.Return _ _) _) _ _ _)); k_fold) | walk1 | (dsimp only; (with_reducible show wpAny _ _ _ _ _); walk1))))
    have gTH := k8 _ _ hTI (N' _ (.tail _ (.head _))).1
    refine h TH h8 _ cc N (fun p => .ref (ts.getD p (0, 0, 0)).1) (fun p => (ts.getD p (0, 0, 0)).2.1) F8.keep (N' _ (.tail _ (.head _))).2.2 hN2 hN3 ?_ ?_
    · have q : ts.map (fun q => Value.ref q.1) = (List.range N).map fun p => Value.ref (ts.getD p (0, 0, 0)).1 := by
        refine List.ext_getElem (by simp [hN]) fun i a b => ?_
        have hi : i < ts.length := by simpa using a
        simp [hi]
      rw [gTH, q]
    · intro p hp
      have hp' : p < ts.length := by lia
      have hm : ts.getD p (0, 0, 0) ∈ ts := by rw [List.getD_eq_getElem?_getD, List.getElem?_eq_getElem hp']; exact List.getElem_mem hp'
      have z := N' _ (.tail _ (.tail _ (.tail _ (List.mem_map_of_mem hm))))
      exact ⟨_, _, _, rfl, z.2.2, k8 _ _ (hoff _ hm).2 z.1⟩
end
-- LO
section
variable {prog : Program} {w : World} {A : Around} {s : Shared} {b : Heap} {mg mb : Str → Option Value} {mean : ExcName → Option Value} {p : Program} {loose : List Str}

theorem set_arr {E : Value → Shared → Prop} {l : Addr} {items : Array Value} {n : Nat} {k : Int} {t : Tok} {v : Value} {Q : Unit → Shared → Prop} (ho : s.heap.get? l = some (listOf items n)) (h0 : 0 ≤ k) (hfit : k < 2 ^ 63) (hn : k < items.size)
    (h : ∀ h', Heap.SameBut l s.heap h' → h'.get? l = some (listOf (items.setIfInBounds k.toNat v) n) → Q () { s with heap := h' }) : wpAny (model prog w) A (setItem (.ref l) (.int k t) v) Q E s := by
  refine ki_setAt ho h0 hfit hn (h _ (Heap.SameBut.update ..) ?_)
  rw [PySem.IsL.update ho (fun a : Array Value => a.setIfInBounds k.toNat v)]
  simp
theorem sub_lst {E : Value → Shared → Prop} {value slice : PySem.Expr} {R : Addr} {n c0 k : Nat} {e : Nat → Value} {u : Tok} {Q : Value → Shared → Prop} (g : s.heap.get? R = some (listOf ((List.range n).map e).toArray c0)) (hk : k < n) (hn : n ≤ 1000) (h : Q (e k) s)
    (hs : subscripted slice false (.ref R) (.int (k : Int) u) = operate [.ref R, .int (k : Int) u] (getItem (.ref R) (.int (k : Int) u)) := by with_unfolding_all rfl) :
    wpAny (model prog w) A (subscriptTail value slice (.ref R) (.int (k : Int) u)) Q E s :=
  tail_any (PySem.IsL.isList (n := c0) g).typeIs slot_list_getitem.lookup
    (wpAny_getItem_list (PySem.IsL.isList (n := c0) g) (by lia) (by lia) (by simp [hk]) h) hs
set_option maxHeartbeats 40000000 in
theorem law_order {Q E : Value → Shared → Prop} {LST : Addr} {N : Nat} {e : Nat → Value} {x : Nat → Int} {c : Nat}
    (hd : A.depth ≤ 496) (hu : A.units ≤ 460) (hA : A.handled = none)
    (st : b.StaysIn s.heap) (hsz : b.objs.size ≤ s.heap.objs.size) (X : (hd03.heap_39 w.params).In b) (T : Top p loose mean mg mb b)
    (hL : b.get? LST = some (listOf ((List.range N).map e).toArray c)) (hN : 0 < N) (h64 : N < 64)
    (hel : ∀ p, p < N → ∃ a t n, e p = .ref a ∧ b.get? a = some (listOf #[.int (x p) t] n))
    (h : ∀ R h' tk c (tt : Nat → Tok), b.StaysIn h' → b.get? R = none → h'.get? R = some (listOf ((ordD x N).map fun p => .int (p : Int) (tt p)).toArray c) → Q (.ref R) { s with heap := h', toks := tk }) :
    wpAny (model prog w) A (call (.ref 94) [.ref LST]) Q E s := by
  have X2 := X.keeps st
  refine wpAny_call ?_
  ((k_dflt (refine' enterC ?k1 ?k2 ?k3 ?k4 ?k6 ?k7 ?k8 ?k9 ?kB ?kD ?_ ?c2 ?c3 ?c4; (case k1 => assumption); (case k2 => assumption); (case k3 => assumption); (case k4 => assumption); (case k6 => k_is); (case k7 => k_is); (case k8 => exact Nat.lt_of_le_of_lt (by assumption) (by decide)); (case k9 => first | exact BindsTo.of_eq rfl | exact binds_K (by assumption) rfl (by k_is) rfl rfl rfl); (case kB => exact rfl); (case kD => decide +kernel); (case c2 => exact rfl); (case c3 => exact rfl); (case c4 => exact rfl))))
  intro L' h₁ tk cells F0 N00 Y hk hs1
  refine e2_3 (CellsAre.two Y) ?_
  intro o1 o2 zr2 d1 d2
  first | subst zr2 | cases zr2
  clear Y
  have d1' : o1.data = .cell none := d1
  have d2' : o2.data = .cell (some (.ref LST)) := d2
  clear d1 d2
  (try k_fold)
  (repeat' (first | (k_unfold; (try dsimp only)) | ((fail_if_success (with_reducible show wpAny _ _ (exec (Stmt.While _ _ _ _) _) _ _ _)); (fail_if_success (with_reducible show wpAny _ _ (exec (Stmt.For _ _ _ _ _) _) _ _ _)); (fail_if_success (with_reducible show wpAny _ _ (exec (Stmt.Assign _ (Expr.ListComp _ _ _ _) _) _) _ _ _)); (fail_if_success (with_reducible show wpAny _ _ (eval (Expr.ListComp _ _ _ _) _) _ _ _)); first | ((first | (with_reducible show wpAny _ _ (exec (Stmt.Assign _ _ _) _) _ _ _) | (with_reducible show wpAny _ _ (exec (Stmt.Expr _ _) _) _ _ _) | (with_reducible show wpAny _ _ (exec (Stmt.Return _ _) _) _ _ _)); k_fold) | walk1 | (dsimp only; (with_reducible show wpAny _ _ _ _ _); walk1))))
  rename_i l0 h0 F0 N0 _
  refine Calls.call_len_list (PySem.IsL.isList (F0.keep _ _ hL)) (by simp; lia) ?_
  rw [show ((List.range N).map e).toArray.size = N by simp]
  refine KMa.mul F0 N0 (PySem.IsL.isList (N0 _ (.head _)).1) (by lia) (by lia) (by simp; lia) (ws := List.replicate N Value.none) (by simp [List.flatten_replicate_singleton]) ?_
  intro OD h2 F2 N2 _
  replace N2 : News b L' h2 [(OD, listOf (List.replicate N Value.none).toArray 0), (L' + 1 + 1, o1), (L' + 1, o2)] := fun q hq => N2 q (by
    simp only [List.mem_cons, List.not_mem_nil, or_false] at hq ⊢
    rcases hq with rfl | rfl | rfl <;> simp)
  clear F0 N0
  (repeat' (first | (k_unfold; (try dsimp only)) | ((fail_if_success (with_reducible show wpAny _ _ (exec (Stmt.While _ _ _ _) _) _ _ _)); (fail_if_success (with_reducible show wpAny _ _ (exec (Stmt.For _ _ _ _ _) _) _ _ _)); (fail_if_success (with_reducible show wpAny _ _ (exec (Stmt.Assign _ (Expr.ListComp _ _ _ _) _) _) _ _ _)); (fail_if_success (with_reducible show wpAny _ _ (eval (Expr.ListComp _ _ _ _) _) _ _ _)); first | ((first | (with_reducible show wpAny _ _ (exec (Stmt.Assign _ _ _) _) _ _ _) | (with_reducible show wpAny _ _ (exec (Stmt.Expr _ _) _) _ _ _) | (with_reducible show wpAny _ _ (exec (Stmt.Return _ _) _) _ _ _)); k_fold) | walk1 | (dsimp only; (with_reducible show wpAny _ _ _ _ _); walk1))))
  rename_i h3 F3 N3
  refine wpAny_For ?_
  (repeat' (first | (k_unfold; (try dsimp only)) | ((fail_if_success (with_reducible show wpAny _ _ (exec (Stmt.While _ _ _ _) _) _ _ _)); (fail_if_success (with_reducible show wpAny _ _ (exec (Stmt.For _ _ _ _ _) _) _ _ _)); (fail_if_success (with_reducible show wpAny _ _ (exec (Stmt.Assign _ (Expr.ListComp _ _ _ _) _) _) _ _ _)); (fail_if_success (with_reducible show wpAny _ _ (eval (Expr.ListComp _ _ _ _) _) _ _ _)); first | ((first | (with_reducible show wpAny _ _ (exec (Stmt.Assign _ _ _) _) _ _ _) | (with_reducible show wpAny _ _ (exec (Stmt.Expr _ _) _) _ _ _) | (with_reducible show wpAny _ _ (exec (Stmt.Return _ _) _) _ _ _)); k_fold) | walk1 | (dsimp only; (with_reducible show wpAny _ _ _ _ _); walk1))))
  refine Calls.call_len_list (PySem.IsL.isList (F3.keep _ _ hL)) (by simp; lia) ?_
  rw [show ((List.range N).map e).toArray.size = N by simp]
  (repeat' (first | (k_unfold; (try dsimp only)) | ((fail_if_success (with_reducible show wpAny _ _ (exec (Stmt.While _ _ _ _) _) _ _ _)); (fail_if_success (with_reducible show wpAny _ _ (exec (Stmt.For _ _ _ _ _) _) _ _ _)); (fail_if_success (with_reducible show wpAny _ _ (exec (Stmt.Assign _ (Expr.ListComp _ _ _ _) _) _) _ _ _)); (fail_if_success (with_reducible show wpAny _ _ (eval (Expr.ListComp _ _ _ _) _) _ _ _)); first | ((first | (with_reducible show wpAny _ _ (exec (Stmt.Assign _ _ _) _) _ _ _) | (with_reducible show wpAny _ _ (exec (Stmt.Expr _ _) _) _ _ _) | (with_reducible show wpAny _ _ (exec (Stmt.Return _ _) _) _ _ _)); k_fold) | walk1 | (dsimp only; (with_reducible show wpAny _ _ _ _ _); walk1))))
  rename_i h4 tk4 t1 u1 v1 hr F4 N4 k4
  dsimp only at hr k4
  have hrs : Builtin.Range.rangeSize 0 (N : Int) 1 = (N : Int) := rangeSize_nat _ _
  refine wpAny_pyIter_range hr (by unfold Builtin.Range.small Builtin.Range.rangeFitsLong; rw [hrs]; simp; lia) ?_
  rw [hrs]
  have F5 := F4.push (krsIt 0 (N : Int) 1)
  have N5 := N4.push F4 (krsIt 0 (N : Int) 1)
  have hni := next_is_new F4
  have hIL : h4.objs.size ≠ L' := Nat.ne_of_gt F4.ns.lt
  have i1 : OD < h4.objs.size := Heap.lt_size (N4 _ (.head _)).1
  have i2 : L' + 1 + 1 < h4.objs.size := Heap.lt_size (N4 _ (.tail _ (.head _))).1
  have i3 : L' + 1 < h4.objs.size := Heap.lt_size (N4 _ (.tail _ (.tail _ (.head _)))).1
  dsimp only
  generalize hHI : h4.objs.size = I at *
  have hOD : OD ≠ L' + 1 + 1 ∧ OD ≠ L' + 1 := by
    constructor
    · intro q; have a1 := (N4 _ (.head _)).1; have a2 := (N4 _ (.tail _ (.head _))).1; dsimp only at a1 a2; rw [q, a2] at a1; have := congrArg Obj.data (Option.some.inj a1); rw [d1'] at this; simp [W.listOf] at this
    · intro q; have a1 := (N4 _ (.head _)).1; have a2 := (N4 _ (.tail _ (.tail _ (.head _)))).1; dsimp only at a1 a2; rw [q, a2] at a1; have := congrArg Obj.data (Option.some.inj a1); rw [d2'] at this; simp [W.listOf] at this
  refine codeF (fun c s' => ∃ j h' tk m' cc o1, ∃ tt : Nat → Tok, ∃ pv, c = N - j ∧ j ≤ N ∧ s' = { s with heap := h', toks := tk } ∧ Fr b L' h' m' ∧
      News b L' h' [(I, krsIt (j : Int) ((N : Int) - j) 1), (OD, listOf ((ordD x N).map fun p : Nat => if p < j then .int (p : Int) (tt p) else Value.none).toArray cc), (L' + 1 + 1, o1), (L' + 1, o2)] ∧
      o1.data = .cell pv ∧ m' "order" = some (.ref OD)) N ⟨0, _, _, _, 0, o1, fun _ => 0, none, rfl, Nat.zero_le _, rfl, F5, ?_, d1', rfl⟩ ?_
  · have q : ((ordD x N).map fun p : Nat => if p < 0 then Value.int (p : Int) 0 else Value.none) = List.replicate N Value.none := by
      refine List.eq_replicate_iff.mpr ⟨by rw [List.length_map, ordD_len], fun v hv => ?_⟩
      refine e1_2 (List.mem_map.mp hv) ?_
      intro p _ zr2
      first | subst zr2 | cases zr2
      exact if_neg (Nat.not_lt_zero _)
    rw [q]
    exact N5
  clear F5 N5 N4 F4 hr k4 d1'
  rintro c s' ⟨j, h', tk, m', cc, o1, tt, pv, rfl, hle, rfl, F', N', d1', e1⟩
  have nI := N' _ (.head _)
  by_cases hlt : j < N
  · refine wpAny_pyNext_range_item nI.1 (by lia) fun h8 it8 k8 => ?_
    have F8 := fr_change F' N' (.head _) k8
    have N8 : News b L' h8 [(I, krsIt (j + 1 : Int) ((N : Int) - j - 1) 1), (OD, listOf ((ordD x N).map fun p : Nat => if p < j then .int (p : Int) (tt p) else Value.none).toArray cc), (L' + 1 + 1, o1), (L' + 1, o2)] := by
      intro q hq
      rcases List.mem_cons.mp hq with rfl | hq
      · exact ⟨it8, nI.2⟩
      · refine ⟨k8.extBut _ _ (fun z => ?_) (N' _ (.tail _ hq)).1, (N' _ (.tail _ hq)).2⟩
        simp only [List.mem_cons, List.not_mem_nil, or_false] at hq
        rcases hq with rfl | rfl | rfl
        · exact absurd z (Nat.ne_of_lt i1)
        · exact absurd z (Nat.ne_of_lt i2)
        · exact absurd z (Nat.ne_of_lt i3)
    clear F' N' nI
    (repeat' (first | (k_unfold; (try dsimp only)) | ((fail_if_success (with_reducible show wpAny _ _ (exec (Stmt.While _ _ _ _) _) _ _ _)); (fail_if_success (with_reducible show wpAny _ _ (exec (Stmt.For _ _ _ _ _) _) _ _ _)); (fail_if_success (with_reducible show wpAny _ _ (exec (Stmt.Assign _ (Expr.ListComp _ _ _ _) _) _) _ _ _)); (fail_if_success (with_reducible show wpAny _ _ (eval (Expr.ListComp _ _ _ _) _) _ _ _)); first | ((first | (with_reducible show wpAny _ _ (exec (Stmt.Assign _ _ _) _) _ _ _) | (with_reducible show wpAny _ _ (exec (Stmt.Expr _ _) _) _ _ _) | (with_reducible show wpAny _ _ (exec (Stmt.Return _ _) _) _ _ _)); k_fold) | walk1 | (dsimp only; (with_reducible show wpAny _ _ _ _ _); walk1))))
    rename_i h9 o9 F9 N9 d9
    replace N9 : News b L' h9 [(I, krsIt (j + 1 : Int) ((N : Int) - j - 1) 1), (OD, listOf ((ordD x N).map fun p : Nat => if p < j then .int (p : Int) (tt p) else Value.none).toArray cc), (L' + 1 + 1, o9), (L' + 1, o2)] := N9
    dsimp only at d9
    refine src_assign (L := L') (B := b) (n := N) (V := fun j v => v = e j) (news := [(I, krsIt (j + 1 : Int) ((N : Int) - j - 1) 1), (OD, listOf ((ordD x N).map fun p : Nat => if p < j then .int (p : Int) (tt p) else Value.none).toArray cc), (L' + 1 + 1, o9), (L' + 1, o2)]) (m := m') (cl := [(Str.ofString "things", L' + 1), (Str.ofString "place", L' + 1 + 1)]) (fun q => decide (x j < x q)) (fun q y nw => y = e q ∧ nw = []) (by rfl) (by with_unfolding_all rfl) (by with_unfolding_all rfl) (by decide +kernel) (by decide +kernel) (by rfl) (by rfl) (by intro _; rfl) (by lia) (by rfl) (by rfl) ?_ ?_ ?_ ?_
    · walk1
      exact made_list hA F9 N9 (F9.keep _ _ hL) ⟨_, _, rfl⟩
    · rintro q h m₃ tk' E' C v hq rfl hC hv hB hnews
      refine wpAny_tests_one ?_
      have hc1 := hnews _ (.tail _ (.tail _ (.head _)))
      have hc2 := hnews _ (.tail _ (.tail _ (.tail _ (.head _))))
      dsimp only at hc1 hc2
      clear hnews
      walk1
      refine load_c (by rfl) (by rfl) hC hv ?_
      walk1
      refine load_cl (by rfl) (by rfl) (by rfl) hc2 d2' ?_
      refine load_cl (by rfl) (by rfl) (by rfl) hc1 d9 ?_
      refine sub_lst (hB _ _ hL) hlt (by lia) ?_
      refine e3_2 (hel q hq) ?_
      intro a1 t1 n1 q1 q2
      refine e3_2 (hel j hlt) ?_
      intro a2 t2 n2 q3 q4
      rw [q1, q3]
      refine one_gt (by show A.units + 3 < 9000; lia) (hB _ _ q2) (hB _ _ q4) ?_
      walk1
      exact ⟨rfl, _, _, rfl, fun _ _ e => e⟩
    · rintro q h m₃ tk' E' C v hq hp rfl hC hv hB hnews
      exact load_c (by rfl) (by rfl) hC hv ⟨h, tk', [], rfl, fun _ _ e => e, ⟨rfl, rfl⟩, fun q hq => by simp at hq⟩
    · intro D1 h10 tk10 c10 rs1 hl1 hy1 F10 N10 off10
      have e1' : rs1.flatMap (·.2) = [] := by
        rw [List.flatMap_eq_nil_iff]
        intro r hr
        obtain ⟨i, hi, rfl⟩ := List.getElem_of_mem hr
        exact (hy1 i _ (List.getElem?_eq_getElem hi)).2
      rw [e1', List.nil_append] at N10
      clear F9 N9
      have off1 : ∀ q ∈ [(I, krsIt (j + 1 : Int) ((N : Int) - j - 1) 1), (OD, listOf ((ordD x N).map fun p : Nat => if p < j then .int (p : Int) (tt p) else Value.none).toArray cc), (L' + 1 + 1, o9), (L' + 1, o2)], q.1 ≠ D1 := fun q hq => off10 q (List.mem_append_right _ hq)
      clear off10
      (repeat' (first | (k_unfold; (try dsimp only)) | ((fail_if_success (with_reducible show wpAny _ _ (exec (Stmt.While _ _ _ _) _) _ _ _)); (fail_if_success (with_reducible show wpAny _ _ (exec (Stmt.For _ _ _ _ _) _) _ _ _)); (fail_if_success (with_reducible show wpAny _ _ (exec (Stmt.Assign _ (Expr.ListComp _ _ _ _) _) _) _ _ _)); (fail_if_success (with_reducible show wpAny _ _ (eval (Expr.ListComp _ _ _ _) _) _ _ _)); first | ((first | (with_reducible show wpAny _ _ (exec (Stmt.Assign _ _ _) _) _ _ _) | (with_reducible show wpAny _ _ (exec (Stmt.Expr _ _) _) _ _ _) | (with_reducible show wpAny _ _ (exec (Stmt.Return _ _) _) _ _ _)); k_fold) | walk1 | (dsimp only; (with_reducible show wpAny _ _ _ _ _); walk1))))
      refine src_assign (L := L') (B := b) (n := j) (V := fun j v => v = e j) (news := (D1, listOf (rs1.map (·.1)).toArray c10) :: [(I, krsIt (j + 1 : Int) ((N : Int) - j - 1) 1), (OD, listOf ((ordD x N).map fun p : Nat => if p < j then .int (p : Int) (tt p) else Value.none).toArray cc), (L' + 1 + 1, o9), (L' + 1, o2)]) (m := fun z => if z = Str.ofString "ahead" then some (Value.ref D1) else m' z) (cl := [(Str.ofString "things", L' + 1), (Str.ofString "place", L' + 1 + 1)]) (fun q => decide ([x q] = [x j])) (fun q y nw => y = e q ∧ nw = []) (by rfl) (by with_unfolding_all rfl) (by with_unfolding_all rfl) (by decide +kernel) (by decide +kernel) (by rfl) (by rfl) (by intro _; rfl) (by lia) (by rfl) (by rfl) ?_ ?_ ?_ ?_
      · (repeat' (first | (k_unfold; (try dsimp only)) | ((fail_if_success (with_reducible show wpAny _ _ (exec (Stmt.While _ _ _ _) _) _ _ _)); (fail_if_success (with_reducible show wpAny _ _ (exec (Stmt.For _ _ _ _ _) _) _ _ _)); (fail_if_success (with_reducible show wpAny _ _ (exec (Stmt.Assign _ (Expr.ListComp _ _ _ _) _) _) _ _ _)); (fail_if_success (with_reducible show wpAny _ _ (eval (Expr.ListComp _ _ _ _) _) _ _ _)); first | ((first | (with_reducible show wpAny _ _ (exec (Stmt.Assign _ _ _) _) _ _ _) | (with_reducible show wpAny _ _ (exec (Stmt.Expr _ _) _) _ _ _) | (with_reducible show wpAny _ _ (exec (Stmt.Return _ _) _) _ _ _)); k_fold) | walk1 | (dsimp only; (with_reducible show wpAny _ _ _ _ _); walk1))))
        refine kmk_slice F10 N10 (PySem.IsL.isList (F10.keep _ _ hL)) .none (.int _ _) ?_ (by with_unfolding_all rfl) (by intro _; with_unfolding_all rfl) (by simp [sizeLine_eq]; lia)
        intro SL h11 F11 N11 _
        refine made_list (R := SL) (c0 := 0) hA F11 (fun q hq => N11 q (.tail _ hq)) ?_ ⟨_, _, rfl⟩
        have z := (N11 _ (.head _)).1
        have e2 : slicePick (((List.range N).map e).toArray) none (some (j : Int)) none = ((List.range j).map e).toArray := by
          rw [slicePick_upto']; simp [← List.map_take, List.take_range, Nat.min_eq_left hle]
        rw [e2] at z; exact z
      · rintro q h m₃ tk' E' C v hq rfl hC hv hB hnews
        refine wpAny_tests_one ?_
        have hc1 := hnews _ (.tail _ (.tail _ (.tail _ (.head _))))
        have hc2 := hnews _ (.tail _ (.tail _ (.tail _ (.tail _ (.head _)))))
        dsimp only at hc1 hc2
        clear hnews
        walk1
        refine load_c (by rfl) (by rfl) hC hv ?_
        walk1
        refine load_cl (by rfl) (by rfl) (by rfl) hc2 d2' ?_
        refine load_cl (by rfl) (by rfl) (by rfl) hc1 d9 ?_
        refine sub_lst (hB _ _ hL) hlt (by lia) ?_
        refine e3_2 (hel q (by lia)) ?_
        intro a1 t1 n1 q1 q2
        refine e3_2 (hel j hlt) ?_
        intro a2 t2 n2 q3 q4
        rw [q1, q3]
        refine ke_eq_ints (xs := [.int (x q) t1]) (ys := [.int (x j) t2]) (PySem.IsL.isList (n := n1) (hB _ _ q2)) (PySem.IsL.isList (n := n2) (hB _ _ q4)) (.cons _ _ .nil) (.cons _ _ .nil) (by show A.units + 3 + 64 < cLine; simp [cLine]; lia) ?_
        walk1
        exact ⟨rfl, _, _, rfl, fun _ _ e => e⟩
      · rintro q h m₃ tk' E' C v hq hp rfl hC hv hB hnews
        exact load_c (by rfl) (by rfl) hC hv ⟨h, tk', [], rfl, fun _ _ e => e, ⟨rfl, rfl⟩, fun q hq => by simp at hq⟩
      · intro D2 h12 tk12 c12 rs2 hl2 hy2 F12 N12 off12
        have e2' : rs2.flatMap (·.2) = [] := by
          rw [List.flatMap_eq_nil_iff]
          intro r hr
          obtain ⟨i, hi, rfl⟩ := List.getElem_of_mem hr
          exact (hy2 i _ (List.getElem?_eq_getElem hi)).2
        rw [e2', List.nil_append] at N12
        clear F10 N10
        have off2 : ∀ q ∈ (D1, listOf (rs1.map (·.1)).toArray c10) :: [(I, krsIt (j + 1 : Int) ((N : Int) - j - 1) 1), (OD, listOf ((ordD x N).map fun p : Nat => if p < j then .int (p : Int) (tt p) else Value.none).toArray cc), (L' + 1 + 1, o9), (L' + 1, o2)], q.1 ≠ D2 := fun q hq => off12 q (List.mem_append_right _ hq)
        clear off12
        have hr1 : rs1.length ≤ N := by rw [hl1]; exact Nat.le_trans (List.length_filter_le _ _) (by simp)
        have hr2 : rs2.length ≤ N := by rw [hl2]; exact Nat.le_trans (List.length_filter_le _ _) (by simp; lia)
        (repeat' (first | (k_unfold; (try dsimp only)) | ((fail_if_success (with_reducible show wpAny _ _ (exec (Stmt.While _ _ _ _) _) _ _ _)); (fail_if_success (with_reducible show wpAny _ _ (exec (Stmt.For _ _ _ _ _) _) _ _ _)); (fail_if_success (with_reducible show wpAny _ _ (exec (Stmt.Assign _ (Expr.ListComp _ _ _ _) _) _) _ _ _)); (fail_if_success (with_reducible show wpAny _ _ (eval (Expr.ListComp _ _ _ _) _) _ _ _)); first | ((first | (with_reducible show wpAny _ _ (exec (Stmt.Assign _ _ _) _) _ _ _) | (with_reducible show wpAny _ _ (exec (Stmt.Expr _ _) _) _ _ _) | (with_reducible show wpAny _ _ (exec (Stmt.Return _ _) _) _ _ _)); k_fold) | walk1 | (dsimp only; (with_reducible show wpAny _ _ _ _ _); walk1))))
        refine Calls.call_len_list (PySem.IsL.isList (N12 _ (.tail _ (.head _))).1) (by simp; lia) ?_
        rw [show (rs1.map (·.1)).toArray.size = rs1.length by simp]
        (repeat' (first | (k_unfold; (try dsimp only)) | ((fail_if_success (with_reducible show wpAny _ _ (exec (Stmt.While _ _ _ _) _) _ _ _)); (fail_if_success (with_reducible show wpAny _ _ (exec (Stmt.For _ _ _ _ _) _) _ _ _)); (fail_if_success (with_reducible show wpAny _ _ (exec (Stmt.Assign _ (Expr.ListComp _ _ _ _) _) _) _ _ _)); (fail_if_success (with_reducible show wpAny _ _ (eval (Expr.ListComp _ _ _ _) _) _ _ _)); first | ((first | (with_reducible show wpAny _ _ (exec (Stmt.Assign _ _ _) _) _ _ _) | (with_reducible show wpAny _ _ (exec (Stmt.Expr _ _) _) _ _ _) | (with_reducible show wpAny _ _ (exec (Stmt.Return _ _) _) _ _ _)); k_fold) | walk1 | (dsimp only; (with_reducible show wpAny _ _ _ _ _); walk1))))
        refine Calls.call_len_list (PySem.IsL.isList (N12 _ (.head _)).1) (by simp; lia) ?_
        rw [show (rs2.map (·.1)).toArray.size = rs2.length by simp]
        (repeat' (first | (k_unfold; (try dsimp only)) | ((fail_if_success (with_reducible show wpAny _ _ (exec (Stmt.While _ _ _ _) _) _ _ _)); (fail_if_success (with_reducible show wpAny _ _ (exec (Stmt.For _ _ _ _ _) _) _ _ _)); (fail_if_success (with_reducible show wpAny _ _ (exec (Stmt.Assign _ (Expr.ListComp _ _ _ _) _) _) _ _ _)); (fail_if_success (with_reducible show wpAny _ _ (eval (Expr.ListComp _ _ _ _) _) _ _ _)); first | ((first | (with_reducible show wpAny _ _ (exec (Stmt.Assign _ _ _) _) _ _ _) | (with_reducible show wpAny _ _ (exec (Stmt.Expr _ _) _) _ _ _) | (with_reducible show wpAny _ _ (exec (Stmt.Return _ _) _) _ _ _)); k_fold) | walk1 | (dsimp only; (with_reducible show wpAny _ _ _ _ _); walk1))))
        have hrank := rank_ordD (x := x) hlt
        rw [← hl1, ← hl2] at hrank
        have hlt2 : rs1.length + rs2.length < N := by have := (List.getElem?_eq_some_iff.mp hrank).1; rwa [ordD_len] at this
        have gOD := (N12 _ (.tail _ (.tail _ (.tail _ (.head _))))).1
        dsimp only at gOD
        refine set_arr gOD (by lia) (by lia) (by rw [List.size_toArray, List.length_map, ordD_len]; lia) ?_
        intro h13 sb gD
        have et : ((rs1.length : Int) + (rs2.length : Int)).toNat = rs1.length + rs2.length := by lia
        rw [et, set_rank hrank] at gD
        obtain ⟨t9, gD⟩ : ∃ t9, h13.get? OD = some (listOf ((ordD x N).map fun p : Nat => if p < j + 1 then Value.int (p : Int) (if p = j then t9 else tt p) else Value.none).toArray cc) := ⟨_, gD⟩
        have z := N12 _ (.tail _ (.tail _ (.tail _ (.head _))))
        have F13 := fr_change F12 N12 (.tail _ (.tail _ (.tail _ (.head _)))) sb
        have N13 : News b L' h13 [(I, krsIt ((j + 1 : Nat) : Int) ((N : Int) - ((j + 1 : Nat) : Int)) 1), (OD, listOf ((ordD x N).map fun p : Nat => if p < j + 1 then Value.int (p : Int) (if p = j then t9 else tt p) else Value.none).toArray cc), (L' + 1 + 1, o9), (L' + 1, o2)] := by
          intro q hq
          simp only [List.mem_cons, List.not_mem_nil, or_false] at hq
          rcases hq with rfl | rfl | rfl | rfl
          · have y := N12 _ (.tail _ (.tail _ (.head _)))
            refine ⟨?_, y.2⟩
            rw [show (((j + 1 : Nat) : Int)) = (j : Int) + 1 by lia, show ((N : Int) - ((j : Int) + 1)) = (N : Int) - j - 1 by lia]
            exact sb.extBut _ _ (Nat.ne_of_gt i1) y.1
          · exact ⟨gD, z.2⟩
          · have y := N12 _ (.tail _ (.tail _ (.tail _ (.tail _ (.head _)))))
            exact ⟨sb.extBut _ _ (Ne.symm hOD.1) y.1, y.2⟩
          · have y := N12 _ (.tail _ (.tail _ (.tail _ (.tail _ (.tail _ (.head _))))))
            exact ⟨sb.extBut _ _ (Ne.symm hOD.2) y.1, y.2⟩
        clear F12 N12 z gOD
        (repeat' (first | (k_unfold; (try dsimp only)) | ((fail_if_success (with_reducible show wpAny _ _ (exec (Stmt.While _ _ _ _) _) _ _ _)); (fail_if_success (with_reducible show wpAny _ _ (exec (Stmt.For _ _ _ _ _) _) _ _ _)); (fail_if_success (with_reducible show wpAny _ _ (exec (Stmt.Assign _ (Expr.ListComp _ _ _ _) _) _) _ _ _)); (fail_if_success (with_reducible show wpAny _ _ (eval (Expr.ListComp _ _ _ _) _) _ _ _)); first | ((first | (with_reducible show wpAny _ _ (exec (Stmt.Assign _ _ _) _) _ _ _) | (with_reducible show wpAny _ _ (exec (Stmt.Expr _ _) _) _ _ _) | (with_reducible show wpAny _ _ (exec (Stmt.Return _ _) _) _ _ _)); k_fold) | walk1 | (dsimp only; (with_reducible show wpAny _ _ _ _ _); walk1))))
        exact ⟨N - (j + 1), by lia, j + 1, h13, _, _, cc, o9, fun p => if p = j then t9 else tt p, _, rfl, hlt, rfl, F13, N13, d9, e1⟩
  · have hN' : j = N := by lia
    refine wpAny_pyNext_range_end hA nI.1 (by lia) fun h8 k8 => ?_
    have F8 := fr_ext F' nI.2.1.symm nI.2.2 k8
    have gOD := k8 _ _ (Nat.ne_of_lt i1) (N' _ (.tail _ (.head _))).1
    subst hN'
    rw [all_set] at gOD
    (repeat' (first | (k_unfold; (try dsimp only)) | ((fail_if_success (with_reducible show wpAny _ _ (exec (Stmt.While _ _ _ _) _) _ _ _)); (fail_if_success (with_reducible show wpAny _ _ (exec (Stmt.For _ _ _ _ _) _) _ _ _)); (fail_if_success (with_reducible show wpAny _ _ (exec (Stmt.Assign _ (Expr.ListComp _ _ _ _) _) _) _ _ _)); (fail_if_success (with_reducible show wpAny _ _ (eval (Expr.ListComp _ _ _ _) _) _ _ _)); first | ((first | (with_reducible show wpAny _ _ (exec (Stmt.Assign _ _ _) _) _ _ _) | (with_reducible show wpAny _ _ (exec (Stmt.Expr _ _) _) _ _ _) | (with_reducible show wpAny _ _ (exec (Stmt.Return _ _) _) _ _ _)); k_fold) | walk1 | (dsimp only; (with_reducible show wpAny _ _ _ _ _); walk1))))
    exact h OD h8 _ cc tt F8.keep (N' _ (.tail _ (.head _))).2.2 gOD
end
-- LM
section
variable {prog : Program} {w : World} {A : Around} {s : Shared} {b : Heap} {mg mb : Str → Option Value} {mean : ExcName → Option Value} {p : Program} {loose : List Str}

set_option maxHeartbeats 40000000 in
theorem meet_plain {Q E : Value → Shared → Prop} {LST : Addr} {N : Nat} {e : Nat → Value} {x : Nat → Int} {c : Nat} {wish : Int} {t : Tok} {outer : List Env} {str : Bool}
    (hd : A.depth ≤ 496) (hu : A.units ≤ 460) (hA : A.handled = none) (hfr : A.frames = some outer) (hff : s.heap.FunFrames b outer) (hns : ∀ a ∈ framesOf outer, ∃ m, s.heap.Ns a m)
    (st : b.StaysIn s.heap) (hsz : b.objs.size ≤ s.heap.objs.size) (X : (hd03.heap_39 w.params).In b) (T : Top p loose mean mg mb b)
    (hL : b.get? LST = some (listOf ((List.range N).map e).toArray c)) (hN : 0 < N) (h64 : N < 64)
    (hel : ∀ p, p < N → ∃ a t n, e p = .ref a ∧ b.get? a = some (listOf #[.int (x p) t] n))
    (h : ∀ R h' tk c, b.StaysIn h' → b.get? R = none → h'.get? R = some (listOf ((ordD x N).map e).toArray c) → Framed outer s.heap h' → Q (.ref R) { s with heap := h', toks := tk }) :
    wpAny (model prog w) A (call (.ref 101) [.int wish t, .ref LST, .none, .bool str]) Q E s := by
  refine wpAny_call ?_
  ((k_dflt (refine' enter ?k1 ?k2 ?k3 ?k4 ?k6 ?k7 ?k8 ?k9 ?kB ?_ ?c2 ?c3 ?c4 ?c5; (case k1 => assumption); (case k2 => assumption); (case k3 => assumption); (case k4 => assumption); (case k6 => k_is); (case k7 => k_is); (case k8 => exact Nat.lt_of_le_of_lt (by assumption) (by decide)); (case k9 => exact BindsTo.of_eq rfl); (case c5 => decide); (case kB => exact locs rfl); (case c2 => exact rfl); (case c3 => exact rfl); (case c4 => exact rfl))))
  intro L' h₁ F0 hk hs1
  have frlt : ∀ a ∈ framesOf outer, a < L' := fun a ha => by obtain ⟨_, o, ho, _⟩ := hff.mem ha; exact hs1 _ _ ho
  have hbL : b.objs.size ≤ L' := F0.above
  obtain ⟨B, F, N0, stB, frB⟩ := after_call (S' := []) (fun q hq => by simp at hq) F0.ns F0.keep hbL hns (Framed.of_keeps hk) frlt
  clear F0
  have XB := X.keeps stB
  have TB := T.keeps stB
  (try k_fold)
  (repeat' (first | (k_unfold; (try dsimp only)) | ((fail_if_success (with_reducible show wpAny _ _ (call (Value.ref _) _ _) _ _ _)); (fail_if_success (with_reducible show wpAny _ _ (subscriptTail _ (Expr.Slice _ _ _ _) _ _) _ _ _)); (fail_if_success (with_reducible show wpAny _ _ (call (Value.builtin "iter") _ _) _ _ _)); (fail_if_success (with_reducible show wpAny _ _ (exec (Stmt.For _ _ _ _ _) _) _ _ _)); first | walk1 | (dsimp only; (with_reducible show wpAny _ _ _ _ _); walk1))))
  refine kmk_slice3_lit F N0 (PySem.IsL.isList (F.keep _ _ (stB _ _ hL))) .none .none (.int _ _) (by decide) (slice_rev _) ?_ (by with_unfolding_all rfl) (by intro _; with_unfolding_all rfl) (by simp [sizeLine_eq]; lia)
  intro BK h2 F2 N2 _
  clear F N0
  rw [show ((List.range N).map e).toArray.toList.reverse = (List.range N).map (fun p => e (N - 1 - p)) from back_list] at N2
  (repeat' (first | (k_unfold; (try dsimp only)) | ((fail_if_success (with_reducible show wpAny _ _ (call (Value.ref _) _ _) _ _ _)); (fail_if_success (with_reducible show wpAny _ _ (subscriptTail _ (Expr.Slice _ _ _ _) _ _) _ _ _)); (fail_if_success (with_reducible show wpAny _ _ (call (Value.builtin "iter") _ _) _ _ _)); (fail_if_success (with_reducible show wpAny _ _ (exec (Stmt.For _ _ _ _ _) _) _ _ _)); first | walk1 | (dsimp only; (with_reducible show wpAny _ _ _ _ _); walk1))))
  rename_i h3 F3 N3
  refine Calls.call_len_list (PySem.IsL.isList (F3.keep _ _ (stB _ _ hL))) (by simp; lia) ?_
  rw [show ((List.range N).map e).toArray.size = N by simp]
  cases str
  · (repeat' (first | (k_unfold; (try dsimp only)) | ((fail_if_success (with_reducible show wpAny _ _ (call (Value.ref _) _ _) _ _ _)); (fail_if_success (with_reducible show wpAny _ _ (subscriptTail _ (Expr.Slice _ _ _ _) _ _) _ _ _)); (fail_if_success (with_reducible show wpAny _ _ (call (Value.builtin "iter") _ _) _ _ _)); (fail_if_success (with_reducible show wpAny _ _ (exec (Stmt.For _ _ _ _ _) _) _ _ _)); first | walk1 | (dsimp only; (with_reducible show wpAny _ _ _ _ _); walk1))))
    rename_i h4 F4 N4
    have frh := frB.trans (Framed.of_keeps F4.keep)
    have hffh := frames_after hff hns frh
    have Fb : Fr b L' h4 _ := ⟨F4.ns, fun a o q => F4.keep _ _ (stB _ _ q), hbL⟩
    have stC := callB_base (S := []) Fb hffh (by simp)
    have gBK := N4 _ (.head _)
    refine nl_plain (b := callB h4 L' outer []) (LST := LST) (N := N) (e := e) (x := x) (by show A.depth + 1 ≤ 497; lia) (by show A.units + 3 ≤ 470; lia) hA (Around.frames_deeper hfr) (callB_frames (by intro q; cases q) rfl Fb hffh) callB_stays callB_size (X.keeps stC) (T.keeps stC) (stC _ _ hL) hN h64 (fun p hp => by obtain ⟨a, t, n, q1, q2⟩ := hel p hp; exact ⟨a, t, n, q1, stC _ _ q2⟩) (.inl rfl) ?_
    intro R1 h5 tk5 c5 st5 nR1 gR1 fr5
    have ns5 := Framed.head rfl fr5 F4.ns
    have fr5' := frh.trans (Framed.tail rfl fr5)
    have gBK5 := st5 _ _ (callB_get gBK.1 gBK.2.1 (off_frames (ns_after hns frh) gBK.1 list_off) (by simp))
    obtain ⟨B5, F5, N5, stB5, frB5⟩ := after_call (b := b) (S' := [(R1, listOf (((ordD x N).take wish.toNat).map e).toArray c5), (BK, listOf ((List.range N).map fun p => e (N - 1 - p)).toArray 0)]) (fun q hq => by
      simp only [List.mem_cons, List.not_mem_nil, or_false] at hq
      rcases hq with rfl | rfl
      · exact ⟨gR1, ns_not_list ns5 gR1, none_sub stC nR1, list_off⟩
      · exact ⟨gBK5, gBK.2.1, none_sub stB gBK.2.2, list_off⟩) ns5 (fun a o q => st5 _ _ (stC _ _ q)) hbL hns fr5' frlt
    have XB5 := X.keeps stB5
    have TB5 := T.keeps stB5
    clear F4 N4 Fb gBK gBK5 stC hffh frh fr5 nR1 gR1 st5 ns5 XB TB stB frB
    dsimp only
    (repeat' (first | (k_unfold; (try dsimp only)) | ((fail_if_success (with_reducible show wpAny _ _ (call (Value.ref _) _ _) _ _ _)); (fail_if_success (with_reducible show wpAny _ _ (subscriptTail _ (Expr.Slice _ _ _ _) _ _) _ _ _)); (fail_if_success (with_reducible show wpAny _ _ (call (Value.builtin "iter") _ _) _ _ _)); (fail_if_success (with_reducible show wpAny _ _ (exec (Stmt.For _ _ _ _ _) _) _ _ _)); first | walk1 | (dsimp only; (with_reducible show wpAny _ _ _ _ _); walk1))))
    have F6 := F5
    have N6 := N5
    clear F5 N5
    have frh6 := frB5.trans (Framed.of_keeps F6.keep)
    have hffh6 := frames_after hff hns frh6
    have Fb6 : Fr b L' h5 _ := ⟨F6.ns, fun a o q => F6.keep _ _ (stB5 _ _ q), hbL⟩
    have stC := callB_base (S := []) Fb6 hffh6 (by simp)
    have gBK := N6 _ (.tail _ (.head _))
    have gR1 := N6 _ (.head _)
    have ns6 := ns_after hns frh6
    refine ns_plain (b := callB h5 L' outer []) (LST := BK) (N := N) (e := fun p => e (N - 1 - p)) (x := fun p => x (N - 1 - p)) (by show A.depth + 1 ≤ 497; lia) (by show A.units + 3 ≤ 470; lia) hA (Around.frames_deeper hfr) (callB_frames (by intro q; cases q) rfl Fb6 hffh6) callB_stays callB_size (X.keeps stC) (T.keeps stC) (callB_get gBK.1 gBK.2.1 (off_frames ns6 gBK.1 list_off) (by simp)) hN h64 (fun p hp => by obtain ⟨a, t, n, q1, q2⟩ := hel (N - 1 - p) (by lia); exact ⟨a, t, n, q1, stC _ _ q2⟩) (.inl rfl) ?_
    intro R2 h7 tk7 c7 st7 nR2 gR2 fr7
    have ns7 := Framed.head rfl fr7 F6.ns
    have fr7' := frh6.trans (Framed.tail rfl fr7)
    have gR17 := st7 _ _ (callB_get gR1.1 gR1.2.1 (off_frames ns6 gR1.1 list_off) (by simp))
    obtain ⟨B7, F7, N7, stB7, frB7⟩ := after_call (b := b) (S' := [(R2, listOf (((ordD (fun p => - x (N - 1 - p)) N).take ((N : Int) - wish).toNat).map fun p => e (N - 1 - p)).toArray c7), (R1, listOf (((ordD x N).take wish.toNat).map e).toArray c5)]) (fun q hq => by
      simp only [List.mem_cons, List.not_mem_nil, or_false] at hq
      rcases hq with rfl | rfl
      · exact ⟨gR2, ns_not_list ns7 gR2, none_sub stC nR2, list_off⟩
      · exact ⟨gR17, gR1.2.1, none_sub stB5 gR1.2.2, list_off⟩) ns7 (fun a o q => st7 _ _ (stC _ _ q)) hbL hns fr7' frlt
    have XB7 := X.keeps stB7
    have TB7 := T.keeps stB7
    clear F6 N6 Fb6 gBK gR1 gR17 stC hffh6 frh6 fr7 nR2 gR2 st7 ns7 XB5 TB5 stB5 frB5
    dsimp only
    (repeat' (first | (k_unfold; (try dsimp only)) | ((fail_if_success (with_reducible show wpAny _ _ (call (Value.ref _) _ _) _ _ _)); (fail_if_success (with_reducible show wpAny _ _ (subscriptTail _ (Expr.Slice _ _ _ _) _ _) _ _ _)); (fail_if_success (with_reducible show wpAny _ _ (call (Value.builtin "iter") _ _) _ _ _)); (fail_if_success (with_reducible show wpAny _ _ (exec (Stmt.For _ _ _ _ _) _) _ _ _)); first | walk1 | (dsimp only; (with_reducible show wpAny _ _ _ _ _); walk1))))
    refine kba_turn (value' := PySem.Expr.Name (PySem.Str.ofString "x") ⟨0, 0, 0, 0⟩) (fun _ => rfl) ?_
    refine kmk_slice3_lit F7 N7 (PySem.IsL.isList (N7 _ (.head _)).1) .none .none (.int _ _) (by decide) (slice_rev _) ?_ (by with_unfolding_all rfl) (by intro _; with_unfolding_all rfl) (by simp [sizeLine_eq, ordD_len]; lia)
    intro R3 h8 F8 N8 _
    refine kmk_add_lit F8 N8 (PySem.IsL.isList (N8 _ (.tail _ (.tail _ (.head _)))).1) (PySem.IsL.isList (N8 _ (.head _)).1) (zs := (ordD x N).map e) ?_ ?_ (by simp [sizeLine_eq, ordD_len]; lia)
    · exact meet_map
    intro D h9 F9 N9 _
    (repeat' (first | (k_unfold; (try dsimp only)) | ((fail_if_success (with_reducible show wpAny _ _ (call (Value.ref _) _ _) _ _ _)); (fail_if_success (with_reducible show wpAny _ _ (subscriptTail _ (Expr.Slice _ _ _ _) _ _) _ _ _)); (fail_if_success (with_reducible show wpAny _ _ (call (Value.builtin "iter") _ _) _ _ _)); (fail_if_success (with_reducible show wpAny _ _ (exec (Stmt.For _ _ _ _ _) _) _ _ _)); first | walk1 | (dsimp only; (with_reducible show wpAny _ _ _ _ _); walk1))))
    exact h D h9 _ 0 (fun a o q => F9.keep _ _ (stB7 _ _ q)) (none_sub stB7 (N9 _ (.head _)).2.2) (N9 _ (.head _)).1 (frB7.trans (Framed.of_keeps F9.keep))
  · (repeat' (first | (k_unfold; (try dsimp only)) | ((fail_if_success (with_reducible show wpAny _ _ (call (Value.ref _) _ _) _ _ _)); (fail_if_success (with_reducible show wpAny _ _ (subscriptTail _ (Expr.Slice _ _ _ _) _ _) _ _ _)); (fail_if_success (with_reducible show wpAny _ _ (call (Value.builtin "iter") _ _) _ _ _)); (fail_if_success (with_reducible show wpAny _ _ (exec (Stmt.For _ _ _ _ _) _) _ _ _)); first | walk1 | (dsimp only; (with_reducible show wpAny _ _ _ _ _); walk1))))
    rename_i h0 F0 N0
    refine call_iter_list (F0.keep _ _ (stB _ _ hL)) ?_
    have F4 := F0.push (liObj LST 0)
    have N4 := N0.push F0 (liObj LST 0)
    clear F0 N0
    generalize hIT : h0.objs.size = IT at *
    generalize hH4 : h0.push (liObj LST 0) = h4 at *
    (repeat' (first | (k_unfold; (try dsimp only)) | ((fail_if_success (with_reducible show wpAny _ _ (call (Value.ref _) _ _) _ _ _)); (fail_if_success (with_reducible show wpAny _ _ (subscriptTail _ (Expr.Slice _ _ _ _) _ _) _ _ _)); (fail_if_success (with_reducible show wpAny _ _ (call (Value.builtin "iter") _ _) _ _ _)); (fail_if_success (with_reducible show wpAny _ _ (exec (Stmt.For _ _ _ _ _) _) _ _ _)); first | walk1 | (dsimp only; (with_reducible show wpAny _ _ _ _ _); walk1))))
    have frh := frB.trans (Framed.of_keeps F4.keep)
    have hffh := frames_after hff hns frh
    have Fb : Fr b L' h4 _ := ⟨F4.ns, fun a o q => F4.keep _ _ (stB _ _ q), hbL⟩
    have stC := callB_base (S := [IT]) Fb hffh (fun a ha => by rw [List.mem_singleton] at ha; subst ha; exact none_sub stB (N4 _ (.head _)).2.2)
    have gBK := N4 _ (.tail _ (.head _))
    refine nl_plain (b := callB h4 L' outer [IT]) (LST := LST) (N := N) (e := e) (x := x) (by show A.depth + 1 ≤ 497; lia) (by show A.units + 3 ≤ 470; lia) hA (Around.frames_deeper hfr) (callB_frames (by intro q; cases q) rfl Fb hffh) callB_stays callB_size (X.keeps stC) (T.keeps stC) (stC _ _ hL) hN h64 (fun p hp => by obtain ⟨a, t, n, q1, q2⟩ := hel p hp; exact ⟨a, t, n, q1, stC _ _ q2⟩) (.inr ⟨(N4 _ (.head _)).1, callB_hid (.head _)⟩) ?_
    intro R1 h5 tk5 c5 st5 nR1 gR1 fr5
    have ns5 := Framed.head rfl fr5 F4.ns
    have fr5' := frh.trans (Framed.tail rfl fr5)
    have gBK5 := st5 _ _ (callB_get gBK.1 gBK.2.1 (off_frames (ns_after hns frh) gBK.1 list_off) (fun z => by rw [List.mem_singleton] at z; have a1 := (N4 _ (.head _)).1; have a2 := (N4 _ (.tail _ (.head _))).1; dsimp only at a1 a2 z; rw [z, a1] at a2; have := congrArg Obj.data (Option.some.inj a2); simp [liObj, W.listOf] at this))
    obtain ⟨B5, F5, N5, stB5, frB5⟩ := after_call (b := b) (S' := [(R1, listOf (((ordD x N).take wish.toNat).map e).toArray c5), (BK, listOf ((List.range N).map fun p => e (N - 1 - p)).toArray 0)]) (fun q hq => by
      simp only [List.mem_cons, List.not_mem_nil, or_false] at hq
      rcases hq with rfl | rfl
      · exact ⟨gR1, ns_not_list ns5 gR1, none_sub stC nR1, list_off⟩
      · exact ⟨gBK5, gBK.2.1, none_sub stB gBK.2.2, list_off⟩) ns5 (fun a o q => st5 _ _ (stC _ _ q)) hbL hns fr5' frlt
    have XB5 := X.keeps stB5
    have TB5 := T.keeps stB5
    clear F4 N4 Fb gBK gBK5 stC hffh frh fr5 nR1 gR1 st5 ns5 XB TB stB frB
    dsimp only
    (repeat' (first | (k_unfold; (try dsimp only)) | ((fail_if_success (with_reducible show wpAny _ _ (call (Value.ref _) _ _) _ _ _)); (fail_if_success (with_reducible show wpAny _ _ (subscriptTail _ (Expr.Slice _ _ _ _) _ _) _ _ _)); (fail_if_success (with_reducible show wpAny _ _ (call (Value.builtin "iter") _ _) _ _ _)); (fail_if_success (with_reducible show wpAny _ _ (exec (Stmt.For _ _ _ _ _) _) _ _ _)); first | walk1 | (dsimp only; (with_reducible show wpAny _ _ _ _ _); walk1))))
    refine call_iter_list (N5 _ (.tail _ (.head _))).1 ?_
    have F6 := F5.push (liObj BK 0)
    have N6 := N5.push F5 (liObj BK 0)
    clear F5 N5
    generalize hIT2 : h5.objs.size = IT2 at *
    generalize hH6 : h5.push (liObj BK 0) = h6 at *
    (repeat' (first | (k_unfold; (try dsimp only)) | ((fail_if_success (with_reducible show wpAny _ _ (call (Value.ref _) _ _) _ _ _)); (fail_if_success (with_reducible show wpAny _ _ (subscriptTail _ (Expr.Slice _ _ _ _) _ _) _ _ _)); (fail_if_success (with_reducible show wpAny _ _ (call (Value.builtin "iter") _ _) _ _ _)); (fail_if_success (with_reducible show wpAny _ _ (exec (Stmt.For _ _ _ _ _) _) _ _ _)); first | walk1 | (dsimp only; (with_reducible show wpAny _ _ _ _ _); walk1))))
    have frh6 := frB5.trans (Framed.of_keeps F6.keep)
    have hffh6 := frames_after hff hns frh6
    have Fb6 : Fr b L' h6 _ := ⟨F6.ns, fun a o q => F6.keep _ _ (stB5 _ _ q), hbL⟩
    have stC := callB_base (S := [IT2]) Fb6 hffh6 (fun a ha => by rw [List.mem_singleton] at ha; subst ha; exact none_sub stB5 (N6 _ (.head _)).2.2)
    have gBK := N6 _ (.tail _ (.tail _ (.head _)))
    have gR1 := N6 _ (.tail _ (.head _))
    have ns6 := ns_after hns frh6
    refine ns_plain (b := callB h6 L' outer [IT2]) (LST := BK) (N := N) (e := fun p => e (N - 1 - p)) (x := fun p => x (N - 1 - p)) (by show A.depth + 1 ≤ 497; lia) (by show A.units + 3 ≤ 470; lia) hA (Around.frames_deeper hfr) (callB_frames (by intro q; cases q) rfl Fb6 hffh6) callB_stays callB_size (X.keeps stC) (T.keeps stC) (callB_get gBK.1 gBK.2.1 (off_frames ns6 gBK.1 list_off) (fun z => by rw [List.mem_singleton] at z; have a1 := (N6 _ (.head _)).1; have a2 := (N6 _ (.tail _ (.tail _ (.head _)))).1; dsimp only at a1 a2 z; rw [z, a1] at a2; have := congrArg Obj.data (Option.some.inj a2); simp [liObj, W.listOf] at this)) hN h64 (fun p hp => by obtain ⟨a, t, n, q1, q2⟩ := hel (N - 1 - p) (by lia); exact ⟨a, t, n, q1, stC _ _ q2⟩) (.inr ⟨(N6 _ (.head _)).1, callB_hid (.head _)⟩) ?_
    intro R2 h7 tk7 c7 st7 nR2 gR2 fr7
    have ns7 := Framed.head rfl fr7 F6.ns
    have fr7' := frh6.trans (Framed.tail rfl fr7)
    have gR17 := st7 _ _ (callB_get gR1.1 gR1.2.1 (off_frames ns6 gR1.1 list_off) (fun z => by rw [List.mem_singleton] at z; have a1 := (N6 _ (.head _)).1; have a2 := (N6 _ (.tail _ (.head _))).1; dsimp only at a1 a2 z; rw [z, a1] at a2; have := congrArg Obj.data (Option.some.inj a2); simp [liObj, W.listOf] at this))
    obtain ⟨B7, F7, N7, stB7, frB7⟩ := after_call (b := b) (S' := [(R2, listOf (((ordD (fun p => - x (N - 1 - p)) N).take ((N : Int) - wish).toNat).map fun p => e (N - 1 - p)).toArray c7), (R1, listOf (((ordD x N).take wish.toNat).map e).toArray c5)]) (fun q hq => by
      simp only [List.mem_cons, List.not_mem_nil, or_false] at hq
      rcases hq with rfl | rfl
      · exact ⟨gR2, ns_not_list ns7 gR2, none_sub stC nR2, list_off⟩
      · exact ⟨gR17, gR1.2.1, none_sub stB5 gR1.2.2, list_off⟩) ns7 (fun a o q => st7 _ _ (stC _ _ q)) hbL hns fr7' frlt
    have XB7 := X.keeps stB7
    have TB7 := T.keeps stB7
    clear F6 N6 Fb6 gBK gR1 gR17 stC hffh6 frh6 fr7 nR2 gR2 st7 ns7 XB5 TB5 stB5 frB5
    dsimp only
    (repeat' (first | (k_unfold; (try dsimp only)) | ((fail_if_success (with_reducible show wpAny _ _ (call (Value.ref _) _ _) _ _ _)); (fail_if_success (with_reducible show wpAny _ _ (subscriptTail _ (Expr.Slice _ _ _ _) _ _) _ _ _)); (fail_if_success (with_reducible show wpAny _ _ (call (Value.builtin "iter") _ _) _ _ _)); (fail_if_success (with_reducible show wpAny _ _ (exec (Stmt.For _ _ _ _ _) _) _ _ _)); first | walk1 | (dsimp only; (with_reducible show wpAny _ _ _ _ _); walk1))))
    refine kba_turn (value' := PySem.Expr.Name (PySem.Str.ofString "x") ⟨0, 0, 0, 0⟩) (fun _ => rfl) ?_
    refine kmk_slice3_lit F7 N7 (PySem.IsL.isList (N7 _ (.head _)).1) .none .none (.int _ _) (by decide) (slice_rev _) ?_ (by with_unfolding_all rfl) (by intro _; with_unfolding_all rfl) (by simp [sizeLine_eq, ordD_len]; lia)
    intro R3 h8 F8 N8 _
    refine kmk_add_lit F8 N8 (PySem.IsL.isList (N8 _ (.tail _ (.tail _ (.head _)))).1) (PySem.IsL.isList (N8 _ (.head _)).1) (zs := (ordD x N).map e) ?_ ?_ (by simp [sizeLine_eq, ordD_len]; lia)
    · exact meet_map
    intro D h9 F9 N9 _
    (repeat' (first | (k_unfold; (try dsimp only)) | ((fail_if_success (with_reducible show wpAny _ _ (call (Value.ref _) _ _) _ _ _)); (fail_if_success (with_reducible show wpAny _ _ (subscriptTail _ (Expr.Slice _ _ _ _) _ _) _ _ _)); (fail_if_success (with_reducible show wpAny _ _ (call (Value.builtin "iter") _ _) _ _ _)); (fail_if_success (with_reducible show wpAny _ _ (exec (Stmt.For _ _ _ _ _) _) _ _ _)); first | walk1 | (dsimp only; (with_reducible show wpAny _ _ _ _ _); walk1))))
    exact h D h9 _ 0 (fun a o q => F9.keep _ _ (stB7 _ _ q)) (none_sub stB7 (N9 _ (.head _)).2.2) (N9 _ (.head _)).1 (frB7.trans (Framed.of_keeps F9.keep))
end
-- LMK
section
variable {prog : Program} {w : World} {A : Around} {s : Shared} {b : Heap} {mg mb : Str → Option Value} {mean : ExcName → Option Value} {p : Program} {loose : List Str}

set_option maxHeartbeats 40000000 in
theorem meet_key {Q E : Value → Shared → Prop} {LST : Addr} {N : Nat} {e : Nat → Value} {x : Nat → Int} {c : Nat} {wish : Int} {t : Tok} {outer : List Env} {str : Bool} {fq : Addr} {fo : Obj} {fd : FuncData}
    (hd : A.depth ≤ 496) (hu : A.units ≤ 460) (hA : A.handled = none) (hfr : A.frames = some outer) (hff : s.heap.FunFrames b outer) (hns : ∀ a ∈ framesOf outer, ∃ m, s.heap.Ns a m)
    (st : b.StaysIn s.heap) (hsz : b.objs.size ≤ s.heap.objs.size) (X : (hd03.heap_39 w.params).In b) (T : Top p loose mean mg mb b)
    (hL : b.get? LST = some (listOf ((List.range N).map e).toArray c)) (hN : 0 < N) (h64 : N < 64)
    (hel : ∀ p, p < N → ∃ a o, e p = .ref a ∧ b.get? a = some o ∧ o.cls ≠ .type "tuple") (hfq : b.get? fq = some fo) (hfd : fo.data = .func fd)
    (hkey : ∀ p (A' : Around) (b' : Heap) (s' : Shared) (Q E : Value → Shared → Prop), p < N → A'.depth ≤ 499 → A'.units ≤ 800 → A'.handled = none → b.StaysIn b' → b'.StaysIn s'.heap → b'.objs.size ≤ s'.heap.objs.size → (∀ t h' tk, b'.StaysIn h' → Q (.int (x p) t) { s' with heap := h', toks := tk }) → wpAny (model prog w) A' (call (.ref fq) [e p]) Q E s')
    (h : ∀ R h' tk c, b.StaysIn h' → b.get? R = none → h'.get? R = some (listOf ((ordD x N).map e).toArray c) → Framed outer s.heap h' → Q (.ref R) { s with heap := h', toks := tk }) :
    wpAny (model prog w) A (call (.ref 101) [.int wish t, .ref LST, .ref fq, .bool str]) Q E s := by
  refine wpAny_call ?_
  ((k_dflt (refine' enter ?k1 ?k2 ?k3 ?k4 ?k6 ?k7 ?k8 ?k9 ?kB ?_ ?c2 ?c3 ?c4 ?c5; (case k1 => assumption); (case k2 => assumption); (case k3 => assumption); (case k4 => assumption); (case k6 => k_is); (case k7 => k_is); (case k8 => exact Nat.lt_of_le_of_lt (by assumption) (by decide)); (case k9 => exact BindsTo.of_eq rfl); (case c5 => decide); (case kB => exact locs rfl); (case c2 => exact rfl); (case c3 => exact rfl); (case c4 => exact rfl))))
  intro L' h₁ F0 hk hs1
  have frlt : ∀ a ∈ framesOf outer, a < L' := fun a ha => by obtain ⟨_, o, ho, _⟩ := hff.mem ha; exact hs1 _ _ ho
  have hbL : b.objs.size ≤ L' := F0.above
  obtain ⟨B, F, N0, stB, frB⟩ := after_call (S' := []) (fun q hq => by simp at hq) F0.ns F0.keep hbL hns (Framed.of_keeps hk) frlt
  clear F0
  have XB := X.keeps stB
  have TB := T.keeps stB
  (try k_fold)
  (repeat' (first | (k_unfold; (try dsimp only)) | ((fail_if_success (with_reducible show wpAny _ _ (call (Value.ref _) _ _) _ _ _)); (fail_if_success (with_reducible show wpAny _ _ (subscriptTail _ (Expr.Slice _ _ _ _) _ _) _ _ _)); (fail_if_success (with_reducible show wpAny _ _ (call (Value.builtin "iter") _ _) _ _ _)); (fail_if_success (with_reducible show wpAny _ _ (exec (Stmt.For _ _ _ _ _) _) _ _ _)); first | walk1 | (dsimp only; (with_reducible show wpAny _ _ _ _ _); walk1))))
  refine kmk_slice3_lit F N0 (PySem.IsL.isList (F.keep _ _ (stB _ _ hL))) .none .none (.int _ _) (by decide) (slice_rev _) ?_ (by with_unfolding_all rfl) (by intro _; with_unfolding_all rfl) (by simp [sizeLine_eq]; lia)
  intro BK h2 F2 N2 _
  clear F N0
  rw [show ((List.range N).map e).toArray.toList.reverse = (List.range N).map (fun p => e (N - 1 - p)) from back_list] at N2
  (repeat' (first | (k_unfold; (try dsimp only)) | ((fail_if_success (with_reducible show wpAny _ _ (call (Value.ref _) _ _) _ _ _)); (fail_if_success (with_reducible show wpAny _ _ (subscriptTail _ (Expr.Slice _ _ _ _) _ _) _ _ _)); (fail_if_success (with_reducible show wpAny _ _ (call (Value.builtin "iter") _ _) _ _ _)); (fail_if_success (with_reducible show wpAny _ _ (exec (Stmt.For _ _ _ _ _) _) _ _ _)); first | walk1 | (dsimp only; (with_reducible show wpAny _ _ _ _ _); walk1))))
  rename_i h3 F3 N3
  refine Calls.call_len_list (PySem.IsL.isList (F3.keep _ _ (stB _ _ hL))) (by simp; lia) ?_
  rw [show ((List.range N).map e).toArray.size = N by simp]
  cases str
  · (repeat' (first | (k_unfold; (try dsimp only)) | ((fail_if_success (with_reducible show wpAny _ _ (call (Value.ref _) _ _) _ _ _)); (fail_if_success (with_reducible show wpAny _ _ (subscriptTail _ (Expr.Slice _ _ _ _) _ _) _ _ _)); (fail_if_success (with_reducible show wpAny _ _ (call (Value.builtin "iter") _ _) _ _ _)); (fail_if_success (with_reducible show wpAny _ _ (exec (Stmt.For _ _ _ _ _) _) _ _ _)); first | walk1 | (dsimp only; (with_reducible show wpAny _ _ _ _ _); walk1))))
    rename_i h4 F4 N4
    have frh := frB.trans (Framed.of_keeps F4.keep)
    have hffh := frames_after hff hns frh
    have Fb : Fr b L' h4 _ := ⟨F4.ns, fun a o q => F4.keep _ _ (stB _ _ q), hbL⟩
    have stC := callB_base (S := []) Fb hffh (by simp)
    have gBK := N4 _ (.head _)
    refine nl_key (b := callB h4 L' outer []) (LST := LST) (N := N) (e := e) (x := x) (by show A.depth + 1 ≤ 497; lia) (by show A.units + 3 ≤ 470; lia) hA (Around.frames_deeper hfr) (callB_frames (by intro q; cases q) rfl Fb hffh) callB_stays callB_size (X.keeps stC) (T.keeps stC) (stC _ _ hL) hN h64 (fun p hp => by obtain ⟨a, o, q1, q2, q3⟩ := hel p hp; exact ⟨a, o, q1, stC _ _ q2, q3⟩) (stC _ _ hfq) hfd (fun p A1 b1 s1 Q1 E1 a1 a2 a3 a4 a5 => hkey p A1 b1 s1 Q1 E1 a1 a2 a3 a4 (fun a o q => a5 _ _ (stC _ _ q))) (.inl rfl) ?_
    intro R1 h5 tk5 c5 st5 nR1 gR1 fr5
    have ns5 := Framed.head rfl fr5 F4.ns
    have fr5' := frh.trans (Framed.tail rfl fr5)
    have gBK5 := st5 _ _ (callB_get gBK.1 gBK.2.1 (off_frames (ns_after hns frh) gBK.1 list_off) (by simp))
    obtain ⟨B5, F5, N5, stB5, frB5⟩ := after_call (b := b) (S' := [(R1, listOf (((ordD x N).take wish.toNat).map e).toArray c5), (BK, listOf ((List.range N).map fun p => e (N - 1 - p)).toArray 0)]) (fun q hq => by
      simp only [List.mem_cons, List.not_mem_nil, or_false] at hq
      rcases hq with rfl | rfl
      · exact ⟨gR1, ns_not_list ns5 gR1, none_sub stC nR1, list_off⟩
      · exact ⟨gBK5, gBK.2.1, none_sub stB gBK.2.2, list_off⟩) ns5 (fun a o q => st5 _ _ (stC _ _ q)) hbL hns fr5' frlt
    have XB5 := X.keeps stB5
    have TB5 := T.keeps stB5
    clear F4 N4 Fb gBK gBK5 stC hffh frh fr5 nR1 gR1 st5 ns5 XB TB stB frB
    dsimp only
    (repeat' (first | (k_unfold; (try dsimp only)) | ((fail_if_success (with_reducible show wpAny _ _ (call (Value.ref _) _ _) _ _ _)); (fail_if_success (with_reducible show wpAny _ _ (subscriptTail _ (Expr.Slice _ _ _ _) _ _) _ _ _)); (fail_if_success (with_reducible show wpAny _ _ (call (Value.builtin "iter") _ _) _ _ _)); (fail_if_success (with_reducible show wpAny _ _ (exec (Stmt.For _ _ _ _ _) _) _ _ _)); first | walk1 | (dsimp only; (with_reducible show wpAny _ _ _ _ _); walk1))))
    have F6 := F5
    have N6 := N5
    clear F5 N5
    have frh6 := frB5.trans (Framed.of_keeps F6.keep)
    have hffh6 := frames_after hff hns frh6
    have Fb6 : Fr b L' h5 _ := ⟨F6.ns, fun a o q => F6.keep _ _ (stB5 _ _ q), hbL⟩
    have stC := callB_base (S := []) Fb6 hffh6 (by simp)
    have gBK := N6 _ (.tail _ (.head _))
    have gR1 := N6 _ (.head _)
    have ns6 := ns_after hns frh6
    refine ns_key (b := callB h5 L' outer []) (LST := BK) (N := N) (e := fun p => e (N - 1 - p)) (x := fun p => x (N - 1 - p)) (by show A.depth + 1 ≤ 497; lia) (by show A.units + 3 ≤ 470; lia) hA (Around.frames_deeper hfr) (callB_frames (by intro q; cases q) rfl Fb6 hffh6) callB_stays callB_size (X.keeps stC) (T.keeps stC) (callB_get gBK.1 gBK.2.1 (off_frames ns6 gBK.1 list_off) (by simp)) hN h64 (fun p hp => by obtain ⟨a, o, q1, q2, q3⟩ := hel (N - 1 - p) (by lia); exact ⟨a, o, q1, stC _ _ q2, q3⟩) (stC _ _ hfq) hfd (fun p A1 b1 s1 Q1 E1 a1 a2 a3 a4 a5 => hkey (N - 1 - p) A1 b1 s1 Q1 E1 (by lia) a2 a3 a4 (fun a o q => a5 _ _ (stC _ _ q))) (.inl rfl) ?_
    intro R2 h7 tk7 c7 st7 nR2 gR2 fr7
    have ns7 := Framed.head rfl fr7 F6.ns
    have fr7' := frh6.trans (Framed.tail rfl fr7)
    have gR17 := st7 _ _ (callB_get gR1.1 gR1.2.1 (off_frames ns6 gR1.1 list_off) (by simp))
    obtain ⟨B7, F7, N7, stB7, frB7⟩ := after_call (b := b) (S' := [(R2, listOf (((ordD (fun p => - x (N - 1 - p)) N).take ((N : Int) - wish).toNat).map fun p => e (N - 1 - p)).toArray c7), (R1, listOf (((ordD x N).take wish.toNat).map e).toArray c5)]) (fun q hq => by
      simp only [List.mem_cons, List.not_mem_nil, or_false] at hq
      rcases hq with rfl | rfl
      · exact ⟨gR2, ns_not_list ns7 gR2, none_sub stC nR2, list_off⟩
      · exact ⟨gR17, gR1.2.1, none_sub stB5 gR1.2.2, list_off⟩) ns7 (fun a o q => st7 _ _ (stC _ _ q)) hbL hns fr7' frlt
    have XB7 := X.keeps stB7
    have TB7 := T.keeps stB7
    clear F6 N6 Fb6 gBK gR1 gR17 stC hffh6 frh6 fr7 nR2 gR2 st7 ns7 XB5 TB5 stB5 frB5
    dsimp only
    (repeat' (first | (k_unfold; (try dsimp only)) | ((fail_if_success (with_reducible show wpAny _ _ (call (Value.ref _) _ _) _ _ _)); (fail_if_success (with_reducible show wpAny _ _ (subscriptTail _ (Expr.Slice _ _ _ _) _ _) _ _ _)); (fail_if_success (with_reducible show wpAny _ _ (call (Value.builtin "iter") _ _) _ _ _)); (fail_if_success (with_reducible show wpAny _ _ (exec (Stmt.For _ _ _ _ _) _) _ _ _)); first | walk1 | (dsimp only; (with_reducible show wpAny _ _ _ _ _); walk1))))
    refine kba_turn (value' := PySem.Expr.Name (PySem.Str.ofString "x") ⟨0, 0, 0, 0⟩) (fun _ => rfl) ?_
    refine kmk_slice3_lit F7 N7 (PySem.IsL.isList (N7 _ (.head _)).1) .none .none (.int _ _) (by decide) (slice_rev _) ?_ (by with_unfolding_all rfl) (by intro _; with_unfolding_all rfl) (by simp [sizeLine_eq, ordD_len]; lia)
    intro R3 h8 F8 N8 _
    refine kmk_add_lit F8 N8 (PySem.IsL.isList (N8 _ (.tail _ (.tail _ (.head _)))).1) (PySem.IsL.isList (N8 _ (.head _)).1) (zs := (ordD x N).map e) ?_ ?_ (by simp [sizeLine_eq, ordD_len]; lia)
    · exact meet_map
    intro D h9 F9 N9 _
    (repeat' (first | (k_unfold; (try dsimp only)) | ((fail_if_success (with_reducible show wpAny _ _ (call (Value.ref _) _ _) _ _ _)); (fail_if_success (with_reducible show wpAny _ _ (subscriptTail _ (Expr.Slice _ _ _ _) _ _) _ _ _)); (fail_if_success (with_reducible show wpAny _ _ (call (Value.builtin "iter") _ _) _ _ _)); (fail_if_success (with_reducible show wpAny _ _ (exec (Stmt.For _ _ _ _ _) _) _ _ _)); first | walk1 | (dsimp only; (with_reducible show wpAny _ _ _ _ _); walk1))))
    exact h D h9 _ 0 (fun a o q => F9.keep _ _ (stB7 _ _ q)) (none_sub stB7 (N9 _ (.head _)).2.2) (N9 _ (.head _)).1 (frB7.trans (Framed.of_keeps F9.keep))
  · (repeat' (first | (k_unfold; (try dsimp only)) | ((fail_if_success (with_reducible show wpAny _ _ (call (Value.ref _) _ _) _ _ _)); (fail_if_success (with_reducible show wpAny _ _ (subscriptTail _ (Expr.Slice _ _ _ _) _ _) _ _ _)); (fail_if_success (with_reducible show wpAny _ _ (call (Value.builtin "iter") _ _) _ _ _)); (fail_if_success (with_reducible show wpAny _ _ (exec (Stmt.For _ _ _ _ _) _) _ _ _)); first | walk1 | (dsimp only; (with_reducible show wpAny _ _ _ _ _); walk1))))
    rename_i h0 F0 N0
    refine call_iter_list (F0.keep _ _ (stB _ _ hL)) ?_
    have F4 := F0.push (liObj LST 0)
    have N4 := N0.push F0 (liObj LST 0)
    clear F0 N0
    generalize hIT : h0.objs.size = IT at *
    generalize hH4 : h0.push (liObj LST 0) = h4 at *
    (repeat' (first | (k_unfold; (try dsimp only)) | ((fail_if_success (with_reducible show wpAny _ _ (call (Value.ref _) _ _) _ _ _)); (fail_if_success (with_reducible show wpAny _ _ (subscriptTail _ (Expr.Slice _ _ _ _) _ _) _ _ _)); (fail_if_success (with_reducible show wpAny _ _ (call (Value.builtin "iter") _ _) _ _ _)); (fail_if_success (with_reducible show wpAny _ _ (exec (Stmt.For _ _ _ _ _) _) _ _ _)); first | walk1 | (dsimp only; (with_reducible show wpAny _ _ _ _ _); walk1))))
    have frh := frB.trans (Framed.of_keeps F4.keep)
    have hffh := frames_after hff hns frh
    have Fb : Fr b L' h4 _ := ⟨F4.ns, fun a o q => F4.keep _ _ (stB _ _ q), hbL⟩
    have stC := callB_base (S := [IT]) Fb hffh (fun a ha => by rw [List.mem_singleton] at ha; subst ha; exact none_sub stB (N4 _ (.head _)).2.2)
    have gBK := N4 _ (.tail _ (.head _))
    refine nl_key (b := callB h4 L' outer [IT]) (LST := LST) (N := N) (e := e) (x := x) (by show A.depth + 1 ≤ 497; lia) (by show A.units + 3 ≤ 470; lia) hA (Around.frames_deeper hfr) (callB_frames (by intro q; cases q) rfl Fb hffh) callB_stays callB_size (X.keeps stC) (T.keeps stC) (stC _ _ hL) hN h64 (fun p hp => by obtain ⟨a, o, q1, q2, q3⟩ := hel p hp; exact ⟨a, o, q1, stC _ _ q2, q3⟩) (stC _ _ hfq) hfd (fun p A1 b1 s1 Q1 E1 a1 a2 a3 a4 a5 => hkey p A1 b1 s1 Q1 E1 a1 a2 a3 a4 (fun a o q => a5 _ _ (stC _ _ q))) (.inr ⟨(N4 _ (.head _)).1, callB_hid (.head _)⟩) ?_
    intro R1 h5 tk5 c5 st5 nR1 gR1 fr5
    have ns5 := Framed.head rfl fr5 F4.ns
    have fr5' := frh.trans (Framed.tail rfl fr5)
    have gBK5 := st5 _ _ (callB_get gBK.1 gBK.2.1 (off_frames (ns_after hns frh) gBK.1 list_off) (fun z => by rw [List.mem_singleton] at z; have a1 := (N4 _ (.head _)).1; have a2 := (N4 _ (.tail _ (.head _))).1; dsimp only at a1 a2 z; rw [z, a1] at a2; have := congrArg Obj.data (Option.some.inj a2); simp [liObj, W.listOf] at this))
    obtain ⟨B5, F5, N5, stB5, frB5⟩ := after_call (b := b) (S' := [(R1, listOf (((ordD x N).take wish.toNat).map e).toArray c5), (BK, listOf ((List.range N).map fun p => e (N - 1 - p)).toArray 0)]) (fun q hq => by
      simp only [List.mem_cons, List.not_mem_nil, or_false] at hq
      rcases hq with rfl | rfl
      · exact ⟨gR1, ns_not_list ns5 gR1, none_sub stC nR1, list_off⟩
      · exact ⟨gBK5, gBK.2.1, none_sub stB gBK.2.2, list_off⟩) ns5 (fun a o q => st5 _ _ (stC _ _ q)) hbL hns fr5' frlt
    have XB5 := X.keeps stB5
    have TB5 := T.keeps stB5
    clear F4 N4 Fb gBK gBK5 stC hffh frh fr5 nR1 gR1 st5 ns5 XB TB stB frB
    dsimp only
    (repeat' (first | (k_unfold; (try dsimp only)) | ((fail_if_success (with_reducible show wpAny _ _ (call (Value.ref _) _ _) _ _ _)); (fail_if_success (with_reducible show wpAny _ _ (subscriptTail _ (Expr.Slice _ _ _ _) _ _) _ _ _)); (fail_if_success (with_reducible show wpAny _ _ (call (Value.builtin "iter") _ _) _ _ _)); (fail_if_success (with_reducible show wpAny _ _ (exec (Stmt.For _ _ _ _ _) _) _ _ _)); first | walk1 | (dsimp only; (with_reducible show wpAny _ _ _ _ _); walk1))))
    refine call_iter_list (N5 _ (.tail _ (.head _))).1 ?_
    have F6 := F5.push (liObj BK 0)
    have N6 := N5.push F5 (liObj BK 0)
    clear F5 N5
    generalize hIT2 : h5.objs.size = IT2 at *
    generalize hH6 : h5.push (liObj BK 0) = h6 at *
    (repeat' (first | (k_unfold; (try dsimp only)) | ((fail_if_success (with_reducible show wpAny _ _ (call (Value.ref _) _ _) _ _ _)); (fail_if_success (with_reducible show wpAny _ _ (subscriptTail _ (Expr.Slice _ _ _ _) _ _) _ _ _)); (fail_if_success (with_reducible show wpAny _ _ (call (Value.builtin "iter") _ _) _ _ _)); (fail_if_success (with_reducible show wpAny _ _ (exec (Stmt.For _ _ _ _ _) _) _ _ _)); first | walk1 | (dsimp only; (with_reducible show wpAny _ _ _ _ _); walk1))))
    have frh6 := frB5.trans (Framed.of_keeps F6.keep)
    have hffh6 := frames_after hff hns frh6
    have Fb6 : Fr b L' h6 _ := ⟨F6.ns, fun a o q => F6.keep _ _ (stB5 _ _ q), hbL⟩
    have stC := callB_base (S := [IT2]) Fb6 hffh6 (fun a ha => by rw [List.mem_singleton] at ha; subst ha; exact none_sub stB5 (N6 _ (.head _)).2.2)
    have gBK := N6 _ (.tail _ (.tail _ (.head _)))
    have gR1 := N6 _ (.tail _ (.head _))
    have ns6 := ns_after hns frh6
    refine ns_key (b := callB h6 L' outer [IT2]) (LST := BK) (N := N) (e := fun p => e (N - 1 - p)) (x := fun p => x (N - 1 - p)) (by show A.depth + 1 ≤ 497; lia) (by show A.units + 3 ≤ 470; lia) hA (Around.frames_deeper hfr) (callB_frames (by intro q; cases q) rfl Fb6 hffh6) callB_stays callB_size (X.keeps stC) (T.keeps stC) (callB_get gBK.1 gBK.2.1 (off_frames ns6 gBK.1 list_off) (fun z => by rw [List.mem_singleton] at z; have a1 := (N6 _ (.head _)).1; have a2 := (N6 _ (.tail _ (.tail _ (.head _)))).1; dsimp only at a1 a2 z; rw [z, a1] at a2; have := congrArg Obj.data (Option.some.inj a2); simp [liObj, W.listOf] at this)) hN h64 (fun p hp => by obtain ⟨a, o, q1, q2, q3⟩ := hel (N - 1 - p) (by lia); exact ⟨a, o, q1, stC _ _ q2, q3⟩) (stC _ _ hfq) hfd (fun p A1 b1 s1 Q1 E1 a1 a2 a3 a4 a5 => hkey (N - 1 - p) A1 b1 s1 Q1 E1 (by lia) a2 a3 a4 (fun a o q => a5 _ _ (stC _ _ q))) (.inr ⟨(N6 _ (.head _)).1, callB_hid (.head _)⟩) ?_
    intro R2 h7 tk7 c7 st7 nR2 gR2 fr7
    have ns7 := Framed.head rfl fr7 F6.ns
    have fr7' := frh6.trans (Framed.tail rfl fr7)
    have gR17 := st7 _ _ (callB_get gR1.1 gR1.2.1 (off_frames ns6 gR1.1 list_off) (fun z => by rw [List.mem_singleton] at z; have a1 := (N6 _ (.head _)).1; have a2 := (N6 _ (.tail _ (.head _))).1; dsimp only at a1 a2 z; rw [z, a1] at a2; have := congrArg Obj.data (Option.some.inj a2); simp [liObj, W.listOf] at this))
    obtain ⟨B7, F7, N7, stB7, frB7⟩ := after_call (b := b) (S' := [(R2, listOf (((ordD (fun p => - x (N - 1 - p)) N).take ((N : Int) - wish).toNat).map fun p => e (N - 1 - p)).toArray c7), (R1, listOf (((ordD x N).take wish.toNat).map e).toArray c5)]) (fun q hq => by
      simp only [List.mem_cons, List.not_mem_nil, or_false] at hq
      rcases hq with rfl | rfl
      · exact ⟨gR2, ns_not_list ns7 gR2, none_sub stC nR2, list_off⟩
      · exact ⟨gR17, gR1.2.1, none_sub stB5 gR1.2.2, list_off⟩) ns7 (fun a o q => st7 _ _ (stC _ _ q)) hbL hns fr7' frlt
    have XB7 := X.keeps stB7
    have TB7 := T.keeps stB7
    clear F6 N6 Fb6 gBK gR1 gR17 stC hffh6 frh6 fr7 nR2 gR2 st7 ns7 XB5 TB5 stB5 frB5
    dsimp only
    (repeat' (first | (k_unfold; (try dsimp only)) | ((fail_if_success (with_reducible show wpAny _ _ (call (Value.ref _) _ _) _ _ _)); (fail_if_success (with_reducible show wpAny _ _ (subscriptTail _ (Expr.Slice _ _ _ _) _ _) _ _ _)); (fail_if_success (with_reducible show wpAny _ _ (call (Value.builtin "iter") _ _) _ _ _)); (fail_if_success (with_reducible show wpAny _ _ (exec (Stmt.For _ _ _ _ _) _) _ _ _)); first | walk1 | (dsimp only; (with_reducible show wpAny _ _ _ _ _); walk1))))
    refine kba_turn (value' := PySem.Expr.Name (PySem.Str.ofString "x") ⟨0, 0, 0, 0⟩) (fun _ => rfl) ?_
    refine kmk_slice3_lit F7 N7 (PySem.IsL.isList (N7 _ (.head _)).1) .none .none (.int _ _) (by decide) (slice_rev _) ?_ (by with_unfolding_all rfl) (by intro _; with_unfolding_all rfl) (by simp [sizeLine_eq, ordD_len]; lia)
    intro R3 h8 F8 N8 _
    refine kmk_add_lit F8 N8 (PySem.IsL.isList (N8 _ (.tail _ (.tail _ (.head _)))).1) (PySem.IsL.isList (N8 _ (.head _)).1) (zs := (ordD x N).map e) ?_ ?_ (by simp [sizeLine_eq, ordD_len]; lia)
    · exact meet_map
    intro D h9 F9 N9 _
    (repeat' (first | (k_unfold; (try dsimp only)) | ((fail_if_success (with_reducible show wpAny _ _ (call (Value.ref _) _ _) _ _ _)); (fail_if_success (with_reducible show wpAny _ _ (subscriptTail _ (Expr.Slice _ _ _ _) _ _) _ _ _)); (fail_if_success (with_reducible show wpAny _ _ (call (Value.builtin "iter") _ _) _ _ _)); (fail_if_success (with_reducible show wpAny _ _ (exec (Stmt.For _ _ _ _ _) _) _ _ _)); first | walk1 | (dsimp only; (with_reducible show wpAny _ _ _ _ _); walk1))))
    exact h D h9 _ 0 (fun a o q => F9.keep _ _ (stB7 _ _ q)) (none_sub stB7 (N9 _ (.head _)).2.2) (N9 _ (.head _)).1 (frB7.trans (Framed.of_keeps F9.keep))
end
-- LX
section
variable {prog : Program} {w : World} {A : Around} {s : Shared} {b : Heap} {mg mb : Str → Option Value} {mean : ExcName → Option Value} {p : Program} {loose : List Str}

theorem meetP_in {Q E : Value → Shared → Prop} {env : Env} {L LST : Addr} {N : Nat} {e : Nat → Value} {x : Nat → Int} {c : Nat} {wish : Int} {t : Tok} {str : Bool} {m : Str → Option Value} {news : List (Addr × Obj)}
    (hd : A.depth ≤ 496) (hu : A.units ≤ 460) (hA : A.handled = none) (hfr : A.frames = some [env]) (he : env.frame = some L) (hk : env.scope.kind ≠ .module)
    (F : Fr b L s.heap m) (N0 : News b L s.heap news) (X : (hd03.heap_39 w.params).In b) (T : Top p loose mean mg mb b)
    (hL : (LST, listOf ((List.range N).map e).toArray c) ∈ news) (hN : 0 < N) (h64 : N < 64)
    (hel : ∀ p, p < N → ∃ a t n, e p = .ref a ∧ (a, listOf #[.int (x p) t] n) ∈ news)
    (h : ∀ R h' tk c, Fr b L h' m → News b L h' ((R, listOf ((ordD x N).map e).toArray c) :: news) → Q (.ref R) { s with heap := h', toks := tk }) :
    wpAny (model prog w) A (call (.ref 101) [.int wish t, .ref LST, .none, .bool str]) Q E s := by
  have stC := callB_base (S := []) (outer := []) F trivial (by simp)
  have inC : ∀ q ∈ news, (callB s.heap L [] []).get? q.1 = some q.2 := fun q hq => callB_get (N0 q hq).1 (N0 q hq).2.1 (by simp [framesOf]) (by simp)
  have hfe : framesOf [env] = [L] := by unfold framesOf; rw [List.filterMap_cons, he]; rfl
  refine meet_plain (b := callB s.heap L [] []) (outer := [env]) (N := N) (e := e) (x := x) hd hu hA hfr (callB_frames hk he F trivial) (fun a ha => ?_) callB_stays callB_size (X.keeps stC) (T.keeps stC) (inC _ hL) hN h64 (fun p hp => by obtain ⟨a, t, n, q1, q2⟩ := hel p hp; exact ⟨a, t, n, q1, inC _ q2⟩) ?_
  · rw [hfe, List.mem_singleton] at ha; subst ha; exact ⟨_, F.ns⟩
  intro R h' tk' c' st' nR gR fr
  have ns' : h'.Ns L m := Framed.head he fr F.ns
  refine h R h' tk' c' ⟨ns', fun a o q => st' _ _ (stC _ _ q), F.above⟩ fun q hq => ?_
  rcases List.mem_cons.mp hq with rfl | hq
  · exact ⟨gR, ns_not_list ns' gR, none_sub stC nR⟩
  · exact ⟨st' _ _ (inC q hq), (N0 q hq).2⟩

theorem meetK_in {Q E : Value → Shared → Prop} {env : Env} {L LST : Addr} {N : Nat} {e : Nat → Value} {x : Nat → Int} {c : Nat} {wish : Int} {t : Tok} {str : Bool} {m : Str → Option Value} {news : List (Addr × Obj)} {fq : Addr} {fo : Obj} {fd : FuncData}
    (hd : A.depth ≤ 496) (hu : A.units ≤ 460) (hA : A.handled = none) (hfr : A.frames = some [env]) (he : env.frame = some L) (hk : env.scope.kind ≠ .module)
    (F : Fr b L s.heap m) (N0 : News b L s.heap news) (X : (hd03.heap_39 w.params).In b) (T : Top p loose mean mg mb b)
    (hL : (LST, listOf ((List.range N).map e).toArray c) ∈ news) (hN : 0 < N) (h64 : N < 64)
    (hel : ∀ p, p < N → ∃ a o, e p = .ref a ∧ (a, o) ∈ news ∧ o.cls ≠ .type "tuple") (hfq : (fq, fo) ∈ news) (hfd : fo.data = .func fd)
    (hkey : ∀ p (A' : Around) (b' : Heap) (s' : Shared) (Q E : Value → Shared → Prop), p < N → A'.depth ≤ 499 → A'.units ≤ 800 → A'.handled = none → b.StaysIn b' → (∀ q ∈ news, b'.get? q.1 = some q.2) → b'.StaysIn s'.heap → b'.objs.size ≤ s'.heap.objs.size → (∀ t h' tk, b'.StaysIn h' → Q (.int (x p) t) { s' with heap := h', toks := tk }) → wpAny (model prog w) A' (call (.ref fq) [e p]) Q E s')
    (h : ∀ R h' tk c, Fr b L h' m → News b L h' ((R, listOf ((ordD x N).map e).toArray c) :: news) → Q (.ref R) { s with heap := h', toks := tk }) :
    wpAny (model prog w) A (call (.ref 101) [.int wish t, .ref LST, .ref fq, .bool str]) Q E s := by
  have stC := callB_base (S := []) (outer := []) F trivial (by simp)
  have inC : ∀ q ∈ news, (callB s.heap L [] []).get? q.1 = some q.2 := fun q hq => callB_get (N0 q hq).1 (N0 q hq).2.1 (by simp [framesOf]) (by simp)
  have hfe : framesOf [env] = [L] := by unfold framesOf; rw [List.filterMap_cons, he]; rfl
  refine meet_key (b := callB s.heap L [] []) (outer := [env]) (N := N) (e := e) (x := x) hd hu hA hfr (callB_frames hk he F trivial) (fun a ha => ?_) callB_stays callB_size (X.keeps stC) (T.keeps stC) (inC _ hL) hN h64 (fun p hp => by obtain ⟨a, o, q1, q2, q3⟩ := hel p hp; exact ⟨a, o, q1, inC _ q2, q3⟩) (inC _ hfq) hfd (fun p A1 b1 s1 Q1 E1 a1 a2 a3 a4 a5 => hkey p A1 b1 s1 Q1 E1 a1 a2 a3 a4 (fun a o q => a5 _ _ (stC _ _ q)) fun q hq => a5 _ _ (inC q hq)) ?_
  · rw [hfe, List.mem_singleton] at ha; subst ha; exact ⟨_, F.ns⟩
  intro R h' tk' c' st' nR gR fr
  have ns' : h'.Ns L m := Framed.head he fr F.ns
  refine h R h' tk' c' ⟨ns', fun a o q => st' _ _ (stC _ _ q), F.above⟩ fun q hq => ?_
  rcases List.mem_cons.mp hq with rfl | hq
  · exact ⟨gR, ns_not_list ns' gR, none_sub stC nR⟩
  · exact ⟨st' _ _ (inC q hq), (N0 q hq).2⟩

def lamQual : Str := (Str.ofString "law" ++ ".<locals>.") ++ "<lambda>"
/-- the lambda's code is not made yet, or stands in the table -/
def TabOk (ps : Array Value) (cds : List (Addr × Obj)) : Prop := (ps = #[] ∧ cds = []) ∨ ∃ c' oc vs t, ps = #[rawInt 188, rawInt 40, .ref c'] ∧ cds = [(c', oc)] ∧ oc.data = .fields vs ∧ vs[1]? = some (.str lamQual t)
theorem lam_made {Q E : Value → Shared → Prop} {L fa : Addr} {m : Str → Option Value} {cs : Scope} {params : Arguments} {body : Expr} {scope : Scope} {pos : Pos} {ps : Array Value} {cds others : List (Addr × Obj)}
    (F : Fr b L s.heap m) (N : News b L s.heap ((103, tabObj ps) :: others)) (T : Top p loose mean mg mb b) (C : CodeHd b 105 103) (htab : TabOk ps cds) (hcds : ∀ q ∈ cds, q ∈ others) (hoff : ps = #[] → ∀ q ∈ others, q.1 ≠ 103)
    (hdef : defaultsOf params (envOfC (Str.ofString "law") cs L fa (.ref 105)) = ([], [])) (hcl : closureFor scope (envOfC (Str.ofString "law") cs L fa (.ref 105)) = pure []) (hline : pos.line = 188) (hcol : pos.col = 40)
    (h : ∀ f c' oc vs t pm ctv h' tk, Fr b L h' m → News b L h' ((f, kla_obj "<lambda>" lamQual params body scope [] pm c' ctv) :: (c', oc) :: (103, tabObj #[rawInt 188, rawInt 40, .ref c']) :: others) → oc.data = .fields vs → vs[1]? = some (.str lamQual t) → Q (.ref f) { s with heap := h', toks := tk }) :
    wpAny (model prog w) A (eval (.Lambda params body scope pos) (envOfC (Str.ofString "law") cs L fa (.ref 105))) Q E s := by
  refine kla_eval hdef ?_
  rcases htab with ⟨rfl, rfl⟩ | ⟨c', oc, vs, t, rfl, rfl, hd, hv⟩
  · refine kla_nest F N T C rfl (.head (hoff rfl)) trivial rfl hcl ?_
    intro f c' oc vs t ctv h' tk F' N' d1 d2 _ _
    rw [hline, hcol] at N'
    exact h f c' oc vs t _ ctv h' tk F' N' d1 d2
  · refine kla_hit (c' := c') F N T C rfl (.head _) ?_ ?_ hcl ?_
    · trivial
    · simp [codeAmong, rawInt, hline, hcol]
    intro f ctv h' tk F' N' _
    refine h f c' oc vs t ((mg "__name__").getD .none) ctv h' tk F' (fun q hq => N' q ?_) hd hv
    simp only [List.mem_cons] at hq ⊢
    rcases hq with hq | hq | hq | hq
    · exact .inl hq
    · exact .inr (.inr (hq ▸ hcds _ (.head _)))
    · exact .inr (.inl hq)
    · exact .inr (.inr hq)

theorem lam_call {Q E : Value → Shared → Prop} {f c' a : Addr} {oc : Obj} {vs : Array Value} {t ti : Tok} {pm ctv v2 : Value} {i : Int} {n0 : Nat} {pp p1 p2 p3 : Pos}
    (hd : A.depth ≤ 499) (hA : A.handled = none) (st : b.StaysIn s.heap) (hsz : b.objs.size ≤ s.heap.objs.size) (T : Top p loose mean mg mb b)
    (gf : b.get? f = some (kla_obj "<lambda>" lamQual { posonlyargs := [], args := [{ arg := Str.ofString "one", annotation := none, pos := pp }], vararg := none, kwonlyargs := [], kw_defaults := [], kwarg := none, defaults := [] }
      (.Subscript (.Name (Str.ofString "one") p1) (.Constant (.int 0) 0 p2) p3) { kind := .function, names := [(Str.ofString "one", .local)], isGenerator := false, isCoroutine := false } [] pm c' ctv))
    (gc : b.get? c' = some oc) (hdd : oc.data = .fields vs) (hv : vs[1]? = some (.str lamQual t)) (ga : b.get? a = some (listOf #[.int i ti, v2] n0))
    (h : ∀ t h' tk, b.StaysIn h' → Q (.int i t) { s with heap := h', toks := tk }) :
    wpAny (model prog w) A (call (.ref f) [.ref a]) Q E s := by
  refine wpAny_call ?_
  refine kla_callFunE (Nat.lt_of_le_of_lt hd (by decide)) (st _ _ gf) rfl rfl rfl rfl ⟨c', oc, vs, t, rfl, st _ _ gc, hdd, hv⟩ ?_
  refine wpAny_of_eq (a := [(Str.ofString "one", .ref a)]) (by rfl) ?_
  refine wpAny_newFunctionEnv (by dsimp only; intro y hy; rw [List.mem_singleton] at hy; subst hy; intro q; cases q) (locs rfl) (fun h₁ hns hsb => ⟨(T.nolimit.keeps st).fresh _ hsb, kla_codeExpr ?_⟩) rfl
  have F : Fr b s.heap.objs.size h₁ _ := ⟨hns, fun x o q => hsb.extBut x o (Nat.ne_of_lt (Heap.lt_size (st _ _ q))) (Heap.get?_push_of_some _ (st _ _ q)), hsz⟩
  show wpAny _ (A.deeper (envOf lamQual _ s.heap.objs.size f (.ref c'))) (eval _ (envOf lamQual _ s.heap.objs.size f (.ref c'))) _ _ _
  walk1
  walk1
  walk1
  refine tail_any (PySem.IsL.isList (n := n0) (F.keep _ _ ga)).typeIs slot_list_getitem.lookup (wpAny_getItem_list (PySem.IsL.isList (n := n0) (F.keep _ _ ga)) (by decide) (by decide) (x := .int i ti) rfl ?_) (by with_unfolding_all rfl)
  exact h _ _ _ F.keep
end
-- LW
section

theorem ints_at : ∀ {vs : List Value} {ns : List Int}, IntsAre vs ns → ∀ {j : Nat} (hj : j < vs.length), ∃ i t, vs[j] = .int i t
  | _, _, .nil, j, hj => by simp at hj
  | _, _, .cons i t r, 0, _ => ⟨i, t, rfl⟩
  | _, _, .cons i t r, j + 1, hj => ints_at r (by simpa using hj)
theorem sub_arr {prog : Program} {w : World} {A : Around} {s : Shared} {E : Value → Shared → Prop} {value slice : PySem.Expr} {R : Addr} {items : Array Value} {c0 : Nat} {k : Int} {v : Value} {u : Tok} {Q : Value → Shared → Prop} (g : s.heap.get? R = some (listOf items c0)) (h0 : 0 ≤ k) (hf : k < 1000) (hx : items[k.toNat]? = some v) (h : Q v s)
    (hs : subscripted slice false (.ref R) (.int k u) = operate [.ref R, .int k u] (getItem (.ref R) (.int k u)) := by with_unfolding_all rfl) :
    wpAny (model prog w) A (subscriptTail value slice (.ref R) (.int k u)) Q E s :=
  tail_any (PySem.IsL.isList (n := c0) g).typeIs slot_list_getitem.lookup (wpAny_getItem_list (PySem.IsL.isList (n := c0) g) h0 (by lia) hx h) hs
set_option maxHeartbeats 40000000 in
theorem main : PySem.Challenge.rw_dp0046_03.Holds := hd03 (by
  k_go0
  all_goals try k_fold
  rename_i w s₀ s₁ mg mb G Y fa o pm doc ho hg XM V TT BB TE TW hcd ns hs1 hs2 hs3 hs4 hs5 w5 w4 S vs w1 hLs ra w1' r0 hI hr hcond1 hcond2 hD h₁ tk₁ oc right X0 X T K0 F0 N0 l0
  refine wpAny_mono (Q := fun f s' => f = .ret (.bool true) ∧ GrownAt 103 s'.heap ∧ ∃ h' tk, s' = { s₁ with heap := h', toks := tk } ∧ (ghostOf s₁.heap [(105, 103)]).StaysIn h') (E := fun _ _ => False) ?_ ?_ (fun _ _ x => x.elim)
  · have right' : oc.data = .cell none := right
    have hn : ns.length ≤ 63 := by lia
    clear right X0 hD hr r0 w1' ra hs1 hs2 hs3 hs4 hs5 hcond1 hcond2 hcd TW TE TT BB V XM Y G hT8 hT9 ho
    generalize hb : ghostOf s₁.heap [(105, 103)] = b at *
    have codeHd' : CodeHd b 105 103 := codeHd
    clear codeHd
    have hbL : b.objs.size ≤ s₁.heap.objs.size := F0.above
    generalize hLL : s₁.heap.objs.size = L at *
    (repeat' (first | (k_unfold; (try dsimp only)) | ((fail_if_success (with_reducible show wpAny _ _ (call (Value.ref _) _ _) _ _ _)); (fail_if_success (with_reducible show wpAny _ _ (pyIter _) _ _ _)); (fail_if_success (with_reducible show wpAny _ _ (eval (Expr.Lambda _ _ _ _) _) _ _ _)); (fail_if_success (with_reducible show wpAny _ _ (call (Value.builtin "len") _ _) _ _ _)); (fail_if_success (with_reducible show wpAny _ _ (exec (Stmt.For _ _ _ _ _) _) _ _ _)); (fail_if_success (with_reducible show wpAny _ _ (exec (Stmt.Assign _ (Expr.ListComp _ _ _ _) _) _) _ _ _)); (fail_if_success (with_reducible show wpAny _ _ (eval (Expr.ListComp _ _ _ _) _) _ _ _)); first | walk1 | (dsimp only; (with_reducible show wpAny _ _ _ _ _); walk1))))
    refine law_things (b := h₁) (by show 1 + claimMargin + 1 ≤ 496; decide) (by show 4 + 3 ≤ 460; decide) rfl (fun _ _ q => q) (Nat.le_refl _) (X.keeps F0.keep) (T.keeps F0.keep) (lifted.imp fun o q => ⟨F0.keep _ _ q.1, q.2⟩) hI hn ?_
    intro TH h2 tk2 c2 N e x st2 nTH hN h64 gTH hel
    have hch : ∀ p, ∃ q : Addr × Obj, p < N → e p = .ref q.1 ∧ h₁.get? q.1 = none ∧ h2.get? q.1 = some q.2 ∧ ∃ t n, q.2 = listOf #[.int (x p) t] n := fun p => by
      by_cases hp : p < N
      · refine e3_3 (hel p hp) ?_
        intro a t n q1 q2 q3
        exact ⟨(a, _), fun _ => ⟨q1, q2, q3, t, n, rfl⟩⟩
      · exact ⟨(0, listOf #[] 0), fun q => absurd q hp⟩
    obtain ⟨f, hf⟩ := Classical.axiomOfChoice hch
    clear hch hel
    have nb : ∀ {a : Addr}, h₁.get? a = none → b.get? a = none ∧ a ≠ L ∧ a ≠ L + 1 ∧ a ≠ 103 := fun {a} q => by
      refine ⟨none_sub F0.keep q, fun r => ?_, fun r => ?_, fun r => ?_⟩
      · obtain ⟨o, ho⟩ := ns_there F0.ns; rw [r, ho] at q; cases q
      · have := (N0 _ (.head _)).1; dsimp only at this; rw [r, this] at q; cases q
      · have := (N0 _ (.tail _ (.head _))).1; dsimp only at this; rw [r, this] at q; cases q
    have F2 := fr_keeps F0 st2
    have c1 := N0 _ (.head _)
    have c2' := N0 _ (.tail _ (.head _))
    have fmem : ∀ q ∈ (List.range N).map f, h₁.get? q.1 = none ∧ h2.get? q.1 = some q.2 := fun q hq => by
      refine e1_2 (List.mem_map.mp hq) ?_
      intro p hp zr2
      first | subst zr2 | cases zr2
      have := hf p (List.mem_range.mp hp)
      exact ⟨this.2.1, this.2.2.1⟩
    refine wpAny_storeName_cell (c := L + 1) (v₀ := none) (by rfl) (by rfl) (by rfl) ⟨oc, st2 _ _ c1.1, right'⟩ ?_
    rintro h3 ⟨oc3, g3, d3⟩ s3
    have zz9 : ∃ m3, Fr b L h3 m3 ∧ m3 (Str.ofString "script") = some (.ref S) := ⟨_, fr_ext F2 (Nat.ne_of_lt (Nat.lt_succ_self L)) c1.2.2 s3.extBut, rfl⟩
    refine e1_2 zz9 ?_
    clear zz9
    intro m3 F3 e_s3
    have ne103 : (103 : Nat) ≠ L + 1 := by lia
    have N3 : News b L h3 ((L + 1, oc3) :: (103, tabObj #[]) :: (TH, listOf ((List.range N).map e).toArray c2) :: (List.range N).map f) := fun q hq => by
      rcases List.mem_cons.mp hq with rfl | hq
      · exact ⟨g3, c1.2⟩
      rcases List.mem_cons.mp hq with rfl | hq
      · exact ⟨s3.extBut _ _ ne103 (st2 _ _ c2'.1), c2'.2⟩
      rcases List.mem_cons.mp hq with rfl | hq
      · exact ⟨s3.extBut _ _ (nb nTH).2.2.1 gTH, (nb nTH).2.1, (nb nTH).1⟩
      · have z := fmem q hq
        exact ⟨s3.extBut _ _ (nb z.1).2.2.1 z.2, (nb z.1).2.1, (nb z.1).1⟩
    have off103 : ∀ q ∈ (L + 1, oc3) :: (TH, listOf ((List.range N).map e).toArray c2) :: (List.range N).map f, q.1 ≠ 103 := fun q hq => by
      rcases List.mem_cons.mp hq with rfl | hq
      · exact Ne.symm ne103
      rcases List.mem_cons.mp hq with rfl | hq
      · exact (nb nTH).2.2.2
      · exact (nb (fmem q hq).1).2.2.2
    have hel : ∀ p, p < N → ∃ a t n, e p = .ref a ∧ (a, listOf #[.int (x p) t] n) ∈ (List.range N).map f := fun p hp => by
      obtain ⟨q1, q2, q3, t, n, q4⟩ := hf p hp
      exact ⟨_, t, n, q1, List.mem_map.mpr ⟨p, List.mem_range.mpr hp, by rw [← q4]⟩⟩
    have lstT : ∀ q ∈ (List.range N).map f, ∃ items c, q.2 = listOf items c := fun q hq => by
      refine e1_2 (List.mem_map.mp hq) ?_
      intro p hp zr2
      first | subst zr2 | cases zr2
      obtain ⟨q1, q2, q3, t, n, q4⟩ := hf p (List.mem_range.mp hp)
      exact ⟨_, _, q4⟩
    clear hf fmem nb F2 F0 N0 c1 c2' st2 s3 g3 nTH gTH
    generalize hrs : (List.range N).map f = rs1 at *
    clear hrs f right' oc hLs
    dsimp only
    (repeat' (first | (k_unfold; (try dsimp only)) | ((fail_if_success (with_reducible show wpAny _ _ (call (Value.ref _) _ _) _ _ _)); (fail_if_success (with_reducible show wpAny _ _ (pyIter _) _ _ _)); (fail_if_success (with_reducible show wpAny _ _ (eval (Expr.Lambda _ _ _ _) _) _ _ _)); (fail_if_success (with_reducible show wpAny _ _ (call (Value.builtin "len") _ _) _ _ _)); (fail_if_success (with_reducible show wpAny _ _ (exec (Stmt.For _ _ _ _ _) _) _ _ _)); (fail_if_success (with_reducible show wpAny _ _ (exec (Stmt.Assign _ (Expr.ListComp _ _ _ _) _) _) _ _ _)); (fail_if_success (with_reducible show wpAny _ _ (eval (Expr.ListComp _ _ _ _) _) _ _ _)); first | walk1 | (dsimp only; (with_reducible show wpAny _ _ _ _ _); walk1))))
    refine Calls.call_len_list (PySem.IsL.isList (N3 _ (.tail _ (.tail _ (.head _)))).1) (by simp; lia) ?_
    rw [show ((List.range N).map e).toArray.size = N by simp]
    (repeat' (first | (k_unfold; (try dsimp only)) | ((fail_if_success (with_reducible show wpAny _ _ (call (Value.ref _) _ _) _ _ _)); (fail_if_success (with_reducible show wpAny _ _ (pyIter _) _ _ _)); (fail_if_success (with_reducible show wpAny _ _ (eval (Expr.Lambda _ _ _ _) _) _ _ _)); (fail_if_success (with_reducible show wpAny _ _ (call (Value.builtin "len") _ _) _ _ _)); (fail_if_success (with_reducible show wpAny _ _ (exec (Stmt.For _ _ _ _ _) _) _ _ _)); (fail_if_success (with_reducible show wpAny _ _ (exec (Stmt.Assign _ (Expr.ListComp _ _ _ _) _) _) _ _ _)); (fail_if_success (with_reducible show wpAny _ _ (eval (Expr.ListComp _ _ _ _) _) _ _ _)); first | walk1 | (dsimp only; (with_reducible show wpAny _ _ _ _ _); walk1))))
    rename_i h5 F5 N5
    have zz9 : ∃ m5 tN, Fr b L h5 m5 ∧ m5 (Str.ofString "script") = some (.ref S) ∧ m5 (Str.ofString "size") = some (.int (N : Int) tN) := ⟨_, _, F5, e_s3, rfl⟩
    refine e2_3 zz9 ?_
    clear zz9
    intro m5 tN F5 e_s e_n
    refine src_assign (L := L) (B := b) (n := N) (V := fun j v => ∃ t, v = .int (0 + (j : Int)) t) (news := (L + 1, oc3) :: (103, tabObj #[]) :: (TH, listOf ((List.range N).map e).toArray c2) :: rs1) (m := m5) (cl := [(Str.ofString "things", L + 1)]) (fun _ => true) (fun j y nw => ∃ a t v, y = .ref a ∧ nw = [(a, listOf #[.int (x j) t, v] 0)]) (by rfl) (by with_unfolding_all rfl) (by with_unfolding_all rfl) (by decide +kernel) (by decide +kernel) (by rfl) (by rfl) (by intro _; rfl) (by lia) (by rfl) (by rfl) ?_ ?_ ?_ ?_
    · (repeat' (first | (k_unfold; (try dsimp only)) | ((fail_if_success (with_reducible show wpAny _ _ (call (Value.ref _) _ _) _ _ _)); (fail_if_success (with_reducible show wpAny _ _ (pyIter _) _ _ _)); (fail_if_success (with_reducible show wpAny _ _ (eval (Expr.Lambda _ _ _ _) _) _ _ _)); (fail_if_success (with_reducible show wpAny _ _ (call (Value.builtin "len") _ _) _ _ _)); (fail_if_success (with_reducible show wpAny _ _ (exec (Stmt.For _ _ _ _ _) _) _ _ _)); (fail_if_success (with_reducible show wpAny _ _ (exec (Stmt.Assign _ (Expr.ListComp _ _ _ _) _) _) _ _ _)); (fail_if_success (with_reducible show wpAny _ _ (eval (Expr.ListComp _ _ _ _) _) _ _ _)); first | walk1 | (dsimp only; (with_reducible show wpAny _ _ _ _ _); walk1))))
      rename_i h6 tk6 t1 u1 v1 hr F6 N6 k6
      exact made_range rfl F6 N6 hr (by lia) ⟨_, _, rfl⟩
    · rintro q h m₃ tk' E' C v hq ⟨t, rfl⟩ hC hv hB hnews
      exact wpAny_tests_nil ⟨rfl, _, _, rfl, fun _ _ e => e⟩
    · rintro q h m₃ tk' E' C v hq _ ⟨t, rfl⟩ hC hv hB hnews
      rw [Int.zero_add] at hv
      have hc2 := hnews _ (.head _)
      have hTH := hnews _ (.tail _ (.tail _ (.head _)))
      dsimp only at hc2 hTH
      refine e3_2 (hel q hq) ?_
      intro a1 t1 n1 q1 q2
      have g1 := hnews _ (.tail _ (.tail _ (.tail _ q2)))
      dsimp only at g1
      clear hnews
      refine List_ (spliced_more ?_)
      walk1
      walk1
      refine load_cl (by rfl) (by rfl) (by rfl) hc2 d3 ?_
      refine load_c (by rfl) (by rfl) hC hv ?_
      refine sub_lst hTH hq (by lia) ?_
      rw [q1]
      walk1
      refine sub_arr g1 (by decide) (by decide) rfl ?_
      refine spliced_more ?_
      walk1
      refine List_ (spliced_more ?_)
      walk1
      refine spliced_more ?_
      walk1
      refine spliced_more ?_
      walk1
      refine spliced_none ?_
      refine wpAny_newObj_type ?_
      walk1
      refine load_c (by rfl) (by rfl) (ns_at hC fun o q => Heap.get?_push_of_some _ q) hv ?_
      walk1
      walk1
      have hk1 : 0 ≤ (q : Int).fmod 3 := Int.fmod_nonneg_of_pos _ (by decide)
      have hk2 : (q : Int).fmod 3 < 3 := Int.fmod_lt_of_pos _ (by decide)
      generalize (q : Int).fmod 3 = k at *
      have hk3 : k = 0 ∨ k = 1 ∨ k = 2 := by lia
      rcases hk3 with rfl | rfl | rfl <;> (
        refine sub_arr (c0 := 0) (Heap.get?_push_size _ rfl) (by decide) (by decide) rfl ?_
        refine spliced_none ?_
        refine wpAny_newObj_type ?_
        exact ⟨_, _, [(_, _)], rfl, fun a o q => Heap.get?_push_of_some _ (Heap.get?_push_of_some _ q), ⟨_, _, _, rfl, rfl⟩, fun q hq => by
          rw [List.mem_singleton] at hq; subst hq
          exact ⟨Heap.get?_push_size _ rfl, Heap.get?_none_of_le (by rw [Heap.size_push]; exact Nat.le_succ _)⟩⟩)
    · intro MX h7 tk7 c7 rs hlen hy F7 N7 off7
      have fr : (List.range N).filter (fun _ => true) = List.range N := List.filter_eq_self.mpr (by simp)
      rw [fr] at hlen hy
      rw [List.length_range] at hlen
      have hMX : rs.map (·.1) = (List.range N).map fun p => (rs.getD p (.none, [])).1 := by
        refine List.ext_getElem (by simp [hlen]) fun i a b => ?_
        have hi : i < rs.length := by simpa using a
        simp [hi]
      have helM : ∀ p, p < N → ∃ a t v, (rs.getD p (.none, [])).1 = .ref a ∧ (a, listOf #[.int (x p) t, v] 0) ∈ rs.flatMap (·.2) := fun p hp => by
        have hp' : p < rs.length := by lia
        have z := hy p rs[p] (List.getElem?_eq_getElem hp')
        rw [List.getD_eq_getElem?_getD, List.getElem?_range hp, Option.getD_some] at z
        refine e3_2 (z) ?_
        (try clear z)
        intro a t v z1 z2
        refine ⟨a, t, v, by simp [hp', z1], List.mem_flatMap.mpr ⟨rs[p], List.getElem_mem hp', by rw [z2]; exact .head _⟩⟩
      have lstM : ∀ q ∈ rs.flatMap (·.2), ∃ items c, q.2 = listOf items c := fun q hq => by
        refine e1_2 (List.mem_flatMap.mp hq) ?_
        intro r hr hq
        obtain ⟨i, hi, rfl⟩ := List.getElem_of_mem hr
        refine e3_2 (hy i rs[i] (List.getElem?_eq_getElem hi)) ?_
        intro a t v z1 z2
        rw [z2, List.mem_singleton] at hq; subst hq
        exact ⟨_, _, rfl⟩
      rw [hMX] at N7
      generalize hre : rs.flatMap (·.2) = rs2 at *
      generalize hem : (fun p => (rs.getD p (.none, [])).1) = eM at *
      replace helM : ∀ p, p < N → ∃ a t v, eM p = .ref a ∧ (a, listOf #[.int (x p) t, v] 0) ∈ rs2 := fun p hp => by rw [← hem]; exact helM p hp
      have N8 : News b L h7 ((L + 1, oc3) :: (103, tabObj #[]) :: (TH, listOf ((List.range N).map e).toArray c2) :: (MX, listOf ((List.range N).map eM).toArray c7) :: (rs2 ++ rs1)) := by
        have Na := nw_app_l (nw_tl N7)
        have Nb := nw_app_r (nw_tl N7)
        exact (nw (nw_hd (Nb)) (nw (nw_hd (nw_tl (Nb))) (nw (nw_hd (nw_tl (nw_tl (Nb)))) (nw (nw_hd (N7)) (nw_app Na (nw_tl (nw_tl (nw_tl (Nb)))))))))
      clear N7 off7 hy hMX hlen hre hem fr
      (repeat' (first | (k_unfold; (try dsimp only)) | ((fail_if_success (with_reducible show wpAny _ _ (call (Value.ref _) _ _) _ _ _)); (fail_if_success (with_reducible show wpAny _ _ (pyIter _) _ _ _)); (fail_if_success (with_reducible show wpAny _ _ (eval (Expr.Lambda _ _ _ _) _) _ _ _)); (fail_if_success (with_reducible show wpAny _ _ (call (Value.builtin "len") _ _) _ _ _)); (fail_if_success (with_reducible show wpAny _ _ (exec (Stmt.For _ _ _ _ _) _) _ _ _)); (fail_if_success (with_reducible show wpAny _ _ (exec (Stmt.Assign _ (Expr.ListComp _ _ _ _) _) _) _ _ _)); (fail_if_success (with_reducible show wpAny _ _ (eval (Expr.ListComp _ _ _ _) _) _ _ _)); first | walk1 | (dsimp only; (with_reducible show wpAny _ _ _ _ _); walk1))))
      refine law_order (b := h7) (LST := TH) (N := N) (e := e) (x := x) (by show 1 + claimMargin + 1 ≤ 496; decide) (by show 4 + 3 ≤ 460; decide) rfl (fun _ _ q => q) (Nat.le_refl _) (X.keeps F7.keep) (T.keeps F7.keep) (N8 _ (.tail _ (.tail _ (.head _)))).1 hN h64 (fun p hp => by
        refine e3_2 (hel p hp) ?_
        intro a t n q1 q2
        exact ⟨a, t, n, q1, (N8 _ (.tail _ (.tail _ (.tail _ (.tail _ (List.mem_append_right _ q2)))))).1⟩) ?_
      intro OD h9 tk9 c9 tt st9 nOD gOD
      have F9 := fr_keeps F7 st9
      have N9 : News b L h9 ((L + 1, oc3) :: (103, tabObj #[]) :: (TH, listOf ((List.range N).map e).toArray c2) :: (MX, listOf ((List.range N).map eM).toArray c7) :: (OD, listOf ((ordD x N).map fun p : Nat => Value.int (p : Int) (tt p)).toArray c9) :: (rs2 ++ rs1)) := by
        have nL : OD ≠ L := fun r => by
          obtain ⟨o, ho⟩ := ns_there F7.ns
          rw [r, ho] at nOD; cases nOD
        have N8' := news_keeps N8 st9
        exact (nw (nw_hd (N8')) (nw (nw_hd (nw_tl (N8'))) (nw (nw_hd (nw_tl (nw_tl (N8')))) (nw (nw_hd (nw_tl (nw_tl (nw_tl (N8'))))) (nw ⟨gOD, nL, none_sub F7.keep nOD⟩ (nw_tl (nw_tl (nw_tl (nw_tl (N8'))))))))))
      have zz9 : ∃ m9, Fr b L h9 m9 ∧ m9 (Str.ofString "script") = some (.ref S) ∧ m9 (Str.ofString "size") = some (.int (N : Int) tN) ∧ m9 (Str.ofString "mixed") = some (.ref MX) := ⟨_, F9, e_s, e_n, rfl⟩
      refine e1_4 zz9 ?_
      clear zz9
      intro m9 F9 e_s9 e_n9 e_m9
      have ht : ∀ p, p < N → ∃ a t n, e p = .ref a ∧ (a, listOf #[.int (x p) t] n) ∈ rs2 ++ rs1 := fun p hp => by obtain ⟨a, t, n, q1, q2⟩ := hel p hp; exact ⟨a, t, n, q1, List.mem_append_right _ q2⟩
      have hm : ∀ p, p < N → ∃ a t v, eM p = .ref a ∧ (a, listOf #[.int (x p) t, v] 0) ∈ rs2 ++ rs1 := fun p hp => by obtain ⟨a, t, v, q1, q2⟩ := helM p hp; exact ⟨a, t, v, q1, List.mem_append_left _ q2⟩
      have hlst : ∀ q ∈ rs2 ++ rs1, ∃ items c, q.2 = listOf items c := fun q hq => by
        rcases List.mem_append.mp hq with hq | hq
        · exact lstM q hq
        · exact lstT q hq
      generalize rs2 ++ rs1 = rest at *
      clear F7 N8 st9 nOD gOD hel helM lstM lstT F5 e_s e_n off103 e_s3
      (repeat' (first | (k_unfold; (try dsimp only)) | ((fail_if_success (with_reducible show wpAny _ _ (call (Value.ref _) _ _) _ _ _)); (fail_if_success (with_reducible show wpAny _ _ (pyIter _) _ _ _)); (fail_if_success (with_reducible show wpAny _ _ (eval (Expr.Lambda _ _ _ _) _) _ _ _)); (fail_if_success (with_reducible show wpAny _ _ (call (Value.builtin "len") _ _) _ _ _)); (fail_if_success (with_reducible show wpAny _ _ (exec (Stmt.For _ _ _ _ _) _) _ _ _)); (fail_if_success (with_reducible show wpAny _ _ (exec (Stmt.Assign _ (Expr.ListComp _ _ _ _) _) _) _ _ _)); (fail_if_success (with_reducible show wpAny _ _ (eval (Expr.ListComp _ _ _ _) _) _ _ _)); first | walk1 | (dsimp only; (with_reducible show wpAny _ _ _ _ _); walk1))))
      refine wpAny_For ?_
      (repeat' (first | (k_unfold; (try dsimp only)) | ((fail_if_success (with_reducible show wpAny _ _ (call (Value.ref _) _ _) _ _ _)); (fail_if_success (with_reducible show wpAny _ _ (pyIter _) _ _ _)); (fail_if_success (with_reducible show wpAny _ _ (eval (Expr.Lambda _ _ _ _) _) _ _ _)); (fail_if_success (with_reducible show wpAny _ _ (call (Value.builtin "len") _ _) _ _ _)); (fail_if_success (with_reducible show wpAny _ _ (exec (Stmt.For _ _ _ _ _) _) _ _ _)); (fail_if_success (with_reducible show wpAny _ _ (exec (Stmt.Assign _ (Expr.ListComp _ _ _ _) _) _) _ _ _)); (fail_if_success (with_reducible show wpAny _ _ (eval (Expr.ListComp _ _ _ _) _) _ _ _)); first | walk1 | (dsimp only; (with_reducible show wpAny _ _ _ _ _); walk1))))
      rename_i WL ws h12 F12 N12 hI12 l12
      have zz9 : ∃ wns, IntsAre ws wns ∧ wns.length ≤ 3 := ⟨_, hI12, by simp; lia⟩
      refine e1_2 zz9 ?_
      clear zz9
      intro wns hwI hwl
      clear hI12
      have N13 : News b L h12 ((L + 1, oc3) :: (103, tabObj #[]) :: (TH, listOf ((List.range N).map e).toArray c2) :: (MX, listOf ((List.range N).map eM).toArray c7) :: (OD, listOf ((ordD x N).map fun p : Nat => Value.int (p : Int) (tt p)).toArray c9) :: (WL, listOf ws.toArray 0) :: rest) := (nw (nw_hd (nw_tl (nw_tl (nw_tl (N12))))) (nw (nw_hd (nw_tl (nw_tl (nw_tl (nw_tl (N12)))))) (nw (nw_hd (nw_tl (nw_tl (nw_tl (nw_tl (nw_tl (N12))))))) (nw (nw_hd (nw_tl (nw_tl (nw_tl (nw_tl (nw_tl (nw_tl (N12)))))))) (nw (nw_hd (nw_tl (nw_tl (nw_tl (nw_tl (nw_tl (nw_tl (nw_tl (N12))))))))) (nw (nw_hd (N12)) (nw_tl (nw_tl (nw_tl (nw_tl (nw_tl (nw_tl (nw_tl (nw_tl (N12)))))))))))))))
      clear N12
      have hws : ws.length = wns.length := hwI.length
      have zz9 : ∃ m12, Fr b L h12 m12 ∧ m12 (Str.ofString "size") = some (.int (N : Int) tN) ∧ m12 (Str.ofString "mixed") = some (.ref MX) ∧ m12 (Str.ofString "order") = some (.ref OD) := ⟨_, F12, e_n9, e_m9, rfl⟩
      refine e1_4 zz9 ?_
      clear zz9
      intro m12 F12 e_n e_m e_o
      refine wpAny_pyIter_list (PySem.IsL.isList (N13 _ (.tail _ (.tail _ (.tail _ (.tail _ (.tail _ (.head _))))))).1) ?_
      have F14 := F12.push (liObj WL 0)
      have N14 := N13.push F12 (liObj WL 0)
      have itlt : ∀ q ∈ ((L + 1, oc3) :: (103, tabObj #[]) :: (TH, listOf ((List.range N).map e).toArray c2) :: (MX, listOf ((List.range N).map eM).toArray c7) :: (OD, listOf ((ordD x N).map fun p : Nat => Value.int (p : Int) (tt p)).toArray c9) :: (WL, listOf ws.toArray 0) :: rest), q.1 < h12.objs.size := fun q hq => Heap.lt_size (N13 q hq).1
      have itL : h12.objs.size ≠ L := Nat.ne_of_gt F12.ns.lt
      dsimp only
      generalize hIT : h12.objs.size = IT at *
      clear F12 N13 e_n9 e_m9 e_s9 l12
      obtain ⟨IV, hIV⟩ : ∃ IV : Nat → Shared → Prop, IV = fun k s' => ∃ j h tk m ps cds, k = ws.length + 1 - j ∧ j ≤ ws.length ∧ s' = { s₁ with heap := h, toks := tk } ∧ Fr b L h m ∧
          News b L h ((L + 1, oc3) :: (103, tabObj ps) :: (IT, liObj WL j) :: (TH, listOf ((List.range N).map e).toArray c2) :: (MX, listOf ((List.range N).map eM).toArray c7) :: (OD, listOf ((ordD x N).map fun p : Nat => Value.int (p : Int) (tt p)).toArray c9) :: (WL, listOf ws.toArray 0) :: (cds ++ rest)) ∧
          TabOk ps cds ∧ m (Str.ofString "size") = some (.int (N : Int) tN) ∧ m (Str.ofString "mixed") = some (.ref MX) ∧ m (Str.ofString "order") = some (.ref OD) ∧ (∀ q ∈ cds, q.1 ≠ IT) := ⟨_, rfl⟩
      refine codeF IV (ws.length + 1) ?_ ?_
      · subst hIV
        refine ⟨0, _, _, m12, #[], [], rfl, Nat.zero_le _, rfl, F14, ?_, .inl ⟨rfl, rfl⟩, e_n, e_m, e_o, by simp⟩
        · exact (nw (nw_hd (nw_tl (N14))) (nw (nw_hd (nw_tl (nw_tl (N14)))) (nw (nw_hd (N14)) (nw (nw_hd (nw_tl (nw_tl (nw_tl (N14))))) (nw (nw_hd (nw_tl (nw_tl (nw_tl (nw_tl (N14)))))) (nw (nw_hd (nw_tl (nw_tl (nw_tl (nw_tl (nw_tl (N14))))))) (nw (nw_hd (nw_tl (nw_tl (nw_tl (nw_tl (nw_tl (nw_tl (N14)))))))) (nw_tl (nw_tl (nw_tl (nw_tl (nw_tl (nw_tl (nw_tl (N14)))))))))))))))
      clear F14 N14 e_n e_m e_o
      intro k s' hik
      rw [hIV] at hik
      refine e6_10 (hik) ?_
      (try clear hik)
      intro j h tk m ps cds zr6 hj zr8 F N1 htab e_n e_m e_o hcd
      first | subst zr6 | cases zr6
      first | subst zr8 | cases zr8
      have nI := N1 _ (.tail _ (.tail _ (.head _)))
      by_cases hjw : j < ws.length
      · refine pyNext_li_item nI.1 (N1 _ (.tail _ (.tail _ (.tail _ (.tail _ (.tail _ (.tail _ (.head _)))))))).1 (x := ws[j]) (by simp [hjw]) fun h15 g15 s15 => ?_
        have F15 := fr_ext F (Ne.symm nI.2.1) nI.2.2 s15.extBut
        have N15 : News b L h15 ((L + 1, oc3) :: (103, tabObj ps) :: (IT, liObj WL (j + 1)) :: (TH, listOf ((List.range N).map e).toArray c2) :: (MX, listOf ((List.range N).map eM).toArray c7) :: (OD, listOf ((ordD x N).map fun p : Nat => Value.int (p : Int) (tt p)).toArray c9) :: (WL, listOf ws.toArray 0) :: (cds ++ rest)) := fun q hq => by
          have z : ∀ q, q ∈ ((L + 1, oc3) :: (103, tabObj ps) :: (IT, liObj WL j) :: (TH, listOf ((List.range N).map e).toArray c2) :: (MX, listOf ((List.range N).map eM).toArray c7) :: (OD, listOf ((ordD x N).map fun p : Nat => Value.int (p : Int) (tt p)).toArray c9) :: (WL, listOf ws.toArray 0) :: (cds ++ rest)) → q.1 ≠ IT → h15.get? q.1 = some q.2 ∧ q.1 ≠ L ∧ b.get? q.1 = none := fun q hq ne => ⟨s15.extBut _ _ ne (N1 q hq).1, (N1 q hq).2⟩
          have lt : ∀ q ∈ ((L + 1, oc3) :: (103, tabObj #[]) :: (TH, listOf ((List.range N).map e).toArray c2) :: (MX, listOf ((List.range N).map eM).toArray c7) :: (OD, listOf ((ordD x N).map fun p : Nat => Value.int (p : Int) (tt p)).toArray c9) :: (WL, listOf ws.toArray 0) :: rest), q.1 ≠ IT := fun q hq => Nat.ne_of_lt (itlt q hq)
          simp only [List.mem_cons, List.mem_append] at hq
          rcases hq with rfl | rfl | rfl | rfl | rfl | rfl | rfl | hq | hq
          · exact z _ (.head _) (lt _ (.head _))
          · exact z _ (.tail _ (.head _)) (lt (103, tabObj #[]) (.tail _ (.head _)))
          · exact ⟨g15, nI.2⟩
          · exact z _ (by simp) (lt _ (by simp))
          · exact z _ (by simp) (lt _ (by simp))
          · exact z _ (by simp) (lt _ (by simp))
          · exact z _ (by simp) (lt _ (by simp))
          · exact z _ (by simp [hq]) (hcd q hq)
          · exact z _ (by simp [hq]) (lt _ (by simp [hq]))
        have zz9 : ∃ wi tw, ws[j] = .int wi tw := ints_at hwI hjw
        refine e2_1 zz9 ?_
        clear zz9
        intro wi tw hwj
        rw [hwj]
        clear F N1 nI g15 s15
        (repeat' (first | (k_unfold; (try dsimp only)) | ((fail_if_success (with_reducible show wpAny _ _ (call (Value.ref _) _ _) _ _ _)); (fail_if_success (with_reducible show wpAny _ _ (pyIter _) _ _ _)); (fail_if_success (with_reducible show wpAny _ _ (eval (Expr.Lambda _ _ _ _) _) _ _ _)); (fail_if_success (with_reducible show wpAny _ _ (call (Value.builtin "len") _ _) _ _ _)); (fail_if_success (with_reducible show wpAny _ _ (exec (Stmt.For _ _ _ _ _) _) _ _ _)); (fail_if_success (with_reducible show wpAny _ _ (exec (Stmt.Assign _ (Expr.ListComp _ _ _ _) _) _) _ _ _)); (fail_if_success (with_reducible show wpAny _ _ (eval (Expr.ListComp _ _ _ _) _) _ _ _)); first | walk1 | (dsimp only; (with_reducible show wpAny _ _ _ _ _); walk1))))
        rename_i h16 F16 N16
        refine meetP_in (b := b) (L := L) (N := N) (e := e) (x := x) (by show 1 + claimMargin + 1 ≤ 496; decide) (by show 4 + 3 ≤ 460; decide) rfl rfl rfl (by intro q; cases q) F16 N16 X T (.tail _ (.tail _ (.tail _ (.head _)))) hN h64 (fun p hp => by
          refine e3_2 (ht p hp) ?_
          intro a t n q1 q2
          exact ⟨a, t, n, q1, by simp [q2]⟩) ?_
        intro R1 h17 tk17 c17 F17 N17
        have zz9 : ∃ m17, Fr b L h17 m17 ∧ m17 (Str.ofString "size") = some (.int (N : Int) tN) ∧ m17 (Str.ofString "mixed") = some (.ref MX) ∧ m17 (Str.ofString "order") = some (.ref OD) ∧ m17 (Str.ofString "wish") = some (.int wi tw) := ⟨_, F17, e_n, e_m, e_o, rfl⟩
        refine e1_5 zz9 ?_
        clear zz9
        intro m17 F17 e_n e_m e_o e_w
        clear F16 N16
        (repeat' (first | (k_unfold; (try dsimp only)) | ((fail_if_success (with_reducible show wpAny _ _ (call (Value.ref _) _ _) _ _ _)); (fail_if_success (with_reducible show wpAny _ _ (pyIter _) _ _ _)); (fail_if_success (with_reducible show wpAny _ _ (eval (Expr.Lambda _ _ _ _) _) _ _ _)); (fail_if_success (with_reducible show wpAny _ _ (call (Value.builtin "len") _ _) _ _ _)); (fail_if_success (with_reducible show wpAny _ _ (exec (Stmt.For _ _ _ _ _) _) _ _ _)); (fail_if_success (with_reducible show wpAny _ _ (exec (Stmt.Assign _ (Expr.ListComp _ _ _ _) _) _) _ _ _)); (fail_if_success (with_reducible show wpAny _ _ (eval (Expr.ListComp _ _ _ _) _) _ _ _)); first | walk1 | (dsimp only; (with_reducible show wpAny _ _ _ _ _); walk1))))
        rename_i h18 F18 N18
        have hoff : ps = #[] → ∀ q ∈ (R1, listOf ((ordD x N).map e).toArray c17) :: (L + 1, oc3) :: (IT, liObj WL (j + 1)) :: (TH, listOf ((List.range N).map e).toArray c2) :: (MX, listOf ((List.range N).map eM).toArray c7) :: (OD, listOf ((ordD x N).map fun p : Nat => Value.int (p : Int) (tt p)).toArray c9) :: (WL, listOf ws.toArray 0) :: (cds ++ rest), q.1 ≠ 103 := fun hps => by
          have hc0 : cds = [] := by
            rcases htab with ⟨_, h2⟩ | ⟨c', oc, vs, t, h1, _⟩
            · exact h2
            · rw [hps] at h1; cases h1
          have g103 := (N18 _ (.tail _ (.tail _ (.head _)))).1
          have key : ∀ q, q ∈ (R1, listOf ((ordD x N).map e).toArray c17) :: (L + 1, oc3) :: (103, tabObj ps) :: (IT, liObj WL (j + 1)) :: (TH, listOf ((List.range N).map e).toArray c2) :: (MX, listOf ((List.range N).map eM).toArray c7) :: (OD, listOf ((ordD x N).map fun p : Nat => Value.int (p : Int) (tt p)).toArray c9) :: (WL, listOf ws.toArray 0) :: (cds ++ rest) → q.2.cls ≠ .none → q.1 ≠ 103 := fun q hq hc r => by
            have z := (N18 q hq).1
            dsimp only at g103
            rw [r, g103] at z
            exact hc (congrArg Obj.cls (Option.some.inj z)).symm
          intro q hq
          simp only [List.mem_cons, List.mem_append, hc0, List.not_mem_nil, false_or] at hq
          rcases hq with rfl | rfl | rfl | rfl | rfl | rfl | rfl | hq
          · exact key _ (by simp) (by simp [W.listOf])
          · exact Ne.symm ne103
          · exact key _ (by simp) (by simp [liObj])
          · exact key _ (by simp) (by simp [W.listOf])
          · exact key _ (by simp) (by simp [W.listOf])
          · exact key _ (by simp) (by simp [W.listOf])
          · exact key _ (by simp) (by simp [W.listOf])
          · refine e2_1 (hlst q hq) ?_
            intro items cc hi
            exact key q (by simp [hq]) (by rw [hi]; simp [W.listOf])
        refine lam_made (cds := cds) (ps := ps) F18 (others := (R1, listOf ((ordD x N).map e).toArray c17) :: (L + 1, oc3) :: (IT, liObj WL (j + 1)) :: (TH, listOf ((List.range N).map e).toArray c2) :: (MX, listOf ((List.range N).map eM).toArray c7) :: (OD, listOf ((ordD x N).map fun p : Nat => Value.int (p : Int) (tt p)).toArray c9) :: (WL, listOf ws.toArray 0) :: (cds ++ rest)) (nw (nw_hd (nw_tl (nw_tl (N18)))) (nw (nw_hd (N18)) (nw (nw_hd (nw_tl (N18))) (nw_tl (nw_tl (nw_tl (N18))))))) T codeHd' htab (fun q hq => by simp [hq]) hoff (by rfl) (by rfl) rfl rfl ?_
        intro f c' oc vs2 t2 pm2 ctv h19 tk19 F19 N19 d19 v19
        have zz9 : ∃ m19, Fr b L h19 m19 ∧ m19 (Str.ofString "size") = some (.int (N : Int) tN) ∧ m19 (Str.ofString "mixed") = some (.ref MX) ∧ m19 (Str.ofString "order") = some (.ref OD) ∧ m19 (Str.ofString "wish") = some (.int wi tw) ∧ m19 (Str.ofString "plain") = some (.ref R1) := ⟨_, F19, e_n, e_m, e_o, e_w, rfl⟩
        refine e1_6 zz9 ?_
        clear zz9
        intro m19 F19 e_n e_m e_o e_w e_p
        clear F18 N18 hoff
        (repeat' (first | (k_unfold; (try dsimp only)) | ((fail_if_success (with_reducible show wpAny _ _ (call (Value.ref _) _ _) _ _ _)); (fail_if_success (with_reducible show wpAny _ _ (pyIter _) _ _ _)); (fail_if_success (with_reducible show wpAny _ _ (eval (Expr.Lambda _ _ _ _) _) _ _ _)); (fail_if_success (with_reducible show wpAny _ _ (call (Value.builtin "len") _ _) _ _ _)); (fail_if_success (with_reducible show wpAny _ _ (exec (Stmt.For _ _ _ _ _) _) _ _ _)); (fail_if_success (with_reducible show wpAny _ _ (exec (Stmt.Assign _ (Expr.ListComp _ _ _ _) _) _) _ _ _)); (fail_if_success (with_reducible show wpAny _ _ (eval (Expr.ListComp _ _ _ _) _) _ _ _)); first | walk1 | (dsimp only; (with_reducible show wpAny _ _ _ _ _); walk1))))
        refine meetK_in (b := b) (L := L) (N := N) (e := eM) (x := x) (c := c7) (by show 1 + claimMargin + 1 ≤ 496; decide) (by show 4 + 3 ≤ 460; decide) rfl rfl rfl (by intro q; cases q) F19 N19 X T (by simp) hN h64 (fun p hp => by
          refine e3_2 (hm p hp) ?_
          intro a t v q1 q2
          exact ⟨a, listOf #[.int (x p) t, v] 0, q1, List.mem_cons_of_mem _ (List.mem_cons_of_mem _ (List.mem_cons_of_mem _ (by simp [q2]))), by simp [W.listOf]⟩) (.head _) rfl ?_ ?_
        · intro p A' b' s' Q E hp hd' hu' hA' stb hin st' hsz' hq
          refine e3_2 (hm p hp) ?_
          intro a t v q1 q2
          rw [q1]
          exact lam_call hd' hA' st' hsz' (T.keeps stb) (hin _ (.head _)) (hin _ (.tail _ (.head _))) d19 v19 (hin (a, listOf #[.int (x p) t, v] 0) (List.mem_cons_of_mem _ (List.mem_cons_of_mem _ (List.mem_cons_of_mem _ (by simp [q2]))))) hq
        intro R2 h20 tk20 c20 F20 N20
        have zz9 : ∃ m20, Fr b L h20 m20 ∧ m20 (Str.ofString "size") = some (.int (N : Int) tN) ∧ m20 (Str.ofString "mixed") = some (.ref MX) ∧ m20 (Str.ofString "order") = some (.ref OD) ∧ m20 (Str.ofString "plain") = some (.ref R1) := ⟨_, F20, e_n, e_m, e_o, e_p⟩
        refine e1_5 zz9 ?_
        clear zz9
        intro m20 F20 e_n e_m e_o e_p
        have N21 : News b L h20 ((L + 1, oc3) :: (103, tabObj #[rawInt 188, rawInt 40, .ref c']) :: (IT, liObj WL (j + 1)) :: (R1, listOf ((ordD x N).map e).toArray c17) :: (R2, listOf ((ordD x N).map eM).toArray c20) :: (TH, listOf ((List.range N).map e).toArray c2) :: (MX, listOf ((List.range N).map eM).toArray c7) :: (OD, listOf ((ordD x N).map fun p : Nat => Value.int (p : Int) (tt p)).toArray c9) :: (WL, listOf ws.toArray 0) :: ([(c', oc)] ++ rest)) := (nw (nw_hd (nw_tl (nw_tl (nw_tl (nw_tl (nw_tl (N20))))))) (nw (nw_hd (nw_tl (nw_tl (nw_tl (N20))))) (nw (nw_hd (nw_tl (nw_tl (nw_tl (nw_tl (nw_tl (nw_tl (N20)))))))) (nw (nw_hd (nw_tl (nw_tl (nw_tl (nw_tl (N20)))))) (nw (nw_hd (N20)) (nw (nw_hd (nw_tl (nw_tl (nw_tl (nw_tl (nw_tl (nw_tl (nw_tl (N20))))))))) (nw (nw_hd (nw_tl (nw_tl (nw_tl (nw_tl (nw_tl (nw_tl (nw_tl (nw_tl (N20)))))))))) (nw (nw_hd (nw_tl (nw_tl (nw_tl (nw_tl (nw_tl (nw_tl (nw_tl (nw_tl (nw_tl (N20))))))))))) (nw (nw_hd (nw_tl (nw_tl (nw_tl (nw_tl (nw_tl (nw_tl (nw_tl (nw_tl (nw_tl (nw_tl (N20)))))))))))) (nw (nw_hd (nw_tl (nw_tl (N20)))) (nw_app_r (nw_tl (nw_tl (nw_tl (nw_tl (nw_tl (nw_tl (nw_tl (nw_tl (nw_tl (nw_tl (nw_tl (N20)))))))))))))))))))))))
        have hcd' : ∀ q ∈ [(c', oc)], q.1 ≠ IT := fun q hq r => by
          rw [List.mem_singleton] at hq; subst hq
          have z1 := (N21 (c', oc) (by simp)).1
          have z2 := (N21 _ (.tail _ (.tail _ (.head _)))).1
          dsimp only at z1 z2 r
          rw [r, z2] at z1
          rw [← Option.some.inj z1] at d19
          have := Data.fields.inj d19
          rw [← this] at v19; cases v19
        have htab' : TabOk #[rawInt 188, rawInt 40, .ref c'] [(c', oc)] := .inr ⟨c', oc, vs2, t2, rfl, rfl, d19, v19⟩
        generalize hcds : [(c', oc)] = cds' at *
        generalize hpp : #[rawInt 188, rawInt 40, Value.ref c'] = ps' at *
        clear F19 N19 N20 d19 v19 htab hcd e_w
        (repeat' (first | (k_unfold; (try dsimp only)) | ((fail_if_success (with_reducible show wpAny _ _ (call (Value.ref _) _ _) _ _ _)); (fail_if_success (with_reducible show wpAny _ _ (pyIter _) _ _ _)); (fail_if_success (with_reducible show wpAny _ _ (eval (Expr.Lambda _ _ _ _) _) _ _ _)); (fail_if_success (with_reducible show wpAny _ _ (call (Value.builtin "len") _ _) _ _ _)); (fail_if_success (with_reducible show wpAny _ _ (exec (Stmt.For _ _ _ _ _) _) _ _ _)); (fail_if_success (with_reducible show wpAny _ _ (exec (Stmt.Assign _ (Expr.ListComp _ _ _ _) _) _) _ _ _)); (fail_if_success (with_reducible show wpAny _ _ (eval (Expr.ListComp _ _ _ _) _) _ _ _)); first | walk1 | (dsimp only; (with_reducible show wpAny _ _ _ _ _); walk1))))
        rename_i h22 F22 N22
        refine Calls.call_len_list (PySem.IsL.isList (N22 _ (.tail _ (.tail _ (.tail _ (.head _))))).1) (by simp [ordD_len]; lia) ?_
        rw [show ((ordD x N).map e).toArray.size = N by simp [ordD_len]]
        have zz9 : ∃ m22, Fr b L h22 m22 ∧ m22 (Str.ofString "size") = some (.int (N : Int) tN) ∧ m22 (Str.ofString "mixed") = some (.ref MX) ∧ m22 (Str.ofString "order") = some (.ref OD) ∧ m22 (Str.ofString "plain") = some (.ref R1) ∧ m22 (Str.ofString "by_key") = some (.ref R2) := ⟨_, F22, e_n, e_m, e_o, e_p, rfl⟩
        refine e1_6 zz9 ?_
        clear zz9
        intro m22 F22 e_n e_m e_o e_p e_k
        (repeat' (first | (k_unfold; (try dsimp only)) | ((fail_if_success (with_reducible show wpAny _ _ (call (Value.ref _) _ _) _ _ _)); (fail_if_success (with_reducible show wpAny _ _ (pyIter _) _ _ _)); (fail_if_success (with_reducible show wpAny _ _ (eval (Expr.Lambda _ _ _ _) _) _ _ _)); (fail_if_success (with_reducible show wpAny _ _ (call (Value.builtin "len") _ _) _ _ _)); (fail_if_success (with_reducible show wpAny _ _ (exec (Stmt.For _ _ _ _ _) _) _ _ _)); (fail_if_success (with_reducible show wpAny _ _ (exec (Stmt.Assign _ (Expr.ListComp _ _ _ _) _) _) _ _ _)); (fail_if_success (with_reducible show wpAny _ _ (eval (Expr.ListComp _ _ _ _) _) _ _ _)); first | walk1 | (dsimp only; (with_reducible show wpAny _ _ _ _ _); walk1))))
        all_goals try (exact absurd rfl (by assumption))
        refine Calls.call_len_list (PySem.IsL.isList (N22 _ (.tail _ (.tail _ (.tail _ (.tail _ (.head _)))))).1) (by simp [ordD_len]; lia) ?_
        rw [show ((ordD x N).map eM).toArray.size = N by simp [ordD_len]]
        (repeat' (first | (k_unfold; (try dsimp only)) | ((fail_if_success (with_reducible show wpAny _ _ (call (Value.ref _) _ _) _ _ _)); (fail_if_success (with_reducible show wpAny _ _ (pyIter _) _ _ _)); (fail_if_success (with_reducible show wpAny _ _ (eval (Expr.Lambda _ _ _ _) _) _ _ _)); (fail_if_success (with_reducible show wpAny _ _ (call (Value.builtin "len") _ _) _ _ _)); (fail_if_success (with_reducible show wpAny _ _ (exec (Stmt.For _ _ _ _ _) _) _ _ _)); (fail_if_success (with_reducible show wpAny _ _ (exec (Stmt.Assign _ (Expr.ListComp _ _ _ _) _) _) _ _ _)); (fail_if_success (with_reducible show wpAny _ _ (eval (Expr.ListComp _ _ _ _) _) _ _ _)); first | walk1 | (dsimp only; (with_reducible show wpAny _ _ _ _ _); walk1))))
        all_goals try (exact absurd rfl (by assumption))
        obtain ⟨Q3, hQ3⟩ : ∃ Q3 : Flow → Shared → Prop, Q3 = fun f s' => f = .next ∧ ∃ h' tk m, s' = { s₁ with heap := h', toks := tk } ∧ Fr b L h' m ∧ News b L h' ((L + 1, oc3) :: (103, tabObj ps') :: (IT, liObj WL (j + 1)) :: (R1, listOf ((ordD x N).map e).toArray c17) :: (R2, listOf ((ordD x N).map eM).toArray c20) :: (TH, listOf ((List.range N).map e).toArray c2) :: (MX, listOf ((List.range N).map eM).toArray c7) :: (OD, listOf ((ordD x N).map fun p : Nat => Value.int (p : Int) (tt p)).toArray c9) :: (WL, listOf ws.toArray 0) :: (cds' ++ rest)) ∧
          m (Str.ofString "size") = some (.int (N : Int) tN) ∧ m (Str.ofString "mixed") = some (.ref MX) ∧ m (Str.ofString "order") = some (.ref OD) := ⟨_, rfl⟩
        refine wpAny_mono (Q := Q3) ?_ ?_ fun _ _ e => e
        · refine wpAny_For ?_
          (repeat' (first | (k_unfold; (try dsimp only)) | ((fail_if_success (with_reducible show wpAny _ _ (call (Value.ref _) _ _) _ _ _)); (fail_if_success (with_reducible show wpAny _ _ (pyIter _) _ _ _)); (fail_if_success (with_reducible show wpAny _ _ (eval (Expr.Lambda _ _ _ _) _) _ _ _)); (fail_if_success (with_reducible show wpAny _ _ (call (Value.builtin "len") _ _) _ _ _)); (fail_if_success (with_reducible show wpAny _ _ (exec (Stmt.For _ _ _ _ _) _) _ _ _)); (fail_if_success (with_reducible show wpAny _ _ (exec (Stmt.Assign _ (Expr.ListComp _ _ _ _) _) _) _ _ _)); (fail_if_success (with_reducible show wpAny _ _ (eval (Expr.ListComp _ _ _ _) _) _ _ _)); first | walk1 | (dsimp only; (with_reducible show wpAny _ _ _ _ _); walk1))))
          rename_i h23 tk23 t1 u1 v1 hr F23 N23 k23
          dsimp only at hr k23
          have hrs : Builtin.Range.rangeSize 0 (N : Int) 1 = (N : Int) := rangeSize_nat _ _
          refine wpAny_pyIter_range hr (by unfold Builtin.Range.small Builtin.Range.rangeFitsLong; rw [hrs]; simp; lia) ?_
          rw [hrs]
          have F24 := F23.push (krsIt 0 (N : Int) 1)
          have N24 := N23.push F23 (krsIt 0 (N : Int) 1)
          have itl2 : ∀ q ∈ ((L + 1, oc3) :: (103, tabObj ps') :: (IT, liObj WL (j + 1)) :: (R1, listOf ((ordD x N).map e).toArray c17) :: (R2, listOf ((ordD x N).map eM).toArray c20) :: (TH, listOf ((List.range N).map e).toArray c2) :: (MX, listOf ((List.range N).map eM).toArray c7) :: (OD, listOf ((ordD x N).map fun p : Nat => Value.int (p : Int) (tt p)).toArray c9) :: (WL, listOf ws.toArray 0) :: (cds' ++ rest)), q.1 < h23.objs.size := fun q hq => Heap.lt_size (N23 q hq).1
          have i2n := next_is_new F23
          have i2L : h23.objs.size ≠ L := Nat.ne_of_gt F23.ns.lt
          dsimp only
          generalize hI2 : h23.objs.size = I2 at *
          obtain ⟨IW, hIW⟩ : ∃ IW : Nat → Shared → Prop, IW = fun c s' => ∃ k h' tk m', c = N - k ∧ k ≤ N ∧ s' = { s₁ with heap := h', toks := tk } ∧ Fr b L h' m' ∧ News b L h' ((I2, krsIt (k : Int) ((N : Int) - k) 1) :: ((L + 1, oc3) :: (103, tabObj ps') :: (IT, liObj WL (j + 1)) :: (R1, listOf ((ordD x N).map e).toArray c17) :: (R2, listOf ((ordD x N).map eM).toArray c20) :: (TH, listOf ((List.range N).map e).toArray c2) :: (MX, listOf ((List.range N).map eM).toArray c7) :: (OD, listOf ((ordD x N).map fun p : Nat => Value.int (p : Int) (tt p)).toArray c9) :: (WL, listOf ws.toArray 0) :: (cds' ++ rest))) ∧
            m' (Str.ofString "size") = some (.int (N : Int) tN) ∧ m' (Str.ofString "mixed") = some (.ref MX) ∧ m' (Str.ofString "order") = some (.ref OD) ∧ m' (Str.ofString "plain") = some (.ref R1) ∧ m' (Str.ofString "by_key") = some (.ref R2) := ⟨_, rfl⟩
          refine codeF IW N (by subst hIW; exact ⟨0, _, _, m22, rfl, Nat.zero_le _, rfl, F24, N24, e_n, e_m, e_o, e_p, e_k⟩) ?_
          clear F24 N24 F23 N23 hr k23 e_n e_m e_o e_p e_k
          intro c s' hiw
          rw [hIW] at hiw
          refine e4_10 (hiw) ?_
          (try clear hiw)
          intro k h25 tk25 m25 zr4 hk zr6 F25 N25 e_n e_m e_o e_p e_k
          first | subst zr4 | cases zr4
          first | subst zr6 | cases zr6
          have nI2 := N25 _ (.head _)
          by_cases hkN : k < N
          · refine wpAny_pyNext_range_item nI2.1 (by lia) fun h26 it26 k26 => ?_
            have F26 := fr_change F25 N25 (.head _) k26
            have N26 : News b L h26 ((I2, krsIt (k + 1 : Int) ((N : Int) - k - 1) 1) :: ((L + 1, oc3) :: (103, tabObj ps') :: (IT, liObj WL (j + 1)) :: (R1, listOf ((ordD x N).map e).toArray c17) :: (R2, listOf ((ordD x N).map eM).toArray c20) :: (TH, listOf ((List.range N).map e).toArray c2) :: (MX, listOf ((List.range N).map eM).toArray c7) :: (OD, listOf ((ordD x N).map fun p : Nat => Value.int (p : Int) (tt p)).toArray c9) :: (WL, listOf ws.toArray 0) :: (cds' ++ rest))) := fun q hq => by
              rcases List.mem_cons.mp hq with rfl | hq
              · exact ⟨it26, nI2.2⟩
              · exact ⟨k26.extBut _ _ (Nat.ne_of_lt (itl2 q hq)) (N25 q (.tail _ hq)).1, (N25 q (.tail _ hq)).2⟩
            clear F25 N25 nI2 k26 it26
            (repeat' (first | (k_unfold; (try dsimp only)) | ((fail_if_success (with_reducible show wpAny _ _ (call (Value.ref _) _ _) _ _ _)); (fail_if_success (with_reducible show wpAny _ _ (pyIter _) _ _ _)); (fail_if_success (with_reducible show wpAny _ _ (subscriptTail _ _ _ _) _ _ _)); (fail_if_success (with_reducible show wpAny _ _ (compareOp CmpOp.IsNot _ _) _ _ _)); (fail_if_success (with_reducible show wpAny _ _ (eval (Expr.Lambda _ _ _ _) _) _ _ _)); (fail_if_success (with_reducible show wpAny _ _ (call (Value.builtin "len") _ _) _ _ _)); (fail_if_success (with_reducible show wpAny _ _ (exec (Stmt.For _ _ _ _ _) _) _ _ _)); (fail_if_success (with_reducible show wpAny _ _ (exec (Stmt.Assign _ (Expr.ListComp _ _ _ _) _) _) _ _ _)); (fail_if_success (with_reducible show wpAny _ _ (eval (Expr.ListComp _ _ _ _) _) _ _ _)); first | walk1 | (dsimp only; (with_reducible show wpAny _ _ _ _ _); walk1))))
            rename_i h28 F28 N28
            have zz9 : ∃ p, (ordD x N)[k]? = some p ∧ p < N := by
              have hl : k < (ordD x N).length := by rw [ordD_len]; exact hkN
              exact ⟨_, List.getElem?_eq_getElem hl, ordD_mem.mp (List.getElem_mem hl)⟩
            refine e1_2 zz9 ?_
            clear zz9
            intro p hp1 hp2
            refine sub_arr (N28 _ (.tail _ (.tail _ (.tail _ (.tail _ (.head _)))))).1 (by lia) (by lia) (v := e p) (by simp [hp1]) ?_
            (repeat' (first | (k_unfold; (try dsimp only)) | ((fail_if_success (with_reducible show wpAny _ _ (call (Value.ref _) _ _) _ _ _)); (fail_if_success (with_reducible show wpAny _ _ (pyIter _) _ _ _)); (fail_if_success (with_reducible show wpAny _ _ (subscriptTail _ _ _ _) _ _ _)); (fail_if_success (with_reducible show wpAny _ _ (compareOp CmpOp.IsNot _ _) _ _ _)); (fail_if_success (with_reducible show wpAny _ _ (eval (Expr.Lambda _ _ _ _) _) _ _ _)); (fail_if_success (with_reducible show wpAny _ _ (call (Value.builtin "len") _ _) _ _ _)); (fail_if_success (with_reducible show wpAny _ _ (exec (Stmt.For _ _ _ _ _) _) _ _ _)); (fail_if_success (with_reducible show wpAny _ _ (exec (Stmt.Assign _ (Expr.ListComp _ _ _ _) _) _) _ _ _)); (fail_if_success (with_reducible show wpAny _ _ (eval (Expr.ListComp _ _ _ _) _) _ _ _)); first | walk1 | (dsimp only; (with_reducible show wpAny _ _ _ _ _); walk1))))
            refine sub_arr (N28 _ (.tail _ (.tail _ (.tail _ (.tail _ (.tail _ (.tail _ (.tail _ (.tail _ (.head _)))))))))).1 (by lia) (by lia) (v := .int (p : Int) (tt p)) (by simp [hp1]) ?_
            refine sub_arr (N28 _ (.tail _ (.tail _ (.tail _ (.tail _ (.tail _ (.tail _ (.head _)))))))).1 (by lia) (by lia) (v := e p) (by simp [hp2]) ?_
            refine e3_2 (ht p hp2) ?_
            intro a1 t1 n1 q1 q2
            rw [q1]
            refine wpAny_isNot_ref_self ?_
            (repeat' (first | (k_unfold; (try dsimp only)) | ((fail_if_success (with_reducible show wpAny _ _ (call (Value.ref _) _ _) _ _ _)); (fail_if_success (with_reducible show wpAny _ _ (pyIter _) _ _ _)); (fail_if_success (with_reducible show wpAny _ _ (subscriptTail _ _ _ _) _ _ _)); (fail_if_success (with_reducible show wpAny _ _ (compareOp CmpOp.IsNot _ _) _ _ _)); (fail_if_success (with_reducible show wpAny _ _ (eval (Expr.Lambda _ _ _ _) _) _ _ _)); (fail_if_success (with_reducible show wpAny _ _ (call (Value.builtin "len") _ _) _ _ _)); (fail_if_success (with_reducible show wpAny _ _ (exec (Stmt.For _ _ _ _ _) _) _ _ _)); (fail_if_success (with_reducible show wpAny _ _ (exec (Stmt.Assign _ (Expr.ListComp _ _ _ _) _) _) _ _ _)); (fail_if_success (with_reducible show wpAny _ _ (eval (Expr.ListComp _ _ _ _) _) _ _ _)); first | walk1 | (dsimp only; (with_reducible show wpAny _ _ _ _ _); walk1))))
            refine sub_arr (N28 _ (.tail _ (.tail _ (.tail _ (.tail _ (.tail _ (.head _))))))).1 (by lia) (by lia) (v := eM p) (by simp [hp1]) ?_
            (repeat' (first | (k_unfold; (try dsimp only)) | ((fail_if_success (with_reducible show wpAny _ _ (call (Value.ref _) _ _) _ _ _)); (fail_if_success (with_reducible show wpAny _ _ (pyIter _) _ _ _)); (fail_if_success (with_reducible show wpAny _ _ (subscriptTail _ _ _ _) _ _ _)); (fail_if_success (with_reducible show wpAny _ _ (compareOp CmpOp.IsNot _ _) _ _ _)); (fail_if_success (with_reducible show wpAny _ _ (eval (Expr.Lambda _ _ _ _) _) _ _ _)); (fail_if_success (with_reducible show wpAny _ _ (call (Value.builtin "len") _ _) _ _ _)); (fail_if_success (with_reducible show wpAny _ _ (exec (Stmt.For _ _ _ _ _) _) _ _ _)); (fail_if_success (with_reducible show wpAny _ _ (exec (Stmt.Assign _ (Expr.ListComp _ _ _ _) _) _) _ _ _)); (fail_if_success (with_reducible show wpAny _ _ (eval (Expr.ListComp _ _ _ _) _) _ _ _)); first | walk1 | (dsimp only; (with_reducible show wpAny _ _ _ _ _); walk1))))
            refine sub_arr (N28 _ (.tail _ (.tail _ (.tail _ (.tail _ (.tail _ (.tail _ (.tail _ (.tail _ (.head _)))))))))).1 (by lia) (by lia) (v := .int (p : Int) (tt p)) (by simp [hp1]) ?_
            refine sub_arr (N28 _ (.tail _ (.tail _ (.tail _ (.tail _ (.tail _ (.tail _ (.tail _ (.head _))))))))).1 (by lia) (by lia) (v := eM p) (by simp [hp2]) ?_
            refine e3_2 (hm p hp2) ?_
            intro a2 t2 n2 q3 q4
            rw [q3]
            refine wpAny_isNot_ref_self ?_
            (repeat' (first | (k_unfold; (try dsimp only)) | ((fail_if_success (with_reducible show wpAny _ _ (call (Value.ref _) _ _) _ _ _)); (fail_if_success (with_reducible show wpAny _ _ (pyIter _) _ _ _)); (fail_if_success (with_reducible show wpAny _ _ (subscriptTail _ _ _ _) _ _ _)); (fail_if_success (with_reducible show wpAny _ _ (compareOp CmpOp.IsNot _ _) _ _ _)); (fail_if_success (with_reducible show wpAny _ _ (eval (Expr.Lambda _ _ _ _) _) _ _ _)); (fail_if_success (with_reducible show wpAny _ _ (call (Value.builtin "len") _ _) _ _ _)); (fail_if_success (with_reducible show wpAny _ _ (exec (Stmt.For _ _ _ _ _) _) _ _ _)); (fail_if_success (with_reducible show wpAny _ _ (exec (Stmt.Assign _ (Expr.ListComp _ _ _ _) _) _) _ _ _)); (fail_if_success (with_reducible show wpAny _ _ (eval (Expr.ListComp _ _ _ _) _) _ _ _)); first | walk1 | (dsimp only; (with_reducible show wpAny _ _ _ _ _); walk1))))
            subst hIW
            refine ⟨N - (k + 1), by lia, k + 1, h28, _, _, rfl, hkN, rfl, F28, ?_, e_n, e_m, e_o, e_p, e_k⟩
            rw [show (((k + 1 : Nat) : Int)) = (k : Int) + 1 by lia, show ((N : Int) - ((k : Int) + 1)) = (N : Int) - k - 1 by lia]
            exact N28
          · have hkN' : k = N := by lia
            refine wpAny_pyNext_range_end rfl nI2.1 (by lia) fun h29 k29 => ?_
            have F29 := fr_ext F25 nI2.2.1.symm nI2.2.2 k29
            walk1
            subst hQ3
            exact ⟨rfl, h29, _, m25, rfl, F29, fun q hq => ⟨k29 _ _ (Nat.ne_of_lt (itl2 q hq)) (N25 q (.tail _ hq)).1, (N25 q (.tail _ hq)).2⟩, e_n, e_m, e_o⟩
        · intro f s' hq3
          subst hQ3
          obtain ⟨rfl, h27, tk27, m27, rfl, F27, N27, e_n, e_m, e_o⟩ := hq3
          dsimp only
          walk1
          subst hIV
          refine ⟨ws.length + 1 - (j + 1), by lia, j + 1, h27, tk27, m27, ps', cds', rfl, hjw, rfl, F27, (nw (nw_hd (N27)) (nw (nw_hd (nw_tl (N27))) (nw (nw_hd (nw_tl (nw_tl (N27)))) (nw (nw_hd (nw_tl (nw_tl (nw_tl (nw_tl (nw_tl (N27))))))) (nw (nw_hd (nw_tl (nw_tl (nw_tl (nw_tl (nw_tl (nw_tl (N27)))))))) (nw (nw_hd (nw_tl (nw_tl (nw_tl (nw_tl (nw_tl (nw_tl (nw_tl (N27))))))))) (nw (nw_hd (nw_tl (nw_tl (nw_tl (nw_tl (nw_tl (nw_tl (nw_tl (nw_tl (N27)))))))))) (nw_tl (nw_tl (nw_tl (nw_tl (nw_tl (nw_tl (nw_tl (nw_tl (nw_tl (N27))))))))))))))))), htab', e_n, e_m, e_o, hcd'⟩
      · have hjw' : j = ws.length := by lia
        refine pyNext_li_end rfl nI.1 (N1 _ (.tail _ (.tail _ (.tail _ (.tail _ (.tail _ (.tail _ (.head _)))))))).1 (by simp [hjw']) fun h30 g30 s30 => ?_
        have F30 := fr_ext F (Ne.symm nI.2.1) nI.2.2 s30
        have g103 := s30 _ _ (Nat.ne_of_lt (itlt (103, tabObj #[]) (.tail _ (.head _)))) (N1 _ (.tail _ (.head _))).1
        walk1
        dsimp only
        walk1
        walk1
        walk1
        exact ⟨rfl, ⟨_, g103⟩, h30, _, rfl, F30.keep⟩
  · rintro f s' ⟨rfl, hg', h', tk', rfl, st'⟩
    dsimp only
    refine ⟨⟨.inl ⟨_, _, _, rfl, fun _ => rfl, .bool true, (by wrow_post), fun q => ⟨List.nodup_nil, fun a ha => by simp at ha⟩⟩, st', rfl, hg⟩, hg', trivial⟩)
end
end Mine
set_option maxRecDepth 100000 in
theorem PySem.Challenge.cw_dp0046_03_holds : PySem.Challenge.rw_dp0046_03.Holds := by
  exact Mine.main
