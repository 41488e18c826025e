import PyProof.Rows.All
import Wide.All
import OpenK.AllK
import Wide.FinOn
import Lean
import PySem.Challenge.RW_ph0128_01
open PySem PySem.W PyProof.Rows
set_option Elab.async false
set_option maxRecDepth 100000
set_option maxHeartbeats 8000000
set_option rowWalk.seconds 0
set_option linter.unusedVariables false
set_option linter.unusedSimpArgs false
set_option compiler.extract_closed false
namespace Mine
open Builtin.Int (intBits)
local macro_rules | `(tactic| omega) => `(tactic| first | lia | omega +splitNatSub)
section
theorem looks : looksOpen PySem.Challenge.rw_ph0128_01.row.prog = true := by
  unfold looksOpen
  iterate 5 refine look_both ?_ (by kernel_rfl)
  kernel_rfl
theorem part_said : OpenRow.partSaid PySem.Challenge.rw_ph0128_01.row = true := by
  unfold OpenRow.partSaid
  iterate 13 refine look_both ?_ (by kernel_rfl)
  exact looks
theorem row_said' : OpenRow.wellSaid PySem.Challenge.rw_ph0128_01.row = true := look_both (look_both part_said (by kernel_rfl)) (by kernel_rfl)
theorem said : OpenLaw.wellSaid PySem.Challenge.rw_ph0128_01 = true := by
  unfold OpenLaw.wellSaid
  iterate 18 refine look_both ?_ (by kernel_rfl)
  exact row_said'
/-- the text without its three settings of the module's name -/
def view : Program := { PySem.Challenge.rw_ph0128_01.row.prog with main := { PySem.Challenge.rw_ph0128_01.row.prog.main with body := ((PySem.Challenge.rw_ph0128_01.row.prog.main.body.eraseIdx 13).eraseIdx 8).eraseIdx 0 } }
local macro_rules | `(tactic| o_law) => `(tactic| refine holds_law Mine.said fun said => ?_)
local macro_rules | `(tactic| o_head $H) => `(tactic| (
  refine holds_open (q := Mine.view) (loose := []) (Xt := fun s => xlAt Mine.view [] s && recOk (RowW.records (OpenRow.toRowW (OpenLaw.row PySem.Challenge.rw_ph0128_01))) s) (XP := XL Mine.view []) (Yf := Hook.obs $H) (Ya := Hook.val $H) (YP := Hook.says $H) (N := 2146) ?hl (Hook.of $H) (Hook.keeps $H) (fun s e => xl_of s (Bool.and_eq_true_iff.mp e).1) XL.keeps (by rfl) (by rfl) (by rfl) (fun s e => recFacts_of (Bool.and_eq_true_iff.mp e).2) (by rfl) (by first | assumption | decide +kernel) (by decide +kernel) ⟨rfl, rfl, rfl, rfl, rfl, by decide +kernel⟩ ?hw ?hc
  case hl => (intro w; kernel_rfl)))
open_top hd for PySem.Challenge.rw_ph0128_01
end
section
theorem tok_any {α : Type} {prog : Program} {w : World} {A : Around} {c : Sem α} {Q : α → Shared → Prop} {E : Value → Shared → Prop} {h : Heap} {g : Array GenState} {d : _} {T : Nat} {o : _} (k : ∀ tk, wpAny (model prog w) A c Q E { heap := h, gens := g, drawn := d, toks := tk, os := o }) : wpAny (model prog w) A c Q E { heap := h, gens := g, drawn := d, toks := T, os := o } := k T
theorem post_let {α : Type} {prog : Program} {w : World} {A : Around} {c : Sem α} {Q : α → Shared → Prop} {E : Value → Shared → Prop} {s : Shared} (k : let q := Q; wpAny (model prog w) A c q E s) : wpAny (model prog w) A c Q E s := k
theorem room1 {d k c : Nat} (h : d + k < c) : d < c := Nat.lt_of_le_of_lt (Nat.le_add_right _ _) h
theorem exand0_2 {P0 P1 : Prop} {G : Prop} (h : P0 ∧ P1) (k : P0 → P1 → G) : G := by
  obtain ⟨h0, h1⟩ := h
  exact k h0 h1
theorem exand0_3 {P0 P1 P2 : Prop} {G : Prop} (h : P0 ∧ P1 ∧ P2) (k : P0 → P1 → P2 → G) : G := by
  obtain ⟨h0, h1, h2⟩ := h
  exact k h0 h1 h2
theorem exand0_4 {P0 P1 P2 P3 : Prop} {G : Prop} (h : P0 ∧ P1 ∧ P2 ∧ P3) (k : P0 → P1 → P2 → P3 → G) : G := by
  obtain ⟨h0, h1, h2, h3⟩ := h
  exact k h0 h1 h2 h3
theorem exand0_5 {P0 P1 P2 P3 P4 : Prop} {G : Prop} (h : P0 ∧ P1 ∧ P2 ∧ P3 ∧ P4) (k : P0 → P1 → P2 → P3 → P4 → G) : G := by
  obtain ⟨h0, h1, h2, h3, h4⟩ := h
  exact k h0 h1 h2 h3 h4
theorem exand0_6 {P0 P1 P2 P3 P4 P5 : Prop} {G : Prop} (h : P0 ∧ P1 ∧ P2 ∧ P3 ∧ P4 ∧ P5) (k : P0 → P1 → P2 → P3 → P4 → P5 → G) : G := by
  obtain ⟨h0, h1, h2, h3, h4, h5⟩ := h
  exact k h0 h1 h2 h3 h4 h5
theorem exand0_7 {P0 P1 P2 P3 P4 P5 P6 : Prop} {G : Prop} (h : P0 ∧ P1 ∧ P2 ∧ P3 ∧ P4 ∧ P5 ∧ P6) (k : P0 → P1 → P2 → P3 → P4 → P5 → P6 → G) : G := by
  obtain ⟨h0, h1, h2, h3, h4, h5, h6⟩ := h
  exact k h0 h1 h2 h3 h4 h5 h6
theorem exand1_1 {A0 : Type} {P0 : A0 → Prop} {G : Prop} (h : ∃ a0, P0 a0) (k : ∀ a0, P0 a0 → G) : G := by
  obtain ⟨a0, h0⟩ := h
  exact k a0 h0
theorem exand1_2 {A0 : Type} {P0 P1 : A0 → Prop} {G : Prop} (h : ∃ a0, P0 a0 ∧ P1 a0) (k : ∀ a0, P0 a0 → P1 a0 → G) : G := by
  obtain ⟨a0, h0, h1⟩ := h
  exact k a0 h0 h1
theorem exand1_3 {A0 : Type} {P0 P1 P2 : A0 → Prop} {G : Prop} (h : ∃ a0, P0 a0 ∧ P1 a0 ∧ P2 a0) (k : ∀ a0, P0 a0 → P1 a0 → P2 a0 → G) : G := by
  obtain ⟨a0, h0, h1, h2⟩ := h
  exact k a0 h0 h1 h2
theorem exand1_4 {A0 : Type} {P0 P1 P2 P3 : A0 → Prop} {G : Prop} (h : ∃ a0, P0 a0 ∧ P1 a0 ∧ P2 a0 ∧ P3 a0) (k : ∀ a0, P0 a0 → P1 a0 → P2 a0 → P3 a0 → G) : G := by
  obtain ⟨a0, h0, h1, h2, h3⟩ := h
  exact k a0 h0 h1 h2 h3
theorem exand2_1 {A0 A1 : Type} {P0 : A0 → A1 → Prop} {G : Prop} (h : ∃ a0 a1, P0 a0 a1) (k : ∀ a0 a1, P0 a0 a1 → G) : G := by
  obtain ⟨a0, a1, h0⟩ := h
  exact k a0 a1 h0
theorem exand2_2 {A0 A1 : Type} {P0 P1 : A0 → A1 → Prop} {G : Prop} (h : ∃ a0 a1, P0 a0 a1 ∧ P1 a0 a1) (k : ∀ a0 a1, P0 a0 a1 → P1 a0 a1 → G) : G := by
  obtain ⟨a0, a1, h0, h1⟩ := h
  exact k a0 a1 h0 h1
theorem exand2_3 {A0 A1 : Type} {P0 P1 P2 : A0 → A1 → Prop} {G : Prop} (h : ∃ a0 a1, P0 a0 a1 ∧ P1 a0 a1 ∧ P2 a0 a1) (k : ∀ a0 a1, P0 a0 a1 → P1 a0 a1 → P2 a0 a1 → G) : G := by
  obtain ⟨a0, a1, h0, h1, h2⟩ := h
  exact k a0 a1 h0 h1 h2
theorem exand2_4 {A0 A1 : Type} {P0 P1 P2 P3 : A0 → A1 → Prop} {G : Prop} (h : ∃ a0 a1, P0 a0 a1 ∧ P1 a0 a1 ∧ P2 a0 a1 ∧ P3 a0 a1) (k : ∀ a0 a1, P0 a0 a1 → P1 a0 a1 → P2 a0 a1 → P3 a0 a1 → G) : G := by
  obtain ⟨a0, a1, h0, h1, h2, h3⟩ := h
  exact k a0 a1 h0 h1 h2 h3
theorem exand2_5 {A0 A1 : Type} {P0 P1 P2 P3 P4 : A0 → A1 → Prop} {G : Prop} (h : ∃ a0 a1, P0 a0 a1 ∧ P1 a0 a1 ∧ P2 a0 a1 ∧ P3 a0 a1 ∧ P4 a0 a1) (k : ∀ a0 a1, P0 a0 a1 → P1 a0 a1 → P2 a0 a1 → P3 a0 a1 → P4 a0 a1 → G) : G := by
  obtain ⟨a0, a1, h0, h1, h2, h3, h4⟩ := h
  exact k a0 a1 h0 h1 h2 h3 h4
theorem exand2_6 {A0 A1 : Type} {P0 P1 P2 P3 P4 P5 : A0 → A1 → Prop} {G : Prop} (h : ∃ a0 a1, P0 a0 a1 ∧ P1 a0 a1 ∧ P2 a0 a1 ∧ P3 a0 a1 ∧ P4 a0 a1 ∧ P5 a0 a1) (k : ∀ a0 a1, P0 a0 a1 → P1 a0 a1 → P2 a0 a1 → P3 a0 a1 → P4 a0 a1 → P5 a0 a1 → G) : G := by
  obtain ⟨a0, a1, h0, h1, h2, h3, h4, h5⟩ := h
  exact k a0 a1 h0 h1 h2 h3 h4 h5
theorem exand3_1 {A0 A1 A2 : Type} {P0 : A0 → A1 → A2 → Prop} {G : Prop} (h : ∃ a0 a1 a2, P0 a0 a1 a2) (k : ∀ a0 a1 a2, P0 a0 a1 a2 → G) : G := by
  obtain ⟨a0, a1, a2, h0⟩ := h
  exact k a0 a1 a2 h0
theorem exand3_3 {A0 A1 A2 : Type} {P0 P1 P2 : A0 → A1 → A2 → Prop} {G : Prop} (h : ∃ a0 a1 a2, P0 a0 a1 a2 ∧ P1 a0 a1 a2 ∧ P2 a0 a1 a2) (k : ∀ a0 a1 a2, P0 a0 a1 a2 → P1 a0 a1 a2 → P2 a0 a1 a2 → G) : G := by
  obtain ⟨a0, a1, a2, h0, h1, h2⟩ := h
  exact k a0 a1 a2 h0 h1 h2
theorem exand3_4 {A0 A1 A2 : Type} {P0 P1 P2 P3 : A0 → A1 → A2 → Prop} {G : Prop} (h : ∃ a0 a1 a2, P0 a0 a1 a2 ∧ P1 a0 a1 a2 ∧ P2 a0 a1 a2 ∧ P3 a0 a1 a2) (k : ∀ a0 a1 a2, P0 a0 a1 a2 → P1 a0 a1 a2 → P2 a0 a1 a2 → P3 a0 a1 a2 → G) : G := by
  obtain ⟨a0, a1, a2, h0, h1, h2, h3⟩ := h
  exact k a0 a1 a2 h0 h1 h2 h3
theorem exand3_5 {A0 A1 A2 : Type} {P0 P1 P2 P3 P4 : A0 → A1 → A2 → Prop} {G : Prop} (h : ∃ a0 a1 a2, P0 a0 a1 a2 ∧ P1 a0 a1 a2 ∧ P2 a0 a1 a2 ∧ P3 a0 a1 a2 ∧ P4 a0 a1 a2) (k : ∀ a0 a1 a2, P0 a0 a1 a2 → P1 a0 a1 a2 → P2 a0 a1 a2 → P3 a0 a1 a2 → P4 a0 a1 a2 → G) : G := by
  obtain ⟨a0, a1, a2, h0, h1, h2, h3, h4⟩ := h
  exact k a0 a1 a2 h0 h1 h2 h3 h4
theorem exand3_6 {A0 A1 A2 : Type} {P0 P1 P2 P3 P4 P5 : A0 → A1 → A2 → Prop} {G : Prop} (h : ∃ a0 a1 a2, P0 a0 a1 a2 ∧ P1 a0 a1 a2 ∧ P2 a0 a1 a2 ∧ P3 a0 a1 a2 ∧ P4 a0 a1 a2 ∧ P5 a0 a1 a2) (k : ∀ a0 a1 a2, P0 a0 a1 a2 → P1 a0 a1 a2 → P2 a0 a1 a2 → P3 a0 a1 a2 → P4 a0 a1 a2 → P5 a0 a1 a2 → G) : G := by
  obtain ⟨a0, a1, a2, h0, h1, h2, h3, h4, h5⟩ := h
  exact k a0 a1 a2 h0 h1 h2 h3 h4 h5
theorem exand3_7 {A0 A1 A2 : Type} {P0 P1 P2 P3 P4 P5 P6 : A0 → A1 → A2 → Prop} {G : Prop} (h : ∃ a0 a1 a2, P0 a0 a1 a2 ∧ P1 a0 a1 a2 ∧ P2 a0 a1 a2 ∧ P3 a0 a1 a2 ∧ P4 a0 a1 a2 ∧ P5 a0 a1 a2 ∧ P6 a0 a1 a2) (k : ∀ a0 a1 a2, P0 a0 a1 a2 → P1 a0 a1 a2 → P2 a0 a1 a2 → P3 a0 a1 a2 → P4 a0 a1 a2 → P5 a0 a1 a2 → P6 a0 a1 a2 → G) : G := by
  obtain ⟨a0, a1, a2, h0, h1, h2, h3, h4, h5, h6⟩ := h
  exact k a0 a1 a2 h0 h1 h2 h3 h4 h5 h6
theorem exand4_1 {A0 A1 A2 A3 : Type} {P0 : A0 → A1 → A2 → A3 → Prop} {G : Prop} (h : ∃ a0 a1 a2 a3, P0 a0 a1 a2 a3) (k : ∀ a0 a1 a2 a3, P0 a0 a1 a2 a3 → G) : G := by
  obtain ⟨a0, a1, a2, a3, h0⟩ := h
  exact k a0 a1 a2 a3 h0
theorem exand4_2 {A0 A1 A2 A3 : Type} {P0 P1 : A0 → A1 → A2 → A3 → Prop} {G : Prop} (h : ∃ a0 a1 a2 a3, P0 a0 a1 a2 a3 ∧ P1 a0 a1 a2 a3) (k : ∀ a0 a1 a2 a3, P0 a0 a1 a2 a3 → P1 a0 a1 a2 a3 → G) : G := by
  obtain ⟨a0, a1, a2, a3, h0, h1⟩ := h
  exact k a0 a1 a2 a3 h0 h1
theorem exand4_3 {A0 A1 A2 A3 : Type} {P0 P1 P2 : A0 → A1 → A2 → A3 → Prop} {G : Prop} (h : ∃ a0 a1 a2 a3, P0 a0 a1 a2 a3 ∧ P1 a0 a1 a2 a3 ∧ P2 a0 a1 a2 a3) (k : ∀ a0 a1 a2 a3, P0 a0 a1 a2 a3 → P1 a0 a1 a2 a3 → P2 a0 a1 a2 a3 → G) : G := by
  obtain ⟨a0, a1, a2, a3, h0, h1, h2⟩ := h
  exact k a0 a1 a2 a3 h0 h1 h2
theorem exand4_4 {A0 A1 A2 A3 : Type} {P0 P1 P2 P3 : A0 → A1 → A2 → A3 → Prop} {G : Prop} (h : ∃ a0 a1 a2 a3, P0 a0 a1 a2 a3 ∧ P1 a0 a1 a2 a3 ∧ P2 a0 a1 a2 a3 ∧ P3 a0 a1 a2 a3) (k : ∀ a0 a1 a2 a3, P0 a0 a1 a2 a3 → P1 a0 a1 a2 a3 → P2 a0 a1 a2 a3 → P3 a0 a1 a2 a3 → G) : G := by
  obtain ⟨a0, a1, a2, a3, h0, h1, h2, h3⟩ := h
  exact k a0 a1 a2 a3 h0 h1 h2 h3
theorem exand4_5 {A0 A1 A2 A3 : Type} {P0 P1 P2 P3 P4 : A0 → A1 → A2 → A3 → Prop} {G : Prop} (h : ∃ a0 a1 a2 a3, P0 a0 a1 a2 a3 ∧ P1 a0 a1 a2 a3 ∧ P2 a0 a1 a2 a3 ∧ P3 a0 a1 a2 a3 ∧ P4 a0 a1 a2 a3) (k : ∀ a0 a1 a2 a3, P0 a0 a1 a2 a3 → P1 a0 a1 a2 a3 → P2 a0 a1 a2 a3 → P3 a0 a1 a2 a3 → P4 a0 a1 a2 a3 → G) : G := by
  obtain ⟨a0, a1, a2, a3, h0, h1, h2, h3, h4⟩ := h
  exact k a0 a1 a2 a3 h0 h1 h2 h3 h4
theorem exand5_1 {A0 A1 A2 A3 A4 : Type} {P0 : A0 → A1 → A2 → A3 → A4 → Prop} {G : Prop} (h : ∃ a0 a1 a2 a3 a4, P0 a0 a1 a2 a3 a4) (k : ∀ a0 a1 a2 a3 a4, P0 a0 a1 a2 a3 a4 → G) : G := by
  obtain ⟨a0, a1, a2, a3, a4, h0⟩ := h
  exact k a0 a1 a2 a3 a4 h0
theorem exand5_3 {A0 A1 A2 A3 A4 : Type} {P0 P1 P2 : A0 → A1 → A2 → A3 → A4 → Prop} {G : Prop} (h : ∃ a0 a1 a2 a3 a4, P0 a0 a1 a2 a3 a4 ∧ P1 a0 a1 a2 a3 a4 ∧ P2 a0 a1 a2 a3 a4) (k : ∀ a0 a1 a2 a3 a4, P0 a0 a1 a2 a3 a4 → P1 a0 a1 a2 a3 a4 → P2 a0 a1 a2 a3 a4 → G) : G := by
  obtain ⟨a0, a1, a2, a3, a4, h0, h1, h2⟩ := h
  exact k a0 a1 a2 a3 a4 h0 h1 h2
theorem exand5_7 {A0 A1 A2 A3 A4 : Type} {P0 P1 P2 P3 P4 P5 P6 : A0 → A1 → A2 → A3 → A4 → Prop} {G : Prop} (h : ∃ a0 a1 a2 a3 a4, P0 a0 a1 a2 a3 a4 ∧ P1 a0 a1 a2 a3 a4 ∧ P2 a0 a1 a2 a3 a4 ∧ P3 a0 a1 a2 a3 a4 ∧ P4 a0 a1 a2 a3 a4 ∧ P5 a0 a1 a2 a3 a4 ∧ P6 a0 a1 a2 a3 a4) (k : ∀ a0 a1 a2 a3 a4, P0 a0 a1 a2 a3 a4 → P1 a0 a1 a2 a3 a4 → P2 a0 a1 a2 a3 a4 → P3 a0 a1 a2 a3 a4 → P4 a0 a1 a2 a3 a4 → P5 a0 a1 a2 a3 a4 → P6 a0 a1 a2 a3 a4 → G) : G := by
  obtain ⟨a0, a1, a2, a3, a4, h0, h1, h2, h3, h4, h5, h6⟩ := h
  exact k a0 a1 a2 a3 a4 h0 h1 h2 h3 h4 h5 h6
theorem exand5_8 {A0 A1 A2 A3 A4 : Type} {P0 P1 P2 P3 P4 P5 P6 P7 : A0 → A1 → A2 → A3 → A4 → Prop} {G : Prop} (h : ∃ a0 a1 a2 a3 a4, P0 a0 a1 a2 a3 a4 ∧ P1 a0 a1 a2 a3 a4 ∧ P2 a0 a1 a2 a3 a4 ∧ P3 a0 a1 a2 a3 a4 ∧ P4 a0 a1 a2 a3 a4 ∧ P5 a0 a1 a2 a3 a4 ∧ P6 a0 a1 a2 a3 a4 ∧ P7 a0 a1 a2 a3 a4) (k : ∀ a0 a1 a2 a3 a4, P0 a0 a1 a2 a3 a4 → P1 a0 a1 a2 a3 a4 → P2 a0 a1 a2 a3 a4 → P3 a0 a1 a2 a3 a4 → P4 a0 a1 a2 a3 a4 → P5 a0 a1 a2 a3 a4 → P6 a0 a1 a2 a3 a4 → P7 a0 a1 a2 a3 a4 → G) : G := by
  obtain ⟨a0, a1, a2, a3, a4, h0, h1, h2, h3, h4, h5, h6, h7⟩ := h
  exact k a0 a1 a2 a3 a4 h0 h1 h2 h3 h4 h5 h6 h7
theorem exand5_9 {A0 A1 A2 A3 A4 : Type} {P0 P1 P2 P3 P4 P5 P6 P7 P8 : A0 → A1 → A2 → A3 → A4 → Prop} {G : Prop} (h : ∃ a0 a1 a2 a3 a4, P0 a0 a1 a2 a3 a4 ∧ P1 a0 a1 a2 a3 a4 ∧ P2 a0 a1 a2 a3 a4 ∧ P3 a0 a1 a2 a3 a4 ∧ P4 a0 a1 a2 a3 a4 ∧ P5 a0 a1 a2 a3 a4 ∧ P6 a0 a1 a2 a3 a4 ∧ P7 a0 a1 a2 a3 a4 ∧ P8 a0 a1 a2 a3 a4) (k : ∀ a0 a1 a2 a3 a4, P0 a0 a1 a2 a3 a4 → P1 a0 a1 a2 a3 a4 → P2 a0 a1 a2 a3 a4 → P3 a0 a1 a2 a3 a4 → P4 a0 a1 a2 a3 a4 → P5 a0 a1 a2 a3 a4 → P6 a0 a1 a2 a3 a4 → P7 a0 a1 a2 a3 a4 → P8 a0 a1 a2 a3 a4 → G) : G := by
  obtain ⟨a0, a1, a2, a3, a4, h0, h1, h2, h3, h4, h5, h6, h7, h8⟩ := h
  exact k a0 a1 a2 a3 a4 h0 h1 h2 h3 h4 h5 h6 h7 h8
theorem exand6_2 {A0 A1 A2 A3 A4 A5 : Type} {P0 P1 : A0 → A1 → A2 → A3 → A4 → A5 → Prop} {G : Prop} (h : ∃ a0 a1 a2 a3 a4 a5, P0 a0 a1 a2 a3 a4 a5 ∧ P1 a0 a1 a2 a3 a4 a5) (k : ∀ a0 a1 a2 a3 a4 a5, P0 a0 a1 a2 a3 a4 a5 → P1 a0 a1 a2 a3 a4 a5 → G) : G := by
  obtain ⟨a0, a1, a2, a3, a4, a5, h0, h1⟩ := h
  exact k a0 a1 a2 a3 a4 a5 h0 h1
theorem exand6_3 {A0 A1 A2 A3 A4 A5 : Type} {P0 P1 P2 : A0 → A1 → A2 → A3 → A4 → A5 → Prop} {G : Prop} (h : ∃ a0 a1 a2 a3 a4 a5, P0 a0 a1 a2 a3 a4 a5 ∧ P1 a0 a1 a2 a3 a4 a5 ∧ P2 a0 a1 a2 a3 a4 a5) (k : ∀ a0 a1 a2 a3 a4 a5, P0 a0 a1 a2 a3 a4 a5 → P1 a0 a1 a2 a3 a4 a5 → P2 a0 a1 a2 a3 a4 a5 → G) : G := by
  obtain ⟨a0, a1, a2, a3, a4, a5, h0, h1, h2⟩ := h
  exact k a0 a1 a2 a3 a4 a5 h0 h1 h2
theorem exand6_4 {A0 A1 A2 A3 A4 A5 : Type} {P0 P1 P2 P3 : A0 → A1 → A2 → A3 → A4 → A5 → Prop} {G : Prop} (h : ∃ a0 a1 a2 a3 a4 a5, P0 a0 a1 a2 a3 a4 a5 ∧ P1 a0 a1 a2 a3 a4 a5 ∧ P2 a0 a1 a2 a3 a4 a5 ∧ P3 a0 a1 a2 a3 a4 a5) (k : ∀ a0 a1 a2 a3 a4 a5, P0 a0 a1 a2 a3 a4 a5 → P1 a0 a1 a2 a3 a4 a5 → P2 a0 a1 a2 a3 a4 a5 → P3 a0 a1 a2 a3 a4 a5 → G) : G := by
  obtain ⟨a0, a1, a2, a3, a4, a5, h0, h1, h2, h3⟩ := h
  exact k a0 a1 a2 a3 a4 a5 h0 h1 h2 h3
theorem exand6_6 {A0 A1 A2 A3 A4 A5 : Type} {P0 P1 P2 P3 P4 P5 : A0 → A1 → A2 → A3 → A4 → A5 → Prop} {G : Prop} (h : ∃ a0 a1 a2 a3 a4 a5, P0 a0 a1 a2 a3 a4 a5 ∧ P1 a0 a1 a2 a3 a4 a5 ∧ P2 a0 a1 a2 a3 a4 a5 ∧ P3 a0 a1 a2 a3 a4 a5 ∧ P4 a0 a1 a2 a3 a4 a5 ∧ P5 a0 a1 a2 a3 a4 a5) (k : ∀ a0 a1 a2 a3 a4 a5, P0 a0 a1 a2 a3 a4 a5 → P1 a0 a1 a2 a3 a4 a5 → P2 a0 a1 a2 a3 a4 a5 → P3 a0 a1 a2 a3 a4 a5 → P4 a0 a1 a2 a3 a4 a5 → P5 a0 a1 a2 a3 a4 a5 → G) : G := by
  obtain ⟨a0, a1, a2, a3, a4, a5, h0, h1, h2, h3, h4, h5⟩ := h
  exact k a0 a1 a2 a3 a4 a5 h0 h1 h2 h3 h4 h5
theorem exand6_10 {A0 A1 A2 A3 A4 A5 : Type} {P0 P1 P2 P3 P4 P5 P6 P7 P8 P9 : A0 → A1 → A2 → A3 → A4 → A5 → Prop} {G : Prop} (h : ∃ a0 a1 a2 a3 a4 a5, P0 a0 a1 a2 a3 a4 a5 ∧ P1 a0 a1 a2 a3 a4 a5 ∧ P2 a0 a1 a2 a3 a4 a5 ∧ P3 a0 a1 a2 a3 a4 a5 ∧ P4 a0 a1 a2 a3 a4 a5 ∧ P5 a0 a1 a2 a3 a4 a5 ∧ P6 a0 a1 a2 a3 a4 a5 ∧ P7 a0 a1 a2 a3 a4 a5 ∧ P8 a0 a1 a2 a3 a4 a5 ∧ P9 a0 a1 a2 a3 a4 a5) (k : ∀ a0 a1 a2 a3 a4 a5, P0 a0 a1 a2 a3 a4 a5 → P1 a0 a1 a2 a3 a4 a5 → P2 a0 a1 a2 a3 a4 a5 → P3 a0 a1 a2 a3 a4 a5 → P4 a0 a1 a2 a3 a4 a5 → P5 a0 a1 a2 a3 a4 a5 → P6 a0 a1 a2 a3 a4 a5 → P7 a0 a1 a2 a3 a4 a5 → P8 a0 a1 a2 a3 a4 a5 → P9 a0 a1 a2 a3 a4 a5 → G) : G := by
  obtain ⟨a0, a1, a2, a3, a4, a5, h0, h1, h2, h3, h4, h5, h6, h7, h8, h9⟩ := h
  exact k a0 a1 a2 a3 a4 a5 h0 h1 h2 h3 h4 h5 h6 h7 h8 h9
theorem exand7_2 {A0 A1 A2 A3 A4 A5 A6 : Type} {P0 P1 : A0 → A1 → A2 → A3 → A4 → A5 → A6 → Prop} {G : Prop} (h : ∃ a0 a1 a2 a3 a4 a5 a6, P0 a0 a1 a2 a3 a4 a5 a6 ∧ P1 a0 a1 a2 a3 a4 a5 a6) (k : ∀ a0 a1 a2 a3 a4 a5 a6, P0 a0 a1 a2 a3 a4 a5 a6 → P1 a0 a1 a2 a3 a4 a5 a6 → G) : G := by
  obtain ⟨a0, a1, a2, a3, a4, a5, a6, h0, h1⟩ := h
  exact k a0 a1 a2 a3 a4 a5 a6 h0 h1
theorem exand7_6 {A0 A1 A2 A3 A4 A5 A6 : Type} {P0 P1 P2 P3 P4 P5 : A0 → A1 → A2 → A3 → A4 → A5 → A6 → Prop} {G : Prop} (h : ∃ a0 a1 a2 a3 a4 a5 a6, P0 a0 a1 a2 a3 a4 a5 a6 ∧ P1 a0 a1 a2 a3 a4 a5 a6 ∧ P2 a0 a1 a2 a3 a4 a5 a6 ∧ P3 a0 a1 a2 a3 a4 a5 a6 ∧ P4 a0 a1 a2 a3 a4 a5 a6 ∧ P5 a0 a1 a2 a3 a4 a5 a6) (k : ∀ a0 a1 a2 a3 a4 a5 a6, P0 a0 a1 a2 a3 a4 a5 a6 → P1 a0 a1 a2 a3 a4 a5 a6 → P2 a0 a1 a2 a3 a4 a5 a6 → P3 a0 a1 a2 a3 a4 a5 a6 → P4 a0 a1 a2 a3 a4 a5 a6 → P5 a0 a1 a2 a3 a4 a5 a6 → G) : G := by
  obtain ⟨a0, a1, a2, a3, a4, a5, a6, h0, h1, h2, h3, h4, h5⟩ := h
  exact k a0 a1 a2 a3 a4 a5 a6 h0 h1 h2 h3 h4 h5
theorem exand8_4 {A0 A1 A2 A3 A4 A5 A6 A7 : Type} {P0 P1 P2 P3 : A0 → A1 → A2 → A3 → A4 → A5 → A6 → A7 → Prop} {G : Prop} (h : ∃ a0 a1 a2 a3 a4 a5 a6 a7, P0 a0 a1 a2 a3 a4 a5 a6 a7 ∧ P1 a0 a1 a2 a3 a4 a5 a6 a7 ∧ P2 a0 a1 a2 a3 a4 a5 a6 a7 ∧ P3 a0 a1 a2 a3 a4 a5 a6 a7) (k : ∀ a0 a1 a2 a3 a4 a5 a6 a7, P0 a0 a1 a2 a3 a4 a5 a6 a7 → P1 a0 a1 a2 a3 a4 a5 a6 a7 → P2 a0 a1 a2 a3 a4 a5 a6 a7 → P3 a0 a1 a2 a3 a4 a5 a6 a7 → G) : G := by
  obtain ⟨a0, a1, a2, a3, a4, a5, a6, a7, h0, h1, h2, h3⟩ := h
  exact k a0 a1 a2 a3 a4 a5 a6 a7 h0 h1 h2 h3
theorem exand8_8 {A0 A1 A2 A3 A4 A5 A6 A7 : Type} {P0 P1 P2 P3 P4 P5 P6 P7 : A0 → A1 → A2 → A3 → A4 → A5 → A6 → A7 → Prop} {G : Prop} (h : ∃ a0 a1 a2 a3 a4 a5 a6 a7, P0 a0 a1 a2 a3 a4 a5 a6 a7 ∧ P1 a0 a1 a2 a3 a4 a5 a6 a7 ∧ P2 a0 a1 a2 a3 a4 a5 a6 a7 ∧ P3 a0 a1 a2 a3 a4 a5 a6 a7 ∧ P4 a0 a1 a2 a3 a4 a5 a6 a7 ∧ P5 a0 a1 a2 a3 a4 a5 a6 a7 ∧ P6 a0 a1 a2 a3 a4 a5 a6 a7 ∧ P7 a0 a1 a2 a3 a4 a5 a6 a7) (k : ∀ a0 a1 a2 a3 a4 a5 a6 a7, P0 a0 a1 a2 a3 a4 a5 a6 a7 → P1 a0 a1 a2 a3 a4 a5 a6 a7 → P2 a0 a1 a2 a3 a4 a5 a6 a7 → P3 a0 a1 a2 a3 a4 a5 a6 a7 → P4 a0 a1 a2 a3 a4 a5 a6 a7 → P5 a0 a1 a2 a3 a4 a5 a6 a7 → P6 a0 a1 a2 a3 a4 a5 a6 a7 → P7 a0 a1 a2 a3 a4 a5 a6 a7 → G) : G := by
  obtain ⟨a0, a1, a2, a3, a4, a5, a6, a7, h0, h1, h2, h3, h4, h5, h6, h7⟩ := h
  exact k a0 a1 a2 a3 a4 a5 a6 a7 h0 h1 h2 h3 h4 h5 h6 h7
theorem exand8_10 {A0 A1 A2 A3 A4 A5 A6 A7 : Type} {P0 P1 P2 P3 P4 P5 P6 P7 P8 P9 : A0 → A1 → A2 → A3 → A4 → A5 → A6 → A7 → Prop} {G : Prop} (h : ∃ a0 a1 a2 a3 a4 a5 a6 a7, P0 a0 a1 a2 a3 a4 a5 a6 a7 ∧ P1 a0 a1 a2 a3 a4 a5 a6 a7 ∧ P2 a0 a1 a2 a3 a4 a5 a6 a7 ∧ P3 a0 a1 a2 a3 a4 a5 a6 a7 ∧ P4 a0 a1 a2 a3 a4 a5 a6 a7 ∧ P5 a0 a1 a2 a3 a4 a5 a6 a7 ∧ P6 a0 a1 a2 a3 a4 a5 a6 a7 ∧ P7 a0 a1 a2 a3 a4 a5 a6 a7 ∧ P8 a0 a1 a2 a3 a4 a5 a6 a7 ∧ P9 a0 a1 a2 a3 a4 a5 a6 a7) (k : ∀ a0 a1 a2 a3 a4 a5 a6 a7, P0 a0 a1 a2 a3 a4 a5 a6 a7 → P1 a0 a1 a2 a3 a4 a5 a6 a7 → P2 a0 a1 a2 a3 a4 a5 a6 a7 → P3 a0 a1 a2 a3 a4 a5 a6 a7 → P4 a0 a1 a2 a3 a4 a5 a6 a7 → P5 a0 a1 a2 a3 a4 a5 a6 a7 → P6 a0 a1 a2 a3 a4 a5 a6 a7 → P7 a0 a1 a2 a3 a4 a5 a6 a7 → P8 a0 a1 a2 a3 a4 a5 a6 a7 → P9 a0 a1 a2 a3 a4 a5 a6 a7 → G) : G := by
  obtain ⟨a0, a1, a2, a3, a4, a5, a6, a7, h0, h1, h2, h3, h4, h5, h6, h7, h8, h9⟩ := h
  exact k a0 a1 a2 a3 a4 a5 a6 a7 h0 h1 h2 h3 h4 h5 h6 h7 h8 h9
theorem exand9_1 {A0 A1 A2 A3 A4 A5 A6 A7 A8 : Type} {P0 : A0 → A1 → A2 → A3 → A4 → A5 → A6 → A7 → A8 → Prop} {G : Prop} (h : ∃ a0 a1 a2 a3 a4 a5 a6 a7 a8, P0 a0 a1 a2 a3 a4 a5 a6 a7 a8) (k : ∀ a0 a1 a2 a3 a4 a5 a6 a7 a8, P0 a0 a1 a2 a3 a4 a5 a6 a7 a8 → G) : G := by
  obtain ⟨a0, a1, a2, a3, a4, a5, a6, a7, a8, h0⟩ := h
  exact k a0 a1 a2 a3 a4 a5 a6 a7 a8 h0
theorem exand11_7 {A0 A1 A2 A3 A4 A5 A6 A7 A8 A9 A10 : Type} {P0 P1 P2 P3 P4 P5 P6 : A0 → A1 → A2 → A3 → A4 → A5 → A6 → A7 → A8 → A9 → A10 → Prop} {G : Prop} (h : ∃ a0 a1 a2 a3 a4 a5 a6 a7 a8 a9 a10, P0 a0 a1 a2 a3 a4 a5 a6 a7 a8 a9 a10 ∧ P1 a0 a1 a2 a3 a4 a5 a6 a7 a8 a9 a10 ∧ P2 a0 a1 a2 a3 a4 a5 a6 a7 a8 a9 a10 ∧ P3 a0 a1 a2 a3 a4 a5 a6 a7 a8 a9 a10 ∧ P4 a0 a1 a2 a3 a4 a5 a6 a7 a8 a9 a10 ∧ P5 a0 a1 a2 a3 a4 a5 a6 a7 a8 a9 a10 ∧ P6 a0 a1 a2 a3 a4 a5 a6 a7 a8 a9 a10) (k : ∀ a0 a1 a2 a3 a4 a5 a6 a7 a8 a9 a10, P0 a0 a1 a2 a3 a4 a5 a6 a7 a8 a9 a10 → P1 a0 a1 a2 a3 a4 a5 a6 a7 a8 a9 a10 → P2 a0 a1 a2 a3 a4 a5 a6 a7 a8 a9 a10 → P3 a0 a1 a2 a3 a4 a5 a6 a7 a8 a9 a10 → P4 a0 a1 a2 a3 a4 a5 a6 a7 a8 a9 a10 → P5 a0 a1 a2 a3 a4 a5 a6 a7 a8 a9 a10 → P6 a0 a1 a2 a3 a4 a5 a6 a7 a8 a9 a10 → G) : G := by
  obtain ⟨a0, a1, a2, a3, a4, a5, a6, a7, a8, a9, a10, h0, h1, h2, h3, h4, h5, h6⟩ := h
  exact k a0 a1 a2 a3 a4 a5 a6 a7 a8 a9 a10 h0 h1 h2 h3 h4 h5 h6
theorem exand12_1 {A0 A1 A2 A3 A4 A5 A6 A7 A8 A9 A10 A11 : Type} {P0 : A0 → A1 → A2 → A3 → A4 → A5 → A6 → A7 → A8 → A9 → A10 → A11 → Prop} {G : Prop} (h : ∃ a0 a1 a2 a3 a4 a5 a6 a7 a8 a9 a10 a11, P0 a0 a1 a2 a3 a4 a5 a6 a7 a8 a9 a10 a11) (k : ∀ a0 a1 a2 a3 a4 a5 a6 a7 a8 a9 a10 a11, P0 a0 a1 a2 a3 a4 a5 a6 a7 a8 a9 a10 a11 → G) : G := by
  obtain ⟨a0, a1, a2, a3, a4, a5, a6, a7, a8, a9, a10, a11, h0⟩ := h
  exact k a0 a1 a2 a3 a4 a5 a6 a7 a8 a9 a10 a11 h0
theorem exand9_11 {A0 A1 A2 A3 A4 A5 A6 A7 A8 : Type} {P0 P1 P2 P3 P4 P5 P6 P7 P8 P9 P10 : A0 → A1 → A2 → A3 → A4 → A5 → A6 → A7 → A8 → Prop} {G : Prop} (h : ∃ a0 a1 a2 a3 a4 a5 a6 a7 a8, P0 a0 a1 a2 a3 a4 a5 a6 a7 a8 ∧ P1 a0 a1 a2 a3 a4 a5 a6 a7 a8 ∧ P2 a0 a1 a2 a3 a4 a5 a6 a7 a8 ∧ P3 a0 a1 a2 a3 a4 a5 a6 a7 a8 ∧ P4 a0 a1 a2 a3 a4 a5 a6 a7 a8 ∧ P5 a0 a1 a2 a3 a4 a5 a6 a7 a8 ∧ P6 a0 a1 a2 a3 a4 a5 a6 a7 a8 ∧ P7 a0 a1 a2 a3 a4 a5 a6 a7 a8 ∧ P8 a0 a1 a2 a3 a4 a5 a6 a7 a8 ∧ P9 a0 a1 a2 a3 a4 a5 a6 a7 a8 ∧ P10 a0 a1 a2 a3 a4 a5 a6 a7 a8) (k : ∀ a0 a1 a2 a3 a4 a5 a6 a7 a8, P0 a0 a1 a2 a3 a4 a5 a6 a7 a8 → P1 a0 a1 a2 a3 a4 a5 a6 a7 a8 → P2 a0 a1 a2 a3 a4 a5 a6 a7 a8 → P3 a0 a1 a2 a3 a4 a5 a6 a7 a8 → P4 a0 a1 a2 a3 a4 a5 a6 a7 a8 → P5 a0 a1 a2 a3 a4 a5 a6 a7 a8 → P6 a0 a1 a2 a3 a4 a5 a6 a7 a8 → P7 a0 a1 a2 a3 a4 a5 a6 a7 a8 → P8 a0 a1 a2 a3 a4 a5 a6 a7 a8 → P9 a0 a1 a2 a3 a4 a5 a6 a7 a8 → P10 a0 a1 a2 a3 a4 a5 a6 a7 a8 → G) : G := by
  obtain ⟨a0, a1, a2, a3, a4, a5, a6, a7, a8, h0, h1, h2, h3, h4, h5, h6, h7, h8, h9, h10⟩ := h
  exact k a0 a1 a2 a3 a4 a5 a6 a7 a8 h0 h1 h2 h3 h4 h5 h6 h7 h8 h9 h10
theorem exand9_13 {A0 A1 A2 A3 A4 A5 A6 A7 A8 : Type} {P0 P1 P2 P3 P4 P5 P6 P7 P8 P9 P10 P11 P12 : A0 → A1 → A2 → A3 → A4 → A5 → A6 → A7 → A8 → Prop} {G : Prop} (h : ∃ a0 a1 a2 a3 a4 a5 a6 a7 a8, P0 a0 a1 a2 a3 a4 a5 a6 a7 a8 ∧ P1 a0 a1 a2 a3 a4 a5 a6 a7 a8 ∧ P2 a0 a1 a2 a3 a4 a5 a6 a7 a8 ∧ P3 a0 a1 a2 a3 a4 a5 a6 a7 a8 ∧ P4 a0 a1 a2 a3 a4 a5 a6 a7 a8 ∧ P5 a0 a1 a2 a3 a4 a5 a6 a7 a8 ∧ P6 a0 a1 a2 a3 a4 a5 a6 a7 a8 ∧ P7 a0 a1 a2 a3 a4 a5 a6 a7 a8 ∧ P8 a0 a1 a2 a3 a4 a5 a6 a7 a8 ∧ P9 a0 a1 a2 a3 a4 a5 a6 a7 a8 ∧ P10 a0 a1 a2 a3 a4 a5 a6 a7 a8 ∧ P11 a0 a1 a2 a3 a4 a5 a6 a7 a8 ∧ P12 a0 a1 a2 a3 a4 a5 a6 a7 a8) (k : ∀ a0 a1 a2 a3 a4 a5 a6 a7 a8, P0 a0 a1 a2 a3 a4 a5 a6 a7 a8 → P1 a0 a1 a2 a3 a4 a5 a6 a7 a8 → P2 a0 a1 a2 a3 a4 a5 a6 a7 a8 → P3 a0 a1 a2 a3 a4 a5 a6 a7 a8 → P4 a0 a1 a2 a3 a4 a5 a6 a7 a8 → P5 a0 a1 a2 a3 a4 a5 a6 a7 a8 → P6 a0 a1 a2 a3 a4 a5 a6 a7 a8 → P7 a0 a1 a2 a3 a4 a5 a6 a7 a8 → P8 a0 a1 a2 a3 a4 a5 a6 a7 a8 → P9 a0 a1 a2 a3 a4 a5 a6 a7 a8 → P10 a0 a1 a2 a3 a4 a5 a6 a7 a8 → P11 a0 a1 a2 a3 a4 a5 a6 a7 a8 → P12 a0 a1 a2 a3 a4 a5 a6 a7 a8 → G) : G := by
  obtain ⟨a0, a1, a2, a3, a4, a5, a6, a7, a8, h0, h1, h2, h3, h4, h5, h6, h7, h8, h9, h10, h11, h12⟩ := h
  exact k a0 a1 a2 a3 a4 a5 a6 a7 a8 h0 h1 h2 h3 h4 h5 h6 h7 h8 h9 h10 h11 h12
theorem exand18_11 {A0 A1 A2 A3 A4 A5 A6 A7 A8 A9 A10 A11 A12 A13 A14 A15 A16 A17 : Type} {P0 P1 P2 P3 P4 P5 P6 P7 P8 P9 P10 : A0 → A1 → A2 → A3 → A4 → A5 → A6 → A7 → A8 → A9 → A10 → A11 → A12 → A13 → A14 → A15 → A16 → A17 → Prop} {G : Prop} (h : ∃ a0 a1 a2 a3 a4 a5 a6 a7 a8 a9 a10 a11 a12 a13 a14 a15 a16 a17, P0 a0 a1 a2 a3 a4 a5 a6 a7 a8 a9 a10 a11 a12 a13 a14 a15 a16 a17 ∧ P1 a0 a1 a2 a3 a4 a5 a6 a7 a8 a9 a10 a11 a12 a13 a14 a15 a16 a17 ∧ P2 a0 a1 a2 a3 a4 a5 a6 a7 a8 a9 a10 a11 a12 a13 a14 a15 a16 a17 ∧ P3 a0 a1 a2 a3 a4 a5 a6 a7 a8 a9 a10 a11 a12 a13 a14 a15 a16 a17 ∧ P4 a0 a1 a2 a3 a4 a5 a6 a7 a8 a9 a10 a11 a12 a13 a14 a15 a16 a17 ∧ P5 a0 a1 a2 a3 a4 a5 a6 a7 a8 a9 a10 a11 a12 a13 a14 a15 a16 a17 ∧ P6 a0 a1 a2 a3 a4 a5 a6 a7 a8 a9 a10 a11 a12 a13 a14 a15 a16 a17 ∧ P7 a0 a1 a2 a3 a4 a5 a6 a7 a8 a9 a10 a11 a12 a13 a14 a15 a16 a17 ∧ P8 a0 a1 a2 a3 a4 a5 a6 a7 a8 a9 a10 a11 a12 a13 a14 a15 a16 a17 ∧ P9 a0 a1 a2 a3 a4 a5 a6 a7 a8 a9 a10 a11 a12 a13 a14 a15 a16 a17 ∧ P10 a0 a1 a2 a3 a4 a5 a6 a7 a8 a9 a10 a11 a12 a13 a14 a15 a16 a17) (k : ∀ a0 a1 a2 a3 a4 a5 a6 a7 a8 a9 a10 a11 a12 a13 a14 a15 a16 a17, P0 a0 a1 a2 a3 a4 a5 a6 a7 a8 a9 a10 a11 a12 a13 a14 a15 a16 a17 → P1 a0 a1 a2 a3 a4 a5 a6 a7 a8 a9 a10 a11 a12 a13 a14 a15 a16 a17 → P2 a0 a1 a2 a3 a4 a5 a6 a7 a8 a9 a10 a11 a12 a13 a14 a15 a16 a17 → P3 a0 a1 a2 a3 a4 a5 a6 a7 a8 a9 a10 a11 a12 a13 a14 a15 a16 a17 → P4 a0 a1 a2 a3 a4 a5 a6 a7 a8 a9 a10 a11 a12 a13 a14 a15 a16 a17 → P5 a0 a1 a2 a3 a4 a5 a6 a7 a8 a9 a10 a11 a12 a13 a14 a15 a16 a17 → P6 a0 a1 a2 a3 a4 a5 a6 a7 a8 a9 a10 a11 a12 a13 a14 a15 a16 a17 → P7 a0 a1 a2 a3 a4 a5 a6 a7 a8 a9 a10 a11 a12 a13 a14 a15 a16 a17 → P8 a0 a1 a2 a3 a4 a5 a6 a7 a8 a9 a10 a11 a12 a13 a14 a15 a16 a17 → P9 a0 a1 a2 a3 a4 a5 a6 a7 a8 a9 a10 a11 a12 a13 a14 a15 a16 a17 → P10 a0 a1 a2 a3 a4 a5 a6 a7 a8 a9 a10 a11 a12 a13 a14 a15 a16 a17 → G) : G :=
  exand9_1 h fun a0 a1 a2 a3 a4 a5 a6 a7 a8 h9 => exand9_11 h9 fun a9 a10 a11 a12 a13 a14 a15 a16 a17 h0 h1 h2 h3 h4 h5 h6 h7 h8 h9 h10 => k a0 a1 a2 a3 a4 a5 a6 a7 a8 a9 a10 a11 a12 a13 a14 a15 a16 a17 h0 h1 h2 h3 h4 h5 h6 h7 h8 h9 h10
theorem exand21_13 {A0 A1 A2 A3 A4 A5 A6 A7 A8 A9 A10 A11 A12 A13 A14 A15 A16 A17 A18 A19 A20 : Type} {P0 P1 P2 P3 P4 P5 P6 P7 P8 P9 P10 P11 P12 : A0 → A1 → A2 → A3 → A4 → A5 → A6 → A7 → A8 → A9 → A10 → A11 → A12 → A13 → A14 → A15 → A16 → A17 → A18 → A19 → A20 → Prop} {G : Prop} (h : ∃ a0 a1 a2 a3 a4 a5 a6 a7 a8 a9 a10 a11 a12 a13 a14 a15 a16 a17 a18 a19 a20, P0 a0 a1 a2 a3 a4 a5 a6 a7 a8 a9 a10 a11 a12 a13 a14 a15 a16 a17 a18 a19 a20 ∧ P1 a0 a1 a2 a3 a4 a5 a6 a7 a8 a9 a10 a11 a12 a13 a14 a15 a16 a17 a18 a19 a20 ∧ P2 a0 a1 a2 a3 a4 a5 a6 a7 a8 a9 a10 a11 a12 a13 a14 a15 a16 a17 a18 a19 a20 ∧ P3 a0 a1 a2 a3 a4 a5 a6 a7 a8 a9 a10 a11 a12 a13 a14 a15 a16 a17 a18 a19 a20 ∧ P4 a0 a1 a2 a3 a4 a5 a6 a7 a8 a9 a10 a11 a12 a13 a14 a15 a16 a17 a18 a19 a20 ∧ P5 a0 a1 a2 a3 a4 a5 a6 a7 a8 a9 a10 a11 a12 a13 a14 a15 a16 a17 a18 a19 a20 ∧ P6 a0 a1 a2 a3 a4 a5 a6 a7 a8 a9 a10 a11 a12 a13 a14 a15 a16 a17 a18 a19 a20 ∧ P7 a0 a1 a2 a3 a4 a5 a6 a7 a8 a9 a10 a11 a12 a13 a14 a15 a16 a17 a18 a19 a20 ∧ P8 a0 a1 a2 a3 a4 a5 a6 a7 a8 a9 a10 a11 a12 a13 a14 a15 a16 a17 a18 a19 a20 ∧ P9 a0 a1 a2 a3 a4 a5 a6 a7 a8 a9 a10 a11 a12 a13 a14 a15 a16 a17 a18 a19 a20 ∧ P10 a0 a1 a2 a3 a4 a5 a6 a7 a8 a9 a10 a11 a12 a13 a14 a15 a16 a17 a18 a19 a20 ∧ P11 a0 a1 a2 a3 a4 a5 a6 a7 a8 a9 a10 a11 a12 a13 a14 a15 a16 a17 a18 a19 a20 ∧ P12 a0 a1 a2 a3 a4 a5 a6 a7 a8 a9 a10 a11 a12 a13 a14 a15 a16 a17 a18 a19 a20) (k : ∀ a0 a1 a2 a3 a4 a5 a6 a7 a8 a9 a10 a11 a12 a13 a14 a15 a16 a17 a18 a19 a20, P0 a0 a1 a2 a3 a4 a5 a6 a7 a8 a9 a10 a11 a12 a13 a14 a15 a16 a17 a18 a19 a20 → P1 a0 a1 a2 a3 a4 a5 a6 a7 a8 a9 a10 a11 a12 a13 a14 a15 a16 a17 a18 a19 a20 → P2 a0 a1 a2 a3 a4 a5 a6 a7 a8 a9 a10 a11 a12 a13 a14 a15 a16 a17 a18 a19 a20 → P3 a0 a1 a2 a3 a4 a5 a6 a7 a8 a9 a10 a11 a12 a13 a14 a15 a16 a17 a18 a19 a20 → P4 a0 a1 a2 a3 a4 a5 a6 a7 a8 a9 a10 a11 a12 a13 a14 a15 a16 a17 a18 a19 a20 → P5 a0 a1 a2 a3 a4 a5 a6 a7 a8 a9 a10 a11 a12 a13 a14 a15 a16 a17 a18 a19 a20 → P6 a0 a1 a2 a3 a4 a5 a6 a7 a8 a9 a10 a11 a12 a13 a14 a15 a16 a17 a18 a19 a20 → P7 a0 a1 a2 a3 a4 a5 a6 a7 a8 a9 a10 a11 a12 a13 a14 a15 a16 a17 a18 a19 a20 → P8 a0 a1 a2 a3 a4 a5 a6 a7 a8 a9 a10 a11 a12 a13 a14 a15 a16 a17 a18 a19 a20 → P9 a0 a1 a2 a3 a4 a5 a6 a7 a8 a9 a10 a11 a12 a13 a14 a15 a16 a17 a18 a19 a20 → P10 a0 a1 a2 a3 a4 a5 a6 a7 a8 a9 a10 a11 a12 a13 a14 a15 a16 a17 a18 a19 a20 → P11 a0 a1 a2 a3 a4 a5 a6 a7 a8 a9 a10 a11 a12 a13 a14 a15 a16 a17 a18 a19 a20 → P12 a0 a1 a2 a3 a4 a5 a6 a7 a8 a9 a10 a11 a12 a13 a14 a15 a16 a17 a18 a19 a20 → G) : G :=
  exand12_1 h fun a0 a1 a2 a3 a4 a5 a6 a7 a8 a9 a10 a11 h9 => exand9_13 h9 fun a12 a13 a14 a15 a16 a17 a18 a19 a20 h0 h1 h2 h3 h4 h5 h6 h7 h8 h9 h10 h11 h12 => k a0 a1 a2 a3 a4 a5 a6 a7 a8 a9 a10 a11 a12 a13 a14 a15 a16 a17 a18 a19 a20 h0 h1 h2 h3 h4 h5 h6 h7 h8 h9 h10 h11 h12
end
example {prog : Program} {w : World} {A : Around} {env : Env} {Q : Flow → Shared → Prop} {E : Value → Shared → Prop} {s : Shared} (h : Q .next s) : wpAny (model prog w) A (execs [] env) Q E s := by
  w_top off
  walk1
  exact h
section
theorem pif {y c : Str} {o a b : Option Value} (h : ¬ y = c → a = b) : (if y = c then o else a) = (if y = c then o else b) := by
  by_cases e : y = c
  · rw [if_pos e, if_pos e]
  · rw [if_neg e, if_neg e, h e]
theorem pgo {y c : Str} {o a b : Option Value} (h : ¬ y = c) (e : a = b) : (if y = c then o else a) = b := (if_neg h).trans e
/-! the walk's steps with the state written out: no tower of fields -/
section
variable {prog : Program} {w : World} {A : Around} {E : Value → Shared → Prop} {h : Heap} {g : Array GenState} {d : Drawn} {T : Nat} {o : OsState} {a b n : Int} {t u : Tok} {Q : Value → Shared → Prop}
theorem add_N (k : Q (.int (a + b) T) ⟨h, g, d, T.succ, o⟩) : wpAny (model prog w) A (binaryOp .Add (.int a t) (.int b u)) Q E ⟨h, g, d, T, o⟩ := add_int k
theorem sub_N (k : Q (.int (a - b) T) ⟨h, g, d, T.succ, o⟩) : wpAny (model prog w) A (binaryOp .Sub (.int a t) (.int b u)) Q E ⟨h, g, d, T, o⟩ := sub_int k
theorem iadd_N (k : Q (.int (a + b) T) ⟨h, g, d, T.succ, o⟩) : wpAny (model prog w) A (inplaceOp .Add (.int a t) (.int b u)) Q E ⟨h, g, d, T, o⟩ := iadd_int k
theorem isub_N (k : Q (.int (a - b) T) ⟨h, g, d, T.succ, o⟩) : wpAny (model prog w) A (inplaceOp .Sub (.int a t) (.int b u)) Q E ⟨h, g, d, T, o⟩ := isub_int k
theorem or_N (k : Q (.int (Builtin.bitOr a b) T) ⟨h, g, d, T.succ, o⟩) : wpAny (model prog w) A (binaryOp .BitOr (.int a t) (.int b u)) Q E ⟨h, g, d, T, o⟩ := or_int k
theorem and_N (k : Q (.int (Builtin.bitAnd a b) T) ⟨h, g, d, T.succ, o⟩) : wpAny (model prog w) A (binaryOp .BitAnd (.int a t) (.int b u)) Q E ⟨h, g, d, T, o⟩ := and_int k
theorem xor_N (k : Q (.int (Builtin.bitXor a b) T) ⟨h, g, d, T.succ, o⟩) : wpAny (model prog w) A (binaryOp .BitXor (.int a t) (.int b u)) Q E ⟨h, g, d, T, o⟩ := xor_int k
theorem neg_N (k : Q (.int (-a) T) ⟨h, g, d, T.succ, o⟩) : wpAny (model prog w) A (unaryOp .USub (.int a t)) Q E ⟨h, g, d, T, o⟩ := neg_int k
theorem mul_N (k : Q (.int (a * b) T) ⟨h, g, d, T.succ, o⟩) (hm : IntMulOk a b) : wpAny (model prog w) A (binaryOp .Mult (.int a t) (.int b u)) Q E ⟨h, g, d, T, o⟩ := mul_int k hm
theorem lshift_N (hn : 0 ≤ n) (hsz : (intBits a : Int) + n ≤ 2 ^ 27) (k : Q (.int (a * 2 ^ n.toNat) T) ⟨h, g, d, T.succ, o⟩) : wpAny (model prog w) A (binaryOp .LShift (.int a t) (.int n u)) Q E ⟨h, g, d, T, o⟩ := lshift_int hn hsz k
theorem ilshift_N (hn : 0 ≤ n) (hsz : (intBits a : Int) + n ≤ 2 ^ 27) (k : Q (.int (a * 2 ^ n.toNat) T) ⟨h, g, d, T.succ, o⟩) : wpAny (model prog w) A (inplaceOp .LShift (.int a t) (.int n u)) Q E ⟨h, g, d, T, o⟩ := ilshift_int hn hsz k
theorem rshift_N (hn : 0 ≤ n) (k : Q (.int (a.fdiv (2 ^ n.toNat)) T) ⟨h, g, d, T.succ, o⟩) : wpAny (model prog w) A (binaryOp .RShift (.int a t) (.int n u)) Q E ⟨h, g, d, T, o⟩ := rshift_int hn k
theorem irshift_N (hn : 0 ≤ n) (k : Q (.int (a.fdiv (2 ^ n.toNat)) T) ⟨h, g, d, T.succ, o⟩) : wpAny (model prog w) A (inplaceOp .RShift (.int a t) (.int n u)) Q E ⟨h, g, d, T, o⟩ := irshift_int hn k
theorem floordiv_N (hb : b ≠ 0) (k : Q (.int (a.fdiv b) T) ⟨h, g, d, T.succ, o⟩) (hp : Builtin.divisionGoesByPylong a b = false ∨ PySem.PylongRoom (model prog w) A ⟨h, g, d, T, o⟩) : wpAny (model prog w) A (binaryOp .FloorDiv (.int a t) (.int b u)) Q E ⟨h, g, d, T, o⟩ := floordiv_int hb k hp
end
section
variable {M : Model} {A : Around} {E : Value → Shared → Prop} {h₀ h : Heap} {g g' : Array GenState} {d d' : Drawn} {T : Nat} {o o' : OsState} {L a : Addr} {m : Str → Option Value} {cn : Str} {cs : Scope} {ccd : Value} {cl : List (Str × Addr)} {news : List (Addr × Obj)} {x : Str} {v : Value} {Q : Unit → Shared → Prop}
theorem storeX_N (F : Fr h₀ L h m) (N : News h₀ L h news) (eg : g' = g) (ed : d' = d) (eo : o' = o)
    (k : ∀ h', Fr h₀ L h' (fun y => if y = x then some v else m y) → News h₀ L h' news → Q () ⟨h', g, d, T.succ, o⟩)
    (hk : cs.kind = .function) (hx : (envX cn cs L a ccd cl).kindOf x = some .local) : wpAny M A (storeName (envX cn cs L a ccd cl) x v) Q E ⟨h, g', d', T, o'⟩ := by
  subst eg ed eo
  exact storeX_L (s := ⟨h, g', d', T, o'⟩) F N k hk hx
theorem turn_N {α : Type} {c : Sem α} {q : α → Shared → Prop} (eg : g' = g) (ed : d' = d) (eo : o' = o) (k : let q := q; wpAny M A c q E ⟨h, g, d, T, o⟩) : wpAny M A c q E ⟨h, g', d', T, o'⟩ := by
  subst eg ed eo
  exact k
end
end
local macro_rules | `(tactic| walk_at $s:str) => `(tactic| k_extra $s)
local macro_rules | `(tactic| k_ne) => `(tactic| (refine neN ?_; (try dsimp only); first | exact Nat.ne_of_gt (by walk_at "MineLt") | exact Nat.ne_of_lt (by walk_at "MineLt") | omega))
section
theorem pow_pos' (n : Nat) : (0 : Int) < 2 ^ n := kbt_pos n
theorem pow_one_le (n : Nat) : (1 : Int) ≤ 2 ^ n := by have := pow_pos' n; omega

theorem bitOr_nat (x y : Nat) : Builtin.bitOr (x : Int) (y : Int) = ((x ||| y : Nat) : Int) := by
  unfold Builtin.bitOr Builtin.bitAnd Builtin.bitNot
  have h1 : decide (0 ≤ -(x : Int) - 1) = false := by simp; omega
  have h2 : decide (0 ≤ -(y : Int) - 1) = false := by simp; omega
  rw [h1, h2]
  dsimp only
  have e1 : (-(-(x : Int) - 1) - 1).toNat = x := by omega
  have e2 : (-(-(y : Int) - 1) - 1).toNat = y := by omega
  rw [e1, e2]
  omega

theorem bitAnd_nat (x y : Nat) : Builtin.bitAnd (x : Int) (y : Int) = ((x &&& y : Nat) : Int) := by
  unfold Builtin.bitAnd
  have h1 : decide (0 ≤ (x : Int)) = true := by simp
  have h2 : decide (0 ≤ (y : Int)) = true := by simp
  rw [h1, h2]
  simp

theorem toNat_pow (n : Nat) : ((2 : Int) ^ n).toNat = 2 ^ n := by
  rw [← kbt_cast]; rfl

/-- or of a shifted number and a small one -/
theorem bitOr_shift {x y : Int} {n : Nat} (hx : 0 ≤ x) (h0 : 0 ≤ y) (h1 : y < 2 ^ n) : Builtin.bitOr (x * 2 ^ n) y = x * 2 ^ n + y := by
  refine Mine.exand1_1 (Int.eq_ofNat_of_zero_le hx) fun a ob19 => ?_
  subst ob19
  refine Mine.exand1_1 (Int.eq_ofNat_of_zero_le h0) fun b ob29 => ?_
  subst ob29
  have hb : b < 2 ^ n := by
    have : (b : Int) < ((2 ^ n : Nat) : Int) := by rw [kbt_cast]; exact h1
    exact Int.ofNat_lt.mp this
  have e : (a : Int) * 2 ^ n = ((2 ^ n * a : Nat) : Int) := by
    rw [Int.natCast_mul, kbt_cast, Int.mul_comm]
  rw [e, bitOr_nat, ← Nat.two_pow_add_eq_or_of_lt hb a]
  simp

theorem and_high (x s : Nat) : x &&& (x / 2 ^ s * 2 ^ s) = x / 2 ^ s * 2 ^ s := by
  apply Nat.eq_of_testBit_eq
  intro i
  rw [Nat.testBit_and, Nat.mul_comm, Nat.testBit_two_pow_mul, Nat.testBit_div_two_pow]
  by_cases h : s ≤ i
  · simp only [h, ge_iff_le, decide_true, Bool.true_and]
    rw [Nat.sub_add_cancel h]; simp
  · simp [h]

/-- xor with the shifted upper part leaves the lower part -/
theorem bitXor_low {x : Int} {s : Nat} (hx : 0 ≤ x) : Builtin.bitXor x (x / 2 ^ s * 2 ^ s) = x % 2 ^ s := by
  refine Mine.exand1_1 (Int.eq_ofNat_of_zero_le hx) fun a ob39 => ?_
  subst ob39
  have e : (a : Int) / 2 ^ s * 2 ^ s = ((a / 2 ^ s * 2 ^ s : Nat) : Int) := by
    rw [Int.natCast_mul, Int.natCast_ediv, kbt_cast]
  rw [bitXor_and, e, bitAnd_nat, and_high, ← e]
  have := Int.mul_ediv_add_emod (a : Int) (2 ^ s)
  rw [Int.mul_comm] at this
  omega

theorem bits_of_lt {x : Int} {m : Nat} (h0 : 0 ≤ x) (h1 : x < 2 ^ m) : intBits x ≤ m := by
  refine intBits_le_iff.mpr ?_
  have h : (x.natAbs : Int) < ((2 ^ m : Nat) : Int) := by rw [kbt_cast]; omega
  exact Int.ofNat_lt.mp h

theorem lt_of_bits {x : Int} {m : Nat} (h : intBits x ≤ m) : x < 2 ^ m := by
  have := intBits_le_iff.mp h
  have h2 : (x.natAbs : Int) < ((2 ^ m : Nat) : Int) := Int.ofNat_lt.mpr this
  rw [kbt_cast] at h2
  omega

theorem fdiv_pow (x : Int) (n : Nat) : x.fdiv (2 ^ n) = x / 2 ^ n := Int.fdiv_eq_ediv_of_nonneg x (Int.le_of_lt (pow_pos' n))

theorem pow_add' (m n : Nat) : (2 : Int) ^ (m + n) = 2 ^ m * 2 ^ n := Int.pow_add 2 m n
theorem pow_le_pow' {m n : Nat} (h : m ≤ n) : (2 : Int) ^ m ≤ 2 ^ n := by
  rw [← kbt_cast, ← kbt_cast]
  exact Int.ofNat_le.mpr (Nat.pow_le_pow_right (by decide) h)

/-! the division of three halves by two -/
section div3
variable {n : Nat} {a12 a3 b b1 b2 : Int}

theorem d3_lt (h1 : 0 ≤ a3) (h3 : a3 < 2 ^ n) (h9 : a12 < b) : a12 * 2 ^ n + a3 < b * 2 ^ n := by
  have hP := pow_pos' n
  have : (a12 + 1) * 2 ^ n ≤ b * 2 ^ n := Int.mul_le_mul_of_nonneg_right (by omega) (Int.le_of_lt hP)
  rw [Int.add_mul] at this
  omega

theorem d3_start1 (h2 : 0 ≤ a3) (h3 : a3 < 2 ^ n) (h4 : b = b1 * 2 ^ n + b2) (hb1 : 0 ≤ b1) (h9 : a12 < b) (h : a12.fdiv (2 ^ n) = b1) :
    (2 ^ n - 1) * b + (Builtin.bitOr ((a12 - b1 * 2 ^ n + b1) * 2 ^ n) a3 - (2 ^ n - 1) * b2) = a12 * 2 ^ n + a3 ∧
      Builtin.bitOr ((a12 - b1 * 2 ^ n + b1) * 2 ^ n) a3 - (2 ^ n - 1) * b2 < b := by
  rw [fdiv_pow] at h
  have hP := pow_pos' n
  have hr : 0 ≤ a12 - b1 * 2 ^ n := by
    have e1 := Int.mul_ediv_add_emod a12 (2 ^ n)
    have := Int.emod_nonneg a12 (Int.ne_of_gt hP)
    rw [h, Int.mul_comm] at e1
    omega
  rw [bitOr_shift (by omega) h2 h3]
  have hlt := d3_lt h2 h3 h9
  have e : (2 ^ n - 1) * b + ((a12 - b1 * 2 ^ n + b1) * 2 ^ n + a3 - (2 ^ n - 1) * b2) = a12 * 2 ^ n + a3 := by
    subst h4
    generalize (2 : Int) ^ n = P
    simp only [Int.sub_mul, Int.add_mul, Int.mul_add, Int.mul_sub, Int.one_mul, Int.mul_assoc, Int.mul_comm P]
    have : b1 * (P * P) = b1 * P * P := (Int.mul_assoc _ _ _).symm
    omega
  refine ⟨e, ?_⟩
  have : (2 ^ n - 1) * b = 2 ^ n * b - b := by rw [Int.sub_mul, Int.one_mul]
  have : 2 ^ n * b = b * 2 ^ n := Int.mul_comm _ _
  omega

theorem d3_start2 (h2 : 0 ≤ a3) (h3 : a3 < 2 ^ n) (h4 : b = b1 * 2 ^ n + b2) (hb1 : 0 < b1) (hb2 : 0 ≤ b2) (h1 : 0 ≤ a12) :
    (a12 / b1) * b + (Builtin.bitOr ((a12 % b1) * 2 ^ n) a3 - (a12 / b1) * b2) = a12 * 2 ^ n + a3 ∧
      Builtin.bitOr ((a12 % b1) * 2 ^ n) a3 - (a12 / b1) * b2 < b := by
  have hP := pow_pos' n
  have hr : 0 ≤ a12 % b1 := Int.emod_nonneg _ (Int.ne_of_gt hb1)
  have hr2 : a12 % b1 < b1 := Int.emod_lt_of_pos _ hb1
  have hq : 0 ≤ a12 / b1 := Int.ediv_nonneg h1 (Int.le_of_lt hb1)
  rw [bitOr_shift hr h2 h3]
  have hdm := Int.mul_ediv_add_emod a12 b1
  constructor
  · subst h4
    generalize a12 / b1 = q at *
    generalize a12 % b1 = r at *
    generalize (2 : Int) ^ n = P at *
    subst hdm
    simp only [Int.add_mul, Int.mul_add]
    have : q * (b1 * P) = b1 * q * P := by rw [← Int.mul_assoc, Int.mul_comm q b1]
    omega
  · have h5 : (a12 % b1 + 1) * 2 ^ n ≤ b1 * 2 ^ n := Int.mul_le_mul_of_nonneg_right (by omega) (Int.le_of_lt hP)
    rw [Int.add_mul] at h5
    have : 0 ≤ a12 / b1 * b2 := Int.mul_nonneg hq hb2
    omega

theorem d3_start2' {q r : Int} (h2 : 0 ≤ a3) (h3 : a3 < 2 ^ n) (h4 : b = b1 * 2 ^ n + b2) (hb1 : 0 < b1) (hb2 : 0 ≤ b2) (h1 : 0 ≤ a12) (e1 : q * b1 + r = a12) (e2 : 0 ≤ r) (e3 : r < b1) :
    q * b + (Builtin.bitOr (r * 2 ^ n) a3 - q * b2) = a12 * 2 ^ n + a3 ∧ Builtin.bitOr (r * 2 ^ n) a3 - q * b2 < b := by
  have := (Int.ediv_emod_unique (a := a12) (b := b1) (r := r) (q := q) hb1).mpr ⟨by rw [Int.mul_comm]; omega, e2, e3⟩
  refine Mine.exand0_2 this fun ob49 ob59 => ?_
  subst ob49
  subst ob59
  try clear this
  exact d3_start2 h2 h3 h4 hb1 hb2 h1

theorem d3_a12 (h4 : b = b1 * 2 ^ n + b2) (h6 : b2 < 2 ^ n) (h9 : a12 < b) (h : ¬ a12.fdiv (2 ^ n) = b1) : a12 < b1 * 2 ^ n := by
  rw [fdiv_pow] at h
  have hP := pow_pos' n
  have h10 : a12 / 2 ^ n < b1 + 1 := Int.ediv_lt_of_lt_mul hP (by rw [Int.add_mul]; omega)
  have h11 : a12 / 2 ^ n < b1 := by omega
  have := Int.mul_ediv_add_emod a12 (2 ^ n)
  have := Int.emod_lt_of_pos a12 hP
  have h12 : (a12 / 2 ^ n + 1) * 2 ^ n ≤ b1 * 2 ^ n := Int.mul_le_mul_of_nonneg_right (by omega) (Int.le_of_lt hP)
  rw [Int.add_mul, Int.mul_comm (a12 / 2 ^ n)] at h12
  omega

theorem d3_turn {q r V : Int} (hb : 0 < b) (hr : r < 0) (h : q * b + r = V ∧ r < b) : (q - 1) * b + (r + b) = V ∧ r + b < b := by
  rw [Int.sub_mul]; omega

theorem shl_ok {a : Int} {n m : Nat} (ha : intBits a ≤ m) (hm : m ≤ 60000000) (hn : n ≤ 60000000) : (intBits a : Int) + (n : Int) ≤ 2 ^ 27 := by
  have : (2 : Int) ^ 27 = 134217728 := by decide
  omega
theorem d3_bits_r1 (hb1 : 0 ≤ b1) (h7 : b1 < 2 ^ n) (h : a12.fdiv (2 ^ n) = b1) : intBits (a12 - b1 * 2 ^ n + b1) ≤ n + 1 := by
  rw [fdiv_pow] at h
  have hP := pow_pos' n
  have e1 := Int.mul_ediv_add_emod a12 (2 ^ n)
  have h1 := Int.emod_nonneg a12 (Int.ne_of_gt hP)
  have h2 := Int.emod_lt_of_pos a12 hP
  rw [h, Int.mul_comm] at e1
  refine bits_of_lt (by omega) ?_
  rw [pow_add']
  omega
theorem d3_bits_r2 (hb1 : 0 < b1) (h7 : b1 < 2 ^ n) : intBits (a12 % b1) ≤ n :=
  bits_of_lt (Int.emod_nonneg _ (Int.ne_of_gt hb1)) (Int.lt_trans (Int.emod_lt_of_pos _ hb1) h7)
theorem d3_bits_q1 : intBits ((2 : Int) ^ n - 1) ≤ n := by
  have := pow_one_le n
  exact bits_of_lt (by omega) (by omega)
theorem d3_bits_q2 (h1 : 0 ≤ a12) (h4 : b = b1 * 2 ^ n + b2) (h6 : b2 < 2 ^ n) (h7 : b1 < 2 ^ n) (h9 : a12 < b) (hb1 : 0 < b1) : intBits (a12 / b1) ≤ n + n := by
  have hP := pow_pos' n
  refine bits_of_lt (Int.ediv_nonneg h1 (Int.le_of_lt hb1)) (Int.lt_of_le_of_lt (Int.ediv_le_self _ h1) ?_)
  rw [pow_add']
  have h5 : (b1 + 1) * 2 ^ n ≤ 2 ^ n * 2 ^ n := Int.mul_le_mul_of_nonneg_right (by omega) (Int.le_of_lt hP)
  rw [Int.add_mul] at h5
  omega
theorem d3_bits_q2' {q r : Int} (h1 : 0 ≤ a12) (h4 : b = b1 * 2 ^ n + b2) (h6 : b2 < 2 ^ n) (h7 : b1 < 2 ^ n) (h9 : a12 < b) (hb1 : 0 < b1) (e1 : q * b1 + r = a12) (e2 : 0 ≤ r ∧ r < b1) : intBits q ≤ n + n := by
  have := (Int.ediv_emod_unique (a := a12) (b := b1) (r := r) (q := q) hb1).mpr ⟨by rw [Int.mul_comm]; omega, e2⟩
  refine Mine.exand0_2 this fun ob69 ob79 => ?_
  subst ob69
  subst ob79
  try clear this
  exact d3_bits_q2 h1 h4 h6 h7 h9 hb1
end div3
/-! the division of four halves by two -/
theorem p27 : (2 : Int) ^ 27 = 134217728 := by decide
theorem toNat1 : (1 : Int).toNat = 1 := rfl
theorem pow1 : (2 : Int) ^ (1 : Nat) = 2 := rfl
theorem fdiv2 (x : Int) : x.fdiv 2 = x / 2 := Int.fdiv_eq_ediv_of_nonneg x (by decide)

theorem noPylong {a b : Int} {n : Nat} (hb : 0 < b) (h2 : 2 ^ n ≤ 2 * b) (h : (intBits a : Int) - (n : Int) ≤ 4000) : Builtin.divisionGoesByPylong a b = false := by
  unfold Builtin.divisionGoesByPylong
  simp only [Bool.and_eq_false_iff, decide_eq_false_iff_not, gt_iff_lt, Nat.not_lt]
  right
  have hb0 : (b == 0) = false := by simp; omega
  rw [hb0]
  simp only [Bool.false_eq_true, if_false]
  split
  · omega
  · rename_i ha
    have ha' : ¬ a = 0 := by simpa using ha
    have e : intBits a = a.natAbs.log2 + 1 := by unfold Builtin.Int.intBits; rw [if_neg (by simpa using ha)]
    have h3 : n ≤ b.natAbs.log2 + 1 := by
      rcases Nat.eq_zero_or_pos n with h0 | h0
      · omega
      · have : 2 ^ (n - 1) ≤ b.natAbs := by
          have h4 : ((2 ^ (n - 1) : Nat) : Int) ≤ (b.natAbs : Int) := by
            rw [kbt_cast]
            have h5 : (2 : Int) ^ n = 2 ^ (n - 1) * 2 := by
              have : n = (n - 1) + 1 := by omega
              conv => lhs; rw [this]
              exact Int.pow_succ _ _
            omega
          exact Int.ofNat_le.mp h4
        have := (Nat.le_log2 (by omega)).mpr this
        omega
    omega

section div2
variable {H : Nat} {A B : Int}
theorem d2_split (H : Nat) (X : Int) : X / 2 ^ (H + H) * 2 ^ H + X / 2 ^ H % 2 ^ H = X / 2 ^ H := by
  have hP := pow_pos' H
  rw [pow_add', ← Int.ediv_ediv_of_nonneg (Int.le_of_lt hP)]
  have := Int.mul_ediv_add_emod (X / 2 ^ H) (2 ^ H)
  rw [Int.mul_comm] at this
  exact this

theorem d2_final {q1 r1 q2 r2 : Int} (hB : 0 < B) (hA : 0 ≤ A) (hAB : A < B * 2 ^ (H + H))
    (h1 : q1 * B + r1 = A / 2 ^ H) (h2 : 0 ≤ r1) (h3 : r1 < B) (h4 : q2 * B + r2 = r1 * 2 ^ H + A % 2 ^ H) (h5 : 0 ≤ r2) (h6 : r2 < B) :
    Builtin.bitOr (q1 * 2 ^ H) q2 = A / B ∧ r2 = A % B := by
  have hP := pow_pos' H
  have hm1 := Int.emod_nonneg A (Int.ne_of_gt hP)
  have hm2 := Int.emod_lt_of_pos A hP
  have hq1 : 0 ≤ q1 := by
    have : 0 ≤ A / 2 ^ H := Int.ediv_nonneg hA (Int.le_of_lt hP)
    rcases Int.lt_or_le q1 0 with h | h
    · have : (q1 + 1) * B ≤ 0 * B := Int.mul_le_mul_of_nonneg_right (by omega) (Int.le_of_lt hB)
      rw [Int.add_mul] at this; omega
    · exact h
  have hr1 : 0 ≤ r1 * 2 ^ H := Int.mul_nonneg h2 (Int.le_of_lt hP)
  have hq2 : 0 ≤ q2 := by
    rcases Int.lt_or_le q2 0 with h | h
    · have : (q2 + 1) * B ≤ 0 * B := Int.mul_le_mul_of_nonneg_right (by omega) (Int.le_of_lt hB)
      rw [Int.add_mul] at this; omega
    · exact h
  have hq2' : q2 < 2 ^ H := by
    rcases Int.lt_or_le q2 (2 ^ H) with h | h
    · exact h
    · exfalso
      have e1 : 2 ^ H * B ≤ q2 * B := Int.mul_le_mul_of_nonneg_right h (Int.le_of_lt hB)
      have e2 : (r1 + 1) * 2 ^ H ≤ B * 2 ^ H := Int.mul_le_mul_of_nonneg_right (by omega) (Int.le_of_lt hP)
      rw [Int.add_mul] at e2
      rw [Int.mul_comm (2 ^ H) B] at e1
      omega
  rw [bitOr_shift hq1 hq2 hq2']
  have e : r2 + B * (q1 * 2 ^ H + q2) = A := by
    have hdm := Int.mul_ediv_add_emod A (2 ^ H)
    rw [← h1] at hdm
    rw [Int.mul_add, Int.mul_comm B q2]
    have : B * (q1 * 2 ^ H) = 2 ^ H * (q1 * B) := by rw [Int.mul_comm, Int.mul_assoc, Int.mul_comm _ B, ← Int.mul_assoc, Int.mul_comm, Int.mul_comm q1 B]
    rw [Int.mul_add, Int.mul_comm (2 ^ H) r1] at hdm
    omega
  have := (Int.ediv_emod_unique (a := A) (b := B) (r := r2) (q := q1 * 2 ^ H + q2) hB).mpr ⟨e, h5, h6⟩
  exact ⟨this.1.symm, this.2.symm⟩

theorem d2_pad {a b : Int} (hb : 0 < b) : a * 2 / (b * 2) = a / b ∧ a * 2 % (b * 2) / 2 = a % b := by
  constructor
  · exact Int.mul_ediv_mul_of_pos_left a b (by decide)
  · have e := (Int.ediv_emod_unique (a := a * 2) (b := b * 2) (r := a % b * 2) (q := a / b) (by omega)).mpr ⟨by
      have := Int.mul_ediv_add_emod a b
      rw [Int.mul_right_comm]
      omega, by have := Int.emod_nonneg a (Int.ne_of_gt hb); omega, by have := Int.emod_lt_of_pos a hb; omega⟩
    rw [e.2]
    omega

theorem d2_end0 {a b : Int} {n : Nat} (hn : n = H + H) {q1 r1 q2 r2 : Int} (hB : 0 < b) (hA : 0 ≤ a) (hAB : a < b * 2 ^ n)
    (h1 : q1 * b + r1 = a / 2 ^ n * 2 ^ H + a / 2 ^ H % 2 ^ H) (h2 : 0 ≤ r1) (h3 : r1 < b) (h4 : q2 * b + r2 = r1 * 2 ^ H + a % 2 ^ H) (h5 : 0 ≤ r2) (h6 : r2 < b) :
    Builtin.bitOr (q1 * 2 ^ H) q2 * b + r2 = a ∧ 0 ≤ r2 ∧ r2 < b := by
  subst hn
  rw [d2_split] at h1
  refine Mine.exand0_2 (d2_final hB hA hAB h1 h2 h3 h4 h5 h6) fun e1 e2 => ?_
  rw [e1]
  have := Int.mul_ediv_add_emod a b
  rw [Int.mul_comm] at this
  omega

theorem d2_end1 {a b : Int} {n : Nat} (hn : n + 1 = H + H) {q1 r1 q2 r2 : Int} (hB : 0 < b) (hA : 0 ≤ a) (hAB : a < b * 2 ^ n)
    (h1 : q1 * (b * 2) + r1 = a * 2 / 2 ^ (n + 1) * 2 ^ H + a * 2 / 2 ^ H % 2 ^ H) (h2 : 0 ≤ r1) (h3 : r1 < b * 2) (h4 : q2 * (b * 2) + r2 = r1 * 2 ^ H + a * 2 % 2 ^ H) (h5 : 0 ≤ r2) (h6 : r2 < b * 2) :
    Builtin.bitOr (q1 * 2 ^ H) q2 * b + r2 / 2 = a ∧ 0 ≤ r2 / 2 ∧ r2 / 2 < b := by
  rw [hn, d2_split] at h1
  have hP := pow_pos' n
  have e : b * 2 * 2 ^ (H + H) = b * 2 ^ n * 4 := by rw [← hn, Int.pow_succ, Int.mul_assoc, Int.mul_assoc]; congr 1; omega
  have hbP : 0 < b * 2 ^ n := Int.mul_pos hB hP
  refine Mine.exand0_2 (d2_final (A := a * 2) (B := b * 2) (by omega) (by omega) (by rw [e]; omega) h1 h2 h3 h4 h5 h6) fun e1 e2 => ?_
  refine Mine.exand0_2 (d2_pad (a := a) (b := b) hB) fun f1 f2 => ?_
  rw [e1, e2, f1, f2]
  have := Int.mul_ediv_add_emod a b
  rw [Int.mul_comm] at this
  exact ⟨this, Int.emod_nonneg a (Int.ne_of_gt hB), Int.emod_lt_of_pos a hB⟩

/-- what the first call wants -/
theorem d2_pre (hH : 1 ≤ H) (hB : 0 < B) (hA : 0 ≤ A) (hAB : A < B * 2 ^ (H + H)) (hB1 : B < 2 ^ (H + H)) (hB2 : 2 ^ (H + H) ≤ 2 * B) :
    0 ≤ A / 2 ^ (H + H) ∧ A / 2 ^ (H + H) < B ∧ B = B / 2 ^ H * 2 ^ H + B % 2 ^ H ∧ B / 2 ^ H < 2 ^ H ∧ 2 ^ H ≤ 2 * (B / 2 ^ H) := by
  have hP := pow_pos' H
  have hPP := pow_pos' (H + H)
  have hd := Int.mul_ediv_add_emod B (2 ^ H)
  rw [Int.mul_comm] at hd
  refine ⟨Int.ediv_nonneg hA (Int.le_of_lt hPP), Int.ediv_lt_of_lt_mul hPP hAB, hd.symm, Int.ediv_lt_of_lt_mul hP (by rw [← pow_add']; exact hB1), ?_⟩
  have ob89 : ∃ j, H = j + 1 := ⟨H - 1, by omega⟩
  refine Mine.exand1_1 ob89 fun j ob99 => ?_
  subst ob99
  try clear ob89
  have e1 : (2 : Int) ^ (j + 1) = 2 * 2 ^ j := by rw [Int.pow_succ, Int.mul_comm]
  have hj : (2 : Int) ^ j ≤ B / 2 ^ (j + 1) := by
    refine Int.le_ediv_of_mul_le hP ?_
    have e2 : (2 : Int) ^ (j + 1 + (j + 1)) = 2 * (2 ^ j * 2 ^ (j + 1)) := by rw [pow_add', e1, Int.mul_assoc]
    omega
  omega
theorem d2_lt {r : Int} (h : 0 ≤ r) : 0 ≤ A % 2 ^ H ∧ A % 2 ^ H < 2 ^ H := ⟨Int.emod_nonneg _ (Int.ne_of_gt (pow_pos' H)), Int.emod_lt_of_pos _ (pow_pos' H)⟩
theorem md_nn (A : Int) (H : Nat) : 0 ≤ A % 2 ^ H := Int.emod_nonneg _ (Int.ne_of_gt (pow_pos' H))
theorem md_lt (A : Int) (H : Nat) : A % 2 ^ H < 2 ^ H := Int.emod_lt_of_pos _ (pow_pos' H)
theorem pow_succ_int (k : Nat) : (2 : Int) ^ (k + 1) = 2 * 2 ^ k := by rw [Int.pow_succ, Int.mul_comm]
/-- a number below a product of a number of so many bits is small -/
theorem d2_bits {a b : Int} {n : Nat} (h1 : 0 ≤ a) (h2 : a < b * 2 ^ n) (h3 : b < 2 ^ n) : intBits a ≤ n + n := by
  have hP := pow_pos' n
  refine bits_of_lt h1 (Int.lt_trans h2 ?_)
  rw [pow_add']
  exact Int.mul_lt_mul_of_pos_right h3 hP
theorem d2_bitsq {q r B x : Int} {m : Nat} (hB : 0 < B) (h1 : q * B + r = x) (h2 : 0 ≤ r) (h3 : r < B) (hx : 0 ≤ x) (hm : x < 2 ^ m) : intBits q ≤ m := by
  have := (Int.ediv_emod_unique (a := x) (b := B) (r := r) (q := q) hB).mpr ⟨by rw [Int.mul_comm]; omega, h2, h3⟩
  refine Mine.exand0_2 this fun ob109 ob119 => ?_
  subst ob109
  subst ob119
  try clear this
  exact bits_of_lt (Int.ediv_nonneg hx (Int.le_of_lt hB)) (Int.lt_of_le_of_lt (Int.ediv_le_self _ hx) hm)
end div2
end
section
/-- the digits of x, k of them, of n bits each -/
def digs (n : Nat) (x : Int) : Nat → List Int
  | 0 => []
  | k + 1 => x % 2 ^ n :: digs n (x / 2 ^ n) k
/-- some places of a list written over -/
def over (ds : List Int) (lo : Nat) (xs : List Int) : List Int := ds.take lo ++ xs ++ ds.drop (lo + xs.length)

theorem digs_length (n : Nat) : ∀ (k : Nat) (x : Int), (digs n x k).length = k
  | 0, _ => rfl
  | k + 1, x => by rw [digs, List.length_cons, digs_length n k]

theorem mod_pow_mod (x : Int) (n m : Nat) : x % 2 ^ (n + m) % 2 ^ n = x % 2 ^ n := by
  rw [pow_add']
  exact Int.emod_mul_emod_left' x n m
where
  Int.emod_mul_emod_left' (x : Int) (n m : Nat) : x % (2 ^ n * 2 ^ m) % 2 ^ n = x % 2 ^ n := Int.emod_emod_of_dvd x (Int.dvd_mul_right _ _)

theorem mod_pow_div (x : Int) (n m : Nat) : x % 2 ^ (n + m) / 2 ^ n = x / 2 ^ n % 2 ^ m := by
  have hP := pow_pos' n
  have hM := pow_pos' m
  have h1 := Int.mul_ediv_add_emod x (2 ^ n)
  have h2 := Int.mul_ediv_add_emod (x / 2 ^ n) (2 ^ m)
  have h3 := Int.emod_nonneg x (Int.ne_of_gt hP)
  have h4 := Int.emod_lt_of_pos x hP
  have h5 := Int.emod_nonneg (x / 2 ^ n) (Int.ne_of_gt hM)
  have h6 := Int.emod_lt_of_pos (x / 2 ^ n) hM
  -- x % (P M) = P * (x / P % M) + x % P
  have e : x % 2 ^ (n + m) = 2 ^ n * (x / 2 ^ n % 2 ^ m) + x % 2 ^ n := by
    have := (Int.ediv_emod_unique (a := x) (b := 2 ^ (n + m)) (r := 2 ^ n * (x / 2 ^ n % 2 ^ m) + x % 2 ^ n) (q := x / 2 ^ n / 2 ^ m) (pow_pos' _)).mpr ⟨by
      rw [pow_add', Int.mul_assoc]
      have : 2 ^ n * (2 ^ m * (x / 2 ^ n / 2 ^ m)) + 2 ^ n * (x / 2 ^ n % 2 ^ m) = 2 ^ n * (x / 2 ^ n) := by rw [← Int.mul_add, h2]
      omega, by
      have := Int.mul_nonneg (Int.le_of_lt hP) h5
      omega, by
      rw [pow_add']
      have h7 : 2 ^ n * (x / 2 ^ n % 2 ^ m + 1) ≤ 2 ^ n * 2 ^ m := Int.mul_le_mul_of_nonneg_left (by omega) (Int.le_of_lt hP)
      rw [Int.mul_add] at h7
      omega⟩
    exact this.2
  rw [e]
  have := (Int.ediv_emod_unique (a := 2 ^ n * (x / 2 ^ n % 2 ^ m) + x % 2 ^ n) (b := 2 ^ n) (r := x % 2 ^ n) (q := x / 2 ^ n % 2 ^ m) hP).mpr ⟨by omega, h3, h4⟩
  exact this.1

theorem div_pow_div (x : Int) (n m : Nat) : x / 2 ^ n / 2 ^ m = x / 2 ^ (n + m) := by
  rw [pow_add', Int.ediv_ediv_of_nonneg (Int.le_of_lt (pow_pos' n))]

theorem digs_mod (n : Nat) : ∀ (k : Nat) (x : Int), digs n (x % 2 ^ (k * n)) k = digs n x k
  | 0, _ => rfl
  | k + 1, x => by
    have e : (k + 1) * n = n + k * n := by rw [Nat.add_mul, Nat.one_mul, Nat.add_comm]
    rw [digs, digs, e, mod_pow_mod, mod_pow_div, digs_mod n k]

theorem digs_append (n : Nat) : ∀ (d e : Nat) (x : Int), digs n x (d + e) = digs n x d ++ digs n (x / 2 ^ (d * n)) e
  | 0, e, x => by simp [digs]
  | d + 1, e, x => by
    have e1 : d + 1 + e = (d + e) + 1 := by omega
    have e2 : (d + 1) * n = n + d * n := by rw [Nat.add_mul, Nat.one_mul, Nat.add_comm]
    rw [e1, digs, digs, digs_append n d e, e2, div_pow_div, List.cons_append]

theorem digs_one (n : Nat) {x : Int} (h0 : 0 ≤ x) (h1 : x < 2 ^ n) : digs n x 1 = [x] := by
  rw [digs, digs, Int.emod_eq_of_lt h0 h1]

theorem over_one (ds : List Int) (lo : Nat) (x : Int) (h : lo < ds.length) : over ds lo [x] = ds.set lo x := by
  unfold over
  rw [List.set_eq_take_append_cons_drop, if_pos h]
  simp

theorem over_length (ds : List Int) (lo : Nat) (xs : List Int) (h : lo + xs.length ≤ ds.length) : (over ds lo xs).length = ds.length := by
  unfold over
  simp only [List.length_append, List.length_take, List.length_drop]
  omega

theorem over_over (ds : List Int) (lo : Nat) (xs ys : List Int) (h : lo + xs.length + ys.length ≤ ds.length) : over (over ds lo xs) (lo + xs.length) ys = over ds lo (xs ++ ys) := by
  unfold over
  have e1 : (List.take lo ds ++ xs ++ List.drop (lo + xs.length) ds).take (lo + xs.length) = List.take lo ds ++ xs := by
    have hl : (List.take lo ds ++ xs).length = lo + xs.length := by simp only [List.length_append, List.length_take]; omega
    rw [← hl, List.take_left]
  have e2 : (List.take lo ds ++ xs ++ List.drop (lo + xs.length) ds).drop (lo + xs.length + ys.length) = List.drop (lo + xs.length + ys.length) ds := by
    have hl : (List.take lo ds ++ xs).length = lo + xs.length := by simp only [List.length_append, List.length_take]; omega
    rw [List.drop_append, hl]
    have : List.drop (lo + xs.length + ys.length) (List.take lo ds ++ xs) = [] := List.drop_eq_nil_of_le (by omega)
    rw [this, List.nil_append, List.drop_drop]
    congr 1
    omega
  rw [e1, e2, List.length_append]
  simp [List.append_assoc, Nat.add_assoc]

theorem over_all (xs : List Int) (W : Nat) (h : xs.length = W) (ds : List Int) (hd : ds.length = W) : over ds 0 xs = xs := by
  unfold over
  simp only [List.take_zero, List.nil_append, Nat.zero_add]
  rw [List.drop_eq_nil_of_le (by omega), List.append_nil]

/-- the number that the digits tell -/
def undig (n : Nat) : List Int → Int
  | [] => 0
  | d :: r => d + 2 ^ n * undig n r

theorem undig_digs (n : Nat) : ∀ (k : Nat) (x : Int), 0 ≤ x → x < 2 ^ (k * n) → undig n (digs n x k) = x
  | 0, x, h0, h1 => by simp at h1; simp [digs, undig]; omega
  | k + 1, x, h0, h1 => by
    have hP := pow_pos' n
    rw [digs, undig, undig_digs n k _ (Int.ediv_nonneg h0 (Int.le_of_lt hP)) (Int.ediv_lt_of_lt_mul hP (by rw [← pow_add', ← Nat.succ_mul]; exact h1))]
    have := Int.mul_ediv_add_emod x (2 ^ n)
    omega

theorem undig_append (n : Nat) : ∀ (xs ys : List Int), undig n (xs ++ ys) = undig n xs + 2 ^ (xs.length * n) * undig n ys
  | [], ys => by simp [undig]
  | x :: xs, ys => by
    rw [List.cons_append, undig, undig, undig_append n xs ys, List.length_cons]
    have e : (xs.length + 1) * n = n + xs.length * n := by rw [Nat.add_mul, Nat.one_mul, Nat.add_comm]
    rw [e, pow_add', Int.mul_add, Int.mul_assoc]
    omega

theorem digs_bound (n : Nat) : ∀ (k : Nat) (x : Int), ∀ d ∈ digs n x k, 0 ≤ d ∧ d < 2 ^ n
  | 0, _, _, h => nomatch h
  | k + 1, x, d, h => by
    rcases List.mem_cons.mp h with rfl | h
    · exact ⟨md_nn _ _, md_lt _ _⟩
    · exact digs_bound n k _ d h

theorem undig_bound (n : Nat) : ∀ (xs : List Int), (∀ d ∈ xs, 0 ≤ d ∧ d < 2 ^ n) → 0 ≤ undig n xs ∧ undig n xs < 2 ^ (xs.length * n)
  | [], _ => by simp [undig]
  | x :: xs, h => by
    refine Mine.exand0_2 (undig_bound n xs fun d hd => h d (.tail _ hd)) fun h1 h2 => ?_
    refine Mine.exand0_2 (h x (.head _)) fun h3 h4 => ?_
    have hP := pow_pos' n
    rw [undig, List.length_cons]
    have e : (xs.length + 1) * n = n + xs.length * n := by rw [Nat.add_mul, Nat.one_mul, Nat.add_comm]
    rw [e, pow_add']
    have h5 := Int.mul_nonneg (Int.le_of_lt hP) h1
    have h6 : 2 ^ n * (undig n xs + 1) ≤ 2 ^ n * 2 ^ (xs.length * n) := Int.mul_le_mul_of_nonneg_left (by omega) (Int.le_of_lt hP)
    rw [Int.mul_add] at h6
    omega
end
example {prog : Program} {w : World} {A : Around} {env : Env} {Q : Flow → Shared → Prop} {E : Value → Shared → Prop} {s : Shared} (h : Q .next s) : wpAny (model prog w) A (execs [] env) Q E s := by
  w_top off
  walk1
  exact h
section
abbrev tup2 (x : Int) (t1 : Tok) (y : Int) (t2 : Tok) (c : Nat) : Obj := { cls := .type "tuple", data := .seq #[.int x t1, .int y t2] c }

/-- a call of the def at f with these values gives a tuple of two ints, of which P holds -/
abbrev Gives2 (w : World) (p : Program) (loose : List Str) (mean : ExcName → Option Value) (mg mb : Str → Option Value) (f : Addr) (vs : List Value) (dep uni : Nat) (P : Int → Int → Prop) : Prop :=
  ∀ (dp un : Nat) (gd : Option (List Code)) (cn : Str) (cs : Scope) (a : Addr) (ccd : Value) (cl : List (Str × Addr)) (outer : List Env) (A₀ : Around) (base h₀ : Heap) (L : Addr) (m : Str → Option Value) (news : List (Addr × Obj)) (s : Shared)
    (Q E : Value → Shared → Prop),
    Below A₀ base outer h₀ → Fr h₀ L s.heap m → (hd.heap_1 w.params).In h₀ → News h₀ L s.heap news → Top p loose mean mg mb h₀ → cs.kind = .function → dp + dep < recursionLimit → un + uni < cLine →
    (∀ x y D t1 t2 c h' tk', P x y → Fr h₀ L h' m → News h₀ L h' ((D, tup2 x t1 y t2 c) :: news) → AllLt D news → Q (.ref D) { s with heap := h', toks := tk' }) →
    wpAny (model PySem.Challenge.rw_ph0128_01.row.prog w) (ktrTop dp un gd cn cs L a ccd cl outer) (call (.ref f) vs) Q E s

theorem Gives2.use {w : World} {p : Program} {loose : List Str} {mean : ExcName → Option Value} {mg mb : Str → Option Value} {f : Addr} {vs : List Value} {dep uni : Nat} {P : Int → Int → Prop}
    {dp un : Nat} {gd : Option (List Code)} {cn : Str} {cs : Scope} {a : Addr} {ccd : Value} {cl : List (Str × Addr)} {outer : List Env} {A₀ : Around} {base h₀ : Heap} {L : Addr} {m : Str → Option Value} {news : List (Addr × Obj)} {h9 : Heap} {g9 : Array GenState} {d9 : Drawn} {t9 : Nat} {o9 : OsState}
    {Q E : Value → Shared → Prop}
    (C : Gives2 w p loose mean mg mb f vs dep uni P) (B : Below A₀ base outer h₀) (F : Fr h₀ L h9 m) (X : (hd.heap_1 w.params).In h₀) (N : News h₀ L h9 news) (T : Top p loose mean mg mb h₀) (hk : cs.kind = .function)
    (hd : dp + dep < recursionLimit) (hu : un + uni < cLine)
    (ret : ∀ x y D t1 t2 c h' tk', P x y → Fr h₀ L h' m → News h₀ L h' ((D, tup2 x t1 y t2 c) :: news) → AllLt D news → Q (.ref D) ⟨h', g9, d9, tk', o9⟩) :
    wpAny (model PySem.Challenge.rw_ph0128_01.row.prog w) (ktrTop dp un gd cn cs L a ccd cl outer) (call (.ref f) vs) Q E ⟨h9, g9, d9, t9, o9⟩ := C _ _ _ _ _ _ _ _ _ _ _ _ _ _ _ _ _ _ B F X N T hk hd hu ret

theorem ret2 {h₀ : Heap} {L : Addr} {m : Str → Option Value} {news news' : List (Addr × Obj)} {s : Shared} {Q : Value → Shared → Prop} {P : Int → Int → Prop} {x y : Int} {D : Addr} {t1 t2 : Tok} {c : Nat} {h' : Heap} {tk' : Nat}
    (ret : ∀ x y D t1 t2 c h' tk', P x y → Fr h₀ L h' m → News h₀ L h' ((D, tup2 x t1 y t2 c) :: news) → AllLt D news → Q (.ref D) { s with heap := h', toks := tk' })
    (F : Fr h₀ L h' m) (N : News h₀ L h' news') (hD : (D, tup2 x t1 y t2 c) ∈ news') (hs : ∀ p ∈ news, p ∈ news') (hl : AllLt D news) (e : P x y) : Q (.ref D) { s with heap := h', toks := tk' } := by
  refine ret x y D t1 t2 c h' tk' e F (fun p hp => ?_) hl
  rcases List.mem_cons.mp hp with rfl | hp
  · exact N _ hD
  · exact N p (hs p hp)

/-- what stands on the ledger lies below the heap's end -/
theorem news_lt {h₀ h : Heap} {L : Addr} {news : List (Addr × Obj)} (N : News h₀ L h news) : AllLt h.objs.size news :=
  allLt_of fun p hp => Heap.lt_size (N p hp).1

/-- the frame's map in another make -/
theorem fr_as {h₀ h : Heap} {L : Addr} {m m' : Str → Option Value} (F : Fr h₀ L h m) (e : m = m') : Fr h₀ L h m' := e ▸ F

theorem toNat_nn {n : Int} (h : 0 ≤ n) : ((n.toNat : Nat) : Int) = n := Int.toNat_of_nonneg h
end
example {prog : Program} {w : World} {A : Around} {env : Env} {Q : Flow → Shared → Prop} {E : Value → Shared → Prop} {s : Shared} (h : Q .next s) : wpAny (model prog w) A (execs [] env) Q E s := by
  w_top off
  walk1
  exact h
section
def Div2 (w : World) (p : Program) (loose : List Str) (mean : ExcName → Option Value) (mg mb : Str → Option Value) (k : Nat) : Prop :=
  ∀ (n : Int) (a b : Int) (ta tb tn : Tok), 0 ≤ n → n ≤ 2 ^ k → n ≤ 4194304 → 0 ≤ a → 0 < b → a < b * 2 ^ n.toNat → b < 2 ^ n.toNat → 2 ^ n.toNat ≤ 2 * b →
    Gives2 w p loose mean mg mb 21 [.int a ta, .int b tb, .int n tn] (2 * k + 2) (8 * k + 16) (fun x y => x * b + y = a ∧ 0 ≤ y ∧ y < b)

local macro_rules | `(tactic| walk_at "call builtin:divmod") => `(tactic| (k_extra "Kdm"; (intro hx9 Fx9 Nx9)))

theorem div3N {w p loose mean mg mb} (k : Nat) (IH : Div2 w p loose mean mg mb k) (n : Nat) (a12 a3 b b1 b2 : Int) (t1 t2 t3 t4 t5 t6 : Tok)
   (hn : (n : Int) ≤ 2 ^ k) (hnn : n ≤ 4194304) (h1 : 0 ≤ a12) (h2 : 0 ≤ a3) (h3 : a3 < 2 ^ n) (h4 : b = b1 * 2 ^ n + b2) (h5 : 0 ≤ b2) (h6 : b2 < 2 ^ n) (h7 : b1 < 2 ^ n) (h8 : 2 ^ n ≤ 2 * b1) (h9 : a12 < b) :
   Gives2 w p loose mean mg mb 28 [.int a12 t1, .int a3 t2, .int b t3, .int b1 t4, .int b2 t5, .int n t6] (2 * k + 3) (8 * k + 20) (fun x y => x * b + y = a12 * 2 ^ n + a3 ∧ 0 ≤ y ∧ y < b) := by
  have hP := pow_pos' n
  have hb1 : 0 < b1 := by omega
  have hbP : 0 < b1 * 2 ^ n := Int.mul_pos hb1 hP
  have hb : 0 < b := by omega
  unfold Gives2
  k_fill
  intro dp un gd cn cs aa ccd cl outer A₀ base h₀ L m news s Q E B F X N T hk hd hu hret
  have hMk := kstMark
  k_with_none
  k_with "binaryOp Add int int" => (refine add_N ?_)
  k_with "binaryOp Sub int int" => (refine sub_N ?_)
  k_with "inplaceOp Add int int" => (refine iadd_N ?_)
  k_with "inplaceOp Sub int int" => (refine isub_N ?_)
  k_with "binaryOp BitOr int int" => (refine or_N ?_)
  k_with "unaryOp USub int" => (refine neg_N ?_)
  k_with "storeName" => (k_here; k_dflt (refine' storeX_N ?F ?N ?eg ?ed ?eo ?_ ?a ?b; (case F => k_asm); (case N => k_asm); (case a => rfl); (case b => rfl); (case eg => first | (dsimp only; done) | exact rfl); (case ed => first | (dsimp only; done) | exact rfl); (case eo => first | (dsimp only; done) | exact rfl); k_whole; intro _ _ _; (try k_sweep)))
  k_with "MineLt" => (first | with_reducible assumption | ((with_reducible rename _ ∧ _ => hC9); first | exact hC9.1 | exact hC9.2.1 | exact hC9.2.2.1 | exact hC9.2.2.2.1 | exact hC9.2.2.2.2.1 | exact hC9.2.2.2.2.2.1 | exact hC9.2.2.2.2.2.2.1 | exact hC9.2.2.2.2.2.2.2.1 | exact hC9.2.2.2.2.2.2.2.2.1 | exact hC9.2.2.2.2.2.2.2.2.2.1 | exact hC9.2.2.2.2.2.2.2.2.2.2.1 | exact hC9.2.2.2.2.2.2.2.2.2.2.2.1 | exact hC9.2.2.2.2.2.2.2.2.2.2.2.2.1 | exact hC9.2.2.2.2.2.2.2.2.2.2.2.2.2.1) | exact And.left (by with_reducible assumption) | exact Nat.lt_succ_self _)
  k_with "binaryOp LShift int int" => (refine' lshift_N ?hn ?hz ?_; (case hn => k_extra "nn"); (case hz => k_extra "shl"); (try k_extra "tidy"))
  k_with "inplaceOp LShift int int" => (refine' ilshift_N ?hn ?hz ?_; (case hn => k_extra "nn"); (case hz => k_extra "shl"); (try k_extra "tidy"))
  k_with "binaryOp RShift int int" => (refine' rshift_N ?hn ?_; (case hn => k_extra "nn"); (try k_extra "tidy"))
  k_with "inplaceOp RShift int int" => (refine' irshift_N ?hn ?_; (case hn => k_extra "nn"); (try k_extra "tidy"))
  k_with "binaryOp BitAnd int int" => (refine and_N ?_; (try k_extra "tidy"))
  k_with "binaryOp Mult int int" => (refine' mul_N ?_ ?hm; (case hm => k_extra "mul"); (try k_extra "tidy"))
  k_with "Kdm" => (refine' divmod_N ?F ?N ?hb ?_ ?hp; (case F => k_asm); (case N => k_asm); (case hb => k_extra "div0"); (case hp => k_extra "pylong"))
  k_with "call ref" => (k_extra "my call")
  k_with "ite" => (k_extra "decide")
  k_with "binaryOp FloorDiv int int" => (refine' floordiv_N ?hb ?_ ?hp; (case hb => k_extra "div0"); (case hp => k_extra "pylong"); (try k_extra "tidy"))
  k_with "binaryOp BitXor int int" => (refine xor_N ?_; (try k_extra "tidy"))
  k_with "binaryOp LShift int int" => (refine' lshift_N ?hn ?hz ?_; (case hn => k_extra "nn"); (case hz => k_extra "shl"); (try simp only [Int.toNat_natCast, Int.one_mul, toNat1, pow1]))
  k_with "inplaceOp LShift int int" => (refine' ilshift_N ?hn ?hz ?_; (case hn => k_extra "nn"); (case hz => k_extra "shl"); (try simp only [Int.toNat_natCast, Int.one_mul, toNat1, pow1]))
  k_with "binaryOp RShift int int" => (refine' rshift_N ?hn ?_; (case hn => k_extra "nn"); (try simp only [Int.toNat_natCast, toNat1, pow1]))
  k_with "inplaceOp RShift int int" => (refine' irshift_N ?hn ?_; (case hn => k_extra "nn"); (try simp only [Int.toNat_natCast, toNat1, pow1]))
  k_with "binaryOp Mult int int" => (refine' mul_N ?_ ?hm; (case hm => k_extra "mul"))
  k_with "Kdm" => (refine' divmod_N ?F ?N ?hb ?_ ?hp; (case F => k_asm); (case N => k_asm); (case hb => k_extra "div0"); (case hp => k_extra "pylong"))
  k_with "call ref" => (k_extra "my call")
  k_with "sub" => first | (exact fun _ h => h) | (exact fun _ h => .tail _ h) | (exact fun _ h => .tail _ (.tail _ h)) | (exact fun _ h => .tail _ (.tail _ (.tail _ h)))
  k_with "lt" => first | assumption | (exact allLt_of (by assumption)) | (exact And.right (by assumption)) | (exact And.right (And.right (by assumption)))
  k_with "nn" => exact Int.natCast_nonneg _
  k_with "shl" => first
    | exact shl_ok (m := 1) (by decide) (by decide) (by omega)
    | exact shl_ok (bits_of_lt (Int.le_of_lt hb1) h7) (by omega) (by omega)
    | exact shl_ok (d3_bits_r1 (Int.le_of_lt hb1) h7 (by assumption)) (by omega) (by omega)
    | (refine shl_ok (m := n) (bits_of_lt (by omega) (by omega)) (by omega) (by omega))
  k_with "mul" => first
    | exact IntMulOk.of_le d3_bits_q1 (bits_of_lt h5 h6) (by omega)
    | exact IntMulOk.of_le (m := n + n) (d3_bits_q2' h1 h4 h6 h7 h9 hb1 (by assumption) ⟨by assumption, by assumption⟩) (bits_of_lt h5 h6) (by omega)
  k_with "my call" =>
    refine' Gives2.use (IH n a12 b1 _ _ _ (Int.natCast_nonneg _) hn (by omega) h1 hb1 (d3_a12 h4 h6 h9 (by assumption)) h7 h8) ?k1 ?k2 ?k3 ?k4 ?k5 ?k6 ?k7 ?k8 ?_
    (case k1 => k_asm)
    (case k2 => k_asm)
    (case k3 => k_asm)
    (case k4 => k_asm)
    (case k5 => k_asm)
    (case k6 => exact rfl)
    (case k7 => ktr_room)
    (case k8 => ktr_units)
    intro x9 y9 D9 t91 t92 c9 hp9 tk9 P9 F9 N9 l9
    refine Mine.exand0_3 P9 fun P91 P92 P93 => ?_
    try clear P9
  k_with "exec While Compare cons nil" =>
    k_while (fun _ q r => q * b + r = a12 * 2 ^ n + a3 ∧ r < b) (fun _ q r => (-r).toNat) "q" "r"
  k_with "state" => first
    | exact d3_start1 h2 h3 h4 (Int.le_of_lt hb1) h9 (by assumption)
    | exact d3_start2' h2 h3 h4 hb1 h5 h1 (by assumption) (by assumption) (by assumption)
    | exact d3_turn hb (by assumption) ⟨by assumption, by assumption⟩
  refine wpAny_call ?_
  k_dflt ktr_enter
  (try refine tok_any fun tk9 => ?_)
  (rename Fr _ _ _ _ => F1)
  replace F1 := fr_as (m' := fun y => List.lookup y [(Str.ofString "n", .int n t6), (Str.ofString "b2", .int b2 t5), (Str.ofString "b1", .int b1 t4), (Str.ofString "b", .int b t3), (Str.ofString "a3", .int a3 t2), (Str.ofString "a12", .int a12 t1)]) F1 rfl
  k_steps
  all_goals refine ret2 hret (by assumption) (by assumption) (by k_mem) (by k_extra "sub") (by k_extra "lt") ⟨by assumption, by omega, by omega⟩

theorem div3 {w p loose mean mg mb} (k : Nat) (IH : Div2 w p loose mean mg mb k) (n : Int) (a12 a3 b b1 b2 : Int) (t1 t2 t3 t4 t5 t6 : Tok)
   (hn0 : 0 ≤ n) (hn : n ≤ 2 ^ k) (hnn : n ≤ 4194304) (h1 : 0 ≤ a12) (h2 : 0 ≤ a3) (h3 : a3 < 2 ^ n.toNat) (h4 : b = b1 * 2 ^ n.toNat + b2) (h5 : 0 ≤ b2) (h6 : b2 < 2 ^ n.toNat) (h7 : b1 < 2 ^ n.toNat) (h8 : 2 ^ n.toNat ≤ 2 * b1) (h9 : a12 < b) :
   Gives2 w p loose mean mg mb 28 [.int a12 t1, .int a3 t2, .int b t3, .int b1 t4, .int b2 t5, .int n t6] (2 * k + 3) (8 * k + 20) (fun x y => x * b + y = a12 * 2 ^ n.toNat + a3 ∧ 0 ≤ y ∧ y < b) := by
  have := div3N k IH n.toNat a12 a3 b b1 b2 t1 t2 t3 t4 t5 t6 (by rw [toNat_nn hn0]; exact hn) (by omega) h1 h2 h3 h4 h5 h6 h7 h8 h9
  rw [toNat_nn hn0] at this
  exact this
end
section
local macro_rules | `(tactic| walk_at "call builtin:divmod") => `(tactic| ((rename News _ _ _ _ => nX9); (have lx9 := news_lt nX9); k_extra "Kdm"; (intro hx9 Fx9 Nx9)))
local macro_rules | `(tactic| k_all) => `(tactic| assumption)
local macro_rules | `(tactic| k_mem) => `(tactic| ((repeat (first | exact List.mem_cons_self | (with_reducible assumption) | refine List.mem_cons_of_mem _ ?_)); done))
local macro_rules | `(tactic| is_list) => `(tactic| (refine' News.isList ?ilN ?ilM; (case ilN => k_asm); (case ilM => k_mem)))
example {prog : Program} {w : World} {A : Around} {env : Env} {Q : Flow → Shared → Prop} {E : Value → Shared → Prop} {s : Shared} (h : Q .next s) : wpAny (model prog w) A (execs [] env) Q E s := by
  w_top off
  walk1
  exact h
section
theorem div2 {w p loose mean mg mb} (k : Nat) (IH : Div2 w p loose mean mg mb k) : Div2 w p loose mean mg mb (k + 1) := by
  intro n a b ta tb tn hn0 hn hnn h1 hb h2 h3 h4
  refine Mine.exand1_1 (Int.eq_ofNat_of_zero_le hn0) fun n ob19 => ?_
  subst ob19
  simp only [Int.toNat_natCast] at h2 h3 h4
  have hP := pow_pos' n
  have hn1 : 1 ≤ n := by
    rcases Nat.eq_zero_or_pos n with h | h
    · subst h; simp at h3; omega
    · exact h
  rw [pow_succ_int] at hn
  have ha := d2_bits h1 h2 h3
  unfold Gives2
  k_fill
  intro dp un gd cn cs aa ccd cl outer A₀ base h₀ L m news s Q E B F X N T hk hd hu hret
  have hMk := kstMark
  k_with_none
  k_with "binaryOp Add int int" => (refine add_N ?_)
  k_with "binaryOp Sub int int" => (refine sub_N ?_)
  k_with "inplaceOp Add int int" => (refine iadd_N ?_)
  k_with "inplaceOp Sub int int" => (refine isub_N ?_)
  k_with "binaryOp BitOr int int" => (refine or_N ?_)
  k_with "unaryOp USub int" => (refine neg_N ?_)
  k_with "storeName" => (k_here; k_dflt (refine' storeX_N ?F ?N ?eg ?ed ?eo ?_ ?a ?b; (case F => k_asm); (case N => k_asm); (case a => rfl); (case b => rfl); (case eg => first | (dsimp only; done) | exact rfl); (case ed => first | (dsimp only; done) | exact rfl); (case eo => first | (dsimp only; done) | exact rfl); k_whole; intro _ _ _; (try k_sweep)))
  k_with "MineLt" => (first | with_reducible assumption | ((with_reducible rename _ ∧ _ => hC9); first | exact hC9.1 | exact hC9.2.1 | exact hC9.2.2.1 | exact hC9.2.2.2.1 | exact hC9.2.2.2.2.1 | exact hC9.2.2.2.2.2.1 | exact hC9.2.2.2.2.2.2.1 | exact hC9.2.2.2.2.2.2.2.1 | exact hC9.2.2.2.2.2.2.2.2.1 | exact hC9.2.2.2.2.2.2.2.2.2.1 | exact hC9.2.2.2.2.2.2.2.2.2.2.1 | exact hC9.2.2.2.2.2.2.2.2.2.2.2.1 | exact hC9.2.2.2.2.2.2.2.2.2.2.2.2.1 | exact hC9.2.2.2.2.2.2.2.2.2.2.2.2.2.1) | exact And.left (by with_reducible assumption) | exact Nat.lt_succ_self _)
  k_with "binaryOp LShift int int" => (refine' lshift_N ?hn ?hz ?_; (case hn => k_extra "nn"); (case hz => k_extra "shl"); (try k_extra "tidy"))
  k_with "inplaceOp LShift int int" => (refine' ilshift_N ?hn ?hz ?_; (case hn => k_extra "nn"); (case hz => k_extra "shl"); (try k_extra "tidy"))
  k_with "binaryOp RShift int int" => (refine' rshift_N ?hn ?_; (case hn => k_extra "nn"); (try k_extra "tidy"))
  k_with "inplaceOp RShift int int" => (refine' irshift_N ?hn ?_; (case hn => k_extra "nn"); (try k_extra "tidy"))
  k_with "binaryOp BitAnd int int" => (refine and_N ?_; (try k_extra "tidy"))
  k_with "binaryOp Mult int int" => (refine' mul_N ?_ ?hm; (case hm => k_extra "mul"); (try k_extra "tidy"))
  k_with "Kdm" => (refine' divmod_N ?F ?N ?hb ?_ ?hp; (case F => k_asm); (case N => k_asm); (case hb => k_extra "div0"); (case hp => k_extra "pylong"))
  k_with "call ref" => (k_extra "my call")
  k_with "ite" => (k_extra "decide")
  k_with "binaryOp FloorDiv int int" => (refine' floordiv_N ?hb ?_ ?hp; (case hb => k_extra "div0"); (case hp => k_extra "pylong"); (try k_extra "tidy"))
  k_with "binaryOp BitXor int int" => (refine xor_N ?_; (try k_extra "tidy"))
  k_with "sub" => first | (exact fun _ h => h) | (exact fun _ h => .tail _ h) | (exact fun _ h => .tail _ (.tail _ h)) | (exact fun _ h => .tail _ (.tail _ (.tail _ h))) | (exact fun _ h => .tail _ (.tail _ (.tail _ (.tail _ h))))
  k_with "lt" => first | assumption | (exact allLt_of (by assumption)) | (exact And.right (by assumption)) | (exact And.right (And.right (by assumption))) | (exact And.right (And.right (And.right (by assumption))))
  k_with "nn" => first | exact Int.natCast_nonneg _ | decide | omega
  k_with "div0" => omega
  k_with "pylong" => exact Or.inl (noPylong hb h4 (by assumption))
  k_with "decide" => first | (refine ite_pos (by (simp only [decide_eq_true_eq, bne_iff_ne, ne_eq]); omega) ?_) | (refine ite_neg (by (simp only [decide_eq_true_eq, bne_iff_ne, ne_eq]); omega) ?_)
  have hb1 : intBits 1 ≤ 1 := by decide
  have hbb : intBits b ≤ n := bits_of_lt (Int.le_of_lt hb) h3
  k_with "shl" => (simp only [p27]; omega)
  refine wpAny_call ?_
  k_dflt ktr_enter
  (try refine tok_any fun tk9 => ?_)
  (rename Fr _ _ _ _ => F1)
  replace F1 := fr_as (m' := fun y => List.lookup y [(Str.ofString "n", .int n tn), (Str.ofString "b", .int b tb), (Str.ofString "a", .int a ta)]) F1 rfl
  rcases Nat.mod_two_eq_zero_or_one n with hpar | hpar
  · have ob29 : ∃ H, n = H + H := ⟨n / 2, by omega⟩
    refine Mine.exand1_1 ob29 fun H hH => ?_
    try clear ob29
    have hE : (n : Int) / 2 = (H : Int) := by omega
    have hpar' : (n : Int) % 2 = 0 := by omega
    have h20 := h2
    have h30 := h3
    have h40 := h4
    rw [hH] at h20 h30 h40
    refine Mine.exand0_5 (d2_pre (by omega) hb h1 h20 h30 h40) fun e1 e2 e3 e4 e5 => ?_
    have hx0 : 0 ≤ a / 2 ^ n * 2 ^ H + a / 2 ^ H % 2 ^ H := by rw [hH, d2_split]; exact Int.ediv_nonneg h1 (Int.le_of_lt (pow_pos' H))
    have hx1 : a / 2 ^ n * 2 ^ H + a / 2 ^ H % 2 ^ H < 2 ^ (n + n) := by rw [hH, d2_split, ← hH]; exact Int.lt_of_le_of_lt (Int.ediv_le_self _ h1) (lt_of_bits ha)
    rw [← hH] at e1 e2
    have hH' : (H : Int) ≤ 2 ^ k := by omega
    have hHH : (H : Int) ≤ 4194304 := by omega
    k_with "tidy" => simp only [Int.toNat_natCast, Int.one_mul, toNat1, pow1, fdiv_pow, fdiv2, kbt_mask, bitAnd_m1, hE]
    k_with "my call" =>
      first
        | refine' Gives2.use (div3 k IH _ _ _ _ _ _ _ _ _ _ _ _ (Int.natCast_nonneg _) hH' hHH e1 (md_nn _ _) (md_lt _ _) e3 (md_nn _ _) (md_lt _ _) e4 e5 e2) ?k1 ?k2 ?k3 ?k4 ?k5 ?k6 ?k7 ?k8 ?_
        | refine' Gives2.use (div3 k IH _ _ _ _ _ _ _ _ _ _ _ _ (Int.natCast_nonneg _) hH' hHH (by assumption) (md_nn _ _) (md_lt _ _) e3 (md_nn _ _) (md_lt _ _) e4 e5 (by assumption)) ?k1 ?k2 ?k3 ?k4 ?k5 ?k6 ?k7 ?k8 ?_
      (case k1 => k_asm)
      (case k2 => k_asm)
      (case k3 => k_asm)
      (case k4 => k_asm)
      (case k5 => k_asm)
      (case k6 => exact rfl)
      (case k7 => ktr_room)
      (case k8 => ktr_units)
      intro x9 y9 D9 t91 t92 c9 hp9 tk9 P9 F9 N9 l9
      refine Mine.exand0_3 P9 fun P91 P92 P93 => ?_
      try clear P9
      simp only [Int.toNat_natCast] at P91
      (try have B9 := d2_bitsq hb P91 P92 P93 hx0 hx1)
    k_steps
    all_goals refine ret2 hret (by assumption) (by assumption) (by k_mem) (by k_extra "sub") (by k_extra "lt") ?_
    · rw [Int.fdiv_eq_ediv_of_nonneg _ (Int.le_of_lt hb), Int.fmod_eq_emod_of_nonneg _ (Int.le_of_lt hb)]
      exact ⟨by rw [Int.mul_comm]; exact Int.mul_ediv_add_emod a b, Int.emod_nonneg _ (Int.ne_of_gt hb), Int.emod_lt_of_pos _ hb⟩
    · exact d2_end0 hH hb h1 h2 (by assumption) (by assumption) (by assumption) (by assumption) (by assumption) (by assumption)
  · have ob39 : ∃ H, n + 1 = H + H := ⟨(n + 1) / 2, by omega⟩
    refine Mine.exand1_1 ob39 fun H hH => ?_
    try clear ob39
    have hE : ((n : Int) + 1) / 2 = (H : Int) := by omega
    have hE2 : ((n : Int) + 1).toNat = n + 1 := by omega
    have hpar' : (n : Int) % 2 = 1 := by omega
    have hbP : 0 < b * 2 ^ n := Int.mul_pos hb hP
    have eP : (2 : Int) ^ (H + H) = 2 ^ n * 2 := by rw [← hH]; exact Int.pow_succ _ _
    have h20 : a * 2 < b * 2 * 2 ^ (H + H) := by
      have : b * 2 * 2 ^ (H + H) = b * 2 ^ n * 4 := by rw [eP, Int.mul_assoc, Int.mul_assoc]; congr 1; omega
      omega
    refine Mine.exand0_5 (d2_pre (A := a * 2) (B := b * 2) (H := H) (by omega) (by omega) (by omega) h20 (by omega) (by omega)) fun e1 e2 e3 e4 e5 => ?_
    have hx0 : 0 ≤ a * 2 / 2 ^ (n + 1) * 2 ^ H + a * 2 / 2 ^ H % 2 ^ H := by rw [hH, d2_split]; exact Int.ediv_nonneg (by omega) (Int.le_of_lt (pow_pos' H))
    have hx1 : a * 2 / 2 ^ (n + 1) * 2 ^ H + a * 2 / 2 ^ H % 2 ^ H < 2 ^ (n + n + 1) := by
      rw [hH, d2_split]
      have := lt_of_bits ha
      have e9 : (2 : Int) ^ (n + n + 1) = 2 ^ (n + n) * 2 := Int.pow_succ _ _
      exact Int.lt_of_le_of_lt (Int.ediv_le_self _ (by omega)) (by omega)
    rw [← hH] at e1 e2
    have hb2 : 0 < b * 2 := by omega
    have hH' : (H : Int) ≤ 2 ^ k := by omega
    have hHH : (H : Int) ≤ 4194304 := by omega
    k_with "tidy" => simp only [Int.toNat_natCast, Int.one_mul, toNat1, pow1, fdiv_pow, fdiv2, kbt_mask, bitAnd_m1, hE, hE2]
    k_with "my call" =>
      first
        | refine' Gives2.use (div3 k IH _ _ _ _ _ _ _ _ _ _ _ _ (Int.natCast_nonneg _) hH' hHH e1 (md_nn _ _) (md_lt _ _) e3 (md_nn _ _) (md_lt _ _) e4 e5 e2) ?k1 ?k2 ?k3 ?k4 ?k5 ?k6 ?k7 ?k8 ?_
        | refine' Gives2.use (div3 k IH _ _ _ _ _ _ _ _ _ _ _ _ (Int.natCast_nonneg _) hH' hHH (by assumption) (md_nn _ _) (md_lt _ _) e3 (md_nn _ _) (md_lt _ _) e4 e5 (by assumption)) ?k1 ?k2 ?k3 ?k4 ?k5 ?k6 ?k7 ?k8 ?_
      (case k1 => k_asm)
      (case k2 => k_asm)
      (case k3 => k_asm)
      (case k4 => k_asm)
      (case k5 => k_asm)
      (case k6 => exact rfl)
      (case k7 => ktr_room)
      (case k8 => ktr_units)
      intro x9 y9 D9 t91 t92 c9 hp9 tk9 P9 F9 N9 l9
      refine Mine.exand0_3 P9 fun P91 P92 P93 => ?_
      try clear P9
      simp only [Int.toNat_natCast] at P91
      (try have B9 := d2_bitsq hb2 P91 P92 P93 hx0 hx1)
    k_steps
    all_goals refine ret2 hret (by assumption) (by assumption) (by k_mem) (by k_extra "sub") (by k_extra "lt") ?_
    · rw [Int.fdiv_eq_ediv_of_nonneg _ (Int.le_of_lt hb), Int.fmod_eq_emod_of_nonneg _ (Int.le_of_lt hb)]
      exact ⟨by rw [Int.mul_comm]; exact Int.mul_ediv_add_emod a b, Int.emod_nonneg _ (Int.ne_of_gt hb), Int.emod_lt_of_pos _ hb⟩
    · exact d2_end1 hH hb h1 h2 (by assumption) (by assumption) (by assumption) (by assumption) (by assumption) (by assumption)
end
example {prog : Program} {w : World} {A : Around} {env : Env} {Q : Flow → Shared → Prop} {E : Value → Shared → Prop} {s : Shared} (h : Q .next s) : wpAny (model prog w) A (execs [] env) Q E s := by
  w_top off
  walk1
  exact h
section
theorem div2_base {w p loose mean mg mb} : Div2 w p loose mean mg mb 0 := by
  intro n a b ta tb tn hn0 hn hnn h1 hb h2 h3 h4
  refine Mine.exand1_1 (Int.eq_ofNat_of_zero_le hn0) fun n ob19 => ?_
  subst ob19
  simp only [Int.toNat_natCast] at h2 h3 h4
  have ha := d2_bits h1 h2 h3
  have hn' : (n : Int) ≤ 1 := hn
  have hsm : (intBits a : Int) - (n : Int) ≤ 4000 := by omega
  unfold Gives2
  k_fill
  intro dp un gd cn cs aa ccd cl outer A₀ base h₀ L m news s Q E B F X N T hk hd hu hret
  k_with_none
  k_with "binaryOp Add int int" => (refine add_N ?_)
  k_with "binaryOp Sub int int" => (refine sub_N ?_)
  k_with "inplaceOp Add int int" => (refine iadd_N ?_)
  k_with "inplaceOp Sub int int" => (refine isub_N ?_)
  k_with "binaryOp BitOr int int" => (refine or_N ?_)
  k_with "unaryOp USub int" => (refine neg_N ?_)
  k_with "storeName" => (k_here; k_dflt (refine' storeX_N ?F ?N ?eg ?ed ?eo ?_ ?a ?b; (case F => k_asm); (case N => k_asm); (case a => rfl); (case b => rfl); (case eg => first | (dsimp only; done) | exact rfl); (case ed => first | (dsimp only; done) | exact rfl); (case eo => first | (dsimp only; done) | exact rfl); k_whole; intro _ _ _; (try k_sweep)))
  k_with "MineLt" => (first | with_reducible assumption | ((with_reducible rename _ ∧ _ => hC9); first | exact hC9.1 | exact hC9.2.1 | exact hC9.2.2.1 | exact hC9.2.2.2.1 | exact hC9.2.2.2.2.1 | exact hC9.2.2.2.2.2.1 | exact hC9.2.2.2.2.2.2.1 | exact hC9.2.2.2.2.2.2.2.1 | exact hC9.2.2.2.2.2.2.2.2.1 | exact hC9.2.2.2.2.2.2.2.2.2.1 | exact hC9.2.2.2.2.2.2.2.2.2.2.1 | exact hC9.2.2.2.2.2.2.2.2.2.2.2.1 | exact hC9.2.2.2.2.2.2.2.2.2.2.2.2.1 | exact hC9.2.2.2.2.2.2.2.2.2.2.2.2.2.1) | exact And.left (by with_reducible assumption) | exact Nat.lt_succ_self _)
  k_with "binaryOp LShift int int" => (refine' lshift_N ?hn ?hz ?_; (case hn => k_extra "nn"); (case hz => k_extra "shl"); (try k_extra "tidy"))
  k_with "inplaceOp LShift int int" => (refine' ilshift_N ?hn ?hz ?_; (case hn => k_extra "nn"); (case hz => k_extra "shl"); (try k_extra "tidy"))
  k_with "binaryOp RShift int int" => (refine' rshift_N ?hn ?_; (case hn => k_extra "nn"); (try k_extra "tidy"))
  k_with "inplaceOp RShift int int" => (refine' irshift_N ?hn ?_; (case hn => k_extra "nn"); (try k_extra "tidy"))
  k_with "binaryOp BitAnd int int" => (refine and_N ?_; (try k_extra "tidy"))
  k_with "binaryOp Mult int int" => (refine' mul_N ?_ ?hm; (case hm => k_extra "mul"); (try k_extra "tidy"))
  k_with "Kdm" => (refine' divmod_N ?F ?N ?hb ?_ ?hp; (case F => k_asm); (case N => k_asm); (case hb => k_extra "div0"); (case hp => k_extra "pylong"))
  k_with "call ref" => (k_extra "my call")
  k_with "ite" => (k_extra "decide")
  k_with "binaryOp FloorDiv int int" => (refine' floordiv_N ?hb ?_ ?hp; (case hb => k_extra "div0"); (case hp => k_extra "pylong"); (try k_extra "tidy"))
  k_with "binaryOp BitXor int int" => (refine xor_N ?_; (try k_extra "tidy"))
  k_with "sub" => first | (exact fun _ h => h) | (exact fun _ h => .tail _ h) | (exact fun _ h => .tail _ (.tail _ h)) | (exact fun _ h => .tail _ (.tail _ (.tail _ h))) | (exact fun _ h => .tail _ (.tail _ (.tail _ (.tail _ h))))
  k_with "lt" => first | assumption | (exact allLt_of (by assumption)) | (exact And.right (by assumption)) | (exact And.right (And.right (by assumption))) | (exact And.right (And.right (And.right (by assumption))))
  k_with "div0" => omega
  k_with "pylong" => exact Or.inl (noPylong hb h4 hsm)
  k_with "decide" => (refine ite_pos (by (simp only [decide_eq_true_eq]); omega) ?_)
  refine wpAny_call ?_
  k_dflt ktr_enter
  (try refine tok_any fun tk9 => ?_)
  (rename Fr _ _ _ _ => F1)
  replace F1 := fr_as (m' := fun y => List.lookup y [(Str.ofString "n", .int n tn), (Str.ofString "b", .int b tb), (Str.ofString "a", .int a ta)]) F1 rfl
  k_steps
  refine ret2 hret (by assumption) (by assumption) (by k_mem) (by k_extra "sub") (by k_extra "lt") ?_
  rw [Int.fdiv_eq_ediv_of_nonneg _ (Int.le_of_lt hb), Int.fmod_eq_emod_of_nonneg _ (Int.le_of_lt hb)]
  exact ⟨by rw [Int.mul_comm]; exact Int.mul_ediv_add_emod a b, Int.emod_nonneg _ (Int.ne_of_gt hb), Int.emod_lt_of_pos _ hb⟩

theorem div2_all {w p loose mean mg mb} : ∀ k, Div2 w p loose mean mg mb k
  | 0 => div2_base
  | k + 1 => div2 k (div2_all k)
end
example {prog : Program} {w : World} {A : Around} {env : Env} {Q : Flow → Shared → Prop} {E : Value → Shared → Prop} {s : Shared} (h : Q .next s) : wpAny (model prog w) A (execs [] env) Q E s := by
  w_top off
  walk1
  exact h
section
section
variable {prog : Program} {w : World} {A : Around} {E : Value → Shared → Prop} {s : Shared}

/-- the next of a tuple's iterator, as the C code asks it -/
theorem tupNext {it l : Addr} {i : Nat} {items : Array Value} {x : Value} {Q : Value → Shared → Prop} (I : s.heap.IsTupleIter it l i) (T : s.heap.IsTuple l items) (hx : items[i]? = some x)
    (k : ∀ h', h'.IsTupleIter it l (i + 1) → Heap.SameBut it s.heap h' → Q x { s with heap := h' }) : wpAny (model prog w) A (Builtin.SmallTypes.nextOf (.ref it)) Q E s := by
  refine Mine.exand1_3 (id I) fun oi gi ci di => ?_
  obtain ⟨ot, gt, _, nt, dt⟩ := T
  try clear T
  unfold Builtin.SmallTypes.nextOf
  refine wpAny_bind (wpAny_callSpecial?_slot (name := Str.ofString "__next__") I.typeIs F.slot_tuple_iterator_next (wpAny_call_entry F.slot_tuple_iterator_next I.typeIs F.entry_tuple_iterator_next ?_ (F.args_tuple_iterator_next_1 _)))
  show wpAny _ _ (field (.ref it) 0 >>= _) _ _ s
  refine wpAny_bind (wpAny_field gi di (x := .ref l) rfl ?_)
  show wpAny _ _ (if (Value.ref l == Value.none) = true then _ else _) _ _ s
  rw [if_neg (show ¬ ((Value.ref l == Value.none) = true) from Bool.false_ne_true)]
  show wpAny _ _ (field (.ref it) 1 >>= _) _ _ s
  refine wpAny_bind (wpAny_field gi di (x := .int i 0) rfl ?_)
  show wpAny _ _ (seqItems? (.ref l) >>= _) _ _ s
  refine wpAny_bind (wpAny_seqItems gt dt ?_)
  simp only [Int.toNat_natCast, hx]
  refine wpAny_bind (wpAny_setField gi di (by simp) (wpAny_pure ⟨x, rfl, wpAny_pure (k _ ⟨_, Heap.get?_update_self _ gi (Obj.isFreed_of_fields (Obj.data_mapFields di _)), (Obj.cls_mapFields ..).trans ci, ?_⟩ (Heap.SameBut.update ..))⟩))
  rw [Obj.data_mapFields di]; simp [rawInt]

theorem tupStop {it l : Addr} {i : Nat} {items : Array Value} {Q : Value → Shared → Prop} (hh : A.handled = none) (I : s.heap.IsTupleIter it l i) (T : s.heap.IsTuple l items) (hx : items[i]? = none)
    (k : ∀ h' e, Heap.ExtBut it s.heap h' → (∃ o, h'.get? e = some o ∧ o.cls = .type "StopIteration") → E (.ref e) { s with heap := h' }) : wpAny (model prog w) A (Builtin.SmallTypes.nextOf (.ref it)) Q E s := by
  refine Mine.exand1_3 (id I) fun oi gi ci di => ?_
  obtain ⟨ot, gt, _, nt, dt⟩ := T
  try clear T
  unfold Builtin.SmallTypes.nextOf
  refine wpAny_bind (wpAny_callSpecial?_slot (name := Str.ofString "__next__") I.typeIs F.slot_tuple_iterator_next (wpAny_call_entry F.slot_tuple_iterator_next I.typeIs F.entry_tuple_iterator_next ?_ (F.args_tuple_iterator_next_1 _)))
  show wpAny _ _ (field (.ref it) 0 >>= _) _ _ s
  refine wpAny_bind (wpAny_field gi di (x := .ref l) rfl ?_)
  show wpAny _ _ (if (Value.ref l == Value.none) = true then _ else _) _ _ s
  rw [if_neg (show ¬ ((Value.ref l == Value.none) = true) from Bool.false_ne_true)]
  show wpAny _ _ (field (.ref it) 1 >>= _) _ _ s
  refine wpAny_bind (wpAny_field gi di (x := .int i 0) rfl ?_)
  show wpAny _ _ (seqItems? (.ref l) >>= _) _ _ s
  refine wpAny_bind (wpAny_seqItems gt dt ?_)
  simp only [Int.toNat_natCast, hx]
  refine wpAny_bind (wpAny_rule (wpAny_bind (wpAny_setField gi di (by simp) ?_)))
  show wpAny _ _ (newExc (.type "StopIteration") [] >>= _) _ _ _
  refine wpAny_bind ?_
  simp only [newExc, newTuple]
  refine wpAny_bind (wpAny_newObj_type ?_ (by size_fits))
  refine wpAny_bind (m := firstArgMember _ _) (wpAny_of_eq (a := Value.none) (by first | rfl | (simp only [firstArgMember]; rfl)) ?_)
  refine wpAny_newObj_type ?_ (by size_fits)
  simp only [raiseNew]
  refine wpAny_bind (wpAny_handled ?_)
  first | rw [show A.in1.handled = none from hh] | rw [hh]
  exact wpAny_bind (wpAny_pure (wpAny_throw (k _ _ (((Heap.SameBut.update ..).extBut.push _).push _) ⟨_, Heap.get?_push_size _ rfl, rfl⟩)))

/-- the state of a zip over two tuples -/
def ZT (z T O i1 i2 l1 l2 : Addr) (xs ys : Array Value) (out : Value) (i : Nat) (h : Heap) : Prop :=
  IsZip h z T O out ∧ IsPair h T (.ref i1) (.ref i2) ∧ (∃ a b, IsPair h O a b) ∧ h.IsTupleIter i1 l1 i ∧ h.IsTupleIter i2 l2 i ∧ h.IsTuple l1 xs ∧ h.IsTuple l2 ys

theorem zt_item {z T O i1 i2 l1 l2 : Addr} {i : Nat} {xs ys : Array Value} {x y : Value} {Q : Option Value → Shared → Prop} (D : ZipApart z T O i1 i2 l1 l2) (st : ZT z T O i1 i2 l1 l2 xs ys .none i s.heap) (hx : xs[i]? = some x) (hy : ys[i]? = some y)
    (k : ∀ h', ZT z T O i1 i2 l1 l2 xs ys (rawInt s.heap.objs.size) (i + 1) h' → IsPair h' s.heap.objs.size x y → (∀ c o, c ≠ z → c ≠ O → c ≠ i1 → c ≠ i2 → s.heap.get? c = some o → h'.get? c = some o) → Q (some (.ref s.heap.objs.size)) { s with heap := h' }) :
    wpAny (model prog w) A (pyNext (.ref z)) Q E s := by
  refine Mine.exand0_7 st fun hz hT ob19 j1 j2 t1 t2 => ?_
  refine Mine.exand2_1 ob19 fun a b hO => ?_
  try clear ob19
  try clear st
  have ty : s.TypeIs (.ref z) "zip" := ⟨_, hz, rfl⟩
  unfold pyNext
  refine wpAny_bind (wpAny_attempt (wpAny_callSpecial?_slot (name := Str.ofString "__next__") ty F.slot_zip_next (wpAny_call_entry F.slot_zip_next ty F.entry_zip_next ?_ (F.args_zip_next_1 _))))
  show wpAny _ _ (field (.ref z) 2 >>= _) _ _ _
  refine wpAny_bind (wpAny_field hz rfl (x := .bool false) rfl ?_)
  show wpAny _ _ (field (.ref z) 3 >>= _) _ _ _
  refine wpAny_bind (wpAny_field hz rfl (x := .ref T) rfl ?_)
  refine wpAny_bind (wpAny_seqItems hT rfl ?_)
  show wpAny _ _ (Builtin.SmallTypes.ownedTupleIsFree (.ref z) >>= _) _ _ _
  refine wpAny_bind ?_
  unfold Builtin.SmallTypes.ownedTupleIsFree
  refine wpAny_bind (wpAny_field hz rfl (x := .none) rfl (wpAny_pure ?_))
  simp only [if_true]
  refine wpAny_bind (wpAny_rule ?_)
  refine wpAny_bind (wpAny_field hz rfl (x := .ref O) rfl ?_)
  refine wpAny_bind (wpAny_setField_rec hz (by simp) fun h₁ hz₁ u₁ => ?_)
  replace hz₁ : IsZip h₁ z T O .ellipsis := hz₁
  refine wpAny_bind ?_
  simp only [List.zipIdx_cons, List.zipIdx_nil, List.forIn_cons, List.forIn_nil]
  refine wpAny_bind (wpAny_bind (wpAny_onRaise ?_))
  show wpAny _ _ (Builtin.SmallTypes.nextOf (.ref i1) >>= _) _ _ _
  refine wpAny_bind (tupNext (j1.extBut u₁.extBut D.i1z) (t1.extBut u₁.extBut D.l1z) hx fun h₂ j1' u₂ => wpAny_pure ?_)
  have hO₂ : IsPair h₂ O a b := u₂.extBut _ _ D.TOi1 (u₁.extBut _ _ D.TOz hO)
  refine wpAny_bind (wpAny_seqItems hO₂ rfl ?_)
  refine wpAny_bind (wpAny_updateSeq_pair hO₂ fun h₃ hO₃ u₃ => ?_)
  replace hO₃ : IsPair h₃ O x b := hO₃
  refine wpAny_bind (wpAny_letGo (wpAny_pure ?_))
  refine wpAny_bind (wpAny_bind (wpAny_onRaise ?_))
  show wpAny _ _ (Builtin.SmallTypes.nextOf (.ref i2) >>= _) _ _ _
  refine wpAny_bind (tupNext (((j2.extBut u₁.extBut D.i2z).extBut u₂.extBut D.i12.symm).extBut u₃.extBut D.TOi2.symm) (((t2.extBut u₁.extBut D.l2z).extBut u₂.extBut D.l2i1).extBut u₃.extBut D.l2TO) hy fun h₄ j2' u₄ => wpAny_pure ?_)
  have hO₄ : IsPair h₄ O x b := u₄.extBut _ _ D.TOi2 hO₃
  refine wpAny_bind (wpAny_seqItems hO₄ rfl ?_)
  refine wpAny_bind (wpAny_updateSeq_pair hO₄ fun h₅ hO₅ u₅ => ?_)
  replace hO₅ : IsPair h₅ O x y := hO₅
  refine wpAny_bind (wpAny_letGo (wpAny_pure (wpAny_pure ?_)))
  refine wpAny_bind (wpAny_seqItems hO₅ rfl ?_)
  refine wpAny_bind (wpAny_newTuple ?_)
  have hsz : h₅.objs.size = s.heap.objs.size := by rw [u₅.1, u₄.1, u₃.1, u₂.1, u₁.1]
  have hz₅ : IsZip h₅ z T O .ellipsis := u₅.extBut _ _ D.TOz.symm (u₄.extBut _ _ D.i2z.symm (u₃.extBut _ _ D.TOz.symm (u₂.extBut _ _ D.i1z.symm hz₁)))
  have keep₅ : ∀ c o, c ≠ z → c ≠ O → c ≠ i1 → c ≠ i2 → s.heap.get? c = some o → h₅.get? c = some o := fun c o c1 c2 c3 c4 e => u₅.extBut _ _ c2 (u₄.extBut _ _ c4 (u₃.extBut _ _ c2 (u₂.extBut _ _ c3 (u₁.extBut _ _ c1 e))))
  have J1 : h₅.IsTupleIter i1 l1 (i + 1) := ((j1'.extBut u₃.extBut D.TOi1.symm).extBut u₄.extBut D.i12).extBut u₅.extBut D.TOi1.symm
  have J2 : h₅.IsTupleIter i2 l2 (i + 1) := j2'.extBut u₅.extBut D.TOi2.symm
  have zl : z < h₅.objs.size := Heap.lt_size hz₅
  show wpAny _ _ (Builtin.SmallTypes.ownedTupleHandOut (.ref z) (.ref h₅.objs.size) >>= _) _ _ _
  refine wpAny_bind ?_
  unfold Builtin.SmallTypes.ownedTupleHandOut
  have hz₆ : IsZip (h₅.push { cls := .type "tuple", data := .seq #[x, y] }) z T O .ellipsis := Heap.get?_push_of_some _ hz₅
  refine wpAny_bind (wpAny_setField_rec hz₆ (by simp) fun h₇ hz₇ u₇ => ?_)
  replace hz₇ : IsZip h₇ z T O (rawInt h₅.objs.size) := hz₇
  refine wpAny_setField_rec hz₇ (by simp) fun h₈ hz₈ u₈ => ?_
  replace hz₈ : IsZip h₈ z T O (rawInt h₅.objs.size) := hz₈
  have up : ∀ c o, c ≠ z → h₅.get? c = some o → h₈.get? c = some o := fun c o c1 e => u₈.extBut _ _ c1 (u₇.extBut _ _ c1 (Heap.get?_push_of_some _ e))
  have hP : IsPair h₈ h₅.objs.size x y := u₈.extBut _ _ (Nat.ne_of_gt zl) (u₇.extBut _ _ (Nat.ne_of_gt zl) (Heap.get?_push_size _ rfl))
  rw [hsz] at hz₈ hP
  refine wpAny_pure ⟨_, rfl, ?_⟩
  rw [hsz]
  have kp : ∀ c o, c ≠ z → c ≠ O → c ≠ i1 → c ≠ i2 → s.heap.get? c = some o → h₈.get? c = some o := fun c o c1 c2 c3 c4 e => up c o c1 (keep₅ c o c1 c2 c3 c4 e)
  exact wpAny_pure (k h₈ ⟨hz₈, kp _ _ D.TIz D.TITO D.TIi1 D.TIi2 hT, ⟨_, _, up _ _ D.TOz hO₅⟩, J1.at fun o e => up _ o D.i1z e, J2.at fun o e => up _ o D.i2z e, t1.at fun o e => kp _ o D.l1z D.l1TO D.l1i1 D.l1i2 e, t2.at fun o e => kp _ o D.l2z D.l2TO D.l2i1 D.l2i2 e⟩ hP kp)

theorem zt_end {z T O i1 i2 l1 l2 : Addr} {i : Nat} {xs ys : Array Value} {Q : Option Value → Shared → Prop} (hh : A.handled = none) (D : ZipApart z T O i1 i2 l1 l2) (st : ZT z T O i1 i2 l1 l2 xs ys .none i s.heap) (hx : xs[i]? = none)
    (k : ∀ h', (∀ c o, c ≠ z → c ≠ O → c ≠ i1 → c ≠ i2 → s.heap.get? c = some o → h'.get? c = some o) → Q none { s with heap := h' }) :
    wpAny (model prog w) A (pyNext (.ref z)) Q E s := by
  refine Mine.exand0_7 st fun hz hT ob29 j1 j2 t1 t2 => ?_
  refine Mine.exand2_1 ob29 fun a b hO => ?_
  try clear ob29
  try clear st
  have ty : s.TypeIs (.ref z) "zip" := ⟨_, hz, rfl⟩
  unfold pyNext
  refine wpAny_bind (wpAny_attempt (wpAny_callSpecial?_slot (name := Str.ofString "__next__") ty F.slot_zip_next (wpAny_call_entry F.slot_zip_next ty F.entry_zip_next ?_ (F.args_zip_next_1 _))))
  show wpAny _ _ (field (.ref z) 2 >>= _) _ _ _
  refine wpAny_bind (wpAny_field hz rfl (x := .bool false) rfl ?_)
  show wpAny _ _ (field (.ref z) 3 >>= _) _ _ _
  refine wpAny_bind (wpAny_field hz rfl (x := .ref T) rfl ?_)
  refine wpAny_bind (wpAny_seqItems hT rfl ?_)
  show wpAny _ _ (Builtin.SmallTypes.ownedTupleIsFree (.ref z) >>= _) _ _ _
  refine wpAny_bind ?_
  unfold Builtin.SmallTypes.ownedTupleIsFree
  refine wpAny_bind (wpAny_field hz rfl (x := .none) rfl (wpAny_pure ?_))
  simp only [if_true]
  refine wpAny_bind (wpAny_rule ?_)
  refine wpAny_bind (wpAny_field hz rfl (x := .ref O) rfl ?_)
  refine wpAny_bind (wpAny_setField_rec hz (by simp) fun h₁ hz₁ u₁ => ?_)
  replace hz₁ : IsZip h₁ z T O .ellipsis := hz₁
  refine wpAny_bind ?_
  simp only [List.zipIdx_cons, List.zipIdx_nil, List.forIn_cons, List.forIn_nil]
  refine wpAny_bind (wpAny_bind (wpAny_onRaise ?_))
  show wpAny _ _ (Builtin.SmallTypes.nextOf (.ref i1) >>= _) _ _ _
  refine wpAny_bind (tupStop hh (j1.extBut u₁.extBut D.i1z) (t1.extBut u₁.extBut D.l1z) hx fun h₂ e u₂ he => ?_)
  refine Mine.exand1_2 he fun oe ge ce => ?_
  try clear he
  have hz₂ : IsZip h₂ z T O .ellipsis := u₂ _ _ D.i1z.symm hz₁
  have hne : e ≠ z := fun q => by subst q; rw [hz₂] at ge; cases ge; simp at ce
  refine wpAny_setField_rec hz₂ (by simp) fun h₃ _ u₃ => ?_
  refine wpAny_bind (wpAny_isInstance (T := "StopIteration") (b := true) ⟨oe, u₃.extBut _ _ hne ge, ce⟩ isSubtype_stop ?_)
  exact wpAny_pure (k h₃ fun c o c1 _ c3 _ q => u₃.extBut _ _ c1 (u₂ _ _ c3 (u₁.extBut _ _ c1 q)))

/-- the walk of a zip over two tuples of one length -/
theorem zt_walks (hh : A.handled = none) (z T O i1 i2 l1 l2 : Addr) (D : ZipApart z T O i1 i2 l1 l2) (xs ys : Array Value) (hl : xs.size = ys.size) :
    WalksU prog w A z [z, T, O, i1, i2, l1, l2] [z, O, i1, i2] xs.size (fun i vals => ∃ x y, xs[i]? = some x ∧ ys[i]? = some y ∧ vals = #[x, y]) (ZT z T O i1 i2 l1 l2 xs ys .none)
      (fun i t h => ZT z T O i1 i2 l1 l2 xs ys (rawInt t) (i + 1) h ∧ t ≠ z ∧ t ≠ O ∧ t ≠ i1 ∧ t ≠ i2) where
  sub := fun c hc => by simp at hc ⊢; rcases hc with rfl | rfl | rfl | rfl <;> simp
  frame := fun i h h' st k => by
    refine Mine.exand0_7 st fun hz hT ob39 j1 j2 t1 t2 => ?_
    refine Mine.exand2_1 ob39 fun a b hO => ?_
    try clear ob39
    try clear st
    exact ⟨k z (by simp) _ hz, k T (by simp) _ hT, ⟨a, b, k O (by simp) _ hO⟩, j1.at fun o e => k i1 (by simp) o e, j2.at fun o e => k i2 (by simp) o e, t1.at fun o e => k l1 (by simp) o e, t2.at fun o e => k l2 (by simp) o e⟩
  item := fun i s Q E hi st k => by
    have hi2 : i < ys.size := hl ▸ hi
    have st0 := st
    refine Mine.exand0_7 st fun hz hT ob49 ob59 ob69 t1 t2 => ?_
    refine Mine.exand2_1 ob49 fun a b hO => ?_
    try clear ob49
    refine Mine.exand1_2 ob59 fun o1 g1 _ => ?_
    try clear ob59
    refine Mine.exand1_2 ob69 fun o2 g2 _ => ?_
    try clear ob69
    try clear st
    have lt : ∀ {c o}, s.heap.get? c = some o → s.heap.objs.size ≠ c := fun e => Nat.ne_of_gt (Heap.lt_size e)
    exact zt_item D st0 (Array.getElem?_eq_getElem hi) (Array.getElem?_eq_getElem hi2) fun h' st' hP kp =>
      k s.heap.objs.size #[xs[i], ys[i]] h' s.toks ⟨_, _, Array.getElem?_eq_getElem hi, Array.getElem?_eq_getElem hi2, rfl⟩ ⟨_, hP, rfl, _, rfl⟩ ⟨st', lt hz, lt hO, lt g1, lt g2⟩
        fun c o hc e => kp c o (fun q => hc (by simp [q])) (fun q => hc (by simp [q])) (fun q => hc (by simp [q])) (fun q => hc (by simp [q])) e
  go := fun elts kk pos i t s Q E hm k => by
    refine Mine.exand0_2 hm fun ob79 _ => ?_
    refine Mine.exand0_7 ob79 fun hz hT ob89 j1 j2 t1 t2 => ?_
    refine Mine.exand2_1 ob89 fun a b hO => ?_
    try clear ob89
    try clear ob79
    try clear hm
    exact wpAny_letOwnedTupleGo_zip hz fun h' hz' u => k h' ⟨hz', u.extBut _ _ D.TIz hT, ⟨a, b, u.extBut _ _ D.TOz hO⟩, j1.extBut u.extBut D.i1z, j2.extBut u.extBut D.i2z, t1.extBut u.extBut D.l1z, t2.extBut u.extBut D.l2z⟩
      fun c o hc e => u.extBut _ _ (fun q => hc (by simp [q])) e
  apart := fun i t h hm ht => by
    refine Mine.exand0_5 hm fun _ a1 a2 a3 a4 => ?_
    try clear hm
    simp at ht
    rcases ht with rfl | rfl | rfl | rfl
    · exact a1 rfl
    · exact a2 rfl
    · exact a3 rfl
    · exact a4 rfl
  done := fun s Q E st k => zt_end hh D st (Array.getElem?_eq_none (Nat.le_refl _)) fun h' kp => k h' s.toks fun c o hc e =>
    kp c o (fun q => hc (by simp [q])) (fun q => hc (by simp [q])) (fun q => hc (by simp [q])) (fun q => hc (by simp [q])) e
  self := fun i s Q E st k => wpAny_pyIter_zip st.1 k

abbrev ztH1 (h : Heap) (l1 : Addr) : Heap := h.push { cls := .type "tuple_iterator", data := .fields #[.ref l1, .int 0 0] }
abbrev ztH2 (h : Heap) (l1 l2 : Addr) : Heap := (ztH1 h l1).push { cls := .type "tuple_iterator", data := .fields #[.ref l2, .int 0 0] }
abbrev ztH3 (h : Heap) (l1 l2 : Addr) : Heap := (ztH2 h l1 l2).push { cls := .type "tuple", data := .seq #[.ref h.objs.size, .ref (ztH1 h l1).objs.size] }
abbrev ztH4 (h : Heap) (l1 l2 : Addr) : Heap := (ztH3 h l1 l2).push { cls := .type "tuple", data := .seq #[.none, .none] }
abbrev ztH5 (h : Heap) (l1 l2 : Addr) : Heap := (ztH4 h l1 l2).push { cls := .type "zip", data := .fields #[.none, .bool false, .bool false, .ref (ztH2 h l1 l2).objs.size, .ref (ztH3 h l1 l2).objs.size] }

theorem zt_meets (l1 l2 : Addr) (xs ys : Array Value) :
    Meets (Builtin.«zip.__new__» ⟨[.type "zip", .ref l1, .ref l2], []⟩) (fun _ R s => s.heap.IsTuple l1 xs ∧ s.heap.IsTuple l2 ys ∧ R (.ok (.ret (.ref (ztH4 s.heap l1 l2).objs.size))) { s with heap := ztH5 s.heap l1 l2 }) :=
  .of_wp fun prog w A R s h => by
    obtain ⟨hp, g, d, tk, os⟩ := s; obtain ⟨h1, h2, h⟩ := h
    have hsub := sub_zip
    have L1 : Heap.IsTuple (Shared.heap ⟨hp, g, d, tk, os⟩) l1 xs := h1
    have L2 : Heap.IsTuple (Shared.heap ⟨hp.push { cls := .type "tuple_iterator", data := .fields #[.ref l1, .int 0 0] }, g, d, tk, os⟩) l2 ys := Heap.IsTuple.push h2 _
    wp_walk using wpAny_pyIter_tuple L1, wpAny_pyIter_tuple L2
    exact ⟨_, rfl, h⟩

theorem zt_call {l1 l2 : Addr} {xs ys : Array Value} {Q : Value → Shared → Prop} (h1 : s.heap.IsTuple l1 xs) (h2 : s.heap.IsTuple l2 ys)
    (k : ∀ h' z T O i1 i2, ZipApart z T O i1 i2 l1 l2 → ZT z T O i1 i2 l1 l2 xs ys .none 0 h' → (∀ c o, s.heap.get? c = some o → h'.get? c = some o) → (∀ c ∈ [z, T, O, i1, i2], s.heap.objs.size ≤ c ∧ c < h'.objs.size) → Q (.ref z) { s with heap := h' }) :
    wpAny (model prog w) A (call (.type "zip") [.ref l1, .ref l2]) Q E s := by
  have a1 : l1 < s.heap.objs.size := by obtain ⟨_, e, _⟩ := h1; exact Heap.lt_size e
  have a2 : l2 < s.heap.objs.size := by obtain ⟨_, e, _⟩ := h2; exact Heap.lt_size e
  refine callType_new F.called_zip (by decide) (F.typeCall_zip_2 _ _) (F.newCall_zip_2 _ _) (fun obj => F.args_object_init_3 obj _ _) F.entry_zip_new (zt_meets l1 l2 xs ys) ⟨h1, h2, ?_⟩
  have z1 : (ztH1 s.heap l1).objs.size = s.heap.objs.size + 1 := Heap.size_push ..
  have z2 : (ztH2 s.heap l1 l2).objs.size = s.heap.objs.size + 2 := by rw [Heap.size_push, z1]
  have z3 : (ztH3 s.heap l1 l2).objs.size = s.heap.objs.size + 3 := by rw [Heap.size_push, z2]
  have z4 : (ztH4 s.heap l1 l2).objs.size = s.heap.objs.size + 4 := by rw [Heap.size_push, z3]
  have z5 : (ztH5 s.heap l1 l2).objs.size = s.heap.objs.size + 5 := by rw [Heap.size_push, z4]
  have keep : ∀ c o, s.heap.get? c = some o → (ztH5 s.heap l1 l2).get? c = some o := fun c o e => Heap.get?_push_of_some _ (Heap.get?_push_of_some _ (Heap.get?_push_of_some _ (Heap.get?_push_of_some _ (Heap.get?_push_of_some _ e))))
  have g5 : (ztH5 s.heap l1 l2).get? (ztH4 s.heap l1 l2).objs.size = some _ := Heap.get?_push_size _ rfl
  have g4 : (ztH5 s.heap l1 l2).get? (ztH3 s.heap l1 l2).objs.size = some _ := Heap.get?_push_of_some _ (Heap.get?_push_size _ rfl)
  have g3 : (ztH5 s.heap l1 l2).get? (ztH2 s.heap l1 l2).objs.size = some _ := Heap.get?_push_of_some _ (Heap.get?_push_of_some _ (Heap.get?_push_size _ rfl))
  have g2 : (ztH5 s.heap l1 l2).get? (ztH1 s.heap l1).objs.size = some _ := Heap.get?_push_of_some _ (Heap.get?_push_of_some _ (Heap.get?_push_of_some _ (Heap.get?_push_size _ rfl)))
  have g1 : (ztH5 s.heap l1 l2).get? s.heap.objs.size = some _ := Heap.get?_push_of_some _ (Heap.get?_push_of_some _ (Heap.get?_push_of_some _ (Heap.get?_push_of_some _ (Heap.get?_push_size _ rfl))))
  show _ ∧ _
  rw [z2, z3, z4] at g5
  rw [z1, z2] at g3
  rw [z3] at g4
  rw [z1] at g2
  rw [z4]
  refine ⟨⟨_, g5, rfl⟩, k _ (s.heap.objs.size + 4) (s.heap.objs.size + 2) (s.heap.objs.size + 3) s.heap.objs.size (s.heap.objs.size + 1) (zipApart_new a1 a2) ⟨g5, g3, ⟨_, _, g4⟩, ⟨_, g1, rfl, rfl⟩, ⟨_, g2, rfl, rfl⟩, h1.at fun o e => keep _ o e, h2.at fun o e => keep _ o e⟩ keep ?_⟩
  intro c hc
  rw [z5]
  simp only [List.mem_cons, List.not_mem_nil, or_false] at hc
  rcases hc with rfl | rfl | rfl | rfl | rfl <;> exact ⟨by first | exact Nat.le_refl _ | exact Nat.le_add_right _ _, by first | exact Nat.lt_add_of_pos_right (by decide) | exact Nat.add_lt_add_left (by decide) _⟩
end
end
example {prog : Program} {w : World} {A : Around} {env : Env} {Q : Flow → Shared → Prop} {E : Value → Shared → Prop} {s : Shared} (h : Q .next s) : wpAny (model prog w) A (execs [] env) Q E s := by
  w_top off
  walk1
  exact h
section
open PySem.Calls


/-- the table of the code that makes the generator: not yet grown, or grown -/
def GT (ps : Array Value) : Prop := ps = #[] ∨ ∃ c' : Addr, ps = #[rawInt 102, rawInt 42, .ref c']
theorem GT.triples {ps : Array Value} (h : GT ps) : TriplesOk ps.toList := by
  rcases h with rfl | ⟨c', rfl⟩
  · exact True.intro
  · simp [TriplesOk, rawInt]

/-- a generator of two ints, ready to run -/
def GenReady (prog : Program) (w : World) (A : Around) (a : Addr) (z1 z2 : Int) (L : Addr) (news : List (Addr × Obj)) (s : Shared) : Prop :=
  ∃ fp wr g St P, WalksS prog w A.in4 a fp wr (GenOnlyQ g) 2 P St ∧ St 0 s ∧ (∀ i s', St i s' → s'.TypeIs (.ref a) "generator") ∧ a ∈ fp ∧ (∀ b ∈ fp, b < s.heap.objs.size) ∧ (∀ b ∈ wr, L < b) ∧ (∀ q ∈ news, ∀ b ∈ wr, q.1 ≠ b) ∧
    (∀ y, P 0 y → ∃ t, y = .int z1 t) ∧ (∀ y, P 1 y → ∃ t, y = .int z2 t)

section
variable {prog : Program} {w : World} {A : Around} {E : Value → Shared → Prop} {s : Shared} {h₀ : Heap} {L : Addr} {m : Str → Option Value} {news : List (Addr × Obj)}

theorem arr2 {α : Type} {acc : Array α} (h : acc.size = 2) : ∃ a b, acc = #[a, b] := by
  cases acc with
  | mk l =>
    have h' : l.length = 2 := h
    cases l with
    | nil => cases h'
    | cons a l => cases l with
      | nil => cases h'
      | cons b l => cases l with
        | nil => exact ⟨a, b, rfl⟩
        | cons c l => simp at h'
theorem tuple_gen {a : Addr} {z1 z2 : Int} {Q : Value → Shared → Prop} (F : Fr h₀ L s.heap m) (N : News h₀ L s.heap news) (G : AllBare s.gens) (X : GenReady prog w A a z1 z2 L news s)
    (k : ∀ D t1 t2 h' tk' gs' c, Fr h₀ L h' m → News h₀ L h' ((D, tup2 z1 t1 z2 t2 c) :: news) → AllLt D news → AllBare gs' → Q (.ref D) { s with heap := h', toks := tk', gens := gs' }) :
    wpAny (model prog w) A (call (.type "tuple") [.ref a]) Q E s := by
  refine Mine.exand5_9 X fun fp wr g St P W hst hT hI hfp hwr hnw p0 p1 => ?_
  try clear X
  refine call_tuple_gen (hsz := by simp [sizeLine_eq]) W.in4_3 hT hst hfp hI fun s' acc hm hacc => ?_
  refine Mine.exand0_2 hacc fun hsz hit => ?_
  try clear hacc
  obtain ⟨hp', gs', dr', tk', os'⟩ := s'
  try clear s'
  obtain ⟨hk, hg, hdr, hos, htk⟩ := hm
  try clear hm
  dsimp only at hk hg hdr hos htk
  subst hdr hos
  have e0 : ∃ v0 v1, acc = #[v0, v1] := arr2 (by simpa using hsz)
  refine Mine.exand2_1 e0 fun v0 v1 ob19 => ?_
  subst ob19
  try clear e0
  refine Mine.exand1_1 (p0 v0 (hit 0 v0 rfl)) fun t0 ob29 => ?_
  subst ob29
  refine Mine.exand1_1 (p1 v1 (hit 1 v1 rfl)) fun t1 ob39 => ?_
  subst ob39
  have old : ∀ b o, h₀.get? b = some o → b ∉ wr := fun b o e hb => Nat.lt_irrefl _ (Nat.lt_trans (hwr b hb) (Nat.lt_of_lt_of_le (Heap.lt_size e) F.above))
  have F1 : Fr h₀ L hp' m := ⟨F.ns.at' fun o e => hk _ o (fun hb => Nat.lt_irrefl _ (hwr _ hb)) e, fun b o e => hk b o (old b o e) (F.keep b o e), F.above⟩
  have N1 : News h₀ L hp' news := fun q hq => ⟨hk _ _ (fun hb => hnw q hq _ hb rfl) (N q hq).1, (N q hq).2⟩
  exact k hp'.objs.size t0 t1 _ tk' gs' _ (F1.push _) (News.push F1 N1 _ rfl) (allLt_of fun q hq => Heap.lt_size (N1 q hq).1) (fun y hy => hg.bare G y hy)

/-- what the source of the generator must tell -/
def ZipPost (h₀ : Heap) (L : Addr) (m : Str → Option Value) (news : List (Addr × Obj)) (x1 x2 y1 y2 : Int) (s : Shared) (xv : Value) (s₁ : Shared) : Prop :=
  ∃ z T O i1 i2 l1 l2 a1 a2 b1 b2, xv = .ref z ∧ ZipApart z T O i1 i2 l1 l2 ∧ ZT z T O i1 i2 l1 l2 #[.int x1 a1, .int x2 a2] #[.int y1 b1, .int y2 b2] .none 0 s₁.heap ∧ Fr h₀ L s₁.heap m ∧ News h₀ L s₁.heap news ∧
    (∀ c ∈ [z, T, O, i1, i2], L < c ∧ ∀ q ∈ news, q.1 < c) ∧ ∃ h tk, s₁ = { s with heap := h, toks := tk }

theorem zip_post {s₁ : Shared} {l1 l2 : Addr} {x1 x2 y1 y2 : Int} {a1 a2 b1 b2 : Tok} {k1 k2 : Nat} (F : Fr h₀ L s₁.heap m) (N : News h₀ L s₁.heap news) (n1 : (l1, tup2 x1 a1 x2 a2 k1) ∈ news) (n2 : (l2, tup2 y1 b1 y2 b2 k2) ∈ news) (e : ∃ h tk, s₁ = { s with heap := h, toks := tk }) :
    wpAny (model prog w) A (call (.type "zip") [.ref l1, .ref l2]) (ZipPost h₀ L m news x1 x2 y1 y2 s) E s₁ := by
  refine Mine.exand2_1 e fun h₁ tk ob49 => ?_
  subst ob49
  try clear e
  refine zt_call (xs := #[.int x1 a1, .int x2 a2]) (ys := #[.int y1 b1, .int y2 b2]) ⟨_, (N _ n1).1, rfl, _, rfl⟩ ⟨_, (N _ n2).1, rfl, _, rfl⟩ fun h' z T O i1 i2 D st kp rg => ?_
  exact ⟨z, T, O, i1, i2, l1, l2, a1, a2, b1, b2, rfl, D, st, F.keeps kp, fun q hq => ⟨kp _ _ (N q hq).1, (N q hq).2⟩, fun c hc => ⟨Nat.lt_of_lt_of_le F.ns.lt (rg c hc).1, fun q hq => Nat.lt_of_lt_of_le (Heap.lt_size (N q hq).1) (rg c hc).1⟩, _, _, rfl⟩

theorem genexp_zip {p : Program} {loose : List Str} {mean : ExcName → Option Value} {mg mb : Str → Option Value} {env : Env} {iter : Expr} {pi pj po pa pb pt : Pos} {kt : Nat} {scope : Scope} {ps : Array Value} {x1 x2 y1 y2 : Int} {pl pc : Nat} {Q : Value → Shared → Prop}
    (_F : Fr h₀ L s.heap m) (C : CodeHd h₀ 97 93) (Tp : Top p loose mean mg mb h₀) (hG : GT ps) (hne : ∀ q ∈ news, q.1 ≠ 93) (B : AllBare s.gens)
    (hcode : env.code = .ref 97) (hglob : env.globals = mainGlobals) (hh : A.handled = none) (hco : scope.isCoroutine = false) (hclos : closureFor scope env = pure []) (hcell : ∀ y ∈ scope.names, y.2 ≠ .cell) (h0 : scope.names.lookup (".0" : Str) = some NameKind.local)
    (hxa : scope.names.lookup (Str.ofString "i") = some .local) (hxb : scope.names.lookup (Str.ofString "j") = some .local) (hkind : scope.kind = .function) (hroom : A.depth < recursionLimit)
    (h : wpAny (model prog w) A (eval iter env) (ZipPost h₀ L m ((93, tabObj ps) :: news) x1 x2 y1 y2 s) E s)
    (hs : ∀ x, genFold iter env x = pure x)
    (k : ∀ a h' tk' gs' ps', GT ps' → AllBare gs' → Fr h₀ L h' m → News h₀ L h' ((93, tabObj ps') :: news) → GenReady prog w A a (x1 + y1) (x2 + y2) L ((93, tabObj ps') :: news) { s with heap := h', toks := tk', gens := gs' } → Q (.ref a) { s with heap := h', toks := tk', gens := gs' }) :
    wpAny (model prog w) A (eval (.GeneratorExp (.BinOp (.Name (Str.ofString "i") pi) .Add (.Name (Str.ofString "j") pj) po) [⟨.Tuple [.Name (Str.ofString "i") pa, .Name (Str.ofString "j") pb] kt pt, iter, [], 0⟩] scope ⟨102, 42, pl, pc⟩) env) Q E s := by
  have hab : (Str.ofString "i") ≠ Str.ofString "j" := by decide
  refine wpAny_GeneratorExp_walksQTD hh hco hclos hcell h0 hxa hxb hab hkind hroom (wpAny_mono h (fun xv s₁ hz => ?_) fun _ _ e => e) hs
  refine Mine.exand11_7 hz fun z T O i1 i2 l1 l2 a1 a2 b1 b2 ob59 D st F N rg ob69 => ?_
  subst ob59
  refine Mine.exand2_1 ob69 fun h₁ tk₁ ob79 => ?_
  subst ob79
  try clear ob69
  try clear hz
  have W := fun (A' : Around) (hA : A'.handled = none) => zt_walks (prog := prog) (w := w) hA z T O i1 i2 l1 l2 D #[.int x1 a1, .int x2 a2] #[.int y1 b1, .int y2 b2] rfl
  refine (W A hh).self 0 _ _ _ st ?_
  have nl := Tp.nolimit.keeps F.keep
  refine ⟨nl, ?_⟩
  have hm := N (93, tabObj ps) (.head _)
  have hm1 : h₁.get? 93 = some (tabObj ps) := hm.1
  have hgs := Tp.g.keeps F.keep
  refine Mine.exand2_6 Tp.bmain fun bm ob b1' b2' b3 b4 b5 b6 => ?_
  have hgP : mainGlobals ≠ 93 := fun q => by
    refine Mine.exand3_3 hgs fun o es ep e hd _ => ?_
    try clear hgs
    rw [q, hm.1] at e; cases e; cases hd
  have hbP : bm ≠ 93 := fun q => by
    have e := F.keep _ _ b3
    rw [q, hm.1] at e; cases e; cases b4
  have hcP : cStatics ≠ 93 := fun q => by
    refine Mine.exand1_2 nl fun _ hns _ => ?_
    try clear nl
    refine Mine.exand3_3 hns fun o es ep e hd _ => ?_
    try clear hns
    rw [q, hm.1] at e; cases e; cases hd
  have hcw : cStatics ∉ [z, O, i1, i2] := fun hc => by
    have hc' : cStatics ∈ [z, T, O, i1, i2] := by
      simp only [List.mem_cons, List.not_mem_nil, or_false] at hc ⊢
      rcases hc with h | h | h | h <;> simp [h]
    refine Mine.exand1_2 Tp.nolimit fun _ hns _ => ?_
    exact Nat.lt_irrefl _ (Nat.lt_trans (rg _ hc').1 (Nat.lt_of_lt_of_le hns.lt F.above))
  -- what is behind the code object: the same for a table that grows and for one that is grown
  have rest : ∀ (c' : Addr) (h₃ : Heap) (tk₃ : Nat) (ps' : Array Value), GT ps' → Heap.ExtBut 93 h₁ h₃ → h₁.objs.size ≤ h₃.objs.size → h₃.get? 93 = some (tabObj ps') →
      wpAny (model prog w) A (builtinsFor env.globals env.builtins) (fun bi s₄ =>
        ∃ I fp wr n₀ Pt St₀ Mid pz F, (.ref z : Value) = .ref I ∧ (∀ A' : Around, A'.handled = none → WalksU prog w A' I fp wr n₀ Pt St₀ Mid) ∧ (∀ i vals, Pt i vals → ∃ va vb, vals = #[va, vb]) ∧ St₀ 0 s₄.heap ∧ (∀ b ∈ fp, b < s₄.heap.objs.size) ∧ s₄.heap.NoLimit ∧ cStatics ∉ wr ∧
          (∀ href : Heap, (∀ b o, s₄.heap.get? b = some o → href.get? b = some o) →
            QuietGenTD prog w (genEnv scope [] s₄.heap.objs.size (.ref c') bi env) (Str.ofString "i") (Str.ofString "j") [] (.BinOp (.Name (Str.ofString "i") pi) .Add (.Name (Str.ofString "j") pj) po) (List.range s₄.heap.objs.size) wr Pt pz F href (A.depth + 1) (A.units + 8)) ∧
          (∀ a h₅ tk gs, gs.bare = true → s₄.heap.objs.size < a → h₅.objs.size = a + 1 → (∀ b o, s₄.heap.get? b = some o → h₅.get? b = some o) →
            WalksS prog w A.in4 a (a :: s₄.heap.objs.size :: List.range s₄.heap.objs.size) (s₄.heap.objs.size :: wr) (GenOnlyQ s₄.gens.size) (passing pz n₀ 0).length
              (fun j y => ∃ i, (passing pz n₀ 0)[j]? = some i ∧ F i y) (GenAt prog w A.in4 a s₄.gens.size s₄.heap.objs.size (List.range s₄.heap.objs.size) wr pz n₀ F) →
            GenAt prog w A.in4 a s₄.gens.size s₄.heap.objs.size (List.range s₄.heap.objs.size) wr pz n₀ F 0 { s₄ with gens := s₄.gens.push gs, toks := tk, heap := h₅ } →
            Q (.ref a) { s₄ with gens := s₄.gens.push gs, toks := tk, heap := h₅ })) E { s with heap := h₃, toks := tk₃ } := by
    intro c' h₃ tk₃ ps' hG' hx hsz ht
    have ofp : ∀ b ∈ [z, T, O, i1, i2, l1, l2], b < h₁.objs.size ∧ b ≠ 93 := by
      refine Mine.exand0_7 st fun g1 g2 ob89 ob99 ob109 ob119 ob129 => ?_
      refine Mine.exand2_1 ob89 fun _ _ g3 => ?_
      try clear ob89
      refine Mine.exand1_3 ob99 fun _ g4 g4c _ => ?_
      try clear ob99
      refine Mine.exand1_3 ob109 fun _ g5 g5c _ => ?_
      try clear ob109
      refine Mine.exand1_3 ob119 fun _ g6 g6c _ => ?_
      try clear ob119
      refine Mine.exand1_3 ob129 fun _ g7 g7c _ => ?_
      try clear ob129
      try clear st
      intro b hb
      simp only [List.mem_cons, List.not_mem_nil, or_false] at hb
      rcases hb with rfl | rfl | rfl | rfl | rfl | rfl | rfl
      · exact ⟨Heap.lt_size g1, fun q => by rw [q] at g1; cases hm1.symm.trans g1⟩
      · exact ⟨Heap.lt_size g2, fun q => by rw [q] at g2; cases hm1.symm.trans g2⟩
      · exact ⟨Heap.lt_size g3, fun q => by rw [q] at g3; cases hm1.symm.trans g3⟩
      · exact ⟨Heap.lt_size g4, fun q => by rw [q] at g4; cases hm1.symm.trans g4; cases g4c⟩
      · exact ⟨Heap.lt_size g5, fun q => by rw [q] at g5; cases hm1.symm.trans g5; cases g5c⟩
      · exact ⟨Heap.lt_size g6, fun q => by rw [q] at g6; cases hm1.symm.trans g6; cases g6c⟩
      · exact ⟨Heap.lt_size g7, fun q => by rw [q] at g7; cases hm1.symm.trans g7; cases g7c⟩
    have hg3 : h₃.Ns mainGlobals mg := hgs.extBut hx hgP
    rw [hglob]
    refine wpAny_builtinsFor hg3 b1' b2' (hx _ _ hbP (F.keep _ _ b3)) b4 b5 b6 ?_
    refine ⟨z, _, _, _, _, _, _, fun _ => true, fun i y => ∃ t, y = .int ([x1 + y1, x2 + y2].getD i 0) t, rfl, W, fun i vals hv => by obtain ⟨u, v, _, _, e⟩ := hv; exact ⟨u, v, e⟩,
      (W A hh).frame _ _ _ st fun b hb o e => hx b o (ofp b hb).2 e, fun b hb => Nat.lt_of_lt_of_le (ofp b hb).1 hsz, nl.extBut hx hcP, hcw, fun href _ => ⟨?_, ?_⟩, fun a h₅ tk gs hgb hag hsz5 hk5 WS hat => ?_⟩
    · intro A' E' i va vb s₂ m₂ hA _ _ _ _ _ _ _
      exact wpAny_pure ⟨rfl, s₂.heap, s₂.toks, rfl, fun _ _ e => e⟩
    · intro A' E' i va vb s₂ m₂ hA _ _ hP _ hn hma hmb _
      refine Mine.exand2_3 hP fun u v hu hv e => ?_
      try clear hP
      have ob139 : va = u ∧ vb = v := by simpa using congrArg Array.toList e
      refine Mine.exand0_2 ob139 fun ob149 ob159 => ?_
      subst ob149
      subst ob159
      try clear ob139
      refine wpAny_BinOp (wpAny_Name (wpAny_loadName_local hkind hxa hn hma ?_)) 
      refine wpAny_Name (wpAny_loadName_local hkind hxb hn hmb ?_)
      match i, hu, hv with
      | 0, hu, hv =>
        cases hu; cases hv
        exact wpAny_add_int ⟨⟨_, rfl⟩, s₂.heap, _, rfl, fun _ _ e => e⟩
      | 1, hu, hv =>
        cases hu; cases hv
        exact wpAny_add_int ⟨⟨_, rfl⟩, s₂.heap, _, rfl, fun _ _ e => e⟩
      | i + 2, hu, hv => cases hu
    · have hLt : L < h₁.objs.size := F.ns.lt
      have F5 : Fr h₀ L h₅ m := ⟨(F.ns.extBut hx hm.2.1.symm).keeps hk5, fun b o e => hk5 b o (hx b o (fun q => by rw [q, hm.2.2] at e; cases e) (F.keep b o e)), F.above⟩
      have N5 : News h₀ L h₅ ((93, tabObj ps') :: news) := fun q hq => by
        rcases List.mem_cons.mp hq with rfl | hq
        · exact ⟨hk5 _ _ ht, hm.2⟩
        · have n := N q (.tail _ hq)
          exact ⟨hk5 _ _ (hx _ _ (hne q hq) n.1), n.2⟩
      have hws : ∀ b ∈ (h₃.objs.size :: [z, O, i1, i2]), L < b ∧ ∀ q ∈ ((93, tabObj ps') :: news), q.1 ≠ b := by
        intro b hb
        have sub : ∀ b ∈ [z, O, i1, i2], b ∈ [z, T, O, i1, i2] := fun b hb => by
          simp only [List.mem_cons, List.not_mem_nil, or_false] at hb ⊢
          rcases hb with h | h | h | h <;> simp [h]
        have lt3 : ∀ q ∈ ((93, tabObj ps') :: news), q.1 < h₁.objs.size := fun q hq => by
          rcases List.mem_cons.mp hq with rfl | hq
          · exact Heap.lt_size hm.1
          · exact Heap.lt_size (N q (.tail _ hq)).1
        rcases List.mem_cons.mp hb with rfl | hb
        · exact ⟨Nat.lt_of_lt_of_le hLt hsz, fun q hq => Nat.ne_of_lt (Nat.lt_of_lt_of_le (lt3 q hq) hsz)⟩
        · refine ⟨(rg b (sub b hb)).1, fun q hq => ?_⟩
          rcases List.mem_cons.mp hq with rfl | hq
          · exact Nat.ne_of_lt ((rg b (sub b hb)).2 (93, tabObj ps) (.head _))
          · exact Nat.ne_of_lt ((rg b (sub b hb)).2 q (.tail _ hq))
      refine k a h₅ tk _ ps' hG' (B.push hgb) F5 N5 ⟨_, _, _, _, _, WS, hat, fun i s' q => q.1.typeIs, .head _, ?_, fun b hb => (hws b hb).1, fun q hq b hb => (hws b hb).2 q hq, ?_, ?_⟩
      · intro b hb
        show b < h₅.objs.size
        rw [hsz5]
        rcases List.mem_cons.mp hb with rfl | hb
        · exact Nat.lt_succ_self _
        rcases List.mem_cons.mp hb with rfl | hb
        · exact Nat.lt_succ_of_lt hag
        · exact Nat.lt_succ_of_lt (Nat.lt_trans (List.mem_range.mp hb) hag)
      · intro y ob169
        obtain ⟨i, hi, t, ob179⟩ := ob169
        subst ob179
        try clear ob169
        have e : (passing (fun _ => true) 2 0)[0]? = some 0 := by decide
        have hi' : (passing (fun _ => true) 2 0)[0]? = some i := hi
        rw [e] at hi'; cases hi'
        exact ⟨t, rfl⟩
      · intro y ob189
        obtain ⟨i, hi, t, ob199⟩ := ob189
        subst ob199
        try clear ob189
        have e : (passing (fun _ => true) 2 0)[1]? = some 1 := by decide
        have hi' : (passing (fun _ => true) 2 0)[1]? = some i := hi
        rw [e] at hi'; cases hi'
        exact ⟨t, rfl⟩
  have CH := C.keeps F.keep
  rcases id hG with rfl | ⟨c', rfl⟩
  · refine wpAny_genexprCodeX hcode (CH.code hm.1 True.intro) (CH.tab hm.1) rfl fun c' h₃ tk₃ hx hge hlt _ _ htb _ => ?_
    exact rest c' h₃ tk₃ _ (.inr ⟨c', rfl⟩) hx (Nat.le_trans hge (Nat.le_of_lt hlt)) htb.2
  · refine wpAny_genexprCode_hit (c' := .ref c') hcode (CH.code hm.1 hG.triples) (by simp [codeAmong, rawInt]) ?_
    exact rest c' h₁ tk₁ _ (.inr ⟨c', rfl⟩) (fun _ _ _ e => e) (Nat.le_refl _) hm.1
end
end
example {prog : Program} {w : World} {A : Around} {env : Env} {Q : Flow → Shared → Prop} {E : Value → Shared → Prop} {s : Shared} (h : Q .next s) : wpAny (model prog w) A (execs [] env) Q E s := by
  w_top off
  walk1
  exact h
section
open PySem.AutoSeq1 (wpAny_loadPart')
open PySem.MeetsSeq PySem.MeetsSeq2 PySem.MeetsSeq3 PySem.SeqRoads2

/-- in this world the two are found equal -/
def EqW (prog : Program) (w : World) (A : Around) (s : Shared) (y x : Value) : Prop :=
  ∀ (E : Value → Shared → Prop) (Q : Bool → Shared → Prop), Q true s → wpAny (model prog w) A (eqBool y x) Q E s
def RcW (prog : Program) (w : World) (A : Around) (s : Shared) (op : CmpOp) (y x : Value) (b : Bool) : Prop :=
  ∀ (E : Value → Shared → Prop) (Q : Value → Shared → Prop), Q (.bool b) s → wpAny (model prog w) A (richCompare op y x) Q E s

section
variable {prog : Program} {w : World} {A : Around} {s : Shared}
theorem EqW.int (a : Int) (t u : Tok) : EqW prog w A s (.int a t) (.int a u) := fun E Q h => SeqAt.EqAt.int_int a t a u prog w E Q (by rw [beq_self_eq_true]; exact h)
theorem EqW.refs {l b : Addr} (h : RcW prog w A s .Eq (.ref l) (.ref b) true) : EqW prog w A s (.ref l) (.ref b) := fun E Q hq => by
  by_cases hne : l = b
  · subst hne
    exact SeqAt.EqAt.same (.ref l) prog w E Q hq
  · unfold eqBool
    refine wpAny_holding ?_
    refine wpAny_ite_split (fun hab => absurd (by have := eq_of_beq hab; injection this) hne) (fun _ => ?_)
    exact wpAny_bind (h E _ (wpAny_truthy_bool hq))

theorem tupEqW (l b : Addr) (xs ys : Array Value) (n n2 : Nat) (dd dd2 : Option Addr) (sl sl2 : Array (Option Value)) (hz : xs.size = ys.size) :
    MeetsIn prog w (Builtin.«tuple.__eq__» ⟨[.ref l, .ref b], []⟩)
      (fun A R s => s.heap.get? l = some { cls := .type "tuple", dict := dd, data := .seq xs n, slots := sl } ∧ s.heap.get? b = some { cls := .type "tuple", dict := dd2, data := .seq ys n2, slots := sl2 } ∧
        (∀ j (h1 : j < xs.size) (h2 : j < ys.size), EqW prog w A.in1 s xs[j] ys[j]) ∧ R (.ok (.ret (.bool true))) s) :=
  .of_wp fun A R s h => by
    obtain ⟨hp, g, d, tk, os⟩ := s; obtain ⟨hl, hb, he, h⟩ := h
    have f2 := AutoSeq1.sub_tuple_tuple
    wp_walk using wpAny_loadPart' hl, wpAny_loadPart' hb, wpAny_forIn_list _ (fun rest b s' => b.1 = none ∧ s' = ⟨hp, g, d, tk, os⟩ ∧ ∃ i, rest = (xs.toList.zip ys.toList).drop i) _
    case turn =>
      intro ob19
      obtain ⟨y, x⟩ := ob19
      try clear ob19
      intro rest b s' ob29
      obtain ⟨hb', ob39, i, hr⟩ := ob29
      subst ob39
      try clear ob29
      have hlt : i < (xs.toList.zip ys.toList).length := by
        rcases Nat.lt_or_ge i (xs.toList.zip ys.toList).length with h' | h'
        · exact h'
        · rw [List.drop_of_length_le h'] at hr; cases hr
      have hm : i < xs.size ∧ i < ys.size := by simp at hlt; omega
      rw [List.drop_eq_getElem_cons hlt] at hr
      injection hr with hyx hrest
      have hy : y = xs[i]'hm.1 := by have := congrArg Prod.fst hyx; simpa using this
      have hx : x = ys[i]'hm.2 := by have := congrArg Prod.snd hyx; simpa using this
      subst hy hx
      refine wpAny_bind (he i hm.1 hm.2 _ _ ?_)
      wp_walk
      exact ⟨rfl, rfl, i + 1, hrest⟩
    case fin =>
      intro ob49
      obtain ⟨b1, b2⟩ := ob49
      try clear ob49
      intro s' ob59
      obtain ⟨hb', ob69, i, hr⟩ := ob59
      subst ob69
      try clear ob59
      simp only at hb'
      subst hb'
      wp_walk
      exact ⟨_, rfl, by simpa [Builtin.Tuple.tupleCompareSizes, hz] using h⟩
    case h => exact ⟨rfl, rfl, 0, rfl⟩

theorem tupNeW (l b : Addr) (xs ys : Array Value) (n n2 : Nat) (dd dd2 : Option Addr) (sl sl2 : Array (Option Value)) (hz : xs.size = ys.size) :
    MeetsIn prog w (Builtin.«tuple.__ne__» ⟨[.ref l, .ref b], []⟩)
      (fun A R s => s.heap.get? l = some { cls := .type "tuple", dict := dd, data := .seq xs n, slots := sl } ∧ s.heap.get? b = some { cls := .type "tuple", dict := dd2, data := .seq ys n2, slots := sl2 } ∧
        (∀ j (h1 : j < xs.size) (h2 : j < ys.size), EqW prog w A.in1 s xs[j] ys[j]) ∧ R (.ok (.ret (.bool false))) s) :=
  .of_wp fun A R s h => by
    obtain ⟨hp, g, d, tk, os⟩ := s; obtain ⟨hl, hb, he, h⟩ := h
    have f2 := AutoSeq1.sub_tuple_tuple
    wp_walk using wpAny_loadPart' hl, wpAny_loadPart' hb, wpAny_forIn_list _ (fun rest b s' => b.1 = none ∧ s' = ⟨hp, g, d, tk, os⟩ ∧ ∃ i, rest = (xs.toList.zip ys.toList).drop i) _
    case turn =>
      intro ob79
      obtain ⟨y, x⟩ := ob79
      try clear ob79
      intro rest b s' ob89
      obtain ⟨hb', ob99, i, hr⟩ := ob89
      subst ob99
      try clear ob89
      have hlt : i < (xs.toList.zip ys.toList).length := by
        rcases Nat.lt_or_ge i (xs.toList.zip ys.toList).length with h' | h'
        · exact h'
        · rw [List.drop_of_length_le h'] at hr; cases hr
      have hm : i < xs.size ∧ i < ys.size := by simp at hlt; omega
      rw [List.drop_eq_getElem_cons hlt] at hr
      injection hr with hyx hrest
      have hy : y = xs[i]'hm.1 := by have := congrArg Prod.fst hyx; simpa using this
      have hx : x = ys[i]'hm.2 := by have := congrArg Prod.snd hyx; simpa using this
      subst hy hx
      refine wpAny_bind (he i hm.1 hm.2 _ _ ?_)
      wp_walk
      exact ⟨rfl, rfl, i + 1, hrest⟩
    case fin =>
      intro ob109
      obtain ⟨b1, b2⟩ := ob109
      try clear ob109
      intro s' ob119
      obtain ⟨hb', ob129, i, hr⟩ := ob119
      subst ob129
      try clear ob119
      simp only at hb'
      subst hb'
      wp_walk
      exact ⟨_, rfl, by simpa [Builtin.Tuple.tupleCompareSizes, hz] using h⟩
    case h => exact ⟨rfl, rfl, 0, rfl⟩

theorem RcW.tupEq {l b : Addr} {xs ys : Array Value} (hl : s.heap.IsTuple l xs) (hb : s.heap.IsTuple b ys) (hz : xs.size = ys.size) (hu : A.units < cLine)
    (he : ∀ j (h1 : j < xs.size) (h2 : j < ys.size), EqW prog w A.in1 s xs[j] ys[j]) : RcW prog w A s .Eq (.ref l) (.ref b) true := fun E Q h => by
  obtain ⟨ob139, ho, hc, n, hd⟩ := (id hl)
  obtain ⟨cls, dd, data, sl⟩ := ob139
  try clear ob139
  obtain ⟨ob149, ho2, hc2, n2, hd2⟩ := (id hb)
  obtain ⟨cls2, dd2, data2, sl2⟩ := ob149
  try clear ob149
  simp only at hc hd hc2 hd2
  subst hc hd hc2 hd2
  exact wpAny_richCompare_same_room (op := .Eq) ⟨_, ho, rfl⟩ ⟨_, ho2, rfl⟩ F.slot_tuple_eq (call_meetsIn F.slot_tuple_eq ⟨_, ho, rfl⟩ F.entry_tuple_eq (F.args_tuple_eq_2 _ _) (tupEqW l b xs ys n n2 dd dd2 sl sl2 hz)
    ⟨ho, ho2, he, show Value.bool true ≠ Value.notImplemented ∧ Q (.bool true) s from ⟨(fun x => nomatch x), h⟩⟩) hu
theorem RcW.tupNe {l b : Addr} {xs ys : Array Value} (hl : s.heap.IsTuple l xs) (hb : s.heap.IsTuple b ys) (hz : xs.size = ys.size) (hu : A.units < cLine)
    (he : ∀ j (h1 : j < xs.size) (h2 : j < ys.size), EqW prog w A.in1 s xs[j] ys[j]) : RcW prog w A s .NotEq (.ref l) (.ref b) false := fun E Q h => by
  obtain ⟨ob159, ho, hc, n, hd⟩ := (id hl)
  obtain ⟨cls, dd, data, sl⟩ := ob159
  try clear ob159
  obtain ⟨ob169, ho2, hc2, n2, hd2⟩ := (id hb)
  obtain ⟨cls2, dd2, data2, sl2⟩ := ob169
  try clear ob169
  simp only at hc hd hc2 hd2
  subst hc hd hc2 hd2
  exact wpAny_richCompare_same_room (op := .NotEq) ⟨_, ho, rfl⟩ ⟨_, ho2, rfl⟩ F.slot_tuple_ne (call_meetsIn F.slot_tuple_ne ⟨_, ho, rfl⟩ F.entry_tuple_ne (F.args_tuple_ne_2 _ _) (tupNeW l b xs ys n n2 dd dd2 sl sl2 hz)
    ⟨ho, ho2, he, show Value.bool false ≠ Value.notImplemented ∧ Q (.bool false) s from ⟨(fun x => nomatch x), h⟩⟩) hu

theorem listLoopE (l b : Addr) (xs ys : Array Value) (n n2 : Nat) (dd dd2 : Option Addr) (sl sl2 : Array (Option Value)) (hz : xs.size = ys.size) (k : Nat) :
    ∀ i : Nat, xs.size - i = k → MeetsIn prog w (Builtin.«list.__eq__.loop» ⟨[.ref l, .ref b, rawInt i, rawInt 2], []⟩)
      (fun A R s => s.heap.get? l = some { cls := .type "list", dict := dd, data := .seq xs n, slots := sl } ∧ s.heap.get? b = some { cls := .type "list", dict := dd2, data := .seq ys n2, slots := sl2 } ∧
        (∀ j (h1 : j < xs.size) (h2 : j < ys.size), EqW prog w A.in1 s xs[j] ys[j]) ∧ R (.ok (.ret (.bool true))) s) := by
  induction k with
  | zero =>
    intro i hk A R s h
    obtain ⟨hp, g, d, tk, os⟩ := s; obtain ⟨hl, hb, he, h⟩ := h
    wp_walk using wpAny_loadPart' hl, wpAny_loadPart' hb
    have hi1 : xs[((i : Nat) : Int).toNat]? = none := by simp; omega
    have hi2 : ys[((i : Nat) : Int).toNat]? = none := by simp; omega
    rw [hi1, hi2]
    wp_walk using wpAny_loadPart' hl, wpAny_loadPart' hb
    show R (.ok (.ret (.bool (xs.size == ys.size)))) _
    rw [hz, beq_self_eq_true]; exact h
  | succ k ih =>
    intro i hk A R s h
    obtain ⟨hp, g, d, tk, os⟩ := s; obtain ⟨hl, hb, he, h⟩ := h
    wp_walk using wpAny_loadPart' hl, wpAny_loadPart' hb
    have hlt : i < xs.size := by omega
    have hlt2 : i < ys.size := by omega
    have hi1 : xs[((i : Nat) : Int).toNat]? = some xs[i] := by simp [hlt]
    have hi2 : ys[((i : Nat) : Int).toNat]? = some ys[i] := by simp [hlt2]
    have hc : ((i : Int) + 1) = ((i + 1 : Nat) : Int) := by push_cast; rfl
    rw [hi1, hi2]
    refine wpAny_bind (he i hlt hlt2 _ _ ?_)
    wp_walk
    rw [hc]
    exact ⟨plainId_quiet plain_eq_loop _, codeAny_builtin entry_eq_loop (by
      rw [Around.under_plainId plain_eq_loop _]
      exact ih (i + 1) (by omega) A R _ ⟨hl, hb, he, h⟩)⟩

theorem listLoopN (l b : Addr) (xs ys : Array Value) (n n2 : Nat) (dd dd2 : Option Addr) (sl sl2 : Array (Option Value)) (hz : xs.size = ys.size) (k : Nat) :
    ∀ i : Nat, xs.size - i = k → MeetsIn prog w (Builtin.«list.__eq__.loop» ⟨[.ref l, .ref b, rawInt i, rawInt 3], []⟩)
      (fun A R s => s.heap.get? l = some { cls := .type "list", dict := dd, data := .seq xs n, slots := sl } ∧ s.heap.get? b = some { cls := .type "list", dict := dd2, data := .seq ys n2, slots := sl2 } ∧
        (∀ j (h1 : j < xs.size) (h2 : j < ys.size), EqW prog w A.in1 s xs[j] ys[j]) ∧ R (.ok (.ret (.bool false))) s) := by
  induction k with
  | zero =>
    intro i hk A R s h
    obtain ⟨hp, g, d, tk, os⟩ := s; obtain ⟨hl, hb, he, h⟩ := h
    wp_walk using wpAny_loadPart' hl, wpAny_loadPart' hb
    have hi1 : xs[((i : Nat) : Int).toNat]? = none := by simp; omega
    have hi2 : ys[((i : Nat) : Int).toNat]? = none := by simp; omega
    rw [hi1, hi2]
    wp_walk using wpAny_loadPart' hl, wpAny_loadPart' hb
    show R (.ok (.ret (.bool (xs.size != ys.size)))) _
    rw [hz, bne_self_eq_false]; exact h
  | succ k ih =>
    intro i hk A R s h
    obtain ⟨hp, g, d, tk, os⟩ := s; obtain ⟨hl, hb, he, h⟩ := h
    wp_walk using wpAny_loadPart' hl, wpAny_loadPart' hb
    have hlt : i < xs.size := by omega
    have hlt2 : i < ys.size := by omega
    have hi1 : xs[((i : Nat) : Int).toNat]? = some xs[i] := by simp [hlt]
    have hi2 : ys[((i : Nat) : Int).toNat]? = some ys[i] := by simp [hlt2]
    have hc : ((i : Int) + 1) = ((i + 1 : Nat) : Int) := by push_cast; rfl
    rw [hi1, hi2]
    refine wpAny_bind (he i hlt hlt2 _ _ ?_)
    wp_walk
    rw [hc]
    exact ⟨plainId_quiet plain_eq_loop _, codeAny_builtin entry_eq_loop (by
      rw [Around.under_plainId plain_eq_loop _]
      exact ih (i + 1) (by omega) A R _ ⟨hl, hb, he, h⟩)⟩

theorem listEqW (l b : Addr) (xs ys : Array Value) (n n2 : Nat) (dd dd2 : Option Addr) (sl sl2 : Array (Option Value)) (hz : xs.size = ys.size) :
    MeetsIn prog w (Builtin.«list.__eq__» ⟨[.ref l, .ref b], []⟩)
      (fun A R s => s.heap.get? l = some { cls := .type "list", dict := dd, data := .seq xs n, slots := sl } ∧ s.heap.get? b = some { cls := .type "list", dict := dd2, data := .seq ys n2, slots := sl2 } ∧
        (∀ j (h1 : j < xs.size) (h2 : j < ys.size), EqW prog w A.in1 s xs[j] ys[j]) ∧ R (.ok (.ret (.bool true))) s) := by
  intro A R s h
  obtain ⟨hp, g, d, tk, os⟩ := s; obtain ⟨hl, hb, he, h⟩ := h
  have f3 := AutoSeq1.sub_list_list
  have hne : ¬ (xs.size != ys.size) = true := by simp [hz]
  wp_walk using wpAny_loadPart' hl, wpAny_loadPart' hb
  exact ⟨plainId_quiet plain_eq_loop _, codeAny_builtin entry_eq_loop (by
    rw [Around.under_plainId plain_eq_loop _]
    exact listLoopE l b xs ys n n2 dd dd2 sl sl2 hz _ 0 rfl A R _ ⟨hl, hb, he, h⟩)⟩
theorem listNeW (l b : Addr) (xs ys : Array Value) (n n2 : Nat) (dd dd2 : Option Addr) (sl sl2 : Array (Option Value)) (hz : xs.size = ys.size) :
    MeetsIn prog w (Builtin.«list.__ne__» ⟨[.ref l, .ref b], []⟩)
      (fun A R s => s.heap.get? l = some { cls := .type "list", dict := dd, data := .seq xs n, slots := sl } ∧ s.heap.get? b = some { cls := .type "list", dict := dd2, data := .seq ys n2, slots := sl2 } ∧
        (∀ j (h1 : j < xs.size) (h2 : j < ys.size), EqW prog w A.in1 s xs[j] ys[j]) ∧ R (.ok (.ret (.bool false))) s) := by
  intro A R s h
  obtain ⟨hp, g, d, tk, os⟩ := s; obtain ⟨hl, hb, he, h⟩ := h
  have f3 := AutoSeq1.sub_list_list
  have hne : ¬ (xs.size != ys.size) = true := by simp [hz]
  wp_walk using wpAny_loadPart' hl, wpAny_loadPart' hb
  exact ⟨plainId_quiet plain_eq_loop _, codeAny_builtin entry_eq_loop (by
    rw [Around.under_plainId plain_eq_loop _]
    exact listLoopN l b xs ys n n2 dd dd2 sl sl2 hz _ 0 rfl A R _ ⟨hl, hb, he, h⟩)⟩

theorem RcW.listEq {l b : Addr} {xs ys : Array Value} (hl : s.heap.IsList l xs) (hb : s.heap.IsList b ys) (hz : xs.size = ys.size) (hu : A.units < cLine)
    (he : ∀ j (h1 : j < xs.size) (h2 : j < ys.size), EqW prog w A.in1 s xs[j] ys[j]) : RcW prog w A s .Eq (.ref l) (.ref b) true := fun E Q h => by
  obtain ⟨ob179, ho, hc, n, hd⟩ := (id hl)
  obtain ⟨cls, dd, data, sl⟩ := ob179
  try clear ob179
  obtain ⟨ob189, ho2, hc2, n2, hd2⟩ := (id hb)
  obtain ⟨cls2, dd2, data2, sl2⟩ := ob189
  try clear ob189
  simp only at hc hd hc2 hd2
  subst hc hd hc2 hd2
  exact wpAny_richCompare_same_room (op := .Eq) ⟨_, ho, rfl⟩ ⟨_, ho2, rfl⟩ F.slot_list_eq (call_meetsIn F.slot_list_eq ⟨_, ho, rfl⟩ F.entry_list_eq (F.args_list_eq_2 _ _) (listEqW l b xs ys n n2 dd dd2 sl sl2 hz)
    ⟨ho, ho2, he, show Value.bool true ≠ Value.notImplemented ∧ Q (.bool true) s from ⟨(fun x => nomatch x), h⟩⟩) hu
theorem RcW.listNe {l b : Addr} {xs ys : Array Value} (hl : s.heap.IsList l xs) (hb : s.heap.IsList b ys) (hz : xs.size = ys.size) (hu : A.units < cLine)
    (he : ∀ j (h1 : j < xs.size) (h2 : j < ys.size), EqW prog w A.in1 s xs[j] ys[j]) : RcW prog w A s .NotEq (.ref l) (.ref b) false := fun E Q h => by
  obtain ⟨ob199, ho, hc, n, hd⟩ := (id hl)
  obtain ⟨cls, dd, data, sl⟩ := ob199
  try clear ob199
  obtain ⟨ob209, ho2, hc2, n2, hd2⟩ := (id hb)
  obtain ⟨cls2, dd2, data2, sl2⟩ := ob209
  try clear ob209
  simp only at hc hd hc2 hd2
  subst hc hd hc2 hd2
  exact wpAny_richCompare_same_room (op := .NotEq) ⟨_, ho, rfl⟩ ⟨_, ho2, rfl⟩ F.slot_list_ne (call_meetsIn F.slot_list_ne ⟨_, ho, rfl⟩ F.entry_list_ne (F.args_list_ne_2 _ _) (listNeW l b xs ys n n2 dd dd2 sl sl2 hz)
    ⟨ho, ho2, he, show Value.bool false ≠ Value.notImplemented ∧ Q (.bool false) s from ⟨(fun x => nomatch x), h⟩⟩) hu
end
end
example {prog : Program} {w : World} {A : Around} {env : Env} {Q : Flow → Shared → Prop} {E : Value → Shared → Prop} {s : Shared} (h : Q .next s) : wpAny (model prog w) A (execs [] env) Q E s := by
  w_top off
  walk1
  exact h
section
def fnBody? (K : Frag) (f : Addr) : Option (List Stmt) := match K.lookup f with
  | some ⟨_, _, .func fd, _⟩ => (match fd.body with | .stmts b => some b | _ => none)
  | _ => none
/-- the def that stands as statement i in the body of the def at f -/
def nested? (K : Frag) (f : Addr) (i : Nat) : Option (Str × Arguments × List Stmt × Scope) := match fnBody? K f with
  | some b => (match b[i]? with | some (.FunctionDef name args body _ _ _ scope _ _ _) => some (name, args, body, scope) | _ => none)
  | none => none

/-- an entry is drawn out of the ledger -/
inductive Pull (d : Addr) (o : Obj) : List (Addr × Obj) → List (Addr × Obj) → Prop
  | head {r} : Pull d o ((d, o) :: r) r
  | tail {p r r'} : Pull d o r r' → Pull d o (p :: r) (p :: r')
theorem Pull.sub {d : Addr} {o : Obj} {l r : List (Addr × Obj)} (P : Pull d o l r) : ∀ p ∈ (d, o) :: r, p ∈ l := by
  induction P with
  | head => exact fun _ h => h
  | tail _ ih =>
    intro p hp
    rcases List.mem_cons.mp hp with rfl | hp
    · exact .tail _ (ih _ (.head _))
    · rcases List.mem_cons.mp hp with rfl | hp
      · exact .head _
      · exact .tail _ (ih _ (.tail _ hp))
theorem Pull.news {h₀ h : Heap} {L d : Addr} {o : Obj} {l r : List (Addr × Obj)} (P : Pull d o l r) (N : News h₀ L h l) : News h₀ L h ((d, o) :: r) := fun p hp => N p (P.sub p hp)

/-- the closure of _int2digits: what stands on the ledger -/
structure Clos1 (w : World) (rest : List (Addr × Obj)) (f l : Addr) (n : Nat) : Prop where
  ex : ∃ prm bdy sc qual doc pm c' ctv oc vsc tq cA cN cI oA oN oI tn, nested? (hd.heap_1 w.params) 35 1 = some (Str.ofString "inner", prm, bdy, sc) ∧
    (f, fnMade (Str.ofString "inner") qual prm bdy sc [(Str.ofString "n", cN), (Str.ofString "inner", cI), (Str.ofString "a_digits", cA)] doc pm c' ctv) ∈ rest ∧
    (c', oc) ∈ rest ∧ oc.data = .fields vsc ∧ (vsc[1]? : Option Value) = some (.str qual tq) ∧
    (cA, oA) ∈ rest ∧ oA.data = .cell (some (.ref l)) ∧ (cN, oN) ∈ rest ∧ oN.data = .cell (some (.int n tn)) ∧ (cI, oI) ∈ rest ∧ oI.data = .cell (some (.ref f))
theorem Clos1.of {w : World} {rest : List (Addr × Obj)} {f l : Addr} {n : Nat} {prm : _} {bdy : _} {sc : _} {qual : _} {doc : _} {pm : _} {c' : _} {ctv : _} {oc : _} {vsc : _} {tq : _} {cA : _} {cN : _} {cI : _} {oA : _} {oN : _} {oI : _} {tn : _} (h0 : nested? (hd.heap_1 w.params) 35 1 = some (Str.ofString "inner", prm, bdy, sc)) (h1 : (f, fnMade (Str.ofString "inner") qual prm bdy sc [(Str.ofString "n", cN), (Str.ofString "inner", cI), (Str.ofString "a_digits", cA)] doc pm c' ctv) ∈ rest) (h2 : (c', oc) ∈ rest) (h3 : oc.data = .fields vsc) (h4 : (vsc[1]? : Option Value) = some (.str qual tq)) (h5 : (cA, oA) ∈ rest) (h6 : oA.data = .cell (some (.ref l))) (h7 : (cN, oN) ∈ rest) (h8 : oN.data = .cell (some (.int n tn))) (h9 : (cI, oI) ∈ rest) (h10 : oI.data = .cell (some (.ref f))) : Clos1 w rest f l n := ⟨⟨_, _, _, _, _, _, _, _, _, _, _, _, _, _, _, _, _, _, h0, h1, h2, h3, h4, h5, h6, h7, h8, h9, h10⟩⟩

def In1 (w : World) (p : Program) (loose : List Str) (mean : ExcName → Option Value) (mg mb : Str → Option Value) (n k : Nat) : Prop :=
  ∀ (f l : Addr) (rest : List (Addr × Obj)) (vs : List Value) (ds : List Int) (c : Nat) (x lo hi : Int) (tx tl th : Tok),
    Clos1 w rest f l n → (∀ p ∈ rest, p.1 ≠ l) → IntsAre vs ds → 0 ≤ lo → lo < hi → hi ≤ ds.length → hi - lo ≤ 2 ^ k → ds.length ≤ 4194304 → (ds.length : Int) * n ≤ 8388608 → 0 ≤ x → x < 2 ^ ((hi - lo).toNat * n) →
  ∀ (dp un : Nat) (gd : Option (List Code)) (cn : Str) (cs : Scope) (a : Addr) (ccd : Value) (cl : List (Str × Addr)) (outer : List Env) (A₀ : Around) (base h₀ : Heap) (L : Addr) (m : Str → Option Value) (s : Shared)
    (Q E : Value → Shared → Prop),
    Below A₀ base outer h₀ → Fr h₀ L s.heap m → (hd.heap_1 w.params).In h₀ → News h₀ L s.heap ((l, listOf vs.toArray c) :: rest) → Top p loose mean mg mb h₀ → CodeHd base 34 30 → cs.kind = .function → dp + (k + 2) < recursionLimit → un + (8 * k + 16) < cLine →
    (∀ vs' c' h' tk', IntsAre vs' (over ds lo.toNat (digs n x (hi - lo).toNat)) → Fr h₀ L h' m → News h₀ L h' ((l, listOf vs'.toArray c') :: rest) → Q .none { s with heap := h', toks := tk' }) →
    wpAny (model PySem.Challenge.rw_ph0128_01.row.prog w) (ktrTop dp un gd cn cs L a ccd cl outer) (call (.ref f) [.int x tx, .int lo tl, .int hi th]) Q E s
end
example {prog : Program} {w : World} {A : Around} {env : Env} {Q : Flow → Shared → Prop} {E : Value → Shared → Prop} {s : Shared} (h : Q .next s) : wpAny (model prog w) A (execs [] env) Q E s := by
  w_top off
  walk1
  exact h
section
theorem in1_step {w p loose mean mg mb} (n k : Nat) (hn : 1 ≤ n) (hnn : n ≤ 4194304) (IH : In1 w p loose mean mg mb n k) : In1 w p loose mean mg mb n (k + 1) := by
  intro f l rest vs ds c x lo hi tx tl th hC hne hI hlo hlh hhi hk2 hlen hsz hx0 hx1
  k_fill
  intro dp un gd cn cs aa ccd cl outer A₀ base h₀ L m s Q E B F X N T C hk hdp hu hret
  have hC0 := hC
  refine Mine.exand18_11 hC.ex fun prm bdy sc qual doc pm c' ctv oc vsc tq cA cN cI oA oN oI tn hnest hf hc' hoc hvs hcA hdA hcN hdN hcI hdI => ?_
  have e : nested? (hd.heap_1 w.params) 35 1 = some _ := rfl
  rw [e] at hnest
  cases hnest
  clear e
  have hMk := kstMark
  rw [pow_succ_int] at hk2
  -- the two halves
  have ob19 : ∃ d : Nat, (lo + hi) / 2 - lo = (d : Int) := ⟨((lo + hi) / 2 - lo).toNat, by omega⟩
  refine Mine.exand1_1 ob19 fun d hd1 => ?_
  try clear ob19
  have ob29 : ∃ r : Nat, hi - (lo + hi) / 2 = (r : Int) := ⟨(hi - (lo + hi) / 2).toNat, by omega⟩
  refine Mine.exand1_1 ob29 fun r hr1 => ?_
  try clear ob29
  have hS : ((lo + hi) / 2 - lo) * (n : Int) = ((d * n : Nat) : Int) := by rw [hd1, Int.natCast_mul]
  have hdr : (hi - lo).toNat = d + r := by omega
  have hdn : ((d * n : Nat) : Int) ≤ 8388608 := by
    rw [Int.natCast_mul]
    exact Int.le_trans (Int.mul_le_mul_of_nonneg_right (by omega) (by omega)) hsz
  have hlow := bitXor_low (s := d * n) hx0
  have hx2 : 0 ≤ x / 2 ^ (d * n) := Int.ediv_nonneg hx0 (Int.le_of_lt (pow_pos' _))
  have hx3 : x / 2 ^ (d * n) < 2 ^ (r * n) := Int.ediv_lt_of_lt_mul (pow_pos' _) (by rw [← pow_add', ← Nat.add_mul, Nat.add_comm r d, ← hdr]; exact hx1)
  have hbx : intBits x ≤ 8388608 := by
    refine Nat.le_trans (bits_of_lt hx0 hx1) ?_
    have : (((hi - lo).toNat * n : Nat) : Int) ≤ 8388608 := by
      rw [Int.natCast_mul]
      exact Int.le_trans (Int.mul_le_mul_of_nonneg_right (by omega) (by omega)) hsz
    omega
  have hbq : intBits (x / 2 ^ (d * n)) ≤ 8388608 := Nat.le_trans (bits_of_lt hx2 (Int.lt_of_le_of_lt (Int.ediv_le_self _ hx0) (lt_of_bits hbx))) (Nat.le_refl _)
  k_with_none
  k_with "binaryOp Add int int" => (refine add_N ?_)
  k_with "binaryOp Sub int int" => (refine sub_N ?_)
  k_with "inplaceOp Add int int" => (refine iadd_N ?_)
  k_with "inplaceOp Sub int int" => (refine isub_N ?_)
  k_with "binaryOp BitOr int int" => (refine or_N ?_)
  k_with "unaryOp USub int" => (refine neg_N ?_)
  k_with "storeName" => (k_here; k_dflt (refine' storeX_N ?F ?N ?eg ?ed ?eo ?_ ?a ?b; (case F => k_asm); (case N => k_asm); (case a => rfl); (case b => rfl); (case eg => first | (dsimp only; done) | exact rfl); (case ed => first | (dsimp only; done) | exact rfl); (case eo => first | (dsimp only; done) | exact rfl); k_whole; intro _ _ _; (try k_sweep)))
  k_with "MineLt" => (first | with_reducible assumption | ((with_reducible rename _ ∧ _ => hC9); first | exact hC9.1 | exact hC9.2.1 | exact hC9.2.2.1 | exact hC9.2.2.2.1 | exact hC9.2.2.2.2.1 | exact hC9.2.2.2.2.2.1 | exact hC9.2.2.2.2.2.2.1 | exact hC9.2.2.2.2.2.2.2.1 | exact hC9.2.2.2.2.2.2.2.2.1 | exact hC9.2.2.2.2.2.2.2.2.2.1 | exact hC9.2.2.2.2.2.2.2.2.2.2.1 | exact hC9.2.2.2.2.2.2.2.2.2.2.2.1 | exact hC9.2.2.2.2.2.2.2.2.2.2.2.2.1 | exact hC9.2.2.2.2.2.2.2.2.2.2.2.2.2.1) | exact And.left (by with_reducible assumption) | exact Nat.lt_succ_self _)
  k_with "binaryOp LShift int int" => (refine' lshift_N ?hn ?hz ?_; (case hn => k_extra "nn"); (case hz => k_extra "shl"); (try k_extra "tidy"))
  k_with "inplaceOp LShift int int" => (refine' ilshift_N ?hn ?hz ?_; (case hn => k_extra "nn"); (case hz => k_extra "shl"); (try k_extra "tidy"))
  k_with "binaryOp RShift int int" => (refine' rshift_N ?hn ?_; (case hn => k_extra "nn"); (try k_extra "tidy"))
  k_with "inplaceOp RShift int int" => (refine' irshift_N ?hn ?_; (case hn => k_extra "nn"); (try k_extra "tidy"))
  k_with "binaryOp BitAnd int int" => (refine and_N ?_; (try k_extra "tidy"))
  k_with "binaryOp Mult int int" => (refine' mul_N ?_ ?hm; (case hm => k_extra "mul"); (try k_extra "tidy"))
  k_with "Kdm" => (refine' divmod_N ?F ?N ?hb ?_ ?hp; (case F => k_asm); (case N => k_asm); (case hb => k_extra "div0"); (case hp => k_extra "pylong"))
  k_with "call ref" => (k_extra "my call")
  k_with "ite" => (k_extra "decide")
  k_with "binaryOp FloorDiv int int" => (refine' floordiv_N ?hb ?_ ?hp; (case hb => k_extra "div0"); (case hp => k_extra "pylong"); (try k_extra "tidy"))
  k_with "binaryOp BitXor int int" => (refine xor_N ?_; (try k_extra "tidy"))
  k_with "nn" => first | exact Int.natCast_nonneg _ | decide | omega
  k_with "shl" => (simp only [p27]; omega)
  k_with "mul" => exact IntMulOk.of_right (PySem.intBits_le_64 (by omega) (by omega))
  k_with "tidy" => simp only [toNat1, pow1, fdiv2, fdiv_pow, hS, Int.toNat_natCast, hlow]
  k_with "decide" => fail
  k_with "my call" =>
    first
      | refine' IH f l rest _ ds _ _ _ _ _ _ _ hC0 hne hI hlo ?c1 ?c2 ?c3 hlen hsz ?c4 ?c5 _ _ _ _ _ _ _ _ _ _ _ _ _ _ _ _ _ ?k1 ?k2 ?k3 ?k4 ?k5 ?k6 ?k7 ?k8 ?k9 ?_
      | refine' IH f l rest _ _ _ _ _ _ _ _ _ hC0 hne (by assumption) ?c0 ?c1 ?c2 ?c3 ?c6 ?c7 ?c4 ?c5 _ _ _ _ _ _ _ _ _ _ _ _ _ _ _ _ _ ?k1 ?k2 ?k3 ?k4 ?k5 ?k6 ?k7 ?k8 ?k9 ?_
    (case k1 => k_asm)
    (case k2 => k_asm)
    (case k3 => k_asm)
    (case k4 => k_asm)
    (case k5 => k_asm)
    (case k6 => k_asm)
    (case k7 => exact rfl)
    (case k8 => ktr_room)
    (case k9 => ktr_units)
    (try (case c0 => omega))
    (case c1 => omega)
    (case c2 => first | omega | (rw [over_length _ _ _ (by rw [digs_length]; omega)]; omega))
    (case c3 => omega)
    (try (case c6 => (rw [over_length _ _ _ (by rw [digs_length]; omega)]; omega)))
    (try (case c7 => (rw [over_length _ _ _ (by rw [digs_length]; omega)]; exact hsz)))
    (case c4 => first | exact md_nn _ _ | exact hx2)
    (case c5 => first | (rw [hd1]; exact md_lt _ _) | (rw [hr1]; exact hx3))
    intro vs9 c9 hp9 tk9 I9 F9 N9
  refine wpAny_call ?_
  k_dflt (refine' code_nest ?k1 ?k2 ?k3 ?k4 ?k5 ?kA ?kF ?kK ?k6 ?k7 ?k8 ?k9 ?kB ?_ ?c2 ?c3 ?c4 ?c5; (case kA => exact rfl); (case kF => exact rfl); (case kK => assumption); (case k1 => k_asm); (case k2 => k_asm); (case k3 => k_asm); (case k4 => k_asm); (case k5 => k_asm); (case k6 => k_mem); (case k7 => exact codeRec_news (by k_asm) (by k_mem) (by assumption) (by assumption)); (case k8 => ktr_room); (case k9 => exact BindsTo.of_eq rfl); (case c5 => decide); (case kB => exact locs rfl); (case c2 => exact rfl); (case c3 => exact rfl); (case c4 => exact rfl); k_whole; intro g' L' h' FG' F' N' B' X' T')
  (try refine tok_any fun tk9 => ?_)
  replace F' := fr_as (m' := fun y => List.lookup y [(Str.ofString "R", .int hi th), (Str.ofString "L", .int lo tl), (Str.ofString "x", .int x tx)]) F' rfl
  (try dsimp only)
  (try k_fold)
  k_steps
  · refine hret _ _ _ _ ?_ (by assumption) (by assumption)
    have e1 : (hi - lo).toNat = 1 := by omega
    rw [e1, digs_one n hx0 (by rw [e1, Nat.one_mul] at hx1; exact hx1), over_one _ _ _ (by omega)]
    assumption
  · refine hret _ _ _ _ ?_ (by assumption) (by assumption)
    have e1 : ((lo + hi) / 2 - lo).toNat = d := by omega
    have e2 : (hi - (lo + hi) / 2).toNat = r := by omega
    have e3 : ((lo + hi) / 2).toNat = lo.toNat + (digs n x d).length := by rw [digs_length]; omega
    rw [hdr, digs_append, ← over_over _ _ _ _ (by simp only [digs_length]; omega), ← e3, ← digs_mod]
    simp only [e1, e2] at *
    assumption

theorem in1_base {w p loose mean mg mb} (n : Nat) (hn : 1 ≤ n) (hnn : n ≤ 4194304) : In1 w p loose mean mg mb n 0 := by
  intro f l rest vs ds c x lo hi tx tl th hC hne hI hlo hlh hhi hk2 hlen hsz hx0 hx1
  k_fill
  intro dp un gd cn cs aa ccd cl outer A₀ base h₀ L m s Q E B F X N T C hk hdp hu hret
  refine Mine.exand18_11 hC.ex fun prm bdy sc qual doc pm c' ctv oc vsc tq cA cN cI oA oN oI tn hnest hf hc' hoc hvs hcA hdA hcN hdN hcI hdI => ?_
  have e : nested? (hd.heap_1 w.params) 35 1 = some _ := rfl
  rw [e] at hnest
  cases hnest
  clear e
  have hMk := kstMark
  have hk3 : hi - lo ≤ 1 := hk2
  have hlh1 : lo + 1 = hi := by omega
  k_with_none
  k_with "binaryOp Add int int" => (refine add_N ?_)
  k_with "binaryOp Sub int int" => (refine sub_N ?_)
  k_with "inplaceOp Add int int" => (refine iadd_N ?_)
  k_with "inplaceOp Sub int int" => (refine isub_N ?_)
  k_with "binaryOp BitOr int int" => (refine or_N ?_)
  k_with "unaryOp USub int" => (refine neg_N ?_)
  k_with "storeName" => (k_here; k_dflt (refine' storeX_N ?F ?N ?eg ?ed ?eo ?_ ?a ?b; (case F => k_asm); (case N => k_asm); (case a => rfl); (case b => rfl); (case eg => first | (dsimp only; done) | exact rfl); (case ed => first | (dsimp only; done) | exact rfl); (case eo => first | (dsimp only; done) | exact rfl); k_whole; intro _ _ _; (try k_sweep)))
  k_with "MineLt" => (first | with_reducible assumption | ((with_reducible rename _ ∧ _ => hC9); first | exact hC9.1 | exact hC9.2.1 | exact hC9.2.2.1 | exact hC9.2.2.2.1 | exact hC9.2.2.2.2.1 | exact hC9.2.2.2.2.2.1 | exact hC9.2.2.2.2.2.2.1 | exact hC9.2.2.2.2.2.2.2.1 | exact hC9.2.2.2.2.2.2.2.2.1 | exact hC9.2.2.2.2.2.2.2.2.2.1 | exact hC9.2.2.2.2.2.2.2.2.2.2.1 | exact hC9.2.2.2.2.2.2.2.2.2.2.2.1 | exact hC9.2.2.2.2.2.2.2.2.2.2.2.2.1 | exact hC9.2.2.2.2.2.2.2.2.2.2.2.2.2.1) | exact And.left (by with_reducible assumption) | exact Nat.lt_succ_self _)
  k_with "binaryOp LShift int int" => (refine' lshift_N ?hn ?hz ?_; (case hn => k_extra "nn"); (case hz => k_extra "shl"); (try k_extra "tidy"))
  k_with "inplaceOp LShift int int" => (refine' ilshift_N ?hn ?hz ?_; (case hn => k_extra "nn"); (case hz => k_extra "shl"); (try k_extra "tidy"))
  k_with "binaryOp RShift int int" => (refine' rshift_N ?hn ?_; (case hn => k_extra "nn"); (try k_extra "tidy"))
  k_with "inplaceOp RShift int int" => (refine' irshift_N ?hn ?_; (case hn => k_extra "nn"); (try k_extra "tidy"))
  k_with "binaryOp BitAnd int int" => (refine and_N ?_; (try k_extra "tidy"))
  k_with "binaryOp Mult int int" => (refine' mul_N ?_ ?hm; (case hm => k_extra "mul"); (try k_extra "tidy"))
  k_with "Kdm" => (refine' divmod_N ?F ?N ?hb ?_ ?hp; (case F => k_asm); (case N => k_asm); (case hb => k_extra "div0"); (case hp => k_extra "pylong"))
  k_with "call ref" => (k_extra "my call")
  k_with "ite" => (k_extra "decide")
  k_with "binaryOp FloorDiv int int" => (refine' floordiv_N ?hb ?_ ?hp; (case hb => k_extra "div0"); (case hp => k_extra "pylong"); (try k_extra "tidy"))
  k_with "binaryOp BitXor int int" => (refine xor_N ?_; (try k_extra "tidy"))
  k_with "decide" => (refine ite_pos (by (simp only [decide_eq_true_eq, beq_iff_eq]); omega) ?_)
  refine wpAny_call ?_
  k_dflt (refine' code_nest ?k1 ?k2 ?k3 ?k4 ?k5 ?kA ?kF ?kK ?k6 ?k7 ?k8 ?k9 ?kB ?_ ?c2 ?c3 ?c4 ?c5; (case kA => exact rfl); (case kF => exact rfl); (case kK => assumption); (case k1 => k_asm); (case k2 => k_asm); (case k3 => k_asm); (case k4 => k_asm); (case k5 => k_asm); (case k6 => k_mem); (case k7 => exact codeRec_news (by k_asm) (by k_mem) (by assumption) (by assumption)); (case k8 => ktr_room); (case k9 => exact BindsTo.of_eq rfl); (case c5 => decide); (case kB => exact locs rfl); (case c2 => exact rfl); (case c3 => exact rfl); (case c4 => exact rfl); k_whole; intro g' L' h' FG' F' N' B' X' T')
  (try refine tok_any fun tk9 => ?_)
  replace F' := fr_as (m' := fun y => List.lookup y [(Str.ofString "R", .int hi th), (Str.ofString "L", .int lo tl), (Str.ofString "x", .int x tx)]) F' rfl
  (try dsimp only)
  (try k_fold)
  k_steps
  · refine hret _ _ _ _ ?_ (by assumption) (by assumption)
    have e1 : (hi - lo).toNat = 1 := by omega
    rw [e1, digs_one n hx0 (by rw [e1, Nat.one_mul] at hx1; exact hx1), over_one _ _ _ (by omega)]
    assumption

theorem in1_all {w p loose mean mg mb} (n : Nat) (hn : 1 ≤ n) (hnn : n ≤ 4194304) : ∀ k, In1 w p loose mean mg mb n k
  | 0 => in1_base n hn hnn
  | k + 1 => in1_step n k hn hnn (in1_all n hn hnn k)
end
example {prog : Program} {w : World} {A : Around} {env : Env} {Q : Flow → Shared → Prop} {E : Value → Shared → Prop} {s : Shared} (h : Q .next s) : wpAny (model prog w) A (execs [] env) Q E s := by
  w_top off
  walk1
  exact h
section
def ColdT (P : Addr) (T : List (Addr × Obj)) : Prop := T = [(P, tabObj #[])]
def HotT (P : Addr) (line col : Int) (qual : Str) (T : List (Addr × Obj)) : Prop :=
  ∃ (c' : Addr) (oc : Obj) (vs : Array Value) (t : Tok), T = [(c', oc), (P, tabObj #[rawInt line, rawInt col, .ref c'])] ∧ oc.data = .fields vs ∧ (vs[1]? : Option Value) = some (.str qual t)
abbrev Hot1 := HotT 30 32 4 (Str.ofString "_int2digits.<locals>.inner")
abbrev Hot2 := HotT 37 47 4 (Str.ofString "_digits2int.<locals>.inner")
def St1 (T news : List (Addr × Obj)) : Prop := (ColdT 30 T ∧ ∀ p ∈ news, p.1 ≠ 30) ∨ Hot1 T
def St2 (T news : List (Addr × Obj)) : Prop := (ColdT 37 T ∧ ∀ p ∈ news, p.1 ≠ 37) ∨ Hot2 T

theorem ndig {a : Int} {n : Nat} (hn : 1 ≤ n) : ∃ W : Nat, ((intBits a : Int) + (n : Int) - 1) / (n : Int) = (W : Int) ∧ intBits a ≤ W * n ∧ W * n ≤ intBits a + n - 1 ∧ W ≤ intBits a := by
  refine ⟨(((intBits a : Int) + (n : Int) - 1) / (n : Int)).toNat, (Int.toNat_of_nonneg (Int.ediv_nonneg (by omega) (by omega))).symm, ?_⟩
  have hd := Int.mul_ediv_add_emod ((intBits a : Int) + (n : Int) - 1) (n : Int)
  have h1 := Int.emod_nonneg ((intBits a : Int) + (n : Int) - 1) (show (n : Int) ≠ 0 by omega)
  have h2 := Int.emod_lt_of_pos ((intBits a : Int) + (n : Int) - 1) (show (0 : Int) < (n : Int) by omega)
  have h0 : 0 ≤ ((intBits a : Int) + (n : Int) - 1) / (n : Int) := Int.ediv_nonneg (by omega) (by omega)
  generalize hq : ((intBits a : Int) + (n : Int) - 1) / (n : Int) = q at *
  refine Mine.exand1_1 (Int.eq_ofNat_of_zero_le h0) fun W ob19 => ?_
  subst ob19
  simp only [Int.toNat_natCast]
  rw [← Int.natCast_mul, Nat.mul_comm] at hd
  refine ⟨by omega, by omega, ?_⟩
  rcases Nat.eq_zero_or_pos W with h | h
  · omega
  · have h3 : W * 1 ≤ W * n := Nat.mul_le_mul_left _ hn
    have h4 : (W - 1) * n + n = W * n := by rw [← Nat.succ_mul]; congr 1; omega
    have h5 : (W - 1) * 1 ≤ (W - 1) * n := Nat.mul_le_mul_left _ hn
    omega

theorem rep_one (W : Nat) : (List.replicate W [(0 : Int)]).flatten.length = W := by
  induction W with
  | zero => rfl
  | succ W ih => rw [List.replicate_succ, List.flatten_cons, List.length_append, ih]; simp; omega

/-- what is new in the table's part -/
def NewT (P : Addr) (T T' news : List (Addr × Obj)) : Prop := ∀ q ∈ T', q ∈ T ∨ q.1 = P ∨ AllLt q.1 news

abbrev GivesL (w : World) (p : Program) (loose : List Str) (mean : ExcName → Option Value) (mg mb : Str → Option Value) (St : List (Addr × Obj) → List (Addr × Obj) → Prop) (Hot : List (Addr × Obj) → Prop) (cd tb : Addr) (f : Addr) (vs : List Value) (dep uni : Nat) (xs : List Int) : Prop :=
  ∀ (dp un : Nat) (gd : Option (List Code)) (cn : Str) (cs : Scope) (a : Addr) (ccd : Value) (cl : List (Str × Addr)) (outer : List Env) (A₀ : Around) (base h₀ : Heap) (L : Addr) (m : Str → Option Value) (T news : List (Addr × Obj)) (s : Shared)
    (Q E : Value → Shared → Prop),
    Below A₀ base outer h₀ → Fr h₀ L s.heap m → (hd.heap_1 w.params).In h₀ → News h₀ L s.heap (T ++ news) → St T news → Top p loose mean mg mb h₀ → CodeHd base cd tb → cs.kind = .function → dp + dep < recursionLimit → un + uni < cLine →
    (∀ us D c T' h' tk', Hot T' → (Hot T → T' = T) → NewT tb T T' news → IntsAre us xs → Fr h₀ L h' m → News h₀ L h' ((D, listOf us.toArray c) :: (T' ++ news)) → AllLt D news → Q (.ref D) { s with heap := h', toks := tk' }) →
    wpAny (model PySem.Challenge.rw_ph0128_01.row.prog w) (ktrTop dp un gd cn cs L a ccd cl outer) (call (.ref f) vs) Q E s

theorem in1_use {w : World} {p : Program} {loose : List Str} {mean : ExcName → Option Value} {mg mb : Str → Option Value} {n k : Nat} {f l : Addr} {rest news : List (Addr × Obj)} {vs : List Value} {ds : List Int} {c : Nat} {x lo hi : Int} {tx tl th : Tok}
    {dp un : Nat} {gd : Option (List Code)} {cn : Str} {cs : Scope} {a : Addr} {ccd : Value} {cl : List (Str × Addr)} {outer : List Env} {A₀ : Around} {base h₀ : Heap} {L : Addr} {m : Str → Option Value} {s : Shared}
    {Q E : Value → Shared → Prop} (IH : In1 w p loose mean mg mb n k)
    (B : Below A₀ base outer h₀) (F : Fr h₀ L s.heap m) (X : (hd.heap_1 w.params).In h₀) (N : News h₀ L s.heap news) (P : Pull l (listOf vs.toArray c) news rest) (T : Top p loose mean mg mb h₀) (C : CodeHd base 34 30) (hk : cs.kind = .function) (hI : IntsAre vs ds)
    (hC : Clos1 w rest f l n) (hne : ∀ p ∈ rest, p.1 ≠ l) (h0 : 0 ≤ lo) (h1 : lo < hi) (h2 : hi ≤ ds.length) (h3 : hi - lo ≤ 2 ^ k) (h4 : ds.length ≤ 4194304) (h5 : (ds.length : Int) * n ≤ 8388608) (h6 : 0 ≤ x) (h7 : x < 2 ^ ((hi - lo).toNat * n))
    (hdp : dp + (k + 2) < recursionLimit) (hu : un + (8 * k + 16) < cLine)
    (ret : ∀ vs' c' h' tk', IntsAre vs' (over ds lo.toNat (digs n x (hi - lo).toNat)) → Fr h₀ L h' m → News h₀ L h' ((l, listOf vs'.toArray c') :: rest) → Q .none { s with heap := h', toks := tk' }) :
    wpAny (model PySem.Challenge.rw_ph0128_01.row.prog w) (ktrTop dp un gd cn cs L a ccd cl outer) (call (.ref f) [.int x tx, .int lo tl, .int hi th]) Q E s :=
  IH f l rest vs ds c x lo hi tx tl th hC hne hI h0 h1 h2 h3 h4 h5 h6 h7 _ _ _ _ _ _ _ _ _ _ _ _ _ _ _ _ _ B F X (P.news N) T C hk hdp hu ret

theorem newT_of {P c' : Addr} {oc o : Obj} {T news : List (Addr × Obj)} (h : (c', oc) ∈ T ∨ AllLt c' news) : NewT P T [(c', oc), (P, o)] news := by
  intro q hq
  rcases List.mem_cons.mp hq with rfl | hq
  · exact h.elim .inl fun h => .inr (.inr h)
  · rw [List.mem_singleton.mp hq]; exact .inr (.inl rfl)

theorem i2d_ret {P : Addr} {line col : Int} {qual : Str} {h₀ : Heap} {L : Addr} {m : Str → Option Value} {T news news' : List (Addr × Obj)} {s : Shared} {Q : Value → Shared → Prop} {xs : List Int} {D c' : Addr} {c : Nat} {oc : Obj} {vs ps : Array Value} {t : Tok} {us : List Value} {h' : Heap} {tk' : Nat}
    (ret : ∀ us D c T' h' tk', HotT P line col qual T' → (HotT P line col qual T → T' = T) → NewT P T T' news → IntsAre us xs → Fr h₀ L h' m → News h₀ L h' ((D, listOf us.toArray c) :: (T' ++ news)) → AllLt D news → Q (.ref D) { s with heap := h', toks := tk' })
    (F : Fr h₀ L h' m) (N : News h₀ L h' news') (hD : (D, listOf us.toArray c) ∈ news') (hP : (P, tabObj ps) ∈ news') (hps : ps = #[rawInt line, rawInt col, .ref c']) (hc : (c', oc) ∈ news') (hoc : oc.data = .fields vs) (hvs : (vs[1]? : Option Value) = some (.str qual t))
    (hs : ∀ p ∈ news, p ∈ news') (hT : HotT P line col qual T → [(c', oc), (P, tabObj #[rawInt line, rawInt col, .ref c'])] = T) (hnw : (c', oc) ∈ T ∨ AllLt c' news) (I : IntsAre us xs) (hl : AllLt D news) : Q (.ref D) { s with heap := h', toks := tk' } := by
  subst hps
  refine ret us D c [(c', oc), (P, tabObj #[rawInt line, rawInt col, .ref c'])] h' tk' ⟨c', oc, vs, t, rfl, hoc, hvs⟩ hT (newT_of hnw) I F (fun p hp => ?_) hl
  rcases List.mem_cons.mp hp with rfl | hp
  · exact N _ hD
  · rcases List.mem_append.mp hp with hp | hp
    · rcases List.mem_cons.mp hp with rfl | hp
      · exact N _ hc
      · rw [List.mem_singleton.mp hp]; exact N _ hP
    · exact N p (hs p hp)
theorem d2i_ret {P : Addr} {line col : Int} {qual : Str} {h₀ : Heap} {L : Addr} {m : Str → Option Value} {T news news' : List (Addr × Obj)} {s : Shared} {Q : Value → Shared → Prop} {x y : Int} {c' : Addr} {oc : Obj} {vs ps : Array Value} {t t' : Tok} {h' : Heap} {tk' : Nat}
    (ret : ∀ t T' h' tk', HotT P line col qual T' → (HotT P line col qual T → T' = T) → NewT P T T' news → Fr h₀ L h' m → News h₀ L h' (T' ++ news) → Q (.int x t) { s with heap := h', toks := tk' })
    (F : Fr h₀ L h' m) (N : News h₀ L h' news') (hP : (P, tabObj ps) ∈ news') (hps : ps = #[rawInt line, rawInt col, .ref c']) (hc : (c', oc) ∈ news') (hoc : oc.data = .fields vs) (hvs : (vs[1]? : Option Value) = some (.str qual t'))
    (hs : ∀ p ∈ news, p ∈ news') (hT : HotT P line col qual T → [(c', oc), (P, tabObj #[rawInt line, rawInt col, .ref c'])] = T) (hnw : (c', oc) ∈ T ∨ AllLt c' news) (e : y = x) : Q (.int y t) { s with heap := h', toks := tk' } := by
  subst hps e
  refine ret t [(c', oc), (P, tabObj #[rawInt line, rawInt col, .ref c'])] h' tk' ⟨c', oc, vs, t', rfl, hoc, hvs⟩ hT (newT_of hnw) F (fun p hp => ?_)
  rcases List.mem_append.mp hp with hp | hp
  · rcases List.mem_cons.mp hp with rfl | hp
    · exact N _ hc
    · rw [List.mem_singleton.mp hp]; exact N _ hP
  · exact N p (hs p hp)
theorem cold_not_hot {P : Addr} {line col : Int} {qual : Str} {T : List (Addr × Obj)} {o : Obj} (h : HotT P line col qual [(P, o)]) : False := by
  refine Mine.exand4_2 h fun c' oc vs t e _ => ?_
  try clear h
  cases e
theorem ints_cast {us : List Value} {xs ys : List Int} (I : IntsAre us xs) (e : xs = ys) : IntsAre us ys := e ▸ I
end
example {prog : Program} {w : World} {A : Around} {env : Env} {Q : Flow → Shared → Prop} {E : Value → Shared → Prop} {s : Shared} (h : Q .next s) : wpAny (model prog w) A (execs [] env) Q E s := by
  w_top off
  walk1
  exact h
section
theorem i2d {w p loose mean mg mb} (n W : Nat) (a : Int) (ta tn : Tok) (hn : 1 ≤ n) (hnn : n ≤ 4194304) (ha : 0 ≤ a) (hab : intBits a ≤ 4194304) (hW : ((intBits a : Int) + (n : Int) - 1) / (n : Int) = (W : Int)) (hW1 : intBits a ≤ W * n) (hW2 : W * n ≤ intBits a + n - 1) (hW3 : W ≤ intBits a) :
    GivesL w p loose mean mg mb St1 Hot1 34 30 35 [.int a ta, .int n tn] 40 300 (digs n a W) := by
  unfold GivesL
  k_fill
  intro dp un gd cn cs aa ccd cl outer A₀ base h₀ L m T news s Q E B F X N hT Tp C hk hdp hu hret
  have hMk := kstMark
  k_with_none
  k_with "binaryOp Add int int" => (refine add_N ?_)
  k_with "binaryOp Sub int int" => (refine sub_N ?_)
  k_with "inplaceOp Add int int" => (refine iadd_N ?_)
  k_with "inplaceOp Sub int int" => (refine isub_N ?_)
  k_with "binaryOp BitOr int int" => (refine or_N ?_)
  k_with "unaryOp USub int" => (refine neg_N ?_)
  k_with "storeName" => (k_here; k_dflt (refine' storeX_N ?F ?N ?eg ?ed ?eo ?_ ?a ?b; (case F => k_asm); (case N => k_asm); (case a => rfl); (case b => rfl); (case eg => first | (dsimp only; done) | exact rfl); (case ed => first | (dsimp only; done) | exact rfl); (case eo => first | (dsimp only; done) | exact rfl); k_whole; intro _ _ _; (try k_sweep)))
  k_with "MineLt" => (first | with_reducible assumption | ((with_reducible rename _ ∧ _ => hC9); first | exact hC9.1 | exact hC9.2.1 | exact hC9.2.2.1 | exact hC9.2.2.2.1 | exact hC9.2.2.2.2.1 | exact hC9.2.2.2.2.2.1 | exact hC9.2.2.2.2.2.2.1 | exact hC9.2.2.2.2.2.2.2.1 | exact hC9.2.2.2.2.2.2.2.2.1 | exact hC9.2.2.2.2.2.2.2.2.2.1 | exact hC9.2.2.2.2.2.2.2.2.2.2.1 | exact hC9.2.2.2.2.2.2.2.2.2.2.2.1 | exact hC9.2.2.2.2.2.2.2.2.2.2.2.2.1 | exact hC9.2.2.2.2.2.2.2.2.2.2.2.2.2.1) | exact And.left (by with_reducible assumption) | exact Nat.lt_succ_self _)
  k_with "binaryOp LShift int int" => (refine' lshift_N ?hn ?hz ?_; (case hn => k_extra "nn"); (case hz => k_extra "shl"); (try k_extra "tidy"))
  k_with "inplaceOp LShift int int" => (refine' ilshift_N ?hn ?hz ?_; (case hn => k_extra "nn"); (case hz => k_extra "shl"); (try k_extra "tidy"))
  k_with "binaryOp RShift int int" => (refine' rshift_N ?hn ?_; (case hn => k_extra "nn"); (try k_extra "tidy"))
  k_with "inplaceOp RShift int int" => (refine' irshift_N ?hn ?_; (case hn => k_extra "nn"); (try k_extra "tidy"))
  k_with "binaryOp BitAnd int int" => (refine and_N ?_; (try k_extra "tidy"))
  k_with "binaryOp Mult int int" => (refine' mul_N ?_ ?hm; (case hm => k_extra "mul"); (try k_extra "tidy"))
  k_with "Kdm" => (refine' divmod_N ?F ?N ?hb ?_ ?hp; (case F => k_asm); (case N => k_asm); (case hb => k_extra "div0"); (case hp => k_extra "pylong"))
  k_with "call ref" => (k_extra "my call")
  k_with "ite" => (k_extra "decide")
  k_with "binaryOp FloorDiv int int" => (refine' floordiv_N ?hb ?_ ?hp; (case hb => k_extra "div0"); (case hp => k_extra "pylong"); (try k_extra "tidy"))
  k_with "binaryOp BitXor int int" => (refine xor_N ?_; (try k_extra "tidy"))
  k_with "nn" => first | exact Int.natCast_nonneg _ | decide | omega
  k_with "sub" => exact fun p hp => by repeat (first | exact hp | refine List.mem_cons_of_mem _ ?_)
  k_with "lt" => first | assumption | (exact allLt_of (by assumption)) | (exact And.right (by assumption)) | (exact And.right (And.right (by assumption))) | (exact And.right (And.right (And.right (by assumption)))) | (exact And.right (And.right (And.right (And.right (by assumption))))) | (exact And.right (And.right (And.right (And.right (And.right (by assumption))))))  | (exact And.right (And.right (And.right (And.right (And.right (And.right (by assumption)))))))
  k_with "div0" => omega
  k_with "pylong" => exact Or.inl (PyProof.noPylong_small (by omega))
  k_with "decide" => fail
  k_with "tidy" => (rw [Int.fdiv_eq_ediv_of_nonneg _ (Int.natCast_nonneg _), hW])
  have hWn : (W : Int) * n ≤ 8388608 := by rw [← Int.natCast_mul]; omega
  have hx1 : a < 2 ^ (W * n) := lt_of_bits hW1
  have hW0 : a ≠ 0 → 1 ≤ W := by
    intro h
    rcases Nat.eq_zero_or_pos W with h' | h'
    · subst h'; simp at hx1; omega
    · exact h'
  have hWz : a = 0 → W = 0 := by
    intro h
    subst h
    have : intBits 0 = 0 := by decide
    omega
  have hWT : ((W : Nat) : Int).toNat = W := Int.toNat_natCast W
  k_with "my call" =>
    (rename News _ _ _ _ => nX9)
    refine' in1_use (in1_all n hn hnn 22) ?k1 ?k2 ?k3 nX9 ?kP ?k5 ?k6 ?k7 ?kI ?kC ?kne ?c0 ?c1 ?c2 ?c3 ?c4 ?c5 ?c6 ?c7 ?k8 ?k9 ?_
    (case kI => with_reducible assumption)
    (case kP => first | exact Pull.head | exact Pull.tail Pull.head | exact Pull.tail (Pull.tail Pull.head) | exact Pull.tail (Pull.tail (Pull.tail Pull.head)))
    (case k1 => k_asm)
    (case k2 => k_asm)
    (case k3 => k_asm)
    (case k5 => k_asm)
    (case k6 => k_asm)
    (case k7 => exact rfl)
    (case k8 => ktr_room)
    (case k9 => ktr_units)
    (case c0 => decide)
    (case c1 => (simp only [hWT, rep_one]; have := hW0 (by assumption); omega))
    (case c2 => omega)
    (case c3 => (simp only [hWT, rep_one]; (have e22 : (2 : Int) ^ 22 = 4194304 := by decide); omega))
    (case c4 => (simp only [hWT, rep_one]; omega))
    (case c5 => (simp only [hWT, rep_one]; exact hWn))
    (case c6 => exact ha)
    (case c7 => (simp only [hWT, rep_one, Int.sub_zero]; exact hx1))
    (case kC => exact Clos1.of rfl (by k_mem) (by k_mem) (by assumption) (by assumption) (by k_mem) (by assumption) (by k_mem) (by assumption) (by k_mem) (by assumption))
    (case kne => k_all)
    intro vs9 c9 hp9 tk9 I9 F9 N9
  refine wpAny_call ?_
  rcases hT with ⟨hc, h30⟩ | hh
  · obtain rfl : T = [(30, tabObj #[])] := hc
    (simp only [List.cons_append, List.nil_append] at N)
    k_dflt (refine' code_defC ?k1 ?k2 ?k3 ?k4 ?k5 ?kA ?kF ?kK ?k6 ?k7 ?k8 ?k9 ?kB ?kD ?_ ?c2 ?c3 ?c4; (case kA => exact rfl); (case kF => exact rfl); (case kK => assumption); (case k1 => k_asm); (case k2 => k_asm); (case k3 => k_asm); (case k4 => k_asm); (case k5 => k_asm); (case k6 => k_is); (case k7 => k_is); (case k8 => ktr_room); (case k9 => first | exact BindsTo.of_eq rfl | exact binds_K (by k_in) rfl (by k_is) rfl rfl rfl | fail "k_enter: no rule for these arguments"); (case kB => exact rfl); (case kD => decide +kernel); (case c2 => exact rfl); (case c3 => exact rfl); (case c4 => exact rfl); k_whole; intro g' L' h' tk' cells' FG' F' N' Y' B' X' T' l1; (try k_lt l1))
    refine Mine.exand3_4 (CellsAre.three Y') fun o1 o2 o3 hE d1 d2 d3 => ?_
    subst hE
    clear Y'
    (simp only [List.cons_append, List.nil_append] at N')
    replace F' := fr_as (m' := fun y => if y = Str.ofString "a" then some (.int a ta) else none) F' rfl
    replace d3 : o3.data = .cell (some (.int n tn)) := d3
    replace d2 : o2.data = .cell none := d2
    replace d1 : o1.data = .cell none := d1
    have q0 := kst_ltOf l1.2
    have q1 : ∀ p ∈ news, p.1 ≠ L' + 1 := fun p hp => Nat.ne_of_lt (Nat.lt_succ_of_lt (q0 p hp))
    have q2 : ∀ p ∈ news, p.1 ≠ L' + 1 + 1 := fun p hp => Nat.ne_of_lt (Nat.lt_succ_of_lt (Nat.lt_succ_of_lt (q0 p hp)))
    have q3 : ∀ p ∈ news, p.1 ≠ L' + 1 + 1 + 1 := fun p hp => Nat.ne_of_lt (Nat.lt_succ_of_lt (Nat.lt_succ_of_lt (Nat.lt_succ_of_lt (q0 p hp))))
    (try dsimp only)
    (try k_fold)
    k_steps
    · refine i2d_ret hret (by assumption) (by assumption) (by k_mem) (by k_mem) (by first | rfl | decide) (by k_mem) (by assumption) (by assumption) (by k_extra "sub") (fun h => (cold_not_hot (T := news) h).elim) (.inr (by k_extra "lt")) ?_ (by k_extra "lt")
      refine ints_cast (by assumption) ?_
      simp only [hWT, rep_one, Int.sub_zero, Int.toNat_zero]
      exact over_all _ W (digs_length _ _ _) _ (rep_one W)
    · refine i2d_ret hret (by assumption) (by assumption) (by k_mem) (by k_mem) (by first | rfl | decide) (by k_mem) (by assumption) (by assumption) (by k_extra "sub") (fun h => (cold_not_hot (T := news) h).elim) (.inr (by k_extra "lt")) ?_ (by k_extra "lt")
      rw [hWz (by assumption)]
      exact IntsAre.nil
  · have hh0 := hh
    refine Mine.exand4_3 hh fun cq ocq vsq tq ob19 hocq hvsq => ?_
    subst ob19
    try clear hh
    (simp only [List.cons_append, List.nil_append] at N)
    k_dflt (refine' code_defC ?k1 ?k2 ?k3 ?k4 ?k5 ?kA ?kF ?kK ?k6 ?k7 ?k8 ?k9 ?kB ?kD ?_ ?c2 ?c3 ?c4; (case kA => exact rfl); (case kF => exact rfl); (case kK => assumption); (case k1 => k_asm); (case k2 => k_asm); (case k3 => k_asm); (case k4 => k_asm); (case k5 => k_asm); (case k6 => k_is); (case k7 => k_is); (case k8 => ktr_room); (case k9 => first | exact BindsTo.of_eq rfl | exact binds_K (by k_in) rfl (by k_is) rfl rfl rfl | fail "k_enter: no rule for these arguments"); (case kB => exact rfl); (case kD => decide +kernel); (case c2 => exact rfl); (case c3 => exact rfl); (case c4 => exact rfl); k_whole; intro g' L' h' tk' cells' FG' F' N' Y' B' X' T' l1; (try k_lt l1))
    refine Mine.exand3_4 (CellsAre.three Y') fun o1 o2 o3 hE d1 d2 d3 => ?_
    subst hE
    clear Y'
    (simp only [List.cons_append, List.nil_append] at N')
    replace F' := fr_as (m' := fun y => if y = Str.ofString "a" then some (.int a ta) else none) F' rfl
    replace d3 : o3.data = .cell (some (.int n tn)) := d3
    replace d2 : o2.data = .cell none := d2
    replace d1 : o1.data = .cell none := d1
    have q0 := kst_ltOf l1.2.2
    have q1 : ∀ p ∈ news, p.1 ≠ L' + 1 := fun p hp => Nat.ne_of_lt (Nat.lt_succ_of_lt (q0 p hp))
    have q2 : ∀ p ∈ news, p.1 ≠ L' + 1 + 1 := fun p hp => Nat.ne_of_lt (Nat.lt_succ_of_lt (Nat.lt_succ_of_lt (q0 p hp)))
    have q3 : ∀ p ∈ news, p.1 ≠ L' + 1 + 1 + 1 := fun p hp => Nat.ne_of_lt (Nat.lt_succ_of_lt (Nat.lt_succ_of_lt (Nat.lt_succ_of_lt (q0 p hp))))
    (try dsimp only)
    (try k_fold)
    k_steps
    · refine i2d_ret hret (by assumption) (by assumption) (by k_mem) (by k_mem) (by first | rfl | decide) (by k_mem) (by assumption) (by assumption) (by k_extra "sub") (fun _ => rfl) (.inl (by k_mem)) ?_ (by k_extra "lt")
      refine ints_cast (by assumption) ?_
      simp only [hWT, rep_one, Int.sub_zero, Int.toNat_zero]
      exact over_all _ W (digs_length _ _ _) _ (rep_one W)
    · refine i2d_ret hret (by assumption) (by assumption) (by k_mem) (by k_mem) (by first | rfl | decide) (by k_mem) (by assumption) (by assumption) (by k_extra "sub") (fun _ => rfl) (.inl (by k_mem)) ?_ (by k_extra "lt")
      rw [hWz (by assumption)]
      exact IntsAre.nil
end
example {prog : Program} {w : World} {A : Around} {env : Env} {Q : Flow → Shared → Prop} {E : Value → Shared → Prop} {s : Shared} (h : Q .next s) : wpAny (model prog w) A (execs [] env) Q E s := by
  w_top off
  walk1
  exact h
section
/-- the closure of _digits2int: what stands on the ledger -/
structure Clos2 (w : World) (news : List (Addr × Obj)) (f : Addr) (n : Nat) (ds : List Int) : Prop where
  ex : ∃ prm bdy sc qual doc pm c' ctv oc vsc tq cD cN cI oD oN oI tn l vs c, nested? (hd.heap_1 w.params) 42 0 = some (Str.ofString "inner", prm, bdy, sc) ∧
    (f, fnMade (Str.ofString "inner") qual prm bdy sc [(Str.ofString "n", cN), (Str.ofString "inner", cI), (Str.ofString "digits", cD)] doc pm c' ctv) ∈ news ∧
    (c', oc) ∈ news ∧ oc.data = .fields vsc ∧ (vsc[1]? : Option Value) = some (.str qual tq) ∧
    (cD, oD) ∈ news ∧ oD.data = .cell (some (.ref l)) ∧ (cN, oN) ∈ news ∧ oN.data = .cell (some (.int n tn)) ∧ (cI, oI) ∈ news ∧ oI.data = .cell (some (.ref f)) ∧
    (l, listOf (List.toArray vs) c) ∈ news ∧ IntsAre vs ds
theorem Clos2.of {w : World} {news : List (Addr × Obj)} {f : Addr} {n : Nat} {ds : List Int} {prm : _} {bdy : _} {sc : _} {qual : _} {doc : _} {pm : _} {c' : _} {ctv : _} {oc : _} {vsc : _} {tq : _} {cD : _} {cN : _} {cI : _} {oD : _} {oN : _} {oI : _} {tn : _} {l : _} {vs : _} {c : _} (h0 : nested? (hd.heap_1 w.params) 42 0 = some (Str.ofString "inner", prm, bdy, sc)) (h1 : (f, fnMade (Str.ofString "inner") qual prm bdy sc [(Str.ofString "n", cN), (Str.ofString "inner", cI), (Str.ofString "digits", cD)] doc pm c' ctv) ∈ news) (h2 : (c', oc) ∈ news) (h3 : oc.data = .fields vsc) (h4 : (vsc[1]? : Option Value) = some (.str qual tq)) (h5 : (cD, oD) ∈ news) (h6 : oD.data = .cell (some (.ref l))) (h7 : (cN, oN) ∈ news) (h8 : oN.data = .cell (some (.int n tn))) (h9 : (cI, oI) ∈ news) (h10 : oI.data = .cell (some (.ref f))) (h11 : (l, listOf (List.toArray vs) c) ∈ news) (h12 : IntsAre vs ds) : Clos2 w news f n ds := ⟨⟨_, _, _, _, _, _, _, _, _, _, _, _, _, _, _, _, _, _, _, _, _, h0, h1, h2, h3, h4, h5, h6, h7, h8, h9, h10, h11, h12⟩⟩

def In2 (w : World) (p : Program) (loose : List Str) (mean : ExcName → Option Value) (mg mb : Str → Option Value) (n k : Nat) : Prop :=
  ∀ (f : Addr) (news : List (Addr × Obj)) (ds : List Int) (lo hi : Int) (tl th : Tok),
    Clos2 w news f n ds → 0 ≤ lo → lo < hi → hi ≤ ds.length → hi - lo ≤ 2 ^ k → ds.length ≤ 4194304 → (ds.length : Int) * n ≤ 8388608 → (∀ d ∈ ds, 0 ≤ d ∧ d < 2 ^ n) →
  ∀ (dp un : Nat) (gd : Option (List Code)) (cn : Str) (cs : Scope) (a : Addr) (ccd : Value) (cl : List (Str × Addr)) (outer : List Env) (A₀ : Around) (base h₀ : Heap) (L : Addr) (m : Str → Option Value) (s : Shared)
    (Q E : Value → Shared → Prop),
    Below A₀ base outer h₀ → Fr h₀ L s.heap m → (hd.heap_1 w.params).In h₀ → News h₀ L s.heap news → Top p loose mean mg mb h₀ → CodeHd base 41 37 → cs.kind = .function → dp + (k + 2) < recursionLimit → un + (8 * k + 16) < cLine →
    (∀ t h' tk', Fr h₀ L h' m → News h₀ L h' news → Q (.int (undig n ((ds.drop lo.toNat).take (hi - lo).toNat)) t) { s with heap := h', toks := tk' }) →
    wpAny (model PySem.Challenge.rw_ph0128_01.row.prog w) (ktrTop dp un gd cn cs L a ccd cl outer) (call (.ref f) [.int lo tl, .int hi th]) Q E s

theorem undig_slice_bits {n : Nat} {ds : List Int} {i j : Nat} (hb : ∀ d ∈ ds, 0 ≤ d ∧ d < 2 ^ n) : 0 ≤ undig n ((ds.drop i).take j) ∧ undig n ((ds.drop i).take j) < 2 ^ (j * n) := by
  refine Mine.exand0_2 (undig_bound n ((ds.drop i).take j) fun d hd => hb d (List.mem_of_mem_drop (List.mem_of_mem_take hd))) fun h1 h2 => ?_
  refine ⟨h1, Int.lt_of_lt_of_le h2 (pow_le_pow' (Nat.mul_le_mul_right _ ?_))⟩
  rw [List.length_take]
  omega
theorem undig_join {n : Nat} {ds : List Int} {i d r : Nat} (h : i + d + r ≤ ds.length) : undig n ((ds.drop (i + d)).take r) * 2 ^ (d * n) + undig n ((ds.drop i).take d) = undig n ((ds.drop i).take (d + r)) := by
  have e : (ds.drop i).take (d + r) = (ds.drop i).take d ++ ((ds.drop (i + d)).take r) := by
    rw [List.take_add, List.drop_drop]
  rw [e, undig_append, List.length_take, List.length_drop, Nat.min_eq_left (by omega), Int.mul_comm]
  omega
theorem undig_one {n : Nat} {ds : List Int} {i : Nat} (h : i < ds.length) : undig n ((ds.drop i).take 1) = ds.getD i 0 := by
  rw [List.drop_eq_getElem_cons h, List.take_succ_cons, List.take_zero, undig, undig]
  simp [List.getD, h]
end
example {prog : Program} {w : World} {A : Around} {env : Env} {Q : Flow → Shared → Prop} {E : Value → Shared → Prop} {s : Shared} (h : Q .next s) : wpAny (model prog w) A (execs [] env) Q E s := by
  w_top off
  walk1
  exact h
section
theorem in2_step {w p loose mean mg mb} (n k : Nat) (hn : 1 ≤ n) (hnn : n ≤ 4194304) (IH : In2 w p loose mean mg mb n k) : In2 w p loose mean mg mb n (k + 1) := by
  intro f news ds lo hi tl th hC hlo hlh hhi hk2 hlen hsz hdb
  k_fill
  intro dp un gd cn cs aa ccd cl outer A₀ base h₀ L m s Q E B F X N T C hk hdp hu hret
  have hC0 := hC
  refine Mine.exand21_13 hC.ex fun prm bdy sc qual doc pm c' ctv oc vsc tq cD cN cI oD oN oI tn l vs c hnest hf hc' hoc hvs hcD hdD hcN hdN hcI hdI hl hI => ?_
  have e : nested? (hd.heap_1 w.params) 42 0 = some _ := rfl
  rw [e] at hnest
  cases hnest
  clear e
  have hMk := kstMark
  rw [pow_succ_int] at hk2
  have ob19 : ∃ d : Nat, (lo + hi) / 2 - lo = (d : Int) := ⟨((lo + hi) / 2 - lo).toNat, by omega⟩
  refine Mine.exand1_1 ob19 fun d hd1 => ?_
  try clear ob19
  have ob29 : ∃ r : Nat, hi - (lo + hi) / 2 = (r : Int) := ⟨(hi - (lo + hi) / 2).toNat, by omega⟩
  refine Mine.exand1_1 ob29 fun r hr1 => ?_
  try clear ob29
  have hS : ((lo + hi) / 2 - lo) * (n : Int) = ((d * n : Nat) : Int) := by rw [hd1, Int.natCast_mul]
  have hdr : (hi - lo).toNat = d + r := by omega
  have hdn : ((d * n : Nat) : Int) ≤ 8388608 := by
    rw [Int.natCast_mul]
    exact Int.le_trans (Int.mul_le_mul_of_nonneg_right (by omega) (by omega)) hsz
  have hrn : ((r * n : Nat) : Int) ≤ 8388608 := by
    rw [Int.natCast_mul]
    exact Int.le_trans (Int.mul_le_mul_of_nonneg_right (by omega) (by omega)) hsz
  have e1 : ((lo + hi) / 2 - lo).toNat = d := by omega
  have e2 : (hi - (lo + hi) / 2).toNat = r := by omega
  have e3 : ((lo + hi) / 2).toNat = lo.toNat + d := by omega
  have hbq : intBits (undig n ((ds.drop (lo.toNat + d)).take r)) ≤ r * n := bits_of_lt (undig_slice_bits hdb).1 (undig_slice_bits hdb).2
  k_with_none
  k_with "binaryOp Add int int" => (refine add_N ?_)
  k_with "binaryOp Sub int int" => (refine sub_N ?_)
  k_with "inplaceOp Add int int" => (refine iadd_N ?_)
  k_with "inplaceOp Sub int int" => (refine isub_N ?_)
  k_with "binaryOp BitOr int int" => (refine or_N ?_)
  k_with "unaryOp USub int" => (refine neg_N ?_)
  k_with "storeName" => (k_here; k_dflt (refine' storeX_N ?F ?N ?eg ?ed ?eo ?_ ?a ?b; (case F => k_asm); (case N => k_asm); (case a => rfl); (case b => rfl); (case eg => first | (dsimp only; done) | exact rfl); (case ed => first | (dsimp only; done) | exact rfl); (case eo => first | (dsimp only; done) | exact rfl); k_whole; intro _ _ _; (try k_sweep)))
  k_with "MineLt" => (first | with_reducible assumption | ((with_reducible rename _ ∧ _ => hC9); first | exact hC9.1 | exact hC9.2.1 | exact hC9.2.2.1 | exact hC9.2.2.2.1 | exact hC9.2.2.2.2.1 | exact hC9.2.2.2.2.2.1 | exact hC9.2.2.2.2.2.2.1 | exact hC9.2.2.2.2.2.2.2.1 | exact hC9.2.2.2.2.2.2.2.2.1 | exact hC9.2.2.2.2.2.2.2.2.2.1 | exact hC9.2.2.2.2.2.2.2.2.2.2.1 | exact hC9.2.2.2.2.2.2.2.2.2.2.2.1 | exact hC9.2.2.2.2.2.2.2.2.2.2.2.2.1 | exact hC9.2.2.2.2.2.2.2.2.2.2.2.2.2.1) | exact And.left (by with_reducible assumption) | exact Nat.lt_succ_self _)
  k_with "binaryOp LShift int int" => (refine' lshift_N ?hn ?hz ?_; (case hn => k_extra "nn"); (case hz => k_extra "shl"); (try k_extra "tidy"))
  k_with "inplaceOp LShift int int" => (refine' ilshift_N ?hn ?hz ?_; (case hn => k_extra "nn"); (case hz => k_extra "shl"); (try k_extra "tidy"))
  k_with "binaryOp RShift int int" => (refine' rshift_N ?hn ?_; (case hn => k_extra "nn"); (try k_extra "tidy"))
  k_with "inplaceOp RShift int int" => (refine' irshift_N ?hn ?_; (case hn => k_extra "nn"); (try k_extra "tidy"))
  k_with "binaryOp BitAnd int int" => (refine and_N ?_; (try k_extra "tidy"))
  k_with "binaryOp Mult int int" => (refine' mul_N ?_ ?hm; (case hm => k_extra "mul"); (try k_extra "tidy"))
  k_with "Kdm" => (refine' divmod_N ?F ?N ?hb ?_ ?hp; (case F => k_asm); (case N => k_asm); (case hb => k_extra "div0"); (case hp => k_extra "pylong"))
  k_with "call ref" => (k_extra "my call")
  k_with "ite" => (k_extra "decide")
  k_with "binaryOp FloorDiv int int" => (refine' floordiv_N ?hb ?_ ?hp; (case hb => k_extra "div0"); (case hp => k_extra "pylong"); (try k_extra "tidy"))
  k_with "binaryOp BitXor int int" => (refine xor_N ?_; (try k_extra "tidy"))
  k_with "nn" => first | exact Int.natCast_nonneg _ | decide | omega
  k_with "shl" => (simp only [p27]; omega)
  k_with "mul" => exact IntMulOk.of_right (PySem.intBits_le_64 (by omega) (by omega))
  k_with "tidy" => simp only [toNat1, pow1, fdiv2, hS, Int.toNat_natCast]
  k_with "decide" => fail
  k_with "my call" =>
    refine' IH f news ds _ _ _ _ hC0 ?c0 ?c1 ?c2 ?c3 hlen hsz hdb _ _ _ _ _ _ _ _ _ _ _ _ _ _ _ _ _ ?k1 ?k2 ?k3 ?k4 ?k5 ?k6 ?k7 ?k8 ?k9 ?_
    (case k1 => k_asm)
    (case k2 => k_asm)
    (case k3 => k_asm)
    (case k4 => k_asm)
    (case k5 => k_asm)
    (case k6 => k_asm)
    (case k7 => exact rfl)
    (case k8 => ktr_room)
    (case k9 => ktr_units)
    (case c0 => omega)
    (case c1 => omega)
    (case c2 => omega)
    (case c3 => omega)
    intro t9 hp9 tk9 F9 N9
    simp only [e1, e2, e3]
  refine wpAny_call ?_
  k_dflt (refine' code_nest ?k1 ?k2 ?k3 ?k4 ?k5 ?kA ?kF ?kK ?k6 ?k7 ?k8 ?k9 ?kB ?_ ?c2 ?c3 ?c4 ?c5; (case kA => exact rfl); (case kF => exact rfl); (case kK => assumption); (case k1 => k_asm); (case k2 => k_asm); (case k3 => k_asm); (case k4 => k_asm); (case k5 => k_asm); (case k6 => k_mem); (case k7 => exact codeRec_news (by k_asm) (by k_mem) (by assumption) (by assumption)); (case k8 => ktr_room); (case k9 => exact BindsTo.of_eq rfl); (case c5 => decide); (case kB => exact locs rfl); (case c2 => exact rfl); (case c3 => exact rfl); (case c4 => exact rfl); k_whole; intro g' L' h' FG' F' N' B' X' T')
  (try refine tok_any fun tk9 => ?_)
  replace F' := fr_as (m' := fun y => List.lookup y [(Str.ofString "R", .int hi th), (Str.ofString "L", .int lo tl)]) F' rfl
  (try dsimp only)
  (try k_fold)
  k_steps
  · have e4 : undig n ((ds.drop lo.toNat).take (hi - lo).toNat) = ds.getD lo.toNat 0 := by
      have e1 : (hi - lo).toNat = 1 := by omega
      rw [e1]
      exact undig_one (by omega)
    rw [e4] at hret
    exact hret _ _ _ (by assumption) (by assumption)
  · rw [hdr, ← undig_join (by omega)] at hret
    exact hret _ _ _ (by assumption) (by assumption)

theorem in2_base {w p loose mean mg mb} (n : Nat) (hn : 1 ≤ n) (hnn : n ≤ 4194304) : In2 w p loose mean mg mb n 0 := by
  intro f news ds lo hi tl th hC hlo hlh hhi hk2 hlen hsz hdb
  k_fill
  intro dp un gd cn cs aa ccd cl outer A₀ base h₀ L m s Q E B F X N T C hk hdp hu hret
  have hC0 := hC
  refine Mine.exand21_13 hC.ex fun prm bdy sc qual doc pm c' ctv oc vsc tq cD cN cI oD oN oI tn l vs c hnest hf hc' hoc hvs hcD hdD hcN hdN hcI hdI hl hI => ?_
  have e : nested? (hd.heap_1 w.params) 42 0 = some _ := rfl
  rw [e] at hnest
  cases hnest
  clear e
  have hMk := kstMark
  have hk3 : hi - lo ≤ 1 := hk2
  have hlh1 : lo + 1 = hi := by omega
  k_with_none
  k_with "binaryOp Add int int" => (refine add_N ?_)
  k_with "binaryOp Sub int int" => (refine sub_N ?_)
  k_with "inplaceOp Add int int" => (refine iadd_N ?_)
  k_with "inplaceOp Sub int int" => (refine isub_N ?_)
  k_with "binaryOp BitOr int int" => (refine or_N ?_)
  k_with "unaryOp USub int" => (refine neg_N ?_)
  k_with "storeName" => (k_here; k_dflt (refine' storeX_N ?F ?N ?eg ?ed ?eo ?_ ?a ?b; (case F => k_asm); (case N => k_asm); (case a => rfl); (case b => rfl); (case eg => first | (dsimp only; done) | exact rfl); (case ed => first | (dsimp only; done) | exact rfl); (case eo => first | (dsimp only; done) | exact rfl); k_whole; intro _ _ _; (try k_sweep)))
  k_with "MineLt" => (first | with_reducible assumption | ((with_reducible rename _ ∧ _ => hC9); first | exact hC9.1 | exact hC9.2.1 | exact hC9.2.2.1 | exact hC9.2.2.2.1 | exact hC9.2.2.2.2.1 | exact hC9.2.2.2.2.2.1 | exact hC9.2.2.2.2.2.2.1 | exact hC9.2.2.2.2.2.2.2.1 | exact hC9.2.2.2.2.2.2.2.2.1 | exact hC9.2.2.2.2.2.2.2.2.2.1 | exact hC9.2.2.2.2.2.2.2.2.2.2.1 | exact hC9.2.2.2.2.2.2.2.2.2.2.2.1 | exact hC9.2.2.2.2.2.2.2.2.2.2.2.2.1 | exact hC9.2.2.2.2.2.2.2.2.2.2.2.2.2.1) | exact And.left (by with_reducible assumption) | exact Nat.lt_succ_self _)
  k_with "binaryOp LShift int int" => (refine' lshift_N ?hn ?hz ?_; (case hn => k_extra "nn"); (case hz => k_extra "shl"); (try k_extra "tidy"))
  k_with "inplaceOp LShift int int" => (refine' ilshift_N ?hn ?hz ?_; (case hn => k_extra "nn"); (case hz => k_extra "shl"); (try k_extra "tidy"))
  k_with "binaryOp RShift int int" => (refine' rshift_N ?hn ?_; (case hn => k_extra "nn"); (try k_extra "tidy"))
  k_with "inplaceOp RShift int int" => (refine' irshift_N ?hn ?_; (case hn => k_extra "nn"); (try k_extra "tidy"))
  k_with "binaryOp BitAnd int int" => (refine and_N ?_; (try k_extra "tidy"))
  k_with "binaryOp Mult int int" => (refine' mul_N ?_ ?hm; (case hm => k_extra "mul"); (try k_extra "tidy"))
  k_with "Kdm" => (refine' divmod_N ?F ?N ?hb ?_ ?hp; (case F => k_asm); (case N => k_asm); (case hb => k_extra "div0"); (case hp => k_extra "pylong"))
  k_with "call ref" => (k_extra "my call")
  k_with "ite" => (k_extra "decide")
  k_with "binaryOp FloorDiv int int" => (refine' floordiv_N ?hb ?_ ?hp; (case hb => k_extra "div0"); (case hp => k_extra "pylong"); (try k_extra "tidy"))
  k_with "binaryOp BitXor int int" => (refine xor_N ?_; (try k_extra "tidy"))
  k_with "decide" => (refine ite_pos (by (simp only [decide_eq_true_eq, beq_iff_eq]); omega) ?_)
  refine wpAny_call ?_
  k_dflt (refine' code_nest ?k1 ?k2 ?k3 ?k4 ?k5 ?kA ?kF ?kK ?k6 ?k7 ?k8 ?k9 ?kB ?_ ?c2 ?c3 ?c4 ?c5; (case kA => exact rfl); (case kF => exact rfl); (case kK => assumption); (case k1 => k_asm); (case k2 => k_asm); (case k3 => k_asm); (case k4 => k_asm); (case k5 => k_asm); (case k6 => k_mem); (case k7 => exact codeRec_news (by k_asm) (by k_mem) (by assumption) (by assumption)); (case k8 => ktr_room); (case k9 => exact BindsTo.of_eq rfl); (case c5 => decide); (case kB => exact locs rfl); (case c2 => exact rfl); (case c3 => exact rfl); (case c4 => exact rfl); k_whole; intro g' L' h' FG' F' N' B' X' T')
  (try refine tok_any fun tk9 => ?_)
  replace F' := fr_as (m' := fun y => List.lookup y [(Str.ofString "R", .int hi th), (Str.ofString "L", .int lo tl)]) F' rfl
  (try dsimp only)
  (try k_fold)
  k_steps
  · have e4 : undig n ((ds.drop lo.toNat).take (hi - lo).toNat) = ds.getD lo.toNat 0 := by
      have e1 : (hi - lo).toNat = 1 := by omega
      rw [e1]
      exact undig_one (by omega)
    rw [e4] at hret
    exact hret _ _ _ (by assumption) (by assumption)

theorem in2_all {w p loose mean mg mb} (n : Nat) (hn : 1 ≤ n) (hnn : n ≤ 4194304) : ∀ k, In2 w p loose mean mg mb n k
  | 0 => in2_base n hn hnn
  | k + 1 => in2_step n k hn hnn (in2_all n hn hnn k)

theorem in2_use {w : World} {p : Program} {loose : List Str} {mean : ExcName → Option Value} {mg mb : Str → Option Value} {n k : Nat} {f : Addr} {news : List (Addr × Obj)} {ds : List Int} {lo hi : Int} {tl th : Tok}
    {dp un : Nat} {gd : Option (List Code)} {cn : Str} {cs : Scope} {a : Addr} {ccd : Value} {cl : List (Str × Addr)} {outer : List Env} {A₀ : Around} {base h₀ : Heap} {L : Addr} {m : Str → Option Value} {s : Shared}
    {Q E : Value → Shared → Prop} (IH : In2 w p loose mean mg mb n k)
    (B : Below A₀ base outer h₀) (F : Fr h₀ L s.heap m) (X : (hd.heap_1 w.params).In h₀) (N : News h₀ L s.heap news) (T : Top p loose mean mg mb h₀) (C : CodeHd base 41 37) (hk : cs.kind = .function)
    (hC : Clos2 w news f n ds) (h0 : 0 ≤ lo) (h1 : lo < hi) (h2 : hi ≤ ds.length) (h3 : hi - lo ≤ 2 ^ k) (h4 : ds.length ≤ 4194304) (h5 : (ds.length : Int) * n ≤ 8388608) (h6 : ∀ d ∈ ds, 0 ≤ d ∧ d < 2 ^ n)
    (hdp : dp + (k + 2) < recursionLimit) (hu : un + (8 * k + 16) < cLine)
    (ret : ∀ t h' tk', Fr h₀ L h' m → News h₀ L h' news → Q (.int (undig n ((ds.drop lo.toNat).take (hi - lo).toNat)) t) { s with heap := h', toks := tk' }) :
    wpAny (model PySem.Challenge.rw_ph0128_01.row.prog w) (ktrTop dp un gd cn cs L a ccd cl outer) (call (.ref f) [.int lo tl, .int hi th]) Q E s :=
  IH f news ds lo hi tl th hC h0 h1 h2 h3 h4 h5 h6 _ _ _ _ _ _ _ _ _ _ _ _ _ _ _ _ _ B F X N T C hk hdp hu ret
end
example {prog : Program} {w : World} {A : Around} {env : Env} {Q : Flow → Shared → Prop} {E : Value → Shared → Prop} {s : Shared} (h : Q .next s) : wpAny (model prog w) A (execs [] env) Q E s := by
  w_top off
  walk1
  exact h
section
/-- _digits2int: the list of digits (on the ledger) told as a number -/
abbrev GivesD (w : World) (p : Program) (loose : List Str) (mean : ExcName → Option Value) (mg mb : Str → Option Value) (n : Nat) (tn : Tok) (ds : List Int) : Prop :=
  ∀ (dp un : Nat) (gd : Option (List Code)) (cn : Str) (cs : Scope) (a : Addr) (ccd : Value) (cl : List (Str × Addr)) (outer : List Env) (A₀ : Around) (base h₀ : Heap) (L : Addr) (m : Str → Option Value) (T news : List (Addr × Obj)) (s : Shared)
    (Q E : Value → Shared → Prop) (l : Addr) (vs : List Value) (c : Nat),
    Below A₀ base outer h₀ → Fr h₀ L s.heap m → (hd.heap_1 w.params).In h₀ → News h₀ L s.heap (T ++ news) → St2 T news → (l, listOf vs.toArray c) ∈ news → IntsAre vs ds → Top p loose mean mg mb h₀ → CodeHd base 41 37 → cs.kind = .function → dp + 40 < recursionLimit → un + 300 < cLine →
    (∀ t T' h' tk', Hot2 T' → (Hot2 T → T' = T) → NewT 37 T T' news → Fr h₀ L h' m → News h₀ L h' (T' ++ news) → Q (.int (undig n ds) t) { s with heap := h', toks := tk' }) →
    wpAny (model PySem.Challenge.rw_ph0128_01.row.prog w) (ktrTop dp un gd cn cs L a ccd cl outer) (call (.ref 42) [.ref l, .int n tn]) Q E s

theorem d2i {w p loose mean mg mb} (n : Nat) (tn : Tok) (ds : List Int) (hn : 1 ≤ n) (hnn : n ≤ 4194304) (hlen : ds.length ≤ 4194304) (hsz : (ds.length : Int) * n ≤ 8388608) (hdb : ∀ d ∈ ds, 0 ≤ d ∧ d < 2 ^ n) :
    GivesD w p loose mean mg mb n tn ds := by
  unfold GivesD
  k_fill
  intro dp un gd cn cs aa ccd cl outer A₀ base h₀ L m T news s Q E l vs c B F X N hT hl hI Tp C hk hdp hu hret
  have hMk := kstMark
  k_with_none
  k_with "binaryOp Add int int" => (refine add_N ?_)
  k_with "binaryOp Sub int int" => (refine sub_N ?_)
  k_with "inplaceOp Add int int" => (refine iadd_N ?_)
  k_with "inplaceOp Sub int int" => (refine isub_N ?_)
  k_with "binaryOp BitOr int int" => (refine or_N ?_)
  k_with "unaryOp USub int" => (refine neg_N ?_)
  k_with "storeName" => (k_here; k_dflt (refine' storeX_N ?F ?N ?eg ?ed ?eo ?_ ?a ?b; (case F => k_asm); (case N => k_asm); (case a => rfl); (case b => rfl); (case eg => first | (dsimp only; done) | exact rfl); (case ed => first | (dsimp only; done) | exact rfl); (case eo => first | (dsimp only; done) | exact rfl); k_whole; intro _ _ _; (try k_sweep)))
  k_with "MineLt" => (first | with_reducible assumption | ((with_reducible rename _ ∧ _ => hC9); first | exact hC9.1 | exact hC9.2.1 | exact hC9.2.2.1 | exact hC9.2.2.2.1 | exact hC9.2.2.2.2.1 | exact hC9.2.2.2.2.2.1 | exact hC9.2.2.2.2.2.2.1 | exact hC9.2.2.2.2.2.2.2.1 | exact hC9.2.2.2.2.2.2.2.2.1 | exact hC9.2.2.2.2.2.2.2.2.2.1 | exact hC9.2.2.2.2.2.2.2.2.2.2.1 | exact hC9.2.2.2.2.2.2.2.2.2.2.2.1 | exact hC9.2.2.2.2.2.2.2.2.2.2.2.2.1 | exact hC9.2.2.2.2.2.2.2.2.2.2.2.2.2.1) | exact And.left (by with_reducible assumption) | exact Nat.lt_succ_self _)
  k_with "binaryOp LShift int int" => (refine' lshift_N ?hn ?hz ?_; (case hn => k_extra "nn"); (case hz => k_extra "shl"); (try k_extra "tidy"))
  k_with "inplaceOp LShift int int" => (refine' ilshift_N ?hn ?hz ?_; (case hn => k_extra "nn"); (case hz => k_extra "shl"); (try k_extra "tidy"))
  k_with "binaryOp RShift int int" => (refine' rshift_N ?hn ?_; (case hn => k_extra "nn"); (try k_extra "tidy"))
  k_with "inplaceOp RShift int int" => (refine' irshift_N ?hn ?_; (case hn => k_extra "nn"); (try k_extra "tidy"))
  k_with "binaryOp BitAnd int int" => (refine and_N ?_; (try k_extra "tidy"))
  k_with "binaryOp Mult int int" => (refine' mul_N ?_ ?hm; (case hm => k_extra "mul"); (try k_extra "tidy"))
  k_with "Kdm" => (refine' divmod_N ?F ?N ?hb ?_ ?hp; (case F => k_asm); (case N => k_asm); (case hb => k_extra "div0"); (case hp => k_extra "pylong"))
  k_with "call ref" => (k_extra "my call")
  k_with "ite" => (k_extra "decide")
  k_with "binaryOp FloorDiv int int" => (refine' floordiv_N ?hb ?_ ?hp; (case hb => k_extra "div0"); (case hp => k_extra "pylong"); (try k_extra "tidy"))
  k_with "binaryOp BitXor int int" => (refine xor_N ?_; (try k_extra "tidy"))
  k_with "sub" => exact fun p hp => by repeat (first | exact hp | refine List.mem_cons_of_mem _ ?_)
  k_with "lt" => first | assumption | (exact allLt_of (by assumption)) | (exact And.right (by assumption)) | (exact And.right (And.right (by assumption))) | (exact And.right (And.right (And.right (by assumption)))) | (exact And.right (And.right (And.right (And.right (by assumption))))) | (exact And.right (And.right (And.right (And.right (And.right (by assumption))))))  | (exact And.right (And.right (And.right (And.right (And.right (And.right (by assumption)))))))
  k_with "decide" => fail
  have hlen0 : (ds.length : Int) ≤ 4194304 := by omega
  k_with "my call" =>
    refine' in2_use (in2_all n hn hnn 22) ?k1 ?k2 ?k3 ?k4 ?k5 ?k6 ?k7 ?kC ?c0 ?c1 ?c2 ?c3 hlen hsz hdb ?k8 ?k9 ?_
    (case k1 => k_asm)
    (case k2 => k_asm)
    (case k3 => k_asm)
    (case k4 => k_asm)
    (case k5 => k_asm)
    (case k6 => k_asm)
    (case k7 => exact rfl)
    (case k8 => ktr_room)
    (case k9 => ktr_units)
    (case c0 => decide)
    (case c1 => omega)
    (case c2 => omega)
    (case c3 => ((have e22 : (2 : Int) ^ 22 = 4194304 := by decide); omega))
    (case kC => exact Clos2.of rfl (by k_mem) (by k_mem) (by assumption) (by assumption) (by k_mem) (by assumption) (by k_mem) (by assumption) (by k_mem) (by assumption) (by (repeat (first | exact hl | refine List.mem_cons_of_mem _ ?_))) (by assumption))
    intro t9 hp9 tk9 F9 N9
  refine wpAny_call ?_
  rcases hT with ⟨hc, h37⟩ | hh
  · obtain rfl : T = [(37, tabObj #[])] := hc
    (simp only [List.cons_append, List.nil_append] at N)
    k_dflt (refine' code_defC ?k1 ?k2 ?k3 ?k4 ?k5 ?kA ?kF ?kK ?k6 ?k7 ?k8 ?k9 ?kB ?kD ?_ ?c2 ?c3 ?c4; (case kA => exact rfl); (case kF => exact rfl); (case kK => assumption); (case k1 => k_asm); (case k2 => k_asm); (case k3 => k_asm); (case k4 => k_asm); (case k5 => k_asm); (case k6 => k_is); (case k7 => k_is); (case k8 => ktr_room); (case k9 => first | exact BindsTo.of_eq rfl | exact binds_K (by k_in) rfl (by k_is) rfl rfl rfl | fail "k_enter: no rule for these arguments"); (case kB => exact rfl); (case kD => decide +kernel); (case c2 => exact rfl); (case c3 => exact rfl); (case c4 => exact rfl); k_whole; intro g' L' h' tk' cells' FG' F' N' Y' B' X' T' l1; (try k_lt l1))
    refine Mine.exand3_4 (CellsAre.three Y') fun o1 o2 o3 hE d1 d2 d3 => ?_
    subst hE
    clear Y'
    (simp only [List.cons_append, List.nil_append] at N')
    replace F' := fr_as (m' := fun y => none) F' rfl
    replace d3 : o3.data = .cell (some (.ref l)) := d3
    replace d2 : o2.data = .cell (some (.int n tn)) := d2
    replace d1 : o1.data = .cell none := d1
    have q0 := kst_ltOf l1.2
    have q1 : ∀ p ∈ news, p.1 ≠ L' + 1 := fun p hp => Nat.ne_of_lt (Nat.lt_succ_of_lt (q0 p hp))
    have q2 : ∀ p ∈ news, p.1 ≠ L' + 1 + 1 := fun p hp => Nat.ne_of_lt (Nat.lt_succ_of_lt (Nat.lt_succ_of_lt (q0 p hp)))
    have q3 : ∀ p ∈ news, p.1 ≠ L' + 1 + 1 + 1 := fun p hp => Nat.ne_of_lt (Nat.lt_succ_of_lt (Nat.lt_succ_of_lt (Nat.lt_succ_of_lt (q0 p hp))))
    (try dsimp only)
    (try k_fold)
    k_steps
    · refine d2i_ret hret (by assumption) (by assumption) (by k_mem) (by first | rfl | decide) (by k_mem) (by assumption) (by assumption) (by k_extra "sub") (fun h => (cold_not_hot (T := news) h).elim) (.inr (by k_extra "lt")) ?_
      simp
    · refine d2i_ret hret (by assumption) (by assumption) (by k_mem) (by first | rfl | decide) (by k_mem) (by assumption) (by assumption) (by k_extra "sub") (fun h => (cold_not_hot (T := news) h).elim) (.inr (by k_extra "lt")) ?_
      have e0 : ds = [] := List.eq_nil_of_length_eq_zero (by omega)
      rw [e0]; rfl
  · have hh0 := hh
    refine Mine.exand4_3 hh fun cq ocq vsq tq ob19 hocq hvsq => ?_
    subst ob19
    try clear hh
    (simp only [List.cons_append, List.nil_append] at N)
    k_dflt (refine' code_defC ?k1 ?k2 ?k3 ?k4 ?k5 ?kA ?kF ?kK ?k6 ?k7 ?k8 ?k9 ?kB ?kD ?_ ?c2 ?c3 ?c4; (case kA => exact rfl); (case kF => exact rfl); (case kK => assumption); (case k1 => k_asm); (case k2 => k_asm); (case k3 => k_asm); (case k4 => k_asm); (case k5 => k_asm); (case k6 => k_is); (case k7 => k_is); (case k8 => ktr_room); (case k9 => first | exact BindsTo.of_eq rfl | exact binds_K (by k_in) rfl (by k_is) rfl rfl rfl | fail "k_enter: no rule for these arguments"); (case kB => exact rfl); (case kD => decide +kernel); (case c2 => exact rfl); (case c3 => exact rfl); (case c4 => exact rfl); k_whole; intro g' L' h' tk' cells' FG' F' N' Y' B' X' T' l1; (try k_lt l1))
    refine Mine.exand3_4 (CellsAre.three Y') fun o1 o2 o3 hE d1 d2 d3 => ?_
    subst hE
    clear Y'
    (simp only [List.cons_append, List.nil_append] at N')
    replace F' := fr_as (m' := fun y => none) F' rfl
    replace d3 : o3.data = .cell (some (.ref l)) := d3
    replace d2 : o2.data = .cell (some (.int n tn)) := d2
    replace d1 : o1.data = .cell none := d1
    have q0 := kst_ltOf l1.2.2
    have q1 : ∀ p ∈ news, p.1 ≠ L' + 1 := fun p hp => Nat.ne_of_lt (Nat.lt_succ_of_lt (q0 p hp))
    have q2 : ∀ p ∈ news, p.1 ≠ L' + 1 + 1 := fun p hp => Nat.ne_of_lt (Nat.lt_succ_of_lt (Nat.lt_succ_of_lt (q0 p hp)))
    have q3 : ∀ p ∈ news, p.1 ≠ L' + 1 + 1 + 1 := fun p hp => Nat.ne_of_lt (Nat.lt_succ_of_lt (Nat.lt_succ_of_lt (Nat.lt_succ_of_lt (q0 p hp))))
    (try dsimp only)
    (try k_fold)
    k_steps
    · refine d2i_ret hret (by assumption) (by assumption) (by k_mem) (by first | rfl | decide) (by k_mem) (by assumption) (by assumption) (by k_extra "sub") (fun _ => rfl) (.inl (by k_mem)) ?_
      simp
    · refine d2i_ret hret (by assumption) (by assumption) (by k_mem) (by first | rfl | decide) (by k_mem) (by assumption) (by assumption) (by k_extra "sub") (fun _ => rfl) (.inl (by k_mem)) ?_
      have e0 : ds = [] := List.eq_nil_of_length_eq_zero (by omega)
      rw [e0]; rfl
end
example {prog : Program} {w : World} {A : Around} {env : Env} {Q : Flow → Shared → Prop} {E : Value → Shared → Prop} {s : Shared} (h : Q .next s) : wpAny (model prog w) A (execs [] env) Q E s := by
  w_top off
  walk1
  exact h
section
/-- a loop over a reversed list, by what holds between its turns -/
theorem revRest_ind {prog : Program} {w : World} {A : Around} {E : Value → Shared → Prop} {h₀ : Heap} {env : Env} {x : Str} {body : List Stmt} {Q : Flow → Shared → Prop} {s : Shared} {I : Addr} {lp : Addr × Obj} {σ : Type}
    (Inv : List Value → σ → Prop) (M : σ → Str → Option Value) (Ld : σ → List (Addr × Obj))
    (turn : ∀ v r c it h tk, Inv (v :: r) c → it.cls = .type "list_reverseiterator" → Fr h₀ env.locals h (fun y => if y = x then some v else M c y) → News h₀ env.locals h ((I, it) :: Ld c) →
      wpAny (model prog w) A (execs body env) (UnrPost h₀ env.locals { s with heap := h, toks := tk } I it (fun m' n' => ∃ c', Inv r c' ∧ m' = M c' ∧ n' = Ld c') Q) E { s with heap := h, toks := tk })
    (hlp : ∀ c, lp ∈ Ld c)
    (done : ∀ c h tk, Inv [] c → Fr h₀ env.locals h (M c) → News h₀ env.locals h (Ld c) → Q .next { s with heap := h, toks := tk }) :
    ∀ rem c, Inv rem c → RevRest prog w A E h₀ env x body Q s I lp rem (M c) (Ld c) := by
  intro rem
  induction rem with
  | nil => intro c hc; exact RevRest.zero fun h tk F N => done c h tk hc F N
  | cons v r ih =>
    intro c hc
    refine RevRest.succ fun it h tk hit F N => ?_
    refine wpAny_mono (turn v r c it h tk hc hit F N) (fun f s₂ p => ?_) fun _ _ e => e
    have conv : ∀ s₂, UnrEnd h₀ env.locals { s with heap := h, toks := tk } I it (fun m' n' => ∃ c', Inv r c' ∧ m' = M c' ∧ n' = Ld c') s₂ →
        UnrEnd h₀ env.locals { s with heap := h, toks := tk } I it (fun m' n' => lp ∈ n' ∧ RevRest prog w A E h₀ env x body Q s I lp r m' n') s₂ := by
      intro s₂ ob19
      refine Mine.exand4_5 ob19 fun h' tk' m' n' e F' N' off ob29 => ?_
      refine Mine.exand1_3 ob29 fun c' hc' ob39 ob49 => ?_
      subst ob39
      subst ob49
      try clear ob29
      try clear ob19
      exact ⟨h', tk', _, _, e, F', N', off, hlp c', ih c' hc'⟩
    cases f with
    | ret v => exact p
    | brk => exact p
    | next => exact conv _ p
    | cont => exact conv _ p

theorem dp_turn {n : Nat} {b r d q r' : Int} {qs pre : List Int} (hb : 0 < b) (h1 : undig n qs.reverse * b + r = undig n pre.reverse) (h2 : q * b + r' = r * 2 ^ n + d) :
    undig n (qs ++ [q]).reverse * b + r' = undig n (pre ++ [d]).reverse := by
  rw [List.reverse_append, List.reverse_append, List.reverse_singleton, List.reverse_singleton, List.singleton_append, List.singleton_append, undig, undig, ← h1]
  rw [Int.add_mul, Int.mul_add, Int.mul_comm (2 ^ n) r]
  have : 2 ^ n * undig n qs.reverse * b = 2 ^ n * (undig n qs.reverse * b) := Int.mul_assoc _ _ _
  omega
theorem dp_lt {n : Nat} {b r d : Int} (h0 : 0 ≤ r) (h1 : r < b) (h2 : 0 ≤ d) (h3 : d < 2 ^ n) : 0 ≤ r * 2 ^ n + d ∧ r * 2 ^ n + d < b * 2 ^ n := by
  have hP := pow_pos' n
  have h4 := Int.mul_nonneg h0 (Int.le_of_lt hP)
  have h5 : (r + 1) * 2 ^ n ≤ b * 2 ^ n := Int.mul_le_mul_of_nonneg_right (by omega) (Int.le_of_lt hP)
  rw [Int.add_mul] at h5
  omega
theorem dp_q {n : Nat} {b x q r : Int} (hb : 0 < b) (h0 : 0 ≤ x) (h1 : x < b * 2 ^ n) (h2 : q * b + r = x) (h3 : 0 ≤ r) (h4 : r < b) : 0 ≤ q ∧ q < 2 ^ n := by
  have := (Int.ediv_emod_unique (a := x) (b := b) (r := r) (q := q) hb).mpr ⟨by rw [Int.mul_comm]; omega, h3, h4⟩
  refine Mine.exand0_2 this fun ob59 ob69 => ?_
  subst ob59
  subst ob69
  try clear this
  exact ⟨Int.ediv_nonneg h0 (Int.le_of_lt hb), Int.ediv_lt_of_lt_mul hb (by rw [Int.mul_comm]; exact h1)⟩

/-- both tables: not yet grown, or grown -/
def StB (T1 T2 news : List (Addr × Obj)) : Prop := (ColdT 30 T1 ∧ ColdT 37 T2 ∧ ∀ p ∈ news, p.1 ≠ 30 ∧ p.1 ≠ 37) ∨ (Hot1 T1 ∧ Hot2 T2)
theorem StB.one {T1 T2 news : List (Addr × Obj)} (h : StB T1 T2 news) : St1 T1 (T2 ++ news) := by
  rcases h with ⟨h1, h2, h3⟩ | ⟨h1, _⟩
  · refine .inl ⟨h1, fun p hp => ?_⟩
    rcases List.mem_append.mp hp with hp | hp
    · obtain rfl : T2 = [(37, tabObj #[])] := h2
      rw [List.mem_singleton.mp hp]; decide
    · exact (h3 p hp).1
  · exact .inr h1
abbrev GivesDP (w : World) (p : Program) (loose : List Str) (mean : ExcName → Option Value) (mg mb : Str → Option Value) (f : Addr) (vs : List Value) (dep uni : Nat) (P : Int → Int → Prop) : Prop :=
  ∀ (dp un : Nat) (gd : Option (List Code)) (cn : Str) (cs : Scope) (a : Addr) (ccd : Value) (cl : List (Str × Addr)) (outer : List Env) (A₀ : Around) (base h₀ : Heap) (L : Addr) (m : Str → Option Value) (T1 T2 news : List (Addr × Obj)) (s : Shared)
    (Q E : Value → Shared → Prop),
    Below A₀ base outer h₀ → Fr h₀ L s.heap m → (hd.heap_1 w.params).In h₀ → News h₀ L s.heap (T1 ++ (T2 ++ news)) → StB T1 T2 news → Top p loose mean mg mb h₀ → CodeHd base 34 30 → CodeHd base 41 37 → cs.kind = .function → dp + dep < recursionLimit → un + uni < cLine →
    (∀ x y D t1 t2 c T1' T2' h' tk', P x y → Hot1 T1' → Hot2 T2' → (Hot1 T1 ∧ Hot2 T2 → T1' = T1 ∧ T2' = T2) → NewT 30 T1 T1' news → NewT 37 T2 T2' news → Fr h₀ L h' m → News h₀ L h' ((D, tup2 x t1 y t2 c) :: (T1' ++ (T2' ++ news))) → AllLt D news → Q (.ref D) { s with heap := h', toks := tk' }) →
    wpAny (model PySem.Challenge.rw_ph0128_01.row.prog w) (ktrTop dp un gd cn cs L a ccd cl outer) (call (.ref f) vs) Q E s

theorem offI_lt {I : Addr} {it : Obj} : ∀ {l : List (Addr × Obj)}, AllLt I l → OffI I it l
  | [], _ => trivial
  | _ :: _, h => ⟨.inl (Nat.ne_of_lt h.1), offI_lt h.2⟩
theorem allLt_app {d : Addr} : ∀ {l r : List (Addr × Obj)}, AllLt d (l ++ r) ↔ AllLt d l ∧ AllLt d r
  | [], r => ⟨fun h => ⟨trivial, h⟩, fun h => h.2⟩
  | p :: l, r => ⟨fun h => ⟨⟨h.1, (allLt_app.mp h.2).1⟩, (allLt_app.mp h.2).2⟩, fun h => ⟨h.1.1, allLt_app.mpr ⟨h.1.2, h.2⟩⟩⟩
theorem reord {x y : Addr × Obj} {T1 T2 news : List (Addr × Obj)} : ∀ p ∈ T2 ++ (x :: y :: (T1 ++ news)), p ∈ x :: y :: (T1 ++ (T2 ++ news)) := by
  intro p hp
  simp only [List.mem_append, List.mem_cons] at *
  rcases hp with h | h | h | h | h <;> simp [h]

theorem p22 : (2 : Int) ^ 22 = 4194304 := by decide
theorem ints_rev : ∀ {vs : List Value} {ns : List Int}, IntsAre vs ns → IntsAre vs.reverse ns.reverse := by
  intro vs ns h
  induction h with
  | nil => exact .nil
  | cons i t h ih =>
    rw [List.reverse_cons, List.reverse_cons]
    exact IntsAre.append ih (.cons i t .nil)
theorem NewT.sub {P : Addr} {T T' news news' : List (Addr × Obj)} (h : NewT P T T' news) (hs : ∀ p ∈ news', p ∈ news) : NewT P T T' news' := fun q hq => by
  rcases h q hq with h | h | h
  · exact .inl h
  · exact .inr (.inl h)
  · exact .inr (.inr (allLt_of fun p hp => kst_ltOf h p (hs p hp)))
theorem dp_st2 {T1 T2 T1' news : List (Addr × Obj)} {l D : Addr} {ol oD : Obj} (h : StB T1 T2 news) (W : NewT 30 T1 T1' (T2 ++ news)) (hl : AllLt l (T1' ++ (T2 ++ news))) (hD : AllLt D (T2 ++ news)) : St2 T2 ((l, ol) :: (D, oD) :: (T1' ++ news)) := by
  rcases h with ⟨h1, h2, h3⟩ | ⟨_, h2⟩
  · refine .inl ⟨h2, ?_⟩
    obtain rfl : T2 = [(37, tabObj #[])] := h2
    obtain rfl : T1 = [(30, tabObj #[])] := h1
    have e37 : ∀ {d : Addr}, AllLt d ([(37, tabObj #[])] ++ news) → d ≠ 37 := fun h => Nat.ne_of_gt h.1
    intro p hp
    rcases List.mem_cons.mp hp with rfl | hp
    · exact e37 (allLt_app.mp hl).2
    rcases List.mem_cons.mp hp with rfl | hp
    · exact e37 hD
    rcases List.mem_append.mp hp with hp | hp
    · rcases W p hp with h | h | h
      · rw [List.mem_singleton.mp h]; decide
      · rw [h]; decide
      · exact e37 h
    · exact (h3 p hp).2
  · exact .inr h2
theorem dp_ret {a b : Int} {h₀ : Heap} {L : Addr} {m : Str → Option Value} {T1 T2 T1' T2' news : List (Addr × Obj)} {z1 z2 : Addr × Obj} {s : Shared} {Q : Value → Shared → Prop} {P : Int → Int → Prop} {x y : Int} {D : Addr} {t1 t2 : Tok} {c : Nat} {h' : Heap} {tk' : Nat}
    (ret : ∀ x y D t1 t2 c T1' T2' h' tk', P x y → Hot1 T1' → Hot2 T2' → (Hot1 T1 ∧ Hot2 T2 → T1' = T1 ∧ T2' = T2) → NewT 30 T1 T1' news → NewT 37 T2 T2' news → Fr h₀ L h' m → News h₀ L h' ((D, tup2 x t1 y t2 c) :: (T1' ++ (T2' ++ news))) → AllLt D news → Q (.ref D) { s with heap := h', toks := tk' })
    (F : Fr h₀ L h' m) (N : News h₀ L h' ((D, tup2 x t1 y t2 c) :: (T2' ++ (z1 :: z2 :: (T1' ++ news))))) (hl : ∀ p ∈ T2' ++ (z1 :: z2 :: (T1' ++ news)), p.1 < D) (hp : P x y) (H1 : Hot1 T1') (H2 : Hot2 T2') (E1 : Hot1 T1 → T1' = T1) (E2 : Hot2 T2 → T2' = T2)
    (W1 : NewT 30 T1 T1' (T2 ++ news)) (W2 : NewT 37 T2 T2' (z1 :: z2 :: (T1' ++ news))) : Q (.ref D) { s with heap := h', toks := tk' } := by
  refine ret x y D t1 t2 c T1' T2' h' tk' hp H1 H2 (fun h => ⟨E1 h.1, E2 h.2⟩) (W1.sub fun p hp => List.mem_append_right _ hp) (W2.sub fun p hp => .tail _ (.tail _ (List.mem_append_right _ hp))) F (fun p hp => N p ?_) (allLt_of fun p hp => hl p ?_)
  · simp only [List.mem_append, List.mem_cons] at *
    rcases hp with h | h | h | h <;> simp [h]
  · simp only [List.mem_append, List.mem_cons]
    simp [hp]
end
example {prog : Program} {w : World} {A : Around} {env : Env} {Q : Flow → Shared → Prop} {E : Value → Shared → Prop} {s : Shared} (h : Q .next s) : wpAny (model prog w) A (execs [] env) Q E s := by
  w_top off
  walk1
  exact h
section
theorem bits_pos {b : Int} (hb : 0 < b) : 1 ≤ intBits b ∧ 2 ^ intBits b ≤ 2 * b := by
  have e : intBits b = b.natAbs.log2 + 1 := by unfold Builtin.Int.intBits; rw [if_neg (by simp; omega)]
  have h1 : 2 ^ b.natAbs.log2 ≤ b.natAbs := Nat.log2_self_le (by omega)
  have h2 : ((2 ^ b.natAbs.log2 : Nat) : Int) ≤ (b.natAbs : Int) := Int.ofNat_le.mpr h1
  rw [kbt_cast] at h2
  rw [e, pow_succ_int]
  omega

set_option genInjectivity false in
set_option genSizeOf false in
structure DpS where
  pre : List Int
  qs : List Int
  r : Int
  tr : Tok
  qvs : List Value
  cq : Nat
  uq : Option Value
  ud : Option Value

def DpInv (n : Nat) (b : Int) (ds : List Int) (rem : List Value) (c : DpS) : Prop :=
  (∃ rs, IntsAre rem rs ∧ c.pre ++ rs = ds.reverse) ∧ undig n c.qs.reverse * b + c.r = undig n c.pre.reverse ∧ 0 ≤ c.r ∧ c.r < b ∧ (∀ q ∈ c.qs, 0 ≤ q ∧ q < 2 ^ n) ∧ IntsAre c.qvs c.qs ∧ c.qs.length = c.pre.length

theorem dpos {w p loose mean mg mb} (a b : Int) (ta tb : Tok) (ha : 0 ≤ a) (hb : 0 < b) (hab : intBits a ≤ 4194304) (hbb : intBits b ≤ 4194304) :
    GivesDP w p loose mean mg mb 49 [.int a ta, .int b tb] 80 500 (fun x y => x * b + y = a ∧ 0 ≤ y ∧ y < b) := by
  refine Mine.exand0_2 (bits_pos hb) fun hn1 hb2 => ?_
  have hb1 : b < 2 ^ intBits b := lt_of_bits (Nat.le_refl _)
  refine Mine.exand1_4 (ndig (a := a) hn1) fun W hW hW1 hW2 hW3 => ?_
  unfold GivesDP
  k_fill
  intro dp un gd cn cs aa ccd cl outer A₀ base h₀ L m T1 T2 news s Q E B F X N hT Tp C1 C2 hk hdp hu hret
  have hMk := kstMark
  k_with_none
  k_with "binaryOp Add int int" => (refine add_N ?_)
  k_with "binaryOp Sub int int" => (refine sub_N ?_)
  k_with "inplaceOp Add int int" => (refine iadd_N ?_)
  k_with "inplaceOp Sub int int" => (refine isub_N ?_)
  k_with "binaryOp BitOr int int" => (refine or_N ?_)
  k_with "unaryOp USub int" => (refine neg_N ?_)
  k_with "storeName" => (k_here; k_dflt (refine' storeX_N ?F ?N ?eg ?ed ?eo ?_ ?a ?b; (case F => k_asm); (case N => k_asm); (case a => rfl); (case b => rfl); (case eg => first | (dsimp only; done) | exact rfl); (case ed => first | (dsimp only; done) | exact rfl); (case eo => first | (dsimp only; done) | exact rfl); k_whole; intro _ _ _; (try k_sweep)))
  k_with "MineLt" => (first | with_reducible assumption | ((with_reducible rename _ ∧ _ => hC9); first | exact hC9.1 | exact hC9.2.1 | exact hC9.2.2.1 | exact hC9.2.2.2.1 | exact hC9.2.2.2.2.1 | exact hC9.2.2.2.2.2.1 | exact hC9.2.2.2.2.2.2.1 | exact hC9.2.2.2.2.2.2.2.1 | exact hC9.2.2.2.2.2.2.2.2.1 | exact hC9.2.2.2.2.2.2.2.2.2.1 | exact hC9.2.2.2.2.2.2.2.2.2.2.1 | exact hC9.2.2.2.2.2.2.2.2.2.2.2.1 | exact hC9.2.2.2.2.2.2.2.2.2.2.2.2.1 | exact hC9.2.2.2.2.2.2.2.2.2.2.2.2.2.1) | exact And.left (by with_reducible assumption) | exact Nat.lt_succ_self _)
  k_with "binaryOp LShift int int" => (refine' lshift_N ?hn ?hz ?_; (case hn => k_extra "nn"); (case hz => k_extra "shl"); (try k_extra "tidy"))
  k_with "inplaceOp LShift int int" => (refine' ilshift_N ?hn ?hz ?_; (case hn => k_extra "nn"); (case hz => k_extra "shl"); (try k_extra "tidy"))
  k_with "binaryOp RShift int int" => (refine' rshift_N ?hn ?_; (case hn => k_extra "nn"); (try k_extra "tidy"))
  k_with "inplaceOp RShift int int" => (refine' irshift_N ?hn ?_; (case hn => k_extra "nn"); (try k_extra "tidy"))
  k_with "binaryOp BitAnd int int" => (refine and_N ?_; (try k_extra "tidy"))
  k_with "binaryOp Mult int int" => (refine' mul_N ?_ ?hm; (case hm => k_extra "mul"); (try k_extra "tidy"))
  k_with "Kdm" => (refine' divmod_N ?F ?N ?hb ?_ ?hp; (case F => k_asm); (case N => k_asm); (case hb => k_extra "div0"); (case hp => k_extra "pylong"))
  k_with "call ref" => (k_extra "my call")
  k_with "ite" => (k_extra "decide")
  k_with "binaryOp FloorDiv int int" => (refine' floordiv_N ?hb ?_ ?hp; (case hb => k_extra "div0"); (case hp => k_extra "pylong"); (try k_extra "tidy"))
  k_with "binaryOp BitXor int int" => (refine xor_N ?_; (try k_extra "tidy"))
  k_with "sub" => exact fun p hp => by repeat (first | exact hp | refine List.mem_cons_of_mem _ ?_)
  k_with "decide" => fail
  k_with "nn" => first | exact Int.natCast_nonneg _ | decide | omega
  k_with "shl" => (simp only [p27]; omega)
  k_with "tidy" => simp only [Int.toNat_natCast]
  k_with "my call" =>
    refine' i2d (intBits b) W a _ _ hn1 hbb ha hab hW hW1 hW2 hW3 _ _ _ _ _ _ _ _ _ _ _ _ _ _ _ _ _ _ _ ?k1 ?k2 ?k3 ?k4 ?kS ?k5 ?k6 ?k7 ?k8 ?k9 ?_
    (case k4 => k_asm)
    (case k1 => k_asm)
    (case k2 => k_asm)
    (case k3 => k_asm)
    (case kS => exact hT.one)
    (case k5 => k_asm)
    (case k6 => k_asm)
    (case k7 => exact rfl)
    (case k8 => ktr_room)
    (case k9 => ktr_units)
    intro us9 D9 c9 T19 hp9 tk9 H9 E9 W9 I9 F9 N9 l9
  refine wpAny_call ?_
  k_dflt ktr_enter
  (try refine tok_any fun tk9 => ?_)
  (rename Fr _ _ _ _ => F1)
  replace F1 := fr_as (m' := fun y => List.lookup y [(Str.ofString "b", .int b tb), (Str.ofString "a", .int a ta)]) F1 rfl
  k_steps
  rename_i l' hh2 l1q hh1 D' hh F' N' l1r
  obtain ⟨tr, tn, F2⟩ : ∃ tr tn, Fr _ _ hh (fun y => if y = Str.ofString "r" then some (.int 0 tr) else if y = Str.ofString "q_digit" then none else if y = Str.ofString "a_digit" then none else if y = Str.ofString "q_digits" then some (.ref l') else if y = Str.ofString "a_digits" then some (.ref D9) else if y = Str.ofString "n" then some (.int (intBits b) tn) else List.lookup y [(Str.ofString "b", .int b tb), (Str.ofString "a", .int a ta)]) := by
    refine' ⟨_, _, fr_as F' (funext fun y => ?e)⟩
    case e =>
      by_cases h1 : y = Str.ofString "r"
      · subst h1; exact rfl
      by_cases h2 : y = Str.ofString "q_digit"
      · subst h2; exact rfl
      by_cases h3 : y = Str.ofString "a_digit"
      · subst h3; exact rfl
      simp only [h1, h2, h3, if_false]
      rfl
  clear F'
  refine iter_revUnr (ax := D9) (lo := listOf us9.toArray c9) (vs := us9) (n := c9) rfl F2 N' (offI_lt (by simp only [AllLt]; exact l1r)) (by k_mem) rfl rfl ?_
  refine revRest_ind (DpInv (intBits b) b (digs (intBits b) a W)) (fun c y => if y = Str.ofString "r" then some (.int c.r c.tr) else if y = Str.ofString "q_digit" then c.uq else if y = Str.ofString "a_digit" then c.ud else if y = Str.ofString "q_digits" then some (.ref l') else if y = Str.ofString "a_digits" then some (.ref D9) else if y = Str.ofString "n" then some (.int (intBits b) tn) else List.lookup y [(Str.ofString "b", .int b tb), (Str.ofString "a", .int a ta)])
    (fun c => (l', listOf c.qvs.toArray c.cq) :: (D9, listOf us9.toArray c9) :: (T19 ++ (T2 ++ news))) ?turn (fun c => by k_mem) ?done us9.reverse ⟨[], [], 0, tr, [], 0, none, none⟩ ?inv
  case inv => exact ⟨⟨_, ints_rev I9, rfl⟩, by simp [undig], Int.le_refl _, hb, fun _ h => (nomatch h), IntsAre.nil, rfl⟩
  case turn =>
    intro v rem c it h tk hinv hit Fx Nx
    first | (refine' turn_N ?eg ?ed ?eo ?_; (case eg => first | (dsimp only; done) | exact rfl); (case ed => first | (dsimp only; done) | exact rfl); (case eo => first | (dsimp only; done) | exact rfl)) | refine post_let ?_
    intro qT
    obtain ⟨pre, qs, r0, tr0, qvs, cq, uq, ud⟩ := c
    try clear c
    refine Mine.exand0_7 hinv fun ob19 hV hr0 hr1 hqs hqI hql => ?_
    refine Mine.exand1_2 ob19 fun rs hrs hpre => ?_
    try clear ob19
    try clear hinv
    dsimp only at *
    cases hrs with
    | cons d td hrs' =>
    rename_i rs'
    have hdd : 0 ≤ d ∧ d < 2 ^ intBits b := digs_bound (intBits b) W a d (List.mem_reverse.mp (hpre ▸ List.mem_append_right _ (.head _)))
    have hr2 : intBits r0 ≤ intBits b := bits_of_lt hr0 (Int.lt_trans hr1 hb1)
    refine Mine.exand0_2 (dp_lt hr0 hr1 hdd.1 hdd.2) fun hA0 hA1 => ?_
    have hlq : AllLt l' (T19 ++ (T2 ++ news)) := l1q.2
    have hlD : D9 < l' := l1q.1
    have hne1 : ∀ p ∈ T19 ++ (T2 ++ news), p.1 ≠ l' := fun p hp => Nat.ne_of_lt (kst_ltOf hlq p hp)
    k_with "my call" =>
      refine' Gives2.use (div2_all 22 (intBits b) (r0 * 2 ^ intBits b + d) b _ _ _ (Int.natCast_nonneg _) (by simp only [p22]; omega) (by omega) hA0 hb hA1 hb1 hb2) ?k1 ?k2 ?k3 ?k4 ?k5 ?k6 ?k7 ?k8 ?_
      (case k1 => k_asm)
      (case k2 => k_asm)
      (case k3 => k_asm)
      (case k4 => k_asm)
      (case k5 => k_asm)
      (case k6 => exact rfl)
      (case k7 => ktr_room)
      (case k8 => ktr_units)
      intro q9 r9 Dq t91 t92 cx9 hx9 tx9 P9 F9 N9 ly9
      refine Mine.exand0_3 P9 fun P91 P92 P93 => ?_
      try clear P9
      simp only [AllLt] at ly9
    have hlen : qvs.length ≤ 4194304 := by
      have h1 : qvs.length = qs.length := hqI.length
      have h2 := congrArg List.length hpre
      rw [List.length_append, List.length_reverse, digs_length] at h2
      omega
    k_steps
    (rename News _ _ _ _ => Nz)
    (simp only [List.push_toArray] at Nz)
    refine Mine.exand0_2 (dp_q hb hA0 hA1 P91 P92 P93) fun hq0 hq1 => ?_
    refine UnrEnd.intro (by assumption) Nz ((l', listOf (qvs ++ [Value.int q9 t91]).toArray (cq + 1)) :: (D9, listOf us9.toArray c9) :: (T19 ++ (T2 ++ news))) (fun p hp => List.mem_cons_of_mem _ hp) (fun p hp => Nat.ne_of_lt (kst_ltOf (by simp only [AllLt]; exact l1r) p hp))
      ⟨⟨pre ++ [d], qs ++ [q9], r9, t92, qvs ++ [Value.int q9 t91], cq + 1, some (.int q9 t91), some (.int d td)⟩, ⟨⟨rs', hrs', by rw [← hpre]; simp⟩, dp_turn hb hV P91, P92, P93, fun q hq => ?_, IntsAre.append hqI (.cons _ _ .nil), by simp [hql]⟩, funext fun y => ?_, ?_⟩
    · rcases List.mem_append.mp hq with h | h
      · exact hqs q h
      · rw [List.mem_singleton.mp h]; exact ⟨hq0, hq1⟩
    · by_cases e1 : y = Str.ofString "r"
      · simp only [e1, if_true]
      by_cases e2 : y = Str.ofString "q_digit"
      · simp only [e2, if_true]
      by_cases e3 : y = Str.ofString "a_digit"
      · simp only [e3, if_true]
      simp only [e1, e2, e3, if_false]
    · rfl
  case done =>
    intro c h tk hinv Fx Nx
    obtain ⟨pre, qs, r0, tr0, qvs, cq, uq, ud⟩ := c
    try clear c
    refine Mine.exand0_7 hinv fun ob29 hV hr0 hr1 hqs hqI hql => ?_
    refine Mine.exand1_2 ob29 fun rs hrs hpre => ?_
    try clear ob29
    try clear hinv
    dsimp only at *
    cases hrs
    rw [List.append_nil] at hpre
    have hne1 : ∀ p ∈ T19 ++ (T2 ++ news), p.1 ≠ l' := fun p hp => Nat.ne_of_lt (kst_ltOf l1q.2 p hp)
    have hlD : D9 < l' := l1q.1
    have hql2 : qs.length = W := by
      have h2 := congrArg List.length hpre
      rw [List.length_reverse, digs_length] at h2
      omega
    have hqvl : qvs.length = qs.length := hqI.length
    have hWn : (W : Int) * (intBits b : Int) ≤ 8388608 := by rw [← Int.natCast_mul]; omega
    k_with "call builtin:list.reverse" =>
      refine' kl_reverse (its := qvs.toArray) (l := qvs.reverse) ?F ?N ?e ?U ?z ?_
      (case F => k_asm)
      (case N => k_asm)
      (case e => rfl)
      (case U => k_upd)
      (case z => (simp only [sizeLine_eq]; omega))
      intro hr9 Fr9 Nr9
    k_with "my call" =>
      (rename News _ _ _ _ => Ny9)
      refine' d2i (intBits b) _ qs.reverse hn1 hbb (by rw [List.length_reverse]; omega) (by rw [List.length_reverse, hql2]; exact hWn) (fun q hq => hqs q (List.mem_reverse.mp hq)) _ _ _ _ _ _ _ _ _ _ _ _ _ _ T2 _ _ _ _ l' qvs.reverse cq ?k1 ?k2 ?k3 (fun p hp => Ny9 p (reord p hp)) ?kS ?kM (ints_rev hqI) ?k5 ?k6 ?k7 ?k8 ?k9 ?_
      (case k1 => k_asm)
      (case k2 => k_asm)
      (case k3 => k_asm)
      (case kM => k_mem)
      (case k5 => k_asm)
      (case k6 => k_asm)
      (case k7 => exact rfl)
      (case k8 => ktr_room)
      (case k9 => ktr_units)
      (case kS => exact dp_st2 hT W9 l1q.2 l9)
      intro tq9 T29 hq9 tkq9 Hq9 Eq9 Wq9 Fq9 Nq9
    k_steps
    have hP : undig (intBits b) qs.reverse * b + r0 = a := by
      rw [hV, hpre, List.reverse_reverse]
      exact undig_digs _ _ _ ha (lt_of_bits hW1)
    exact dp_ret (a := a) (b := b) hret (by assumption) (by assumption) (by assumption) ⟨hP, hr0, hr1⟩ H9 Hq9 E9 Eq9 W9 Wq9
end
example {prog : Program} {w : World} {A : Around} {env : Env} {Q : Flow → Shared → Prop} {E : Value → Shared → Prop} {s : Shared} (h : Q .next s) : wpAny (model prog w) A (execs [] env) Q E s := by
  w_top off
  walk1
  exact h
section
/-- quotient and rest, as Python tells them -/
def DM (a b x y : Int) : Prop := x * b + y = a ∧ ((0 < b ∧ 0 ≤ y ∧ y < b) ∨ (b < 0 ∧ b < y ∧ y ≤ 0))

theorem dm_abs {a b x y : Int} (h : DM a b x y) : x.natAbs ≤ a.natAbs := by
  refine Mine.exand0_2 h fun e h => ?_
  rcases h with ⟨h1, h2, h3⟩ | ⟨h1, h2, h3⟩
  · rcases Int.lt_or_le x 0 with hx | hx
    · have : (x + 1) * b ≤ (x + 1) * 1 := Int.mul_le_mul_of_nonpos_left (by omega) (by omega)
      simp only [Int.add_mul] at this
      omega
    · have : x * 1 ≤ x * b := Int.mul_le_mul_of_nonneg_left (by omega) hx
      omega
  · rcases Int.lt_or_le x 0 with hx | hx
    · have : (x + 1) * -1 ≤ (x + 1) * b := Int.mul_le_mul_of_nonpos_left (by omega) (by omega)
      simp only [Int.add_mul] at this
      omega
    · have : x * b ≤ x * -1 := Int.mul_le_mul_of_nonneg_left (by omega) hx
      omega
theorem dm_bits {a b x y : Int} {n : Nat} (h : DM a b x y) (ha : intBits a ≤ n) : intBits x ≤ n := intBits_le_of_natAbs (dm_abs h) ha
theorem dm_rest {a b x y : Int} {n : Nat} (h : DM a b x y) (hb : intBits b ≤ n) : intBits y ≤ n := intBits_le_of_natAbs (by obtain ⟨_, h⟩ := h; omega) hb
theorem dm_unique {a b x y x' y' : Int} (h : DM a b x y) (h' : DM a b x' y') : x = x' ∧ y = y' := by
  refine Mine.exand0_2 h fun e h => ?_
  refine Mine.exand0_2 h' fun e' h' => ?_
  have hx : x = x' := by
    rcases Int.lt_trichotomy x x' with q | q | q
    · exfalso
      have e2 : (x' - x) * b = y - y' := by rw [Int.sub_mul]; omega
      rcases h with ⟨h1, h2, h3⟩ | ⟨h1, h2, h3⟩
      · have : 1 * b ≤ (x' - x) * b := Int.mul_le_mul_of_nonneg_right (by omega) (by omega)
        omega
      · have : (x' - x) * b ≤ 1 * b := Int.mul_le_mul_of_nonpos_right (by omega) (by omega)
        omega
    · exact q
    · exfalso
      have e2 : (x - x') * b = y' - y := by rw [Int.sub_mul]; omega
      rcases h with ⟨h1, h2, h3⟩ | ⟨h1, h2, h3⟩
      · have : 1 * b ≤ (x - x') * b := Int.mul_le_mul_of_nonneg_right (by omega) (by omega)
        omega
      · have : (x - x') * b ≤ 1 * b := Int.mul_le_mul_of_nonpos_right (by omega) (by omega)
        omega
  subst hx
  exact ⟨rfl, by omega⟩

theorem idm_ret {h₀ : Heap} {L : Addr} {m : Str → Option Value} {T1 T2 T1' T2' news : List (Addr × Obj)} {z1 : Addr × Obj} {s : Shared} {Q : Value → Shared → Prop} {P : Int → Int → Prop} {x y : Int} {D : Addr} {t1 t2 : Tok} {c : Nat} {h' : Heap} {tk' : Nat}
    (ret : ∀ x y D t1 t2 c T1' T2' h' tk', P x y → Hot1 T1' → Hot2 T2' → (Hot1 T1 ∧ Hot2 T2 → T1' = T1 ∧ T2' = T2) → NewT 30 T1 T1' news → NewT 37 T2 T2' news → Fr h₀ L h' m → News h₀ L h' ((D, tup2 x t1 y t2 c) :: (T1' ++ (T2' ++ news))) → AllLt D news → Q (.ref D) { s with heap := h', toks := tk' })
    (F : Fr h₀ L h' m) (N : News h₀ L h' ((D, tup2 x t1 y t2 c) :: z1 :: (T1' ++ (T2' ++ news)))) (hl : AllLt D (T1' ++ (T2' ++ news))) (hp : P x y) (H1 : Hot1 T1') (H2 : Hot2 T2') (E1 : Hot1 T1 ∧ Hot2 T2 → T1' = T1 ∧ T2' = T2)
    (W1 : NewT 30 T1 T1' news) (W2 : NewT 37 T2 T2' news) : Q (.ref D) { s with heap := h', toks := tk' } :=
  ret x y D t1 t2 c T1' T2' h' tk' hp H1 H2 E1 W1 W2 F (fun p hp => N p ((List.mem_cons.mp hp).elim (fun e => e ▸ .head _) fun hp => .tail _ (.tail _ hp))) (allLt_app.mp (allLt_app.mp hl).2).2

theorem idm1 {w p loose mean mg mb} (a b : Int) (ta tb : Tok) (ha : 0 ≤ a) (hb : 0 < b) (hab : intBits a ≤ 4194304) (hbb : intBits b ≤ 4194304) :
    GivesDP w p loose mean mg mb 56 [.int a ta, .int b tb] 84 520 (DM a b) := by
  unfold GivesDP
  k_fill
  intro dp un gd cn cs aa ccd cl outer A₀ base h₀ L m T1 T2 news s Q E B F X N hT Tp C1 C2 hk hdp hu hret
  have hMk := kstMark
  k_with_none
  k_with "binaryOp Add int int" => (refine add_N ?_)
  k_with "binaryOp Sub int int" => (refine sub_N ?_)
  k_with "inplaceOp Add int int" => (refine iadd_N ?_)
  k_with "inplaceOp Sub int int" => (refine isub_N ?_)
  k_with "binaryOp BitOr int int" => (refine or_N ?_)
  k_with "unaryOp USub int" => (refine neg_N ?_)
  k_with "storeName" => (k_here; k_dflt (refine' storeX_N ?F ?N ?eg ?ed ?eo ?_ ?a ?b; (case F => k_asm); (case N => k_asm); (case a => rfl); (case b => rfl); (case eg => first | (dsimp only; done) | exact rfl); (case ed => first | (dsimp only; done) | exact rfl); (case eo => first | (dsimp only; done) | exact rfl); k_whole; intro _ _ _; (try k_sweep)))
  k_with "MineLt" => (first | with_reducible assumption | ((with_reducible rename _ ∧ _ => hC9); first | exact hC9.1 | exact hC9.2.1 | exact hC9.2.2.1 | exact hC9.2.2.2.1 | exact hC9.2.2.2.2.1 | exact hC9.2.2.2.2.2.1 | exact hC9.2.2.2.2.2.2.1 | exact hC9.2.2.2.2.2.2.2.1 | exact hC9.2.2.2.2.2.2.2.2.1 | exact hC9.2.2.2.2.2.2.2.2.2.1 | exact hC9.2.2.2.2.2.2.2.2.2.2.1 | exact hC9.2.2.2.2.2.2.2.2.2.2.2.1 | exact hC9.2.2.2.2.2.2.2.2.2.2.2.2.1 | exact hC9.2.2.2.2.2.2.2.2.2.2.2.2.2.1) | exact And.left (by with_reducible assumption) | exact Nat.lt_succ_self _)
  k_with "binaryOp LShift int int" => (refine' lshift_N ?hn ?hz ?_; (case hn => k_extra "nn"); (case hz => k_extra "shl"); (try k_extra "tidy"))
  k_with "inplaceOp LShift int int" => (refine' ilshift_N ?hn ?hz ?_; (case hn => k_extra "nn"); (case hz => k_extra "shl"); (try k_extra "tidy"))
  k_with "binaryOp RShift int int" => (refine' rshift_N ?hn ?_; (case hn => k_extra "nn"); (try k_extra "tidy"))
  k_with "inplaceOp RShift int int" => (refine' irshift_N ?hn ?_; (case hn => k_extra "nn"); (try k_extra "tidy"))
  k_with "binaryOp BitAnd int int" => (refine and_N ?_; (try k_extra "tidy"))
  k_with "binaryOp Mult int int" => (refine' mul_N ?_ ?hm; (case hm => k_extra "mul"); (try k_extra "tidy"))
  k_with "Kdm" => (refine' divmod_N ?F ?N ?hb ?_ ?hp; (case F => k_asm); (case N => k_asm); (case hb => k_extra "div0"); (case hp => k_extra "pylong"))
  k_with "call ref" => (k_extra "my call")
  k_with "ite" => (k_extra "decide")
  k_with "binaryOp FloorDiv int int" => (refine' floordiv_N ?hb ?_ ?hp; (case hb => k_extra "div0"); (case hp => k_extra "pylong"); (try k_extra "tidy"))
  k_with "binaryOp BitXor int int" => (refine xor_N ?_; (try k_extra "tidy"))
  k_with "subscriptTail Name Constant ref int" => (k_here; (with_reducible show wpAny _ _ (subscriptTail _ _ (Value.ref _) (Value.int _ _)) _ _ _); (with_unfolding_all refine' item_litK ?k1 ?k2 ?k3 ?k4 ?_ ?k6; (case k1 => is_list); (case k2 => decide); (case k3 => decide); (case k4 => rfl); (case k6 => with_unfolding_all rfl); k_whole))
  k_with "decide" => first | (refine ite_pos (by (simp only [decide_eq_true_eq, beq_iff_eq]); omega) ?_) | (refine ite_neg (by (simp only [decide_eq_true_eq, beq_iff_eq]); omega) ?_)
  k_with "my call" =>
    refine' dpos a b _ _ ha hb hab hbb _ _ _ _ _ _ _ _ _ _ _ _ _ _ _ _ _ _ _ _ ?k1 ?k2 ?k3 ?k4 hT ?k5 ?k6 ?k6b ?k7 ?k8 ?k9 ?_
    (case k4 => k_asm)
    (case k1 => k_asm)
    (case k2 => k_asm)
    (case k3 => k_asm)
    (case k5 => k_asm)
    (case k6 => k_asm)
    (case k6b => k_asm)
    (case k7 => exact rfl)
    (case k8 => ktr_room)
    (case k9 => ktr_units)
    intro x9 y9 D9 t91 t92 c9 T19 T29 hp9 tk9 P9 H19 H29 E9 W19 W29 F9 N9 l9
  refine wpAny_call ?_
  k_dflt ktr_enter
  (try refine tok_any fun tk9 => ?_)
  (rename Fr _ _ _ _ => F1)
  replace F1 := fr_as (m' := fun y => List.lookup y [(Str.ofString "b", .int b tb), (Str.ofString "a", .int a ta)]) F1 rfl
  k_steps
  exact hret _ _ _ _ _ _ _ _ _ _ ⟨P9.1, .inl ⟨hb, P9.2.1, P9.2.2⟩⟩ H19 H29 E9 W19 W29 (by assumption) (by assumption) l9

theorem idm2 {w p loose mean mg mb} (a b : Int) (ta tb : Tok) (hb : 0 < b) (hab : intBits a ≤ 4194304) (hbb : intBits b ≤ 4194304) :
    GivesDP w p loose mean mg mb 56 [.int a ta, .int b tb] 86 530 (DM a b) := by
  rcases Int.lt_or_le a 0 with ha | ha
  case inr =>
    intro dp un gd cn cs aa ccd cl outer A₀ base h₀ L m T1 T2 news s Q E B F X N hT Tp C1 C2 hk hdp hu hret
    exact idm1 a b ta tb ha hb hab hbb dp un gd cn cs aa ccd cl outer A₀ base h₀ L m T1 T2 news s Q E B F X N hT Tp C1 C2 hk (by omega) (by omega) hret
  have hab' : intBits (-a - 1) ≤ 4194304 := intBits_le_of_natAbs (by omega) hab
  unfold GivesDP
  k_fill
  intro dp un gd cn cs aa ccd cl outer A₀ base h₀ L m T1 T2 news s Q E B F X N hT Tp C1 C2 hk hdp hu hret
  have hMk := kstMark
  k_with_none
  k_with "binaryOp Add int int" => (refine add_N ?_)
  k_with "binaryOp Sub int int" => (refine sub_N ?_)
  k_with "inplaceOp Add int int" => (refine iadd_N ?_)
  k_with "inplaceOp Sub int int" => (refine isub_N ?_)
  k_with "binaryOp BitOr int int" => (refine or_N ?_)
  k_with "unaryOp USub int" => (refine neg_N ?_)
  k_with "storeName" => (k_here; k_dflt (refine' storeX_N ?F ?N ?eg ?ed ?eo ?_ ?a ?b; (case F => k_asm); (case N => k_asm); (case a => rfl); (case b => rfl); (case eg => first | (dsimp only; done) | exact rfl); (case ed => first | (dsimp only; done) | exact rfl); (case eo => first | (dsimp only; done) | exact rfl); k_whole; intro _ _ _; (try k_sweep)))
  k_with "MineLt" => (first | with_reducible assumption | ((with_reducible rename _ ∧ _ => hC9); first | exact hC9.1 | exact hC9.2.1 | exact hC9.2.2.1 | exact hC9.2.2.2.1 | exact hC9.2.2.2.2.1 | exact hC9.2.2.2.2.2.1 | exact hC9.2.2.2.2.2.2.1 | exact hC9.2.2.2.2.2.2.2.1 | exact hC9.2.2.2.2.2.2.2.2.1 | exact hC9.2.2.2.2.2.2.2.2.2.1 | exact hC9.2.2.2.2.2.2.2.2.2.2.1 | exact hC9.2.2.2.2.2.2.2.2.2.2.2.1 | exact hC9.2.2.2.2.2.2.2.2.2.2.2.2.1 | exact hC9.2.2.2.2.2.2.2.2.2.2.2.2.2.1) | exact And.left (by with_reducible assumption) | exact Nat.lt_succ_self _)
  k_with "binaryOp LShift int int" => (refine' lshift_N ?hn ?hz ?_; (case hn => k_extra "nn"); (case hz => k_extra "shl"); (try k_extra "tidy"))
  k_with "inplaceOp LShift int int" => (refine' ilshift_N ?hn ?hz ?_; (case hn => k_extra "nn"); (case hz => k_extra "shl"); (try k_extra "tidy"))
  k_with "binaryOp RShift int int" => (refine' rshift_N ?hn ?_; (case hn => k_extra "nn"); (try k_extra "tidy"))
  k_with "inplaceOp RShift int int" => (refine' irshift_N ?hn ?_; (case hn => k_extra "nn"); (try k_extra "tidy"))
  k_with "binaryOp BitAnd int int" => (refine and_N ?_; (try k_extra "tidy"))
  k_with "binaryOp Mult int int" => (refine' mul_N ?_ ?hm; (case hm => k_extra "mul"); (try k_extra "tidy"))
  k_with "Kdm" => (refine' divmod_N ?F ?N ?hb ?_ ?hp; (case F => k_asm); (case N => k_asm); (case hb => k_extra "div0"); (case hp => k_extra "pylong"))
  k_with "call ref" => (k_extra "my call")
  k_with "ite" => (k_extra "decide")
  k_with "binaryOp FloorDiv int int" => (refine' floordiv_N ?hb ?_ ?hp; (case hb => k_extra "div0"); (case hp => k_extra "pylong"); (try k_extra "tidy"))
  k_with "binaryOp BitXor int int" => (refine xor_N ?_; (try k_extra "tidy"))
  k_with "subscriptTail Name Constant ref int" => (k_here; (with_reducible show wpAny _ _ (subscriptTail _ _ (Value.ref _) (Value.int _ _)) _ _ _); (with_unfolding_all refine' item_litK ?k1 ?k2 ?k3 ?k4 ?_ ?k6; (case k1 => is_list); (case k2 => decide); (case k3 => decide); (case k4 => rfl); (case k6 => with_unfolding_all rfl); k_whole))
  k_with "decide" => first | (refine ite_pos (by (simp only [decide_eq_true_eq, beq_iff_eq]); omega) ?_) | (refine ite_neg (by (simp only [decide_eq_true_eq, beq_iff_eq]); omega) ?_)
  k_with "my call" =>
    refine' idm1 (-a - 1) b _ _ (by omega) hb hab' hbb _ _ _ _ _ _ _ _ _ _ _ _ _ _ _ _ _ _ _ _ ?k1 ?k2 ?k3 ?k4 hT ?k5 ?k6 ?k6b ?k7 ?k8 ?k9 ?_
    (case k4 => k_asm)
    (case k1 => k_asm)
    (case k2 => k_asm)
    (case k3 => k_asm)
    (case k5 => k_asm)
    (case k6 => k_asm)
    (case k6b => k_asm)
    (case k7 => exact rfl)
    (case k8 => ktr_room)
    (case k9 => ktr_units)
    intro x9 y9 D9 t91 t92 c9 T19 T29 hp9 tk9 P9 H19 H29 E9 W19 W29 F9 N9 l9
  refine wpAny_call ?_
  k_dflt ktr_enter
  (try refine tok_any fun tk9 => ?_)
  (rename Fr _ _ _ _ => F1)
  replace F1 := fr_as (m' := fun y => List.lookup y [(Str.ofString "b", .int b tb), (Str.ofString "a", .int a ta)]) F1 rfl
  k_steps
  refine idm_ret hret (by assumption) (by assumption) (And.right (by assumption)) ?_ H19 H29 E9 W19 W29
  refine Mine.exand0_2 P9 fun e1 e2 => ?_
  try clear P9
  have e3 : Builtin.bitNot x9 * b = -(x9 * b) - b := by rw [kbt_not, Int.sub_mul, Int.neg_mul]; omega
  refine ⟨?_, .inl ⟨hb, ?_, ?_⟩⟩
  · rw [e3, kbt_not]; omega
  · rw [kbt_not]; omega
  · rw [kbt_not]; omega

theorem idm {w p loose mean mg mb} (a b : Int) (ta tb : Tok) (hb : b ≠ 0) (hab : intBits a ≤ 4194304) (hbb : intBits b ≤ 4194304) :
    GivesDP w p loose mean mg mb 56 [.int a ta, .int b tb] 90 550 (DM a b) := by
  rcases Int.lt_or_le 0 b with hb' | hb'
  case inl =>
    intro dp un gd cn cs aa ccd cl outer A₀ base h₀ L m T1 T2 news s Q E B F X N hT Tp C1 C2 hk hdp hu hret
    exact idm2 a b ta tb hb' hab hbb dp un gd cn cs aa ccd cl outer A₀ base h₀ L m T1 T2 news s Q E B F X N hT Tp C1 C2 hk (by omega) (by omega) hret
  have hab' : intBits (-a) ≤ 4194304 := intBits_le_of_natAbs (by omega) hab
  have hbb' : intBits (-b) ≤ 4194304 := intBits_le_of_natAbs (by omega) hbb
  unfold GivesDP
  k_fill
  intro dp un gd cn cs aa ccd cl outer A₀ base h₀ L m T1 T2 news s Q E B F X N hT Tp C1 C2 hk hdp hu hret
  have hMk := kstMark
  k_with_none
  k_with "binaryOp Add int int" => (refine add_N ?_)
  k_with "binaryOp Sub int int" => (refine sub_N ?_)
  k_with "inplaceOp Add int int" => (refine iadd_N ?_)
  k_with "inplaceOp Sub int int" => (refine isub_N ?_)
  k_with "binaryOp BitOr int int" => (refine or_N ?_)
  k_with "unaryOp USub int" => (refine neg_N ?_)
  k_with "storeName" => (k_here; k_dflt (refine' storeX_N ?F ?N ?eg ?ed ?eo ?_ ?a ?b; (case F => k_asm); (case N => k_asm); (case a => rfl); (case b => rfl); (case eg => first | (dsimp only; done) | exact rfl); (case ed => first | (dsimp only; done) | exact rfl); (case eo => first | (dsimp only; done) | exact rfl); k_whole; intro _ _ _; (try k_sweep)))
  k_with "MineLt" => (first | with_reducible assumption | ((with_reducible rename _ ∧ _ => hC9); first | exact hC9.1 | exact hC9.2.1 | exact hC9.2.2.1 | exact hC9.2.2.2.1 | exact hC9.2.2.2.2.1 | exact hC9.2.2.2.2.2.1 | exact hC9.2.2.2.2.2.2.1 | exact hC9.2.2.2.2.2.2.2.1 | exact hC9.2.2.2.2.2.2.2.2.1 | exact hC9.2.2.2.2.2.2.2.2.2.1 | exact hC9.2.2.2.2.2.2.2.2.2.2.1 | exact hC9.2.2.2.2.2.2.2.2.2.2.2.1 | exact hC9.2.2.2.2.2.2.2.2.2.2.2.2.1 | exact hC9.2.2.2.2.2.2.2.2.2.2.2.2.2.1) | exact And.left (by with_reducible assumption) | exact Nat.lt_succ_self _)
  k_with "binaryOp LShift int int" => (refine' lshift_N ?hn ?hz ?_; (case hn => k_extra "nn"); (case hz => k_extra "shl"); (try k_extra "tidy"))
  k_with "inplaceOp LShift int int" => (refine' ilshift_N ?hn ?hz ?_; (case hn => k_extra "nn"); (case hz => k_extra "shl"); (try k_extra "tidy"))
  k_with "binaryOp RShift int int" => (refine' rshift_N ?hn ?_; (case hn => k_extra "nn"); (try k_extra "tidy"))
  k_with "inplaceOp RShift int int" => (refine' irshift_N ?hn ?_; (case hn => k_extra "nn"); (try k_extra "tidy"))
  k_with "binaryOp BitAnd int int" => (refine and_N ?_; (try k_extra "tidy"))
  k_with "binaryOp Mult int int" => (refine' mul_N ?_ ?hm; (case hm => k_extra "mul"); (try k_extra "tidy"))
  k_with "Kdm" => (refine' divmod_N ?F ?N ?hb ?_ ?hp; (case F => k_asm); (case N => k_asm); (case hb => k_extra "div0"); (case hp => k_extra "pylong"))
  k_with "call ref" => (k_extra "my call")
  k_with "ite" => (k_extra "decide")
  k_with "binaryOp FloorDiv int int" => (refine' floordiv_N ?hb ?_ ?hp; (case hb => k_extra "div0"); (case hp => k_extra "pylong"); (try k_extra "tidy"))
  k_with "binaryOp BitXor int int" => (refine xor_N ?_; (try k_extra "tidy"))
  k_with "subscriptTail Name Constant ref int" => (k_here; (with_reducible show wpAny _ _ (subscriptTail _ _ (Value.ref _) (Value.int _ _)) _ _ _); (with_unfolding_all refine' item_litK ?k1 ?k2 ?k3 ?k4 ?_ ?k6; (case k1 => is_list); (case k2 => decide); (case k3 => decide); (case k4 => rfl); (case k6 => with_unfolding_all rfl); k_whole))
  k_with "decide" => first | (refine ite_pos (by (simp only [decide_eq_true_eq, beq_iff_eq]); omega) ?_) | (refine ite_neg (by (simp only [decide_eq_true_eq, beq_iff_eq]); omega) ?_)
  k_with "my call" =>
    refine' idm2 (-a) (-b) _ _ (by omega) hab' hbb' _ _ _ _ _ _ _ _ _ _ _ _ _ _ _ _ _ _ _ _ ?k1 ?k2 ?k3 ?k4 hT ?k5 ?k6 ?k6b ?k7 ?k8 ?k9 ?_
    (case k4 => k_asm)
    (case k1 => k_asm)
    (case k2 => k_asm)
    (case k3 => k_asm)
    (case k5 => k_asm)
    (case k6 => k_asm)
    (case k6b => k_asm)
    (case k7 => exact rfl)
    (case k8 => ktr_room)
    (case k9 => ktr_units)
    intro x9 y9 D9 t91 t92 c9 T19 T29 hp9 tk9 P9 H19 H29 E9 W19 W29 F9 N9 l9
  refine wpAny_call ?_
  k_dflt ktr_enter
  (try refine tok_any fun tk9 => ?_)
  (rename Fr _ _ _ _ => F1)
  replace F1 := fr_as (m' := fun y => List.lookup y [(Str.ofString "b", .int b tb), (Str.ofString "a", .int a ta)]) F1 rfl
  k_steps
  refine idm_ret hret (by assumption) (by assumption) (And.right (by assumption)) ?_ H19 H29 E9 W19 W29
  refine Mine.exand0_2 P9 fun e1 e2 => ?_
  try clear P9
  rw [Int.mul_neg] at e1
  refine ⟨by omega, .inr ⟨by omega, by omega, by omega⟩⟩

/-- both tables are grown, somewhere on the ledger -/
def HotN (news : List (Addr × Obj)) : Prop := ∃ T1 T2, Hot1 T1 ∧ Hot2 T2 ∧ (∀ p ∈ T1, p ∈ news) ∧ ∀ p ∈ T2, p ∈ news
theorem HotN.cons {news : List (Addr × Obj)} {x : Addr × Obj} (h : HotN news) : HotN (x :: news) := by
  refine Mine.exand2_4 h fun T1 T2 a b c d => ?_
  exact ⟨T1, T2, a, b, fun p hp => .tail _ (c p hp), fun p hp => .tail _ (d p hp)⟩
theorem HotN.sub {news news' : List (Addr × Obj)} (h : HotN news) (hs : ∀ p ∈ news, p ∈ news') : HotN news' := by
  refine Mine.exand2_4 h fun T1 T2 a b c d => ?_
  exact ⟨T1, T2, a, b, fun p hp => hs p (c p hp), fun p hp => hs p (d p hp)⟩
theorem HotN.of {T1 T2 news : List (Addr × Obj)} (a : Hot1 T1) (b : Hot2 T2) : HotN (T1 ++ (T2 ++ news)) :=
  ⟨T1, T2, a, b, fun p hp => List.mem_append_left _ hp, fun p hp => List.mem_append_right _ (List.mem_append_left _ hp)⟩
theorem allLt_sub {d : Addr} {l r : List (Addr × Obj)} (h : AllLt d l) (hs : ∀ p ∈ r, p ∈ l) : AllLt d r := allLt_of fun p hp => kst_ltOf h p (hs p hp)

section
variable {w : World} {p : Program} {loose : List Str} {mean : ExcName → Option Value} {mg mb : Str → Option Value} {a b : Int} {ta tb : Tok}
    {dp un : Nat} {gd : Option (List Code)} {cn : Str} {cs : Scope} {aa : Addr} {ccd : Value} {cl : List (Str × Addr)} {outer : List Env} {A₀ : Around} {base h₀ : Heap} {L : Addr} {m : Str → Option Value} {pre T1 T2 news : List (Addr × Obj)} {s : Shared}
    {Q E : Value → Shared → Prop}
theorem idm_use (hb : b ≠ 0) (hab : intBits a ≤ 4194304) (hbb : intBits b ≤ 4194304)
    (B : Below A₀ base outer h₀) (F : Fr h₀ L s.heap m) (X : (hd.heap_1 w.params).In h₀) (N : News h₀ L s.heap (pre ++ (T1 ++ (T2 ++ news)))) (hT : StB T1 T2 (pre ++ news)) (Tp : Top p loose mean mg mb h₀) (C1 : CodeHd base 34 30) (C2 : CodeHd base 41 37) (hk : cs.kind = .function) (hdp : dp + 90 < recursionLimit) (hu : un + 550 < cLine)
    (ret : ∀ x y D t1 t2 c T1' T2' h' tk', DM a b x y → Hot1 T1' → Hot2 T2' → (Hot1 T1 ∧ Hot2 T2 → T1' = T1 ∧ T2' = T2) → NewT 30 T1 T1' (pre ++ news) → NewT 37 T2 T2' (pre ++ news) → Fr h₀ L h' m → News h₀ L h' ((D, tup2 x t1 y t2 c) :: (pre ++ (T1' ++ (T2' ++ news)))) → AllLt D (pre ++ news) → Q (.ref D) { s with heap := h', toks := tk' }) :
    wpAny (model PySem.Challenge.rw_ph0128_01.row.prog w) (ktrTop dp un gd cn cs L aa ccd cl outer) (call (.ref 56) [.int a ta, .int b tb]) Q E s :=
  idm a b ta tb hb hab hbb dp un gd cn cs aa ccd cl outer A₀ base h₀ L m T1 T2 (pre ++ news) s Q E B F X (fun p hp => N p (by simp only [List.mem_append] at hp ⊢; grind)) hT Tp C1 C2 hk hdp hu
    fun x y D t1 t2 c T1' T2' h' tk' hp H1 H2 Eq W1 W2 F' N' l' => ret x y D t1 t2 c T1' T2' h' tk' hp H1 H2 Eq W1 W2 F' (fun p hp => N' p (by simp only [List.mem_append, List.mem_cons] at hp ⊢; grind)) l'
theorem idmH (hb : b ≠ 0) (hab : intBits a ≤ 4194304) (hbb : intBits b ≤ 4194304)
    (B : Below A₀ base outer h₀) (F : Fr h₀ L s.heap m) (X : (hd.heap_1 w.params).In h₀) (N : News h₀ L s.heap news) (hT : HotN news) (Tp : Top p loose mean mg mb h₀) (C1 : CodeHd base 34 30) (C2 : CodeHd base 41 37) (hk : cs.kind = .function) (hdp : dp + 90 < recursionLimit) (hu : un + 550 < cLine)
    (ret : ∀ x y D t1 t2 c h' tk', DM a b x y → Fr h₀ L h' m → News h₀ L h' ((D, tup2 x t1 y t2 c) :: news) → AllLt D news → Q (.ref D) { s with heap := h', toks := tk' }) :
    wpAny (model PySem.Challenge.rw_ph0128_01.row.prog w) (ktrTop dp un gd cn cs L aa ccd cl outer) (call (.ref 56) [.int a ta, .int b tb]) Q E s := by
  refine Mine.exand2_4 hT fun T1 T2 H1 H2 h1 h2 => ?_
  try clear hT
  refine idm a b ta tb hb hab hbb dp un gd cn cs aa ccd cl outer A₀ base h₀ L m T1 T2 news s Q E B F X (fun p hp => N p ?_) (.inr ⟨H1, H2⟩) Tp C1 C2 hk hdp hu ?_
  · rcases List.mem_append.mp hp with hp | hp
    · exact h1 p hp
    · exact (List.mem_append.mp hp).elim (h2 p) id
  · intro x y D t1 t2 c T1' T2' h' tk' hp _ _ _ _ _ F' N' l'
    refine ret x y D t1 t2 c h' tk' hp F' (fun p hp => N' p ?_) l'
    rcases List.mem_cons.mp hp with rfl | hp
    · exact .head _
    · exact .tail _ (List.mem_append_right _ (List.mem_append_right _ hp))
end
end
example {prog : Program} {w : World} {A : Around} {env : Env} {Q : Flow → Shared → Prop} {E : Value → Shared → Prop} {s : Shared} (h : Q .next s) : wpAny (model prog w) A (execs [] env) Q E s := by
  w_top off
  walk1
  exact h
section
abbrev tup5 (a : Int) (ta : Tok) (b : Int) (tb : Tok) (c : Int) (tc : Tok) (d : Int) (td : Tok) (dd : Addr) (k : Nat) : Obj := { cls := .type "tuple", data := .seq #[.int a ta, .int b tb, .int c tc, .int d td, .ref dd] k }
abbrev lst3 (a : Int) (ta : Tok) (b : Int) (tb : Tok) (c : Int) (tc : Tok) (k : Nat) : Obj := listOf #[.int a ta, .int b tb, .int c tc] k

theorem StB.sub' {T1 T2 news : List (Addr × Obj)} {x : Addr × Obj} (h : StB T1 T2 news) (hx : x ∈ news) : StB T1 T2 ([x] ++ news) := by
  rcases h with ⟨a, b, c⟩ | h
  · refine .inl ⟨a, b, fun p hp => ?_⟩
    rcases List.mem_cons.mp hp with rfl | hp
    · exact c _ hx
    · exact c p hp
  · exact .inr h
abbrev DictIs (w : World) (o : Obj) (kvs : List (Str × Value)) : Prop := o.IsDictOf (strKind PySem.Challenge.rw_ph0128_01.row.prog w) kvs

/-- the row of a number -/
def Row (b0 b1 b2 x three one last two : Int) : Prop := ∃ up more, DM x b0 up one ∧ DM up b1 more two ∧ DM more b2 last three

abbrev GivesRow (w : World) (p : Program) (loose : List Str) (mean : ExcName → Option Value) (mg mb : Str → Option Value) (x b0 b1 b2 : Int) (tx t0 t1 t2 : Tok) : Prop :=
  ∀ (dp un : Nat) (gd : Option (List Code)) (cn : Str) (cs : Scope) (aa : Addr) (ccd : Value) (cl : List (Str × Addr)) (outer : List Env) (A₀ : Around) (base h₀ : Heap) (L : Addr) (m : Str → Option Value) (T1 T2 news : List (Addr × Obj)) (s : Shared)
    (Q E : Value → Shared → Prop) (bl : Addr) (kb : Nat),
    Below A₀ base outer h₀ → Fr h₀ L s.heap m → (hd.heap_1 w.params).In h₀ → News h₀ L s.heap (T1 ++ (T2 ++ news)) → StB T1 T2 news → (bl, lst3 b0 t0 b1 t1 b2 t2 kb) ∈ news → Top p loose mean mg mb h₀ → CodeHd base 34 30 → CodeHd base 41 37 → cs.kind = .function → dp + 100 < recursionLimit → un + 600 < cLine →
    (∀ th on la tw tth ton tla ttw D dd o c ta T1' T2' h' tk', Row b0 b1 b2 x th on la tw → DictIs w o [(Str.ofString "a", .int x ta)] → Hot1 T1' → Hot2 T2' → (Hot1 T1 ∧ Hot2 T2 → T1' = T1 ∧ T2' = T2) → NewT 30 T1 T1' news → NewT 37 T2 T2' news → Fr h₀ L h' m →
      News h₀ L h' ((D, tup5 th tth on ton la tla tw ttw dd c) :: (dd, o) :: (T1' ++ (T2' ++ news))) → AllLt D news → AllLt dd news → dd < D → Q (.ref D) { s with heap := h', toks := tk' }) →
    wpAny (model PySem.Challenge.rw_ph0128_01.row.prog w) (ktrTop dp un gd cn cs L aa ccd cl outer) (call (.ref 119) [.int x tx, .ref bl]) Q E s

theorem row_ret {w : World} {b0 b1 b2 x : Int} {h₀ : Heap} {L : Addr} {m : Str → Option Value} {T1 T2 T1' T2' news news' : List (Addr × Obj)} {s : Shared} {Q : Value → Shared → Prop} {th on la tw : Int} {tth ton tla ttw ta : Tok} {D dd : Addr} {o : Obj} {c : Nat} {h' : Heap} {tk' : Nat}
    (ret : ∀ th on la tw tth ton tla ttw D dd o c ta T1' T2' h' tk', Row b0 b1 b2 x th on la tw → DictIs w o [(Str.ofString "a", .int x ta)] → Hot1 T1' → Hot2 T2' → (Hot1 T1 ∧ Hot2 T2 → T1' = T1 ∧ T2' = T2) → NewT 30 T1 T1' news → NewT 37 T2 T2' news → Fr h₀ L h' m →
      News h₀ L h' ((D, tup5 th tth on ton la tla tw ttw dd c) :: (dd, o) :: (T1' ++ (T2' ++ news))) → AllLt D news → AllLt dd news → dd < D → Q (.ref D) { s with heap := h', toks := tk' })
    (F : Fr h₀ L h' m) (N : News h₀ L h' news') (hD : (D, tup5 th tth on ton la tla tw ttw dd c) ∈ news') (hdd : (dd, o) ∈ news') (hs : ∀ p ∈ T1' ++ (T2' ++ news), p ∈ news') (l1 : AllLt D (T1' ++ (T2' ++ news))) (l2 : AllLt dd (T1' ++ (T2' ++ news))) (l3 : dd < D)
    (hp : Row b0 b1 b2 x th on la tw) (ho : DictIs w o [(Str.ofString "a", .int x ta)]) (H1 : Hot1 T1') (H2 : Hot2 T2') (Eq : Hot1 T1 ∧ Hot2 T2 → T1' = T1 ∧ T2' = T2) (W1 : NewT 30 T1 T1' news) (W2 : NewT 37 T2 T2' news) : Q (.ref D) { s with heap := h', toks := tk' } := by
  refine ret th on la tw tth ton tla ttw D dd o c ta T1' T2' h' tk' hp ho H1 H2 Eq W1 W2 F (fun p hp => ?_) (allLt_app.mp (allLt_app.mp l1).2).2 (allLt_app.mp (allLt_app.mp l2).2).2 l3
  rcases List.mem_cons.mp hp with rfl | hp
  · exact N _ hD
  rcases List.mem_cons.mp hp with rfl | hp
  · exact N _ hdd
  · exact N p (hs p hp)

theorem row {w p loose mean mg mb} (x b0 b1 b2 : Int) (tx t0 t1 t2 : Tok) (h0 : b0 ≠ 0) (h1 : b1 ≠ 0) (h2 : b2 ≠ 0) (hx : intBits x ≤ 4194304) (hb0 : intBits b0 ≤ 4194304) (hb1 : intBits b1 ≤ 4194304) (hb2 : intBits b2 ≤ 4194304) :
    GivesRow w p loose mean mg mb x b0 b1 b2 tx t0 t1 t2 := by
  unfold GivesRow
  k_fill
  intro dp un gd cn cs aa ccd cl outer A₀ base h₀ L m T1 T2 news s Q E bl kb B F X N hT hbl Tp C1 C2 hk hdp hu hret
  have hMk := kstMark
  have N0 : News h₀ L s.heap ((bl, lst3 b0 t0 b1 t1 b2 t2 kb) :: (T1 ++ (T2 ++ news))) := fun p hp => N p (by
    rcases List.mem_cons.mp hp with rfl | hp
    · exact List.mem_append_right _ (List.mem_append_right _ hbl)
    · exact hp)
  clear N
  k_with_none
  k_with "binaryOp Add int int" => (refine add_N ?_)
  k_with "binaryOp Sub int int" => (refine sub_N ?_)
  k_with "inplaceOp Add int int" => (refine iadd_N ?_)
  k_with "inplaceOp Sub int int" => (refine isub_N ?_)
  k_with "binaryOp BitOr int int" => (refine or_N ?_)
  k_with "unaryOp USub int" => (refine neg_N ?_)
  k_with "storeName" => (k_here; k_dflt (refine' storeX_N ?F ?N ?eg ?ed ?eo ?_ ?a ?b; (case F => k_asm); (case N => k_asm); (case a => rfl); (case b => rfl); (case eg => first | (dsimp only; done) | exact rfl); (case ed => first | (dsimp only; done) | exact rfl); (case eo => first | (dsimp only; done) | exact rfl); k_whole; intro _ _ _; (try k_sweep)))
  k_with "MineLt" => (first | with_reducible assumption | ((with_reducible rename _ ∧ _ => hC9); first | exact hC9.1 | exact hC9.2.1 | exact hC9.2.2.1 | exact hC9.2.2.2.1 | exact hC9.2.2.2.2.1 | exact hC9.2.2.2.2.2.1 | exact hC9.2.2.2.2.2.2.1 | exact hC9.2.2.2.2.2.2.2.1 | exact hC9.2.2.2.2.2.2.2.2.1 | exact hC9.2.2.2.2.2.2.2.2.2.1 | exact hC9.2.2.2.2.2.2.2.2.2.2.1 | exact hC9.2.2.2.2.2.2.2.2.2.2.2.1 | exact hC9.2.2.2.2.2.2.2.2.2.2.2.2.1 | exact hC9.2.2.2.2.2.2.2.2.2.2.2.2.2.1) | exact And.left (by with_reducible assumption) | exact Nat.lt_succ_self _)
  k_with "binaryOp LShift int int" => (refine' lshift_N ?hn ?hz ?_; (case hn => k_extra "nn"); (case hz => k_extra "shl"); (try k_extra "tidy"))
  k_with "inplaceOp LShift int int" => (refine' ilshift_N ?hn ?hz ?_; (case hn => k_extra "nn"); (case hz => k_extra "shl"); (try k_extra "tidy"))
  k_with "binaryOp RShift int int" => (refine' rshift_N ?hn ?_; (case hn => k_extra "nn"); (try k_extra "tidy"))
  k_with "inplaceOp RShift int int" => (refine' irshift_N ?hn ?_; (case hn => k_extra "nn"); (try k_extra "tidy"))
  k_with "binaryOp BitAnd int int" => (refine and_N ?_; (try k_extra "tidy"))
  k_with "binaryOp Mult int int" => (refine' mul_N ?_ ?hm; (case hm => k_extra "mul"); (try k_extra "tidy"))
  k_with "Kdm" => (refine' divmod_N ?F ?N ?hb ?_ ?hp; (case F => k_asm); (case N => k_asm); (case hb => k_extra "div0"); (case hp => k_extra "pylong"))
  k_with "call ref" => (k_extra "my call")
  k_with "ite" => (k_extra "decide")
  k_with "binaryOp FloorDiv int int" => (refine' floordiv_N ?hb ?_ ?hp; (case hb => k_extra "div0"); (case hp => k_extra "pylong"); (try k_extra "tidy"))
  k_with "binaryOp BitXor int int" => (refine xor_N ?_; (try k_extra "tidy"))
  k_with "subscriptTail Name Constant ref int" => (k_here; (with_reducible show wpAny _ _ (subscriptTail _ _ (Value.ref _) (Value.int _ _)) _ _ _); (with_unfolding_all refine' item_litK ?k1 ?k2 ?k3 ?k4 ?_ ?k6; (case k1 => is_list); (case k2 => decide); (case k3 => decide); (case k4 => rfl); (case k6 => with_unfolding_all rfl); k_whole))
  k_with "sub" => exact fun p hp => by repeat (first | exact hp | refine List.mem_cons_of_mem _ ?_)
  k_with "lt" => first | assumption | (exact allLt_of (by assumption)) | (exact And.right (by assumption)) | (exact And.right (And.right (by assumption))) | (exact And.right (And.right (And.right (by assumption)))) | (exact And.right (And.right (And.right (And.right (by assumption))))) | (exact And.right (And.right (And.right (And.right (And.right (by assumption))))))  | (exact And.right (And.right (And.right (And.right (And.right (And.right (by assumption)))))))
  k_with "decide" => fail
  have hT' : StB T1 T2 ([(bl, lst3 b0 t0 b1 t1 b2 t2 kb)] ++ news) := hT.sub' hbl
  k_with "hot" => (repeat (first | assumption | refine HotN.cons ?_))
  k_with "bits" => assumption
  k_with "my call" =>
    first
      | (refine' idm_use (pre := [(bl, lst3 b0 t0 b1 t1 b2 t2 kb)]) (T1 := T1) (T2 := T2) (news := news) ?kb ?b1 ?b2 ?k1 ?k2 ?k3 ?k4 hT' ?k5 ?k6 ?k6b ?k7 ?k8 ?k9 ?_
         (case k4 => k_asm)
         (case k1 => k_asm)
         (case k2 => k_asm)
         (case k3 => k_asm)
         (case k5 => k_asm)
         (case k6 => k_asm)
         (case k6b => k_asm)
         (case k7 => exact rfl)
         (case k8 => ktr_room)
         (case k9 => ktr_units)
         (case kb => assumption)
         (case b1 => assumption)
         (case b2 => assumption)
         intro x9 y9 D9 t91 t92 c9 T19 T29 hp9 tk9 P9 H19 H29 E9 W19 W29 F9 N9 l9
         (simp only [List.cons_append, List.nil_append] at N9)
         have hH9 : HotN (T19 ++ (T29 ++ news)) := HotN.of H19 H29
         have B9 := dm_bits P9 (by assumption))
      | (refine' idmH ?kb ?b1 ?b2 ?k1 ?k2 ?k3 ?k4 ?kH ?k5 ?k6 ?k6b ?k7 ?k8 ?k9 ?_
         (case k4 => k_asm)
         (case kH => k_extra "hot")
         (case k1 => k_asm)
         (case k2 => k_asm)
         (case k3 => k_asm)
         (case k5 => k_asm)
         (case k6 => k_asm)
         (case k6b => k_asm)
         (case k7 => exact rfl)
         (case k8 => ktr_room)
         (case k9 => ktr_units)
         (case kb => assumption)
         (case b2 => assumption)
         (case b1 => k_extra "bits")
         intro x9 y9 D9 t91 t92 c9 hp9 tk9 P9 F9 N9 l9
         simp only [AllLt] at l9
         have B9 := dm_bits P9 (by assumption))
  refine wpAny_call ?_
  k_dflt ktr_enter
  (try refine tok_any fun tk9 => ?_)
  (rename Fr _ _ _ _ => F1)
  replace F1 := fr_as (m' := fun y => List.lookup y [(Str.ofString "bases", .ref bl), (Str.ofString "number", .int x tx)]) F1 rfl
  k_steps
  refine row_ret hret (by assumption) (by assumption) (by k_mem) (by k_mem) (by k_extra "sub") (by k_extra "lt") (by k_extra "lt") (And.left (by assumption)) ⟨_, _, by assumption, by assumption, by assumption⟩ (by assumption) (by assumption) (by assumption) (by assumption) (NewT.sub (by assumption) (fun p hp => .tail _ hp)) (NewT.sub (by assumption) (fun p hp => .tail _ hp))
end
example {prog : Program} {w : World} {A : Around} {env : Env} {Q : Flow → Shared → Prop} {E : Value → Shared → Prop} {s : Shared} (h : Q .next s) : wpAny (model prog w) A (execs [] env) Q E s := by
  w_top off
  walk1
  exact h
section
/-- a call of the def at f: what it asks of the ledger, what it gives back and lays on it -/
abbrev Gives (w : World) (p : Program) (loose : List Str) (mean : ExcName → Option Value) (mg mb : Str → Option Value) (f : Addr) (vs : List Value) (dep uni : Nat) (Pre : List (Addr × Obj) → Prop) (Post : List (Addr × Obj) → Value → List (Addr × Obj) → Prop) : Prop :=
  ∀ (dp un : Nat) (gd : Option (List Code)) (cn : Str) (cs : Scope) (aa : Addr) (ccd : Value) (cl : List (Str × Addr)) (outer : List Env) (A₀ : Around) (base h₀ : Heap) (L : Addr) (m : Str → Option Value) (news : List (Addr × Obj)) (s : Shared)
    (Q E : Value → Shared → Prop),
    Below A₀ base outer h₀ → Fr h₀ L s.heap m → (hd.heap_1 w.params).In h₀ → News h₀ L s.heap news → Pre news → Top p loose mean mg mb h₀ → base.NoSeer → CodeHd base 34 30 → CodeHd base 41 37 → cs.kind = .function → dp + dep < recursionLimit → un + uni < cLine →
    (∀ v new h' tk', Post news v new → Fr h₀ L h' m → News h₀ L h' (new ++ news) → Q v { s with heap := h', toks := tk' }) →
    wpAny (model PySem.Challenge.rw_ph0128_01.row.prog w) (ktrTop dp un gd cn cs L aa ccd cl outer) (call (.ref f) vs) Q E s

theorem Gives.use {w : World} {p : Program} {loose : List Str} {mean : ExcName → Option Value} {mg mb : Str → Option Value} {f : Addr} {vs : List Value} {dep uni : Nat} {Pre : List (Addr × Obj) → Prop} {Post : List (Addr × Obj) → Value → List (Addr × Obj) → Prop}
    {dp un : Nat} {gd : Option (List Code)} {cn : Str} {cs : Scope} {aa : Addr} {ccd : Value} {cl : List (Str × Addr)} {outer : List Env} {A₀ : Around} {base h₀ : Heap} {L : Addr} {m : Str → Option Value} {news : List (Addr × Obj)} {h9 : Heap} {g9 : Array GenState} {d9 : Drawn} {t9 : Nat} {o9 : OsState}
    {Q E : Value → Shared → Prop} (C : Gives w p loose mean mg mb f vs dep uni Pre Post)
    (B : Below A₀ base outer h₀) (F : Fr h₀ L h9 m) (X : (hd.heap_1 w.params).In h₀) (N : News h₀ L h9 news) (hP : Pre news) (Tp : Top p loose mean mg mb h₀) (NS : base.NoSeer) (C1 : CodeHd base 34 30) (C2 : CodeHd base 41 37) (hk : cs.kind = .function) (hdp : dp + dep < recursionLimit) (hu : un + uni < cLine)
    (ret : ∀ v new h' tk', Post news v new → Fr h₀ L h' m → News h₀ L h' (new ++ news) → Q v ⟨h', g9, d9, tk', o9⟩) :
    wpAny (model PySem.Challenge.rw_ph0128_01.row.prog w) (ktrTop dp un gd cn cs L aa ccd cl outer) (call (.ref f) vs) Q E ⟨h9, g9, d9, t9, o9⟩ := C _ _ _ _ _ _ _ _ _ _ _ _ _ _ _ _ _ _ B F X N hP Tp NS C1 C2 hk hdp hu ret

theorem newsSub {h₀ h : Heap} {L : Addr} {news news' : List (Addr × Obj)} (N : News h₀ L h news) (hs : ∀ p ∈ news', p ∈ news) : News h₀ L h news' := fun p hp => N p (hs p hp)
theorem newsCons {h₀ h : Heap} {L : Addr} {x : Addr × Obj} {news : List (Addr × Obj)} (N : News h₀ L h news) (hx : x ∈ news) : News h₀ L h (x :: news) := fun p hp => (List.mem_cons.mp hp).elim (fun e => e ▸ N x hx) (N p)

abbrev tup4 (a : Int) (ta : Tok) (b : Int) (tb : Tok) (c : Int) (tc : Tok) (d : Int) (td : Tok) (k : Nat) : Obj := { cls := .type "tuple", data := .seq #[.int a ta, .int b tb, .int c tc, .int d td] k }
abbrev lst4 (a : Int) (ta : Tok) (b : Int) (tb : Tok) (c : Int) (tc : Tok) (d : Int) (td : Tok) (k : Nat) : Obj := listOf #[.int a ta, .int b tb, .int c tc, .int d td] k

theorem parts {w p loose mean mg mb} (n0 n1 n2 n3 b0 b1 b2 : Int) (u0 u1 u2 u3 t0 t1 t2 : Tok) (tl bl : Addr) (kt kb : Nat) (h1 : intBits n1 ≤ 4194304) (h2 : intBits n2 ≤ 4194304) (h3 : intBits n3 ≤ 4194304) (hb0 : intBits b0 ≤ 4194304) (hb1 : intBits b1 ≤ 4194304) (hb2 : intBits b2 ≤ 4194304) :
    Gives w p loose mean mg mb 154 [.ref tl, .ref bl] 4 40 (fun news => (tl, lst4 n0 u0 n1 u1 n2 u2 n3 u3 kt) ∈ news ∧ (bl, lst3 b0 t0 b1 t1 b2 t2 kb) ∈ news)
      (fun news v new => ∃ D r0 r1 r2 r3 k, v = .ref D ∧ new = [(D, tup4 (n2 - b2 * n3) r0 (n0 - b0 * n1) r1 n3 r2 (n1 - b1 * n2) r3 k)] ∧ AllLt D news) := by
  unfold Gives
  k_fill
  intro dp un gd cn cs aa ccd cl outer A₀ base h₀ L m news s Q E B F X N hP Tp NS C1 C2 hk hdp hu hret
  refine Mine.exand0_2 hP fun hP1 hP2 => ?_
  try clear hP
  have hMk := kstMark
  have N0 := newsCons (newsCons N hP2) (.tail _ hP1)
  clear N
  k_with_none
  k_with "binaryOp Add int int" => (refine add_N ?_)
  k_with "binaryOp Sub int int" => (refine sub_N ?_)
  k_with "inplaceOp Add int int" => (refine iadd_N ?_)
  k_with "inplaceOp Sub int int" => (refine isub_N ?_)
  k_with "binaryOp BitOr int int" => (refine or_N ?_)
  k_with "unaryOp USub int" => (refine neg_N ?_)
  k_with "storeName" => (k_here; k_dflt (refine' storeX_N ?F ?N ?eg ?ed ?eo ?_ ?a ?b; (case F => k_asm); (case N => k_asm); (case a => rfl); (case b => rfl); (case eg => first | (dsimp only; done) | exact rfl); (case ed => first | (dsimp only; done) | exact rfl); (case eo => first | (dsimp only; done) | exact rfl); k_whole; intro _ _ _; (try k_sweep)))
  k_with "MineLt" => (first | with_reducible assumption | ((with_reducible rename _ ∧ _ => hC9); first | exact hC9.1 | exact hC9.2.1 | exact hC9.2.2.1 | exact hC9.2.2.2.1 | exact hC9.2.2.2.2.1 | exact hC9.2.2.2.2.2.1 | exact hC9.2.2.2.2.2.2.1 | exact hC9.2.2.2.2.2.2.2.1 | exact hC9.2.2.2.2.2.2.2.2.1 | exact hC9.2.2.2.2.2.2.2.2.2.1 | exact hC9.2.2.2.2.2.2.2.2.2.2.1 | exact hC9.2.2.2.2.2.2.2.2.2.2.2.1 | exact hC9.2.2.2.2.2.2.2.2.2.2.2.2.1 | exact hC9.2.2.2.2.2.2.2.2.2.2.2.2.2.1) | exact And.left (by with_reducible assumption) | exact Nat.lt_succ_self _)
  k_with "binaryOp LShift int int" => (refine' lshift_N ?hn ?hz ?_; (case hn => k_extra "nn"); (case hz => k_extra "shl"); (try k_extra "tidy"))
  k_with "inplaceOp LShift int int" => (refine' ilshift_N ?hn ?hz ?_; (case hn => k_extra "nn"); (case hz => k_extra "shl"); (try k_extra "tidy"))
  k_with "binaryOp RShift int int" => (refine' rshift_N ?hn ?_; (case hn => k_extra "nn"); (try k_extra "tidy"))
  k_with "inplaceOp RShift int int" => (refine' irshift_N ?hn ?_; (case hn => k_extra "nn"); (try k_extra "tidy"))
  k_with "binaryOp BitAnd int int" => (refine and_N ?_; (try k_extra "tidy"))
  k_with "binaryOp Mult int int" => (refine' mul_N ?_ ?hm; (case hm => k_extra "mul"); (try k_extra "tidy"))
  k_with "Kdm" => (refine' divmod_N ?F ?N ?hb ?_ ?hp; (case F => k_asm); (case N => k_asm); (case hb => k_extra "div0"); (case hp => k_extra "pylong"))
  k_with "call ref" => (k_extra "my call")
  k_with "ite" => (k_extra "decide")
  k_with "binaryOp FloorDiv int int" => (refine' floordiv_N ?hb ?_ ?hp; (case hb => k_extra "div0"); (case hp => k_extra "pylong"); (try k_extra "tidy"))
  k_with "binaryOp BitXor int int" => (refine xor_N ?_; (try k_extra "tidy"))
  k_with "subscriptTail Name Constant ref int" => (k_here; (with_reducible show wpAny _ _ (subscriptTail _ _ (Value.ref _) (Value.int _ _)) _ _ _); (with_unfolding_all refine' item_litK ?k1 ?k2 ?k3 ?k4 ?_ ?k6; (case k1 => is_list); (case k2 => decide); (case k3 => decide); (case k4 => rfl); (case k6 => with_unfolding_all rfl); k_whole))
  k_with "subscriptTail Name Name ref int" => (k_here; (with_reducible show wpAny _ _ (subscriptTail _ _ (Value.ref _) (Value.int _ _)) _ _ _); (with_unfolding_all refine' item_litK ?k1 ?k2 ?k3 ?k4 ?_ ?k6; (case k1 => is_list); (case k2 => decide); (case k3 => decide); (case k4 => rfl); (case k6 => with_unfolding_all rfl); k_whole))
  k_with "subscriptTail Name BinOp ref int" => (k_here; (with_reducible show wpAny _ _ (subscriptTail _ _ (Value.ref _) (Value.int _ _)) _ _ _); (with_unfolding_all refine' item_litK ?k1 ?k2 ?k3 ?k4 ?_ ?k6; (case k1 => is_list); (case k2 => decide); (case k3 => decide); (case k4 => rfl); (case k6 => with_unfolding_all rfl); k_whole))
  k_with "pyIter ref" => k_dflt (k_extra "iter")
  k_with "decide" => fail
  k_with "mul" => exact IntMulOk.of_le (m := 4194304) (n := 4194304) (by assumption) (by assumption) (by decide)
  refine wpAny_call ?_
  k_dflt ktr_enter
  (try refine tok_any fun tk9 => ?_)
  (rename Fr _ _ _ _ => F1)
  replace F1 := fr_as (m' := fun y => List.lookup y [(Str.ofString "bases", .ref bl), (Str.ofString "told", .ref tl)]) F1 rfl
  k_steps
  exact hret _ _ _ _ ⟨_, _, _, _, _, _, rfl, rfl, And.right (And.right (by assumption))⟩ (by assumption) (newsSub (by assumption) (fun p hp => by rcases List.mem_cons.mp hp with rfl | hp; exact .head _; exact .tail _ (.tail _ (.tail _ hp))))

theorem unr_close {h₀ : Heap} {L I : Addr} {it : Obj} {rest : (Str → Option Value) → List (Addr × Obj) → Prop} {s₁ : Shared} {h' : Heap} {tk : Nat} {m' : Str → Option Value} {all news' : List (Addr × Obj)} (F : Fr h₀ L h' m') (N : News h₀ L h' all) (P : Pull I it all news')
    (off : ∀ p ∈ news', p.1 ≠ I) (r : rest m' news') : UnrEnd h₀ L s₁ I it rest { s₁ with heap := h', toks := tk } := UnrEnd.intro F N news' P.sub off r

/-- the walk halts here -/
def Stop (P : Prop) : Prop := P
theorem stop_intro {P : Prop} (h : Stop P) : P := h

theorem rangeRest_ind {prog : Program} {w : World} {A : Around} {E : Value → Shared → Prop} {h₀ : Heap} {env : Env} {x : Str} {body : List Stmt} {Q : Flow → Shared → Prop} {s : Shared} {I : Addr} {a : Int} {n : Nat} {σ : Type}
    (Inv : Nat → σ → Prop) (M : σ → Str → Option Value) (Ld : σ → List (Addr × Obj))
    (turn : ∀ i c t h tk, i < n → Inv i c → Fr h₀ env.locals h (fun y => if y = x then some (.int (a + (i : Int)) t) else M c y) → News h₀ env.locals h ((I, itR (a + ((i + 1 : Nat) : Int)) ((n : Int) - ((i + 1 : Nat) : Int))) :: Ld c) →
      wpAny (model prog w) A (execs body env) (UnrPost h₀ env.locals { s with heap := h, toks := tk } I (itR (a + ((i + 1 : Nat) : Int)) ((n : Int) - ((i + 1 : Nat) : Int))) (fun m' n' => Stop (∃ c', Inv (i + 1) c' ∧ m' = M c' ∧ n' = Ld c')) Q) E { s with heap := h, toks := tk })
    (done : ∀ c h tk, Inv n c → Fr h₀ env.locals h (M c) → News h₀ env.locals h (Ld c) → Q .next { s with heap := h, toks := tk }) :
    ∀ k i c, i + k = n → Inv i c → RangeRest prog w A E h₀ env x body Q s I a n k i (M c) (Ld c) := by
  intro k
  induction k with
  | zero => intro i c e hc; exact RangeRest.zero fun h tk F N => done c h tk (by rw [← e]; exact hc) F N
  | succ k ih =>
    intro i c e hc
    refine RangeRest.succ fun t h tk F N => ?_
    refine wpAny_mono (turn i c t h tk (by omega) hc F N) (fun f s₂ p => ?_) fun _ _ e => e
    have conv : ∀ s₂, UnrEnd h₀ env.locals { s with heap := h, toks := tk } I (itR (a + ((i + 1 : Nat) : Int)) ((n : Int) - ((i + 1 : Nat) : Int))) (fun m' n' => Stop (∃ c', Inv (i + 1) c' ∧ m' = M c' ∧ n' = Ld c')) s₂ →
        UnrEnd h₀ env.locals { s with heap := h, toks := tk } I (itR (a + ((i + 1 : Nat) : Int)) ((n : Int) - ((i + 1 : Nat) : Int))) (RangeRest prog w A E h₀ env x body Q s I a n k (i + 1)) s₂ := by
      intro s₂ ob19
      refine Mine.exand4_5 ob19 fun h' tk' m' n' e' F' N' off ob29 => ?_
      refine Mine.exand1_3 ob29 fun c' hc' ob39 ob49 => ?_
      subst ob39
      subst ob49
      try clear ob29
      try clear ob19
      exact ⟨h', tk', _, _, e', F', N', off, ih (i + 1) c' (by omega) hc'⟩
    cases f with
    | ret v => exact p
    | brk => exact p
    | next => exact conv _ p
    | cont => exact conv _ p
end
example {prog : Program} {w : World} {A : Around} {env : Env} {Q : Flow → Shared → Prop} {E : Value → Shared → Prop} {s : Shared} (h : Q .next s) : wpAny (model prog w) A (execs [] env) Q E s := by
  w_top off
  walk1
  exact h
section
def filled (ns : List Int) (first : Nat) (sp : List Int) : List Int := (ns.drop first ++ sp.drop (ns.drop first).length).take sp.length

theorem fl_len {ns sp : List Int} (h1 : ns.length ≤ 63) (h2 : sp.length ≤ 10) (i j : Nat) : (ns.drop i ++ sp.drop j).length ≤ 100 := by
  rw [List.length_append, List.length_drop, List.length_drop]; omega
theorem sl_sz {vs : List Value} {ns : List Int} (h : IntsAre vs ns) (hl : ns.length ≤ 100) : vs.toArray.size ≤ sizeLine := kmk_sz h (Nat.le_trans hl (by decide))
local macro_rules | `(tactic| walk_at "subscriptTail Name Slice ref ref") => `(tactic| (k_here; k_dflt (k_extra "Ksl"); intro D' ws' h' F' N' l1 hI' hC' hL'; (try simp only [Int.toNat_natCast] at hI' hC' hL'); (try k_lt l1); (try k_sweep)))

theorem fill {w p loose mean mg mb} (ns : List Int) (svs : List Value) (hI : IntsAre svs ns) (hlen : ns.length ≤ 63) (first : Nat) (hf : first ≤ 10) (tf : Tok) (sl pl : Addr) (pvs : List Value) (sp : List Int) (hsp : IntsAre pvs sp) (hspl : sp.length ≤ 10) (kp : Nat)
    (dp un : Nat) (gd : Option (List Code)) (cn : Str) (cs : Scope) (aa : Addr) (ccd : Value) (cl : List (Str × Addr)) (outer : List Env) (A₀ : Around) (base h₀ : Heap) (L : Addr) (m : Str → Option Value) (news : List (Addr × Obj)) (s : Shared)
    (Q E : Value → Shared → Prop) (X : (hd.heap_1 w.params).In h₀)
    (B : Below A₀ base outer h₀) (F : Fr h₀ L s.heap m)  (N : News h₀ L s.heap news) (hS : base.IsList sl svs.toArray) (hP : (pl, listOf pvs.toArray kp) ∈ news) (Tp : Top p loose mean mg mb h₀) (hk : cs.kind = .function) (hdp : dp + 4 < recursionLimit) (hu : un + 40 < cLine)
    (ret : ∀ D us k h' tk', IntsAre us (filled ns first sp) → AllLt D news → Fr h₀ L h' m → News h₀ L h' ((D, listOf us.toArray k) :: news) → Q (.ref D) { s with heap := h', toks := tk' }) :
    wpAny (model PySem.Challenge.rw_ph0128_01.row.prog w) (ktrTop dp un gd cn cs L aa ccd cl outer) (call (.ref 112) [.ref sl, .int first tf, .ref pl]) Q E s := by
  revert X
  k_fill
  intro X
  have hMk := kstMark
  have N0 := newsCons N hP
  clear N
  k_with_none
  k_with "binaryOp Add int int" => (refine add_N ?_)
  k_with "binaryOp Sub int int" => (refine sub_N ?_)
  k_with "inplaceOp Add int int" => (refine iadd_N ?_)
  k_with "inplaceOp Sub int int" => (refine isub_N ?_)
  k_with "binaryOp BitOr int int" => (refine or_N ?_)
  k_with "unaryOp USub int" => (refine neg_N ?_)
  k_with "storeName" => (k_here; k_dflt (refine' storeX_N ?F ?N ?eg ?ed ?eo ?_ ?a ?b; (case F => k_asm); (case N => k_asm); (case a => rfl); (case b => rfl); (case eg => first | (dsimp only; done) | exact rfl); (case ed => first | (dsimp only; done) | exact rfl); (case eo => first | (dsimp only; done) | exact rfl); k_whole; intro _ _ _; (try k_sweep)))
  k_with "MineLt" => (first | with_reducible assumption | ((with_reducible rename _ ∧ _ => hC9); first | exact hC9.1 | exact hC9.2.1 | exact hC9.2.2.1 | exact hC9.2.2.2.1 | exact hC9.2.2.2.2.1 | exact hC9.2.2.2.2.2.1 | exact hC9.2.2.2.2.2.2.1 | exact hC9.2.2.2.2.2.2.2.1 | exact hC9.2.2.2.2.2.2.2.2.1 | exact hC9.2.2.2.2.2.2.2.2.2.1 | exact hC9.2.2.2.2.2.2.2.2.2.2.1 | exact hC9.2.2.2.2.2.2.2.2.2.2.2.1 | exact hC9.2.2.2.2.2.2.2.2.2.2.2.2.1 | exact hC9.2.2.2.2.2.2.2.2.2.2.2.2.2.1) | exact And.left (by with_reducible assumption) | exact Nat.lt_succ_self _)
  k_with "binaryOp LShift int int" => (refine' lshift_N ?hn ?hz ?_; (case hn => k_extra "nn"); (case hz => k_extra "shl"); (try k_extra "tidy"))
  k_with "inplaceOp LShift int int" => (refine' ilshift_N ?hn ?hz ?_; (case hn => k_extra "nn"); (case hz => k_extra "shl"); (try k_extra "tidy"))
  k_with "binaryOp RShift int int" => (refine' rshift_N ?hn ?_; (case hn => k_extra "nn"); (try k_extra "tidy"))
  k_with "inplaceOp RShift int int" => (refine' irshift_N ?hn ?_; (case hn => k_extra "nn"); (try k_extra "tidy"))
  k_with "binaryOp BitAnd int int" => (refine and_N ?_; (try k_extra "tidy"))
  k_with "binaryOp Mult int int" => (refine' mul_N ?_ ?hm; (case hm => k_extra "mul"); (try k_extra "tidy"))
  k_with "Kdm" => (refine' divmod_N ?F ?N ?hb ?_ ?hp; (case F => k_asm); (case N => k_asm); (case hb => k_extra "div0"); (case hp => k_extra "pylong"))
  k_with "call ref" => (k_extra "my call")
  k_with "ite" => (k_extra "decide")
  k_with "binaryOp FloorDiv int int" => (refine' floordiv_N ?hb ?_ ?hp; (case hb => k_extra "div0"); (case hp => k_extra "pylong"); (try k_extra "tidy"))
  k_with "binaryOp BitXor int int" => (refine xor_N ?_; (try k_extra "tidy"))
  k_with "subscriptTail Name Constant ref int" => (k_here; (with_reducible show wpAny _ _ (subscriptTail _ _ (Value.ref _) (Value.int _ _)) _ _ _); (with_unfolding_all refine' item_litK ?k1 ?k2 ?k3 ?k4 ?_ ?k6; (case k1 => is_list); (case k2 => decide); (case k3 => decide); (case k4 => rfl); (case k6 => with_unfolding_all rfl); k_whole))
  k_with "subscriptTail Name Name ref int" => (k_here; (with_reducible show wpAny _ _ (subscriptTail _ _ (Value.ref _) (Value.int _ _)) _ _ _); (with_unfolding_all refine' item_litK ?k1 ?k2 ?k3 ?k4 ?_ ?k6; (case k1 => is_list); (case k2 => decide); (case k3 => decide); (case k4 => rfl); (case k6 => with_unfolding_all rfl); k_whole))
  k_with "subscriptTail Name BinOp ref int" => (k_here; (with_reducible show wpAny _ _ (subscriptTail _ _ (Value.ref _) (Value.int _ _)) _ _ _); (with_unfolding_all refine' item_litK ?k1 ?k2 ?k3 ?k4 ?_ ?k6; (case k1 => is_list); (case k2 => decide); (case k3 => decide); (case k4 => rfl); (case k6 => with_unfolding_all rfl); k_whole))
  k_with "UnrEnd" => k_dflt (refine' unr_close ?uF ?uN ?uP ?uO ?_; (case uF => assumption); (case uN => assumption); (case uP => first | exact Pull.head | exact Pull.tail Pull.head | exact Pull.tail (Pull.tail Pull.head) | exact Pull.tail (Pull.tail (Pull.tail Pull.head)) | exact Pull.tail (Pull.tail (Pull.tail (Pull.tail Pull.head)))); (case uO => k_all); k_whole)
  k_with "pyIter ref" => k_dflt (k_extra "iter")
  k_with "Ksl" => (refine' kmk_slice_ints ?F ?N ?l ?p ?q ?i ?m ?c ?_ ?s ?t ?z; (case F => assumption); (case N => assumption); (case l => k_extra "sl list"); (case p => kmk_part); (case q => kmk_part); (case i => assumption); (case m => k_extra "sl pick"); (case c => exact rfl); (case s => with_unfolding_all rfl); (case t => kmk_pure); (case z => refine sl_sz (by assumption) ?_; k_extra "sl len"))
  k_with "decide" => fail
  k_with "sl list" => first | exact News.isList (by assumption) (by k_mem) | exact Fr.lst (by assumption) (by assumption)
  k_with "sl len" => first | exact Nat.le_trans hlen (by decide) | exact Nat.le_trans hspl (by decide) | exact fl_len hlen hspl _ _
  k_with "sl pick" => first | exact kmk_from (by assumption) (by omega) | exact kmk_upto (by assumption) (by omega)
  refine wpAny_call ?_
  k_dflt ktr_enter
  (try refine tok_any fun tk9 => ?_)
  (rename Fr _ _ _ _ => F1)
  replace F1 := fr_as (m' := fun y => List.lookup y [(Str.ofString "spare", .ref pl), (Str.ofString "first", .int first tf), (Str.ofString "script", .ref sl)]) F1 rfl
  have hS1 : Heap.IsList _ sl svs.toArray := isList_stays (Below.stays (by assumption)) hS
  k_steps
  exact ret _ _ _ _ _ (show IntsAre _ (List.take _ _) by assumption) (And.right (And.right (And.right (And.right (And.right (by assumption)))))) (by assumption) (newsSub (by assumption) (fun p hp => by rcases List.mem_cons.mp hp with rfl | hp; exact .head _; exact .tail _ (.tail _ (.tail _ (.tail _ (.tail _ (.tail _ hp)))))))
end
example {prog : Program} {w : World} {A : Around} {env : Env} {Q : Flow → Shared → Prop} {E : Value → Shared → Prop} {s : Shared} (h : Q .next s) : wpAny (model prog w) A (execs [] env) Q E s := by
  w_top off
  walk1
  exact h
section
/-- what the script's spelling reckons: the least number so far, and a place's block -/
def mnF (W b : Int) : Int := if W * (b - if 0 < b then 1 else -1) < 0 then W * (b - if 0 < b then 1 else -1) else 0
def lowF (Ws Bs : List Int) : Nat → Int
  | 0 => 0
  | i + 1 => lowF Ws Bs i + mnF (Ws.getD i 0) (Bs.getD i 0)
def blkF (x : Int) (Ws Bs : List Int) (i : Nat) : Int :=
  if 0 < Ws.getD (i + 1) 0 then (x - lowF Ws Bs (i + 1)).fdiv (if Ws.getD (i + 1) 0 < 0 then -Ws.getD (i + 1) 0 else Ws.getD (i + 1) 0)
  else -(x - lowF Ws Bs (i + 1)).fdiv (if Ws.getD (i + 1) 0 < 0 then -Ws.getD (i + 1) 0 else Ws.getD (i + 1) 0)

set_option genInjectivity false in
set_option genSizeOf false in
structure BlS where
  lo : Int
  tlo : Tok
  us : List Value
  ku : Nat
  ub : Option Value
  up : Option Value
def BlInv (x : Int) (Ws Bs : List Int) (i : Nat) (c : BlS) : Prop := c.lo = lowF Ws Bs i ∧ IntsAre c.us (x :: (List.range i).map (blkF x Ws Bs))

theorem bl_end {x : Int} {Ws Bs : List Int} {i : Nat} {lo : Int} {us : List Value} {lo' v : Int} {tlo tv : Tok} {B P : Value} {l' : Addr} {o1 o2 o3 : Option Value} {k : Nat} {m0 : Str → Option Value} {rest : List (Addr × Obj)} (hlo : lo = lowF Ws Bs i) (hus : IntsAre us (x :: (List.range i).map (blkF x Ws Bs))) (e1 : lo' = lo + mnF (Ws.getD i 0) (Bs.getD i 0)) (e2 : v = blkF x Ws Bs i) :
    Stop (∃ c', BlInv x Ws Bs (i + 1) c' ∧ (fun y => if y = Str.ofString "block" then some B else if y = Str.ofString "least" then some (.int lo' tlo) else if y = Str.ofString "place" then some P else if y = Str.ofString "least" then o1 else if y = Str.ofString "block" then o2 else if y = Str.ofString "place" then o3 else m0 y)
      = (fun y => if y = Str.ofString "least" then some (.int c'.lo c'.tlo) else if y = Str.ofString "block" then c'.ub else if y = Str.ofString "place" then c'.up else m0 y)
      ∧ (l', listOf (us.toArray.push (.int v tv)) k) :: rest = (l', listOf c'.us.toArray c'.ku) :: rest) := by
  refine ⟨⟨lo', tlo, us ++ [.int v tv], k, some B, some P⟩, ⟨?_, ?_⟩, funext fun y => ?_, ?_⟩
  · show lo' = _
    rw [e1, hlo]; rfl
  · rw [List.range_succ, List.map_append, ← List.cons_append, e2]
    exact IntsAre.append hus (.cons _ _ .nil)
  · by_cases h1 : y = Str.ofString "least"
    · subst h1; exact rfl
    by_cases h2 : y = Str.ofString "block"
    · subst h2; exact rfl
    by_cases h3 : y = Str.ofString "place"
    · subst h3; exact rfl
    simp only [h1, h2, h3, if_false]
  · simp

theorem blocks {w p loose mean mg mb} (x b0 b1 b2 w1 w2 w3 : Int) (tx t0 t1 t2 v0 v1 v2 v3 : Tok) (bl wl : Addr) (kb kw : Nat) 
    (hb0 : intBits b0 ≤ 4194304) (hb1 : intBits b1 ≤ 4194304) (hb2 : intBits b2 ≤ 4194304) (hw1 : intBits w1 ≤ 4194304) (hw2 : intBits w2 ≤ 4194304) (hw3 : intBits w3 ≤ 4194304) (hz1 : w1 ≠ 0) (hz2 : w2 ≠ 0) (hz3 : w3 ≠ 0) :
    Gives w p loose mean mg mb 147 [.int x tx, .ref bl, .ref wl] 110 100 (fun news => (bl, lst3 b0 t0 b1 t1 b2 t2 kb) ∈ news ∧ (wl, lst4 1 v0 w1 v1 w2 v2 w3 v3 kw) ∈ news)
      (fun news v new => ∃ D us k, v = .ref D ∧ new = [(D, listOf (List.toArray us) k)] ∧ IntsAre us [x, blkF x [1, w1, w2, w3] [b0, b1, b2] 0, blkF x [1, w1, w2, w3] [b0, b1, b2] 1, blkF x [1, w1, w2, w3] [b0, b1, b2] 2] ∧ AllLt D news) := by
  unfold Gives
  k_fill
  intro dp un gd cn cs aa ccd cl outer A₀ base h₀ L m news s Q E B F X N hP Tp NS C1 C2 hk hdp hu hret
  refine Mine.exand0_2 hP fun hP1 hP2 => ?_
  try clear hP
  have hMk := kstMark
  have hWb : ∀ j, intBits ([1, w1, w2, w3].getD j 0) ≤ 4194304 := by
    intro j
    rcases j with _ | _ | _ | _ | j
    · show intBits 1 ≤ 4194304; decide
    · exact hw1
    · exact hw2
    · exact hw3
    · show intBits 0 ≤ 4194304; decide
  have hBb : ∀ j, intBits ([b0, b1, b2].getD j 0) ≤ 4194304 := by
    intro j
    rcases j with _ | _ | _ | j
    · exact hb0
    · exact hb1
    · exact hb2
    · show intBits 0 ≤ 4194304; decide
  have hWz : ∀ j, 1 ≤ j → j ≤ 3 → [1, w1, w2, w3].getD j 0 ≠ 0 := by
    intro j h1 h2
    rcases j with _ | _ | _ | _ | j
    · omega
    · exact hz1
    · exact hz2
    · exact hz3
    · omega
  have N0 := newsCons (newsCons N hP2) (.tail _ hP1)
  clear N
  k_with_none
  k_with "binaryOp Add int int" => (refine add_N ?_)
  k_with "binaryOp Sub int int" => (refine sub_N ?_)
  k_with "inplaceOp Add int int" => (refine iadd_N ?_)
  k_with "inplaceOp Sub int int" => (refine isub_N ?_)
  k_with "binaryOp BitOr int int" => (refine or_N ?_)
  k_with "unaryOp USub int" => (refine neg_N ?_)
  k_with "storeName" => (k_here; k_dflt (refine' storeX_N ?F ?N ?eg ?ed ?eo ?_ ?a ?b; (case F => k_asm); (case N => k_asm); (case a => rfl); (case b => rfl); (case eg => first | (dsimp only; done) | exact rfl); (case ed => first | (dsimp only; done) | exact rfl); (case eo => first | (dsimp only; done) | exact rfl); k_whole; intro _ _ _; (try k_sweep)))
  k_with "MineLt" => (first | with_reducible assumption | ((with_reducible rename _ ∧ _ => hC9); first | exact hC9.1 | exact hC9.2.1 | exact hC9.2.2.1 | exact hC9.2.2.2.1 | exact hC9.2.2.2.2.1 | exact hC9.2.2.2.2.2.1 | exact hC9.2.2.2.2.2.2.1 | exact hC9.2.2.2.2.2.2.2.1 | exact hC9.2.2.2.2.2.2.2.2.1 | exact hC9.2.2.2.2.2.2.2.2.2.1 | exact hC9.2.2.2.2.2.2.2.2.2.2.1 | exact hC9.2.2.2.2.2.2.2.2.2.2.2.1 | exact hC9.2.2.2.2.2.2.2.2.2.2.2.2.1 | exact hC9.2.2.2.2.2.2.2.2.2.2.2.2.2.1) | exact And.left (by with_reducible assumption) | exact Nat.lt_succ_self _)
  k_with "binaryOp LShift int int" => (refine' lshift_N ?hn ?hz ?_; (case hn => k_extra "nn"); (case hz => k_extra "shl"); (try k_extra "tidy"))
  k_with "inplaceOp LShift int int" => (refine' ilshift_N ?hn ?hz ?_; (case hn => k_extra "nn"); (case hz => k_extra "shl"); (try k_extra "tidy"))
  k_with "binaryOp RShift int int" => (refine' rshift_N ?hn ?_; (case hn => k_extra "nn"); (try k_extra "tidy"))
  k_with "inplaceOp RShift int int" => (refine' irshift_N ?hn ?_; (case hn => k_extra "nn"); (try k_extra "tidy"))
  k_with "binaryOp BitAnd int int" => (refine and_N ?_; (try k_extra "tidy"))
  k_with "binaryOp Mult int int" => (refine' mul_N ?_ ?hm; (case hm => k_extra "mul"); (try k_extra "tidy"))
  k_with "Kdm" => (refine' divmod_N ?F ?N ?hb ?_ ?hp; (case F => k_asm); (case N => k_asm); (case hb => k_extra "div0"); (case hp => k_extra "pylong"))
  k_with "call ref" => (k_extra "my call")
  k_with "ite" => (k_extra "decide")
  k_with "binaryOp FloorDiv int int" => (refine' floordiv_N ?hb ?_ ?hp; (case hb => k_extra "div0"); (case hp => k_extra "pylong"); (try k_extra "tidy"))
  k_with "binaryOp BitXor int int" => (refine xor_N ?_; (try k_extra "tidy"))
  k_with "subscriptTail Name Constant ref int" => (k_here; (with_reducible show wpAny _ _ (subscriptTail _ _ (Value.ref _) (Value.int _ _)) _ _ _); (with_unfolding_all refine' item_litK ?k1 ?k2 ?k3 ?k4 ?_ ?k6; (case k1 => is_list); (case k2 => decide); (case k3 => decide); (case k4 => rfl); (case k6 => with_unfolding_all rfl); k_whole))
  k_with "subscriptTail Name Name ref int" => (k_here; (with_reducible show wpAny _ _ (subscriptTail _ _ (Value.ref _) (Value.int _ _)) _ _ _); (with_unfolding_all refine' item_litK ?k1 ?k2 ?k3 ?k4 ?_ ?k6; (case k1 => is_list); (case k2 => decide); (case k3 => decide); (case k4 => rfl); (case k6 => with_unfolding_all rfl); k_whole))
  k_with "subscriptTail Name BinOp ref int" => (k_here; (with_reducible show wpAny _ _ (subscriptTail _ _ (Value.ref _) (Value.int _ _)) _ _ _); (with_unfolding_all refine' item_litK ?k1 ?k2 ?k3 ?k4 ?_ ?k6; (case k1 => is_list); (case k2 => decide); (case k3 => decide); (case k4 => rfl); (case k6 => with_unfolding_all rfl); k_whole))
  k_with "UnrEnd" => k_dflt (refine' unr_close ?uF ?uN ?uP ?uO ?_; (case uF => assumption); (case uN => assumption); (case uP => first | exact Pull.head | exact Pull.tail Pull.head | exact Pull.tail (Pull.tail Pull.head) | exact Pull.tail (Pull.tail (Pull.tail Pull.head)) | exact Pull.tail (Pull.tail (Pull.tail (Pull.tail Pull.head)))); (case uO => k_all); k_whole)
  k_with "pyIter ref" => k_dflt (k_extra "iter")
  k_with "decide" => fail
  k_with "pylong" => exact Or.inr (PySem.PylongRoom.of (PySem.Heap.NoLimit.keeps (Top.nolimit (by assumption)) (Fr.keep (by assumption))) (by simp only [Builtin.pylongFrames]; ktr_room) (PySem.SeerAt.of (PySem.Heap.NoSeer.keeps (PySem.Heap.NoSeer.keeps NS (Below.stays (by assumption))) (Fr.keep (by assumption))) rfl rfl rfl rfl rfl rfl))
  k_with "iter" => refine stop_intro ?_
  refine wpAny_call ?_
  k_dflt ktr_enter
  (try refine tok_any fun tk9 => ?_)
  (rename Fr _ _ _ _ => F1)
  replace F1 := fr_as (m' := fun y => List.lookup y [(Str.ofString "worths", .ref wl), (Str.ofString "bases", .ref bl), (Str.ofString "number", .int x tx)]) F1 rfl
  k_steps
  rename_i l' hh2 l1q hh1 F' N' hh tkq t1q u1q v1q hR F2 N2 hkeep
  unfold Stop
  clear F' N'
  obtain ⟨tlo, F3⟩ : ∃ tlo, Fr _ _ hh (fun y => if y = Str.ofString "least" then some (.int 0 tlo) else if y = Str.ofString "block" then none else if y = Str.ofString "place" then none else if y = Str.ofString "told" then some (.ref l') else List.lookup y [(Str.ofString "worths", .ref wl), (Str.ofString "bases", .ref bl), (Str.ofString "number", .int x tx)]) := by
    refine' ⟨_, fr_as F2 (funext fun y => ?e)⟩
    case e =>
      by_cases h1 : y = Str.ofString "least"
      · subst h1; exact rfl
      by_cases h2 : y = Str.ofString "block"
      · subst h2; exact rfl
      by_cases h3 : y = Str.ofString "place"
      · subst h3; exact rfl
      simp only [h1, h2, h3, if_false]
  clear F2
  refine iter_rangeUnr (n := 3) rfl hR (by decide) (by decide) F3 N2 ?_
  intro I lI
  k_lt lI
  refine rangeRest_ind (BlInv x [1, w1, w2, w3] [b0, b1, b2]) (fun c y => if y = Str.ofString "least" then some (.int c.lo c.tlo) else if y = Str.ofString "block" then c.ub else if y = Str.ofString "place" then c.up else if y = Str.ofString "told" then some (.ref l') else List.lookup y [(Str.ofString "worths", .ref wl), (Str.ofString "bases", .ref bl), (Str.ofString "number", .int x tx)])
    (fun c => (l', listOf c.us.toArray c.ku) :: (bl, lst3 b0 t0 b1 t1 b2 t2 kb) :: (wl, lst4 1 v0 w1 v1 w2 v2 w3 v3 kw) :: news) ?turn ?done 3 0 ⟨0, tlo, [.int x tx], 0, none, none⟩ rfl ?inv
  case inv => exact ⟨rfl, .cons _ _ .nil⟩
  case turn =>
    intro i c t h tk hi hinv Fx Nx
    first | (refine' turn_N ?eg ?ed ?eo ?_; (case eg => first | (dsimp only; done) | exact rfl); (case ed => first | (dsimp only; done) | exact rfl); (case eo => first | (dsimp only; done) | exact rfl)) | refine post_let ?_
    intro qT
    obtain ⟨lo, tl0, us, ku, ub, up⟩ := c
    try clear c
    refine Mine.exand0_2 hinv fun hlo hus => ?_
    try clear hinv
    dsimp only at *
    have hi0 : 0 + (i : Int) < 3 := by omega
    have hul : us.length = i + 1 := by rw [hus.length]; simp
    have hI1 : (0 + (i : Int)).toNat = i := by omega
    have hI2 : (0 + (i : Int) + 1).toNat = i + 1 := by omega
    k_with "mul" => first
      | exact IntMulOk.of_le (hWb _) (intBits_sub_le (hBb _) (show intBits 1 ≤ 1 by decide)) (by decide)
      | exact IntMulOk.of_le (hWb _) (intBits_sub_le (hBb _) (show intBits (-1) ≤ 1 by decide)) (by decide)
    k_with "div0" => (have hz9 := hWz (0 + (i : Int) + 1).toNat (by omega) (by omega); split <;> omega)
    k_steps
    all_goals (
      (simp only [hI1, hI2] at *)
      refine bl_end hlo hus ?_ ?_ <;> simp only [blkF, lowF, mnF, *, if_true, if_false])
  case done =>
    intro c h tk hinv Fx Nx
    obtain ⟨lo, tl0, us, ku, ub, up⟩ := c
    try clear c
    refine Mine.exand0_2 hinv fun hlo hus => ?_
    try clear hinv
    dsimp only at *
    k_steps
    exact hret _ _ _ _ ⟨_, us, _, rfl, rfl, hus, l1q.2.2⟩ (by assumption) (newsSub (by assumption) (fun p hp => by rcases List.mem_cons.mp hp with rfl | hp; exact .head _; exact .tail _ (.tail _ (.tail _ hp))))
end
example {prog : Program} {w : World} {A : Around} {env : Env} {Q : Flow → Shared → Prop} {E : Value → Shared → Prop} {s : Shared} (h : Q .next s) : wpAny (model prog w) A (execs [] env) Q E s := by
  w_top off
  walk1
  exact h
section
section
open PySem.Calls PySem.Spec
variable {prog : Program} {w : World} {A : Around} {E : Value → Shared → Prop} {s : Shared} {env : Env} {X N I : String}
theorem call_made {n i : String} (Fx : ExcCallFacts X n i) {rest : List Value} {Q : Value → Shared → Prop}
    (h : ∀ h' e, Heap.MadeExc s.heap h' e X rest → Q (.ref e) { s with heap := h' }) (hrest : rest.length ≤ sizeLine := by size_fits) :
    wpAny (model prog w) A (call (.type X) rest) Q E s := by
  refine wpAny_call (codeAny_of_tree ?_)
  show wpAny _ _ (callAny (.type X) ⟨rest, []⟩) _ _ s
  simp only [callAny]
  refine wpAny_pure ⟨Code.quiet_builtin _ (by decide +kernel), codeAny_builtin entry_type_call ?_⟩
  rw [Around.under_plain (weight_type_call X _ _) (by first | rfl | kernel_rfl | decide +kernel)]
  exact wpAny_type_call_exc Fx (fun h' e hx => h h' e hx) hrest

theorem Raise_classM {n i : String} (Fx : ExcCallFacts X n i) {x : Str} {np pos : Pos} {Q : Flow → Shared → Prop} (hh : A.handled = none) (hc : ExcClass X N I)
    (hself : isSubtype (.type X) (.type X) = pure true)
    (hx : wpAny (model prog w) A (eval (.Name x np) env) (fun v s₁ => v = .type X ∧ s₁ = s) E s)
    (h : ∀ h' e, Heap.MadeExc s.heap h' e X [] → E (.ref e) { s with heap := h' }) :
    wpAny (model prog w) A (exec (.Raise (some (.Name x np)) none pos) env) Q E s := by
  show wpAny (model prog w) A (do standAt pos; raiseStmt env (some (do let v ← eval (.Name x np) env; standAt pos; pure v)) none) Q E s
  refine wpAny_bind (wpAny_standAt ?_)
  unfold raiseStmt
  dsimp only
  refine wpAny_bind (wpAny_bind (wpAny_mono hx (fun v s₁ h₁ => wpAny_bind (wpAny_standAt (wpAny_pure ?_))) fun _ _ e => e))
  refine Mine.exand0_2 h₁ fun ob19 hs₁ => ?_
  subst ob19
  try clear h₁
  subst s₁
  refine wpAny_bind (wpAny_pure ?_)
  dsimp only
  refine wpAny_bind (wpAny_holding ?_)
  unfold excFromValue isExcClass
  refine wpAny_bind (wpAny_bind (wpAny_pure ?_))
  simp only [if_true]
  rw [hc.base]
  refine wpAny_pure ?_
  simp only [if_true]
  refine wpAny_bind (call_made Fx fun h' e hm => ?_)
  have hn := hm.newExc
  refine Mine.exand2_3 hn.there fun ob t he hcls hd => ?_
  have hT : ({ s with heap := h' } : Shared).TypeIs (.ref e) X := ⟨ob, he, hcls⟩
  refine wpAny_bind (wpAny_isInstance hT hc.base ?_)
  simp only [Bool.not_true, Bool.false_eq_true, if_false]
  refine wpAny_pure ?_
  first | (refine wpAny_bind (m := isType (.type X)) (wpAny_pure ?_)) | (refine wpAny_bind (wpAny_pure ?_))
  first | (rw [if_pos rfl]) | (simp only [if_true]) | dsimp only
  refine wpAny_bind (wpAny_holding ?_)
  unfold raisedFor
  first | (simp only [Bool.false_eq_true, if_false]) | (rw [if_neg (by decide)]) | skip
  first | (refine wpAny_bind (wpAny_typeOf hT ?_)) | (refine wpAny_bind ?_; refine wpAny_bind (wpAny_typeOf hT ?_))
  refine wpAny_bind (call_issubclass (issubclass_self hc hself) ?_)
  first | (refine wpAny_bind (wpAny_truthy_bool ?_)) | (refine wpAny_truthy_bool ?_) | (dsimp only [wants]; first | (refine wpAny_bind (wpAny_truthy_bool ?_)) | (refine wpAny_truthy_bool ?_))
  first | (rw [if_pos rfl]) | (simp only [if_true]) | skip
  refine wpAny_pure ?_
  unfold setFlight raiseNew
  refine wpAny_bind (wpAny_bind (wpAny_field (i := 1) (x := Value.none) he hd rfl ?_))
  rw [if_neg (by decide)]
  refine wpAny_pure (wpAny_bind (wpAny_handled ?_))
  rw [hh]
  first
    | exact wpAny_throw (h h' e hm)
    | exact wpAny_bind (wpAny_pure (wpAny_throw (h h' e hm)))
end

section
open PySem.Calls
variable {prog : Program} {w : World} {A₀ A : Around} {s : Shared} {base h₀ g₀ : Heap} {env : Env} {L : Addr} {m : Str → Option Value} {news : List (Addr × Obj)} {K : Frag} {p : Program} {loose : List Str} {mean : ExcName → Option Value} {mg mb : Str → Option Value}
    {R : Result → Shared → Prop} {name qual : Str} {params : Arguments} {body : List Stmt} {scope : Scope} {dV kV doc pm cdv ct oc : Value} {an od : Option Addr} {osl : Array (Option Value)} {f : Addr} {args : Args} {binds : List (Str × Value)}
theorem code_defSX (B : Below A₀ base [] h₀) (F : Fr h₀ L s.heap m) (X₀ : K.In h₀) (N : News h₀ L s.heap news) (T : Top p loose mean mg mb h₀) (hA : A.frames = some [env]) (hf : env.frame = some L) (hke : env.scope.kind = .function)
    (ho : K.lookup f = some ⟨oc, od, .func (fnOf name qual params body scope dV kV doc pm an cdv ct), osl⟩) (hcd : codeIn K cdv qual = true) (hroom : A.depth < recursionLimit)
    (hbind : BindsTo s (fnOf name qual params body scope dV kV doc pm an cdv ct) args binds) (hloc : ∀ y ∈ binds, scope.names.lookup y.1 = some .local)
    (h : ∀ g L' h₁, Fr h₀ L g m → Fr g L' h₁ (fun y => binds.reverse.lookup y) → News g L' h₁ news → Below A base [env] g → K.In g → Top p loose mean mg mb g → KtsDicts ([env].filterMap (·.frame)) g →
      wpAny (model prog w) (A.deeper (envOf qual scope L' f cdv)) (execs body (envOf qual scope L' f cdv))
        (fun fl s' => LeaveS0 ([env].filterMap (·.frame)) h₀ L m g R (match fl with | .ret v => v | _ => .none) s')
        (fun e s' => wpAny (model prog w) (A.deeper (envOf qual scope L' f cdv)) (leaving (envOf qual scope L' f cdv) e) (fun _ s'' => R (.error e) s'') (fun e' s'' => R (.error e') s'') s')
        { s with heap := h₁, toks := s.toks + binds.length })
    (hco : scope.isCoroutine = false) (hgen : scope.isGenerator = false) (hk : scope.kind = .function)
    (hcell : ∀ x ∈ scope.names, x.2 ≠ .cell) : codeAny (model prog w) A (.call (.ref f) args) R s := by
  have X := X₀.keeps F.keep
  refine Mine.exand0_4 (groundX (R := R) B F N hA hf hke) fun FG BG st lv => ?_
  have hfm : [env].filterMap (·.frame) = [L] := by simp [hf]
  refine codeAny_call_def (fd := fnOf name qual params body scope dV kV doc pm an cdv ct) (body := body) (binds := binds) hroom (X _ _ ho) rfl (T.nolimit.keeps F.keep) (codeRec_of X hcd) rfl hbind hcell hloc (fun h₁ hns hk₁ => ?_) hco hgen hk
  refine Mine.exand3_4 FG.ns fun oL es ep hLg hLd hLk hLf => ?_
  refine wpAny_mono (h _ s.heap.objs.size h₁ FG ⟨hns, fun b o e => hk₁ b o (of_hideAll _ e), Nat.le_of_eq (hideAll_size _ _)⟩
    (fun p hp => ⟨hk₁ _ _ (N p hp).1, Nat.ne_of_lt (Heap.lt_size (N p hp).1), hideAll_none _ (List.mem_map_of_mem hp)⟩) BG (X₀.keeps st) (T.keeps st) (fun b hb => by
      rw [hfm] at hb
      obtain rfl := List.mem_singleton.mp hb
      exact ⟨oL, es, ep, hLg, hLd⟩)) (fun fl s' hl => ?_) fun _ _ y => y
  refine Mine.exand4_4 hl fun g' L' m' news' T' F' N' k => ?_
  try clear hl
  have nL₀ : h₀.get? L = none := kts_self F
  refine Mine.exand1_1 (T'.up hLg) fun sl hs => ?_
  refine k ⟨⟨_, es, ep, F'.keep _ _ hs, hLd, hLk, hLf⟩, fun b o e => F'.keep b o (T'.other b o (st b o e) (fun q => by
    rw [hfm] at q
    obtain rfl := List.mem_singleton.mp q
    rw [nL₀] at e
    cases e)), F.above⟩ fun p hp => ⟨(N' p hp).1, fun q => ?_, ?_⟩
  · have := (N' p hp).2.2; rw [q, hs] at this; cases this
  · cases q : h₀.get? p.1 with
    | none => rfl
    | some o =>
      refine Mine.exand1_1 (T'.up (st _ _ q)) fun sl' hs' => ?_
      have := (N' p hp).2.2
      rw [hs'] at this
      cases this
end
end
example {prog : Program} {w : World} {A : Around} {env : Env} {Q : Flow → Shared → Prop} {E : Value → Shared → Prop} {s : Shared} (h : Q .next s) : wpAny (model prog w) A (execs [] env) Q E s := by
  w_top off
  walk1
  exact h
section
local macro_rules | `(tactic| walk_at "exec Raise some none") => `(tactic| (k_here; k_dflt (k_extra "Krz"); intro hM9 eM9 M9))

theorem divided {w p loose mean mg mb} (n0 n1 n2 n3 b0 b1 b2 : Int) (u0 u1 u2 u3 t0 t1 t2 : Tok) (tl bl : Addr) (kt kb : Nat) (hz0 : b0 ≠ 0) (h0 : intBits n0 ≤ 4194304) (h1 : intBits n1 ≤ 4194304) (hb0 : intBits b0 ≤ 4194304) (hDM : DM n0 b0 n1 (n0 - b0 * n1))
    (dp un : Nat) (gd : Option (List Code)) (cn : Str) (cs : Scope) (aa : Addr) (ccd : Value) (cl : List (Str × Addr)) (A₀ : Around) (base h₀ : Heap) (L : Addr) (m : Str → Option Value) (news : List (Addr × Obj)) (s : Shared)
    (Q E : Value → Shared → Prop) (XB : (hd.heap_1 w.params).In base) (X : (hd.heap_1 w.params).In h₀)
    (B : Below A₀ base [] h₀) (F : Fr h₀ L s.heap m) (N : News h₀ L s.heap news) (hP1 : (tl, lst4 n0 u0 n1 u1 n2 u2 n3 u3 kt) ∈ news) (hP2 : (bl, lst3 b0 t0 b1 t1 b2 t2 kb) ∈ news) (hH0 : HotN news) (Tp : Top p loose mean mg mb h₀) (TB : Top p loose mean mg mb base) (C1 : CodeHd base 34 30) (C2 : CodeHd base 41 37) (hk : cs.kind = .function) (hdp : dp + 110 < recursionLimit) (hu : un + 700 < cLine)
    (hret : ∀ h' tk', Fr h₀ L h' m → News h₀ L h' news → Q (.bool true) { s with heap := h', toks := tk' }) :
    wpAny (model PySem.Challenge.rw_ph0128_01.row.prog w) (ktrTop dp un gd cn cs L aa ccd cl []) (call (.ref 182) [.ref tl, .ref bl]) Q E s := by
  revert XB X
  k_fill
  intro XB X
  have hMk := kstMark
  have N0 := newsCons (newsCons N hP2) (.tail _ hP1)
  clear N
  k_with_none
  k_with "binaryOp Add int int" => (refine add_N ?_)
  k_with "binaryOp Sub int int" => (refine sub_N ?_)
  k_with "inplaceOp Add int int" => (refine iadd_N ?_)
  k_with "inplaceOp Sub int int" => (refine isub_N ?_)
  k_with "binaryOp BitOr int int" => (refine or_N ?_)
  k_with "unaryOp USub int" => (refine neg_N ?_)
  k_with "storeName" => (k_here; k_dflt (refine' storeX_N ?F ?N ?eg ?ed ?eo ?_ ?a ?b; (case F => k_asm); (case N => k_asm); (case a => rfl); (case b => rfl); (case eg => first | (dsimp only; done) | exact rfl); (case ed => first | (dsimp only; done) | exact rfl); (case eo => first | (dsimp only; done) | exact rfl); k_whole; intro _ _ _; (try k_sweep)))
  k_with "MineLt" => (first | with_reducible assumption | ((with_reducible rename _ ∧ _ => hC9); first | exact hC9.1 | exact hC9.2.1 | exact hC9.2.2.1 | exact hC9.2.2.2.1 | exact hC9.2.2.2.2.1 | exact hC9.2.2.2.2.2.1 | exact hC9.2.2.2.2.2.2.1 | exact hC9.2.2.2.2.2.2.2.1 | exact hC9.2.2.2.2.2.2.2.2.1 | exact hC9.2.2.2.2.2.2.2.2.2.1 | exact hC9.2.2.2.2.2.2.2.2.2.2.1 | exact hC9.2.2.2.2.2.2.2.2.2.2.2.1 | exact hC9.2.2.2.2.2.2.2.2.2.2.2.2.1 | exact hC9.2.2.2.2.2.2.2.2.2.2.2.2.2.1) | exact And.left (by with_reducible assumption) | exact Nat.lt_succ_self _)
  k_with "binaryOp LShift int int" => (refine' lshift_N ?hn ?hz ?_; (case hn => k_extra "nn"); (case hz => k_extra "shl"); (try k_extra "tidy"))
  k_with "inplaceOp LShift int int" => (refine' ilshift_N ?hn ?hz ?_; (case hn => k_extra "nn"); (case hz => k_extra "shl"); (try k_extra "tidy"))
  k_with "binaryOp RShift int int" => (refine' rshift_N ?hn ?_; (case hn => k_extra "nn"); (try k_extra "tidy"))
  k_with "inplaceOp RShift int int" => (refine' irshift_N ?hn ?_; (case hn => k_extra "nn"); (try k_extra "tidy"))
  k_with "binaryOp BitAnd int int" => (refine and_N ?_; (try k_extra "tidy"))
  k_with "binaryOp Mult int int" => (refine' mul_N ?_ ?hm; (case hm => k_extra "mul"); (try k_extra "tidy"))
  k_with "Kdm" => (refine' divmod_N ?F ?N ?hb ?_ ?hp; (case F => k_asm); (case N => k_asm); (case hb => k_extra "div0"); (case hp => k_extra "pylong"))
  k_with "call ref" => (k_extra "my call")
  k_with "ite" => (k_extra "decide")
  k_with "binaryOp FloorDiv int int" => (refine' floordiv_N ?hb ?_ ?hp; (case hb => k_extra "div0"); (case hp => k_extra "pylong"); (try k_extra "tidy"))
  k_with "binaryOp BitXor int int" => (refine xor_N ?_; (try k_extra "tidy"))
  k_with "subscriptTail Name Constant ref int" => (k_here; (with_reducible show wpAny _ _ (subscriptTail _ _ (Value.ref _) (Value.int _ _)) _ _ _); (with_unfolding_all refine' item_litK ?k1 ?k2 ?k3 ?k4 ?_ ?k6; (case k1 => is_list); (case k2 => decide); (case k3 => decide); (case k4 => rfl); (case k6 => with_unfolding_all rfl); k_whole))
  k_with "subscriptTail Name Name ref int" => (k_here; (with_reducible show wpAny _ _ (subscriptTail _ _ (Value.ref _) (Value.int _ _)) _ _ _); (with_unfolding_all refine' item_litK ?k1 ?k2 ?k3 ?k4 ?_ ?k6; (case k1 => is_list); (case k2 => decide); (case k3 => decide); (case k4 => rfl); (case k6 => with_unfolding_all rfl); k_whole))
  k_with "subscriptTail Name BinOp ref int" => (k_here; (with_reducible show wpAny _ _ (subscriptTail _ _ (Value.ref _) (Value.int _ _)) _ _ _); (with_unfolding_all refine' item_litK ?k1 ?k2 ?k3 ?k4 ?_ ?k6; (case k1 => is_list); (case k2 => decide); (case k3 => decide); (case k4 => rfl); (case k6 => with_unfolding_all rfl); k_whole))
  k_with "UnrEnd" => k_dflt (refine' unr_close ?uF ?uN ?uP ?uO ?_; (case uF => assumption); (case uN => assumption); (case uP => first | exact Pull.head | exact Pull.tail Pull.head | exact Pull.tail (Pull.tail Pull.head) | exact Pull.tail (Pull.tail (Pull.tail Pull.head)) | exact Pull.tail (Pull.tail (Pull.tail (Pull.tail Pull.head)))); (case uO => k_all); k_whole)
  k_with "pyIter ref" => k_dflt (k_extra "iter")
  k_with "Krz" => ((with_reducible show wpAny _ _ (exec (Stmt.Raise (some (Expr.Name ("ZeroDivisionError" : Str) _)) none _) _) _ _ _); refine' Raise_classM PySem.F.excCall_ZeroDivisionError ?hh excClass_ZeroDivisionError ?hs ?hx ?_; (case hh => rfl); (case hs => rw [isSubtype_type]; kernel_rfl); (case hx => (refine' name_B ?k0 ?k1 ?k2 ?k3 ?k4 ?k5 ?_; (case k0 => k_asm); (case k1 => k_asm); (case k2 => k_asm); (case k3 => k_is); (case k4 => boot_by_name); (case k5 => decide); exact ⟨rfl, rfl⟩)))
  k_with "decide" => fail
  k_with "mul" => exact IntMulOk.of_le (m := 4194304) (n := 4194304) (by assumption) (by assumption) (by decide)
  k_with "hot" => (repeat (first | assumption | refine HotN.cons ?_))
  k_with "my call" =>
    first
      | ((with_reducible show wpAny _ _ (call (Value.ref 56) [_, Value.int 0 _]) _ _ _); refine wpAny_call ?_; (have hkq : ScopeKind.function = ScopeKind.function := rfl); k_dflt ktr_enter)
      | (refine' idmH ?kb ?b1 ?b2 ?k1 ?k2 ?k3 ?k4 ?kH ?k5 ?k6 ?k6b ?k7 ?k8 ?k9 ?_
         (case kb => exact hz0)
         (case k4 => k_asm)
         (case kH => k_extra "hot")
         (case k1 => k_asm)
         (case k2 => k_asm)
         (case k3 => k_asm)
         (case k5 => k_asm)
         (case k6 => k_asm)
         (case k6b => k_asm)
         (case k7 => exact rfl)
         (case k8 => ktr_room)
         (case k9 => ktr_units)
         (case b2 => assumption)
         (case b1 => assumption)
         intro x9 y9 D9 t91 t92 c9 hp9 tk9 P9 F9 N9 l9
         refine Mine.exand0_2 (dm_unique P9 hDM) fun ob19 ob29 => ?_
         subst ob19
         subst ob29
         simp only [AllLt] at l9)
  refine wpAny_call ?_
  k_dflt (refine' code_defSX ?k1 ?k2 ?k3 ?k4 ?k5 ?kA ?kF ?kK ?k6 ?k7 ?k8 ?k9 ?kB ?_ ?c2 ?c3 ?c4 ?c5; (case kA => exact rfl); (case kF => exact rfl); (case kK => assumption); (case k1 => k_asm); (case k2 => k_asm); (case k3 => exact X); (case k4 => k_asm); (case k5 => k_asm); (case k6 => k_is); (case k7 => k_is); (case k8 => ktr_room); (case k9 => exact BindsTo.of_eq rfl); (case c5 => decide); (case kB => exact locs rfl); (case c2 => exact rfl); (case c3 => exact rfl); (case c4 => exact rfl); k_whole; intro g' L' h' FG' F' N' B' X' T' D'; (try dsimp only); (try k_fold))
  (try refine tok_any fun tk9 => ?_)
  (rename Fr _ _ _ _ => F1)
  replace F1 := fr_as (m' := fun y => List.lookup y [(Str.ofString "bases", .ref bl), (Str.ofString "told", .ref tl)]) F1 rfl
  k_steps
  · rename News h₀ L _ _ => kN9

    exact hret _ _ (by assumption) (newsSub kN9 (fun p hp => by simp only [List.mem_append, List.mem_cons]; simp only [hp, or_true]))
  · rename PyData.eqv _ _ = false => hq9
    exfalso
    simp [PyData.eqv, PyData.eqvAll] at hq9
end
example {prog : Program} {w : World} {A : Around} {env : Env} {Q : Flow → Shared → Prop} {E : Value → Shared → Prop} {s : Shared} (h : Q .next s) : wpAny (model prog w) A (execs [] env) Q E s := by
  w_top off
  walk1
  exact h
section
open PySem.Calls


/-- how a turn of a loop ends -/
def TurnG (Q : Flow → Shared → Prop) (P : Shared → Prop) (f : Flow) (s₂ : Shared) : Prop :=
  match f with
  | .ret v => Q (.ret v) s₂
  | .brk => Q .next s₂
  | _ => Stop (P s₂)
/-- what stands at the end of a turn -/
def TurnE (h₀ : Heap) (L I : Addr) (oI : Obj) (s : Shared) (J : (Str → Option Value) → List (Addr × Obj) → Prop) (s₂ : Shared) : Prop :=
  ∃ h' tk gs m' news', s₂ = { s with heap := h', toks := tk, gens := gs } ∧ Fr h₀ L h' m' ∧ News h₀ L h' ((I, oI) :: news') ∧ (∀ p ∈ news', p.1 ≠ I) ∧ AllBare gs ∧ J m' news'
theorem turnE {h₀ : Heap} {L I : Addr} {oI : Obj} {s : Shared} {J : (Str → Option Value) → List (Addr × Obj) → Prop} {h' : Heap} {tk : Nat} {gs : Array GenState} {m' : Str → Option Value} {news' : List (Addr × Obj)}
    (F : Fr h₀ L h' m') (N : News h₀ L h' ((I, oI) :: news')) (off : ∀ p ∈ news', p.1 ≠ I) (G : AllBare gs) (j : J m' news') : TurnE h₀ L I oI s J { s with heap := h', toks := tk, gens := gs } :=
  ⟨h', tk, gs, m', news', rfl, F, N, off, G, j⟩

section
variable {prog : Program} {w : World} {A : Around} {s : Shared} {env : Env} {h₀ : Heap} {body : List Stmt} {Q : Flow → Shared → Prop} {E : Value → Shared → Prop}

/-- a for over a dict's items that is about to turn -/
def ItemsLoop (prog : Program) (w : World) (A : Around) (env : Env) (target : Expr) (body : List Stmt) (Q : Flow → Shared → Prop) (E : Value → Shared → Prop) (it : Value) (s₂ : Shared) : Prop :=
  codeAny (model prog w) A (.forLoop target it body [] env) (fun r s' => match r with | .ok f => Q f s' | .error e => cameBackBy (model prog w) A env E e s') s₂

theorem For_loopG {target iter : Expr} {pos : Pos} (h : wpAny (model prog w) A (eval iter env) (fun xv s₁ => wpAny (model prog w) A (pyIter xv) (ItemsLoop prog w A env target body Q E) E s₁) E s) (hs : ∀ x, foldedSetIterable iter env x = pure x) :
    wpAny (model prog w) A (exec (.For target iter body [] pos) env) Q E s := wpAny_For h hs

theorem items_loop {xi xc : Str} {pk pv pt : Pos} {x1 : Nat} {I d : Addr} {od : Obj} {kvs : List (Str × Value)} {ep : Nat} {ok ov : Value} {m : Str → Option Value} {news : List (Addr × Obj)} (hh : A.handled = none)
    (hxi : env.kindOf xi = some .local) (hxc : env.kindOf xc = some .local) (hp : (env.scope.kind == .class || (env.scope.kind == .module && env.locals != env.globals)) = false)
    (hd : KdkAt (strKind prog w) od kvs ep) (F : Fr h₀ env.locals s.heap m) (N : News h₀ env.locals s.heap news) (hI : IsItemIter s.heap I d 0 kvs.length ep ok ov) (hIn : ∀ p ∈ news, p.1 ≠ I) (hIL : env.locals < I) (hdn : (d, od) ∈ news) (G : AllBare s.gens)
    (J : Nat → (Str → Option Value) → List (Addr × Obj) → Prop) (h0 : J 0 m news)
    (turn : ∀ i k x t m₁ news₁ h tk gs oI, oI.cls = .type "dict_itemiterator" → kvs[i]? = some (k, x) → J i m₁ news₁ → (d, od) ∈ news₁ → (∀ p ∈ news₁, p.1 ≠ I) → Fr h₀ env.locals h (fun y => if y = xc then some x else if y = xi then some (.str k t) else m₁ y) → News h₀ env.locals h ((I, oI) :: news₁) → AllBare gs →
      wpAny (model prog w) A (execs body env) (TurnG Q (TurnE h₀ env.locals I oI s fun m' n' => (d, od) ∈ n' ∧ J (i + 1) m' n')) E { s with heap := h, toks := tk, gens := gs })
    (done : ∀ m' news' h tk gs, J kvs.length m' news' → Fr h₀ env.locals h m' → News h₀ env.locals h news' → AllBare gs → Q .next { s with heap := h, toks := tk, gens := gs })
    (hE : PassesOwn (model prog w) A env E := by passes_own) :
    ItemsLoop prog w A env (.Tuple [.Name xi pk, .Name xc pv] x1 pt) body Q E (.ref I) s := by
  have hI0 : ∀ h : Heap, h₀.objs.size ≤ env.locals → True := fun _ _ => trivial
  have freshI : h₀.get? I = none := Heap.get?_none_of_le (Nat.le_trans F.above (Nat.le_of_lt hIL))
  unfold ItemsLoop
  let I9 : Nat → Shared → Prop := fun k s' => ∃ i h tk gs m' news' ok ov, i ≤ kvs.length ∧ k = kvs.length + 1 - i ∧ s' = { s with heap := h, toks := tk, gens := gs } ∧ IsItemIter h I d i kvs.length ep ok ov ∧ Fr h₀ env.locals h m' ∧ News h₀ env.locals h news' ∧ (∀ p ∈ news', p.1 ≠ I) ∧ (d, od) ∈ news' ∧ AllBare gs ∧ J i m' news'
  refine codeAny_forLoop_any I9
    ?_ (kvs.length + 1) ⟨0, s.heap, s.toks, s.gens, m, news, ok, ov, Nat.zero_le _, rfl, rfl, hI, F, N, hIn, hdn, G, h0⟩
  intro k s' ob19
  refine Mine.exand8_10 ob19 fun i h tk gs m' news' ok ov hi ob29 ob39 hI' F' N' hoff hdn' G' hJ => ?_
  subst ob29
  subst ob39
  try clear ob19
  have hdat : h.DictAt (strKind prog w) d kvs ep := hd.dictAt (N' _ hdn').1
  by_cases hlt : i < kvs.length
  · have ob49 : ∃ p, kvs[i]? = some p := ⟨kvs[i], by simp [hlt]⟩
    refine Mine.exand1_1 ob49 fun ob59 hx => ?_
    obtain ⟨ky, x⟩ := ob59
    try clear ob59
    try clear ob49
    refine wpAny_pyNext_items_item hI' hdat hx fun key h₁ hkey ho hT hsz hk => ?_
    replace hT : h₁.get? h.objs.size = some { cls := .type "tuple", data := .seq #[key, x] } := hT
    replace hk : ∀ b o, b ≠ I → h.get? b = some o → h₁.get? b = some o := hk
    refine Mine.exand1_1 (Value.isStrOf_shape hkey) fun t ob69 => ?_
    subst ob69
    refine wpAny_letOwnedTupleGo_items ho fun h₂ he hs₂ => ?_
    replace hs₂ : Heap.SameBut I h₁ h₂ := hs₂
    have hTI : h.objs.size ≠ I := Nat.ne_of_gt (Heap.lt_size hI')
    have ht₂ : h₂.IsTuple h.objs.size #[.str ky t, x] := ⟨_, hs₂.extBut _ _ hTI hT, rfl, _, rfl⟩
    refine wpAny_assign_Tuple hh ht₂ rfl rfl fun h₃ hx₃ => ?_
    replace hx₃ : Heap.ExtBut h₂.objs.size h₂ h₃ := hx₃
    have up₃ : ∀ b o, h₂.get? b = some o → h₃.get? b = some o := fun b o q => hx₃ b o (Nat.ne_of_lt (Heap.lt_size q)) q
    have keep₃ : ∀ b o, b ≠ I → h.get? b = some o → h₃.get? b = some o := fun b o hb q => up₃ b o (hs₂.extBut b o hb (hk b o hb q))
    have hLI : env.locals ≠ I := Nat.ne_of_lt hIL
    have old : ∀ b o, h₀.get? b = some o → b ≠ I := fun b o e q => by rw [q, freshI] at e; cases e
    have F₃ : Fr h₀ env.locals h₃ m' := ⟨F'.ns.at' fun o e => keep₃ _ o hLI e, fun b o e => keep₃ b o (old b o e) (F'.keep b o e), F'.above⟩
    have N₃ : News h₀ env.locals h₃ news' := fun p hp => ⟨keep₃ _ _ (hoff p hp) (N' p hp).1, (N' p hp).2⟩
    show wpAny _ A (do holding [x] (assign (.Name xi pk) env (.str ky t)); do holding [] (assign (.Name xc pv) env x); pure ()) _ _ _
    refine wpAny_bind (wpAny_holding (wpAny_assign_Name (wpAny_storeName_local hxi F₃.ns (fun h₄ hn₄ hs₄ => ?_) hp)))
    replace hs₄ : Heap.SameBut env.locals h₃ h₄ := hs₄
    have F₄ := F₃.set hn₄ hs₄
    refine wpAny_bind (wpAny_holding (wpAny_assign_Name (wpAny_storeName_local hxc F₄.ns (fun h₅ hn₅ hs₅ => wpAny_pure ?_) hp)))
    replace hs₅ : Heap.SameBut env.locals h₄ h₅ := hs₅
    have F₅ := F₄.set hn₅ hs₅
    have N₅ : News h₀ env.locals h₅ news' := (N₃.set hs₄).set hs₅
    have ob79 : ∃ oI : Obj, h₅.get? I = some oI ∧ oI.cls = .type "dict_itemiterator" ∧ ∀ h : Heap, h.get? I = some oI → IsItemIter h I d (i + 1) kvs.length ep (.str ky t) x :=
      ⟨_, hs₅.extBut _ _ hLI.symm (hs₄.extBut _ _ hLI.symm (up₃ _ _ he)), rfl, fun _ e => e⟩
    refine Mine.exand1_3 ob79 fun oI he₅ cI tell => ?_
    try clear ob79
    refine wpAny_mono (wpAny_passesOwn hE (turn i ky x t m' news' h₅ _ gs oI cI hx hJ hdn' hoff F₅ (fun p hp => by
      rcases List.mem_cons.mp hp with rfl | hp
      · exact ⟨he₅, hLI.symm, freshI⟩
      · exact N₅ p hp) G')) (fun f s₃ h₆ => ?_) fun _ _ e => e
    have fin : ∀ s₃, TurnE h₀ env.locals I oI s (fun m' n' => (d, od) ∈ n' ∧ J (i + 1) m' n') s₃ → ∃ q, q < kvs.length + 1 - i ∧ ∃ i h tk gs m' news' ok ov, i ≤ kvs.length ∧ q = kvs.length + 1 - i ∧ s₃ = { s with heap := h, toks := tk, gens := gs } ∧ IsItemIter h I d i kvs.length ep ok ov ∧ Fr h₀ env.locals h m' ∧ News h₀ env.locals h news' ∧ (∀ p ∈ news', p.1 ≠ I) ∧ (d, od) ∈ news' ∧ AllBare gs ∧ J i m' news' := by
      intro s₃ ob89
      refine Mine.exand5_7 ob89 fun h₆ tk₆ gs₆ m₆ news₆ ob99 F₆ N₆ off₆ G₆ hd₆ J₆ => ?_
      subst ob99
      try clear ob89
      exact ⟨kvs.length + 1 - (i + 1), by omega, i + 1, h₆, tk₆, gs₆, m₆, news₆, _, _, hlt, rfl, rfl, tell _ (N₆ _ (.head _)).1, F₆, fun p hp => N₆ p (.tail _ hp), off₆, hd₆, G₆, J₆⟩
    cases f with
    | ret v => exact h₆
    | brk => exact h₆
    | cont => exact fin s₃ h₆
    | next => exact fin s₃ h₆
  · have hin : i = kvs.length := by omega
    subst hin
    refine wpAny_pyNext_items_end hh hI' hdat (by simp) fun h₁ hx => wpAny_execs_nil ?_
    replace hx : Heap.ExtBut I h h₁ := hx
    have hLI : env.locals ≠ I := Nat.ne_of_lt hIL
    exact done m' news' h₁ _ gs hJ ⟨F'.ns.at' fun o e => hx _ o hLI e, fun b o e => hx b o (fun q => by rw [q, freshI] at e; cases e) (F'.keep b o e), F'.above⟩ (fun p hp => ⟨hx _ _ (hoff p hp) (N' p hp).1, (N' p hp).2⟩) G'

/-- the items of a dict are asked for their iterator -/
theorem items_iter {xi xc : Str} {pk pv pt : Pos} {x1 : Nat} {v d : Addr} {od : Obj} {kvs : List (Str × Value)} {m : Str → Option Value} {news : List (Addr × Obj)} (hh : A.handled = none)
    (hxi : env.kindOf xi = some .local) (hxc : env.kindOf xc = some .local) (hp : (env.scope.kind == .class || (env.scope.kind == .module && env.locals != env.globals)) = false)
    (F : Fr h₀ env.locals s.heap m) (N : News h₀ env.locals s.heap news) (hv : (v, { cls := .type "dict_items", data := .fields #[.ref d] }) ∈ news) (hdn : (d, od) ∈ news) (hd : od.IsDictOf (strKind prog w) kvs) (G : AllBare s.gens)
    (J : Nat → (Str → Option Value) → List (Addr × Obj) → Prop) (h0 : J 0 m news)
    (turn : ∀ I i k x t m₁ news₁ h tk gs oI, (∀ p ∈ news, p.1 < I) → oI.cls = .type "dict_itemiterator" → kvs[i]? = some (k, x) → J i m₁ news₁ → (d, od) ∈ news₁ → (∀ p ∈ news₁, p.1 ≠ I) → Fr h₀ env.locals h (fun y => if y = xc then some x else if y = xi then some (.str k t) else m₁ y) → News h₀ env.locals h ((I, oI) :: news₁) → AllBare gs →
      wpAny (model prog w) A (execs body env) (TurnG Q (TurnE h₀ env.locals I oI s fun m' n' => (d, od) ∈ n' ∧ J (i + 1) m' n')) E { s with heap := h, toks := tk, gens := gs })
    (done : ∀ m' news' h tk gs, J kvs.length m' news' → Fr h₀ env.locals h m' → News h₀ env.locals h news' → AllBare gs → Q .next { s with heap := h, toks := tk, gens := gs })
    (hE : PassesOwn (model prog w) A env E := by passes_own) :
    wpAny (model prog w) A (pyIter (.ref v)) (ItemsLoop prog w A env (.Tuple [.Name xi pk, .Name xc pv] x1 pt) body Q E) E s := by
  refine Mine.exand1_1 (KdkAt.of hd) fun ep ha => ?_
  refine wpAny_pyIter_items ⟨_, (N _ hv).1, rfl, rfl⟩ (ha.dictAt (N _ hdn).1) ?_
  refine items_loop (d := d) (s := { s with heap := s.heap.push _ }) hh hxi hxc hp ha (F.push _) (fun p hp => ⟨Heap.get?_push_of_some _ (N p hp).1, (N p hp).2⟩) (Heap.get?_push_size _ rfl) (fun p hp => Nat.ne_of_lt (Heap.lt_size (N p hp).1)) F.ns.lt hdn G J h0
    (fun i k x t m₁ news₁ h tk gs oI a1 a2 a3 a4 a5 a6 a7 a8 => turn _ i k x t m₁ news₁ h tk gs oI (fun p hp => Heap.lt_size (N p hp).1) a1 a2 a3 a4 a5 a6 a7 a8) done hE

theorem list_loop {x : Str} {px : Pos} {I l : Addr} {items : Array Value} {m : Str → Option Value} {news : List (Addr × Obj)} {kl : Nat} (hh : A.handled = none)
    (hx : env.kindOf x = some .local) (hp : (env.scope.kind == .class || (env.scope.kind == .module && env.locals != env.globals)) = false)
    (F : Fr h₀ env.locals s.heap m) (N : News h₀ env.locals s.heap news) (hI : s.heap.IsListIter I l 0) (hIn : ∀ p ∈ news, p.1 ≠ I) (hIL : env.locals < I) (hln : (l, listOf items kl) ∈ news) (G : AllBare s.gens)
    (J : Nat → (Str → Option Value) → List (Addr × Obj) → Prop) (h0 : J 0 m news)
    (turn : ∀ i v m₁ news₁ h tk gs oI, oI.cls = .type "list_iterator" → items[i]? = some v → J i m₁ news₁ → (l, listOf items kl) ∈ news₁ → (∀ p ∈ news₁, p.1 ≠ I) → Fr h₀ env.locals h (fun y => if y = x then some v else m₁ y) → News h₀ env.locals h ((I, oI) :: news₁) → AllBare gs →
      wpAny (model prog w) A (execs body env) (TurnG Q (TurnE h₀ env.locals I oI s fun m' n' => (l, listOf items kl) ∈ n' ∧ J (i + 1) m' n')) E { s with heap := h, toks := tk, gens := gs })
    (done : ∀ m' news' h tk gs, J items.size m' news' → Fr h₀ env.locals h m' → News h₀ env.locals h news' → AllBare gs → Q .next { s with heap := h, toks := tk, gens := gs })
    (hE : PassesOwn (model prog w) A env E := by passes_own) :
    ItemsLoop prog w A env (.Name x px) body Q E (.ref I) s := by
  have freshI : h₀.get? I = none := Heap.get?_none_of_le (Nat.le_trans F.above (Nat.le_of_lt hIL))
  have hLI : env.locals ≠ I := Nat.ne_of_lt hIL
  unfold ItemsLoop
  let I9 : Nat → Shared → Prop := fun k s' => ∃ i h tk gs m' news', i ≤ items.size ∧ k = items.size + 1 - i ∧ s' = { s with heap := h, toks := tk, gens := gs } ∧ h.IsListIter I l i ∧ Fr h₀ env.locals h m' ∧ News h₀ env.locals h news' ∧ (∀ p ∈ news', p.1 ≠ I) ∧ (l, listOf items kl) ∈ news' ∧ AllBare gs ∧ J i m' news'
  refine codeAny_forLoop I9
    ?_ (items.size + 1) ⟨0, s.heap, s.toks, s.gens, m, news, Nat.zero_le _, rfl, rfl, hI, F, N, hIn, hln, G, h0⟩
  intro k s' ob109
  refine Mine.exand6_10 ob109 fun i h tk gs m' news' hi ob119 ob129 hI' F' N' hoff hln' G' hJ => ?_
  subst ob119
  subst ob129
  try clear ob109
  have hl : h.IsList l items := ⟨_, (N' _ hln').1, rfl, _, rfl⟩
  have next : ∀ h₁ : Heap, Heap.ExtBut I h h₁ → Fr h₀ env.locals h₁ m' ∧ News h₀ env.locals h₁ news' := fun h₁ hx =>
    ⟨⟨F'.ns.at' fun o e => hx _ o hLI e, fun b o e => hx b o (fun q => by rw [q, freshI] at e; cases e) (F'.keep b o e), F'.above⟩, fun p hp => ⟨hx _ _ (hoff p hp) (N' p hp).1, (N' p hp).2⟩⟩
  by_cases hlt : i < items.size
  · refine wpAny_pyNext_list_item hI' hl (x := items[i]) (by simp [hlt]) fun h₁ hI₁ hs₁ => ?_
    refine Mine.exand0_2 (next h₁ hs₁.extBut) fun F₁ N₁ => ?_
    refine wpAny_assign_Name (wpAny_storeName_local hx F₁.ns (fun h₂ hn₂ hs₂ => ?_) hp)
    replace hs₂ : Heap.SameBut env.locals h₁ h₂ := hs₂
    have F₂ := F₁.set hn₂ hs₂
    have N₂ : News h₀ env.locals h₂ news' := N₁.set hs₂
    refine Mine.exand1_3 hI₁ fun oI gI cI dI => ?_
    try clear hI₁
    have gI₂ := hs₂.extBut _ _ hLI.symm gI
    refine wpAny_mono (wpAny_passesOwn hE (turn i items[i] m' news' h₂ _ gs oI cI (by simp [hlt]) hJ hln' hoff F₂ (fun p hp => by
      rcases List.mem_cons.mp hp with rfl | hp
      · exact ⟨gI₂, hLI.symm, freshI⟩
      · exact N₂ p hp) G')) (fun f s₃ h₆ => ?_) fun _ _ e => e
    have fin : ∀ s₃, TurnE h₀ env.locals I oI s (fun m' n' => (l, listOf items kl) ∈ n' ∧ J (i + 1) m' n') s₃ → ∃ q, q < items.size + 1 - i ∧ ∃ i h tk gs m' news', i ≤ items.size ∧ q = items.size + 1 - i ∧ s₃ = { s with heap := h, toks := tk, gens := gs } ∧ h.IsListIter I l i ∧ Fr h₀ env.locals h m' ∧ News h₀ env.locals h news' ∧ (∀ p ∈ news', p.1 ≠ I) ∧ (l, listOf items kl) ∈ news' ∧ AllBare gs ∧ J i m' news' := by
      intro s₃ ob139
      refine Mine.exand5_7 ob139 fun h₆ tk₆ gs₆ m₆ news₆ ob149 F₆ N₆ off₆ G₆ hd₆ J₆ => ?_
      subst ob149
      try clear ob139
      exact ⟨items.size + 1 - (i + 1), by omega, i + 1, h₆, tk₆, gs₆, m₆, news₆, hlt, rfl, rfl, ⟨oI, (N₆ _ (.head _)).1, cI, dI⟩, F₆, fun p hp => N₆ p (.tail _ hp), off₆, hd₆, G₆, J₆⟩
    cases f with
    | ret v => exact h₆
    | brk => exact h₆
    | cont => exact fin s₃ h₆
    | next => exact fin s₃ h₆
  · have hin : i = items.size := by omega
    subst hin
    refine wpAny_pyNext_list_end hh hI' hl (by simp) fun h₁ hx => wpAny_execs_nil ?_
    refine Mine.exand0_2 (next h₁ hx) fun F₁ N₁ => ?_
    exact done m' news' h₁ _ gs hJ F₁ N₁ G'

theorem list_iter {x : Str} {px : Pos} {l : Addr} {items : Array Value} {m : Str → Option Value} {news : List (Addr × Obj)} {kl : Nat} (hh : A.handled = none)
    (hx : env.kindOf x = some .local) (hp : (env.scope.kind == .class || (env.scope.kind == .module && env.locals != env.globals)) = false)
    (F : Fr h₀ env.locals s.heap m) (N : News h₀ env.locals s.heap news) (hln : (l, listOf items kl) ∈ news) (G : AllBare s.gens)
    (J : Nat → (Str → Option Value) → List (Addr × Obj) → Prop) (h0 : J 0 m news)
    (turn : ∀ I i v m₁ news₁ h tk gs oI, (∀ p ∈ news, p.1 < I) → oI.cls = .type "list_iterator" → items[i]? = some v → J i m₁ news₁ → (l, listOf items kl) ∈ news₁ → (∀ p ∈ news₁, p.1 ≠ I) → Fr h₀ env.locals h (fun y => if y = x then some v else m₁ y) → News h₀ env.locals h ((I, oI) :: news₁) → AllBare gs →
      wpAny (model prog w) A (execs body env) (TurnG Q (TurnE h₀ env.locals I oI s fun m' n' => (l, listOf items kl) ∈ n' ∧ J (i + 1) m' n')) E { s with heap := h, toks := tk, gens := gs })
    (done : ∀ m' news' h tk gs, J items.size m' news' → Fr h₀ env.locals h m' → News h₀ env.locals h news' → AllBare gs → Q .next { s with heap := h, toks := tk, gens := gs })
    (hE : PassesOwn (model prog w) A env E := by passes_own) :
    wpAny (model prog w) A (pyIter (.ref l)) (ItemsLoop prog w A env (.Name x px) body Q E) E s := by
  refine wpAny_pyIter_list ⟨_, (N _ hln).1, rfl, _, rfl⟩ ?_
  exact list_loop (s := { s with heap := s.heap.push _ }) hh hx hp (F.push _) (fun p hp => ⟨Heap.get?_push_of_some _ (N p hp).1, (N p hp).2⟩) ⟨_, Heap.get?_push_size _ rfl, rfl, rfl⟩ (fun p hp => Nat.ne_of_lt (Heap.lt_size (N p hp).1)) F.ns.lt hln G J h0
    (fun i v m₁ news₁ h tk gs oI a1 a2 a3 a4 a5 a6 a7 a8 => turn _ i v m₁ news₁ h tk gs oI (fun p hp => Heap.lt_size (N p hp).1) a1 a2 a3 a4 a5 a6 a7 a8) done hE
end
end
example {prog : Program} {w : World} {A : Around} {env : Env} {Q : Flow → Shared → Prop} {E : Value → Shared → Prop} {s : Shared} (h : Q .next s) : wpAny (model prog w) A (execs [] env) Q E s := by
  w_top off
  walk1
  exact h
section
/-- what stands under a key of a table -/
inductive Cell
  | int (i : Int)
  | pair (x y : Int)
def CellIs (news : List (Addr × Obj)) (v : Value) : Cell → Prop
  | .int i => ∃ t, v = .int i t
  | .pair x y => ∃ d t1 t2 k, v = .ref d ∧ (d, tup2 x t1 y t2 k) ∈ news
def TabIs (news : List (Addr × Obj)) : List (Str × Value) → List (Str × Cell) → Prop
  | [], [] => True
  | (k, v) :: r, (k', c) :: r' => k = k' ∧ CellIs news v c ∧ TabIs news r r'
  | _, _ => False
theorem TabIs.nil_inv {news : List (Addr × Obj)} {kvs : List (Str × Value)} (h : TabIs news kvs []) : kvs = [] := by
  cases kvs with
  | nil => rfl
  | cons p r => exact h.elim
theorem TabIs.cons_inv {news : List (Addr × Obj)} {kvs : List (Str × Value)} {k : Str} {c : Cell} {cs : List (Str × Cell)} (h : TabIs news kvs ((k, c) :: cs)) : ∃ v r, kvs = (k, v) :: r ∧ CellIs news v c ∧ TabIs news r cs := by
  cases kvs with
  | nil => exact h.elim
  | cons p r => exact ⟨p.2, r, by rw [← h.1], h.2⟩
theorem list1 {α : Type} {l : List α} (h : l.length = 1) : ∃ a, l = [a] := by
  cases l with
  | nil => cases h
  | cons a r => exact ⟨a, by rw [List.length_eq_zero_iff.mp (Nat.succ.inj h)]⟩
theorem CellIs.sub {news news' : List (Addr × Obj)} {v : Value} {c : Cell} (h : CellIs news v c) (hs : ∀ p ∈ news, p ∈ news') : CellIs news' v c := by
  cases c with
  | int i => exact h
  | pair x y => obtain ⟨d, t1, t2, k, e, hd⟩ := h; exact ⟨d, t1, t2, k, e, hs _ hd⟩
theorem TabIs.sub {news news' : List (Addr × Obj)} (hs : ∀ p ∈ news, p ∈ news') : ∀ {kvs : List (Str × Value)} {cs : List (Str × Cell)}, TabIs news kvs cs → TabIs news' kvs cs := by
  intro kvs
  induction kvs with
  | nil => intro cs h; cases cs with | nil => trivial | cons b m => exact h.elim
  | cons a l ih => intro cs h; cases cs with | nil => exact h.elim | cons b m => exact ⟨h.1, h.2.1.sub hs, ih h.2.2⟩
theorem TabIs.length {news : List (Addr × Obj)} : ∀ {kvs : List (Str × Value)} {cs : List (Str × Cell)}, TabIs news kvs cs → kvs.length = cs.length := by
  intro kvs
  induction kvs with
  | nil => intro cs h; cases cs with | nil => rfl | cons b m => exact h.elim
  | cons a l ih => intro cs h; cases cs with | nil => exact h.elim | cons b m => exact congrArg Nat.succ (ih h.2.2)
theorem TabIs.get {news : List (Addr × Obj)} : ∀ {kvs : List (Str × Value)} {cs : List (Str × Cell)} {i : Nat} {k : Str} {v : Value}, TabIs news kvs cs → kvs[i]? = some (k, v) → ∃ c, cs[i]? = some (k, c) ∧ CellIs news v c := by
  intro kvs
  induction kvs with
  | nil => intro cs i k v h q; cases q
  | cons a l ih =>
    intro cs i k v h q
    cases cs with
    | nil => exact h.elim
    | cons b m =>
      cases i with
      | zero => cases q; exact ⟨b.2, congrArg some (Prod.ext h.1.symm rfl), h.2.1⟩
      | succ i => exact ih (cs := m) (i := i) h.2.2 q
theorem TabIs.append {news : List (Addr × Obj)} {k : Str} {v : Value} {c : Cell} (h : CellIs news v c) : ∀ {kvs : List (Str × Value)} {cs : List (Str × Cell)}, TabIs news kvs cs → TabIs news (kvs ++ [(k, v)]) (cs ++ [(k, c)]) := by
  intro kvs
  induction kvs with
  | nil => intro cs h'; cases cs with | nil => exact ⟨rfl, h, trivial⟩ | cons b m => exact h'.elim
  | cons a l ih => intro cs h'; cases cs with | nil => exact h'.elim | cons b m => exact ⟨h'.1, h'.2.1, ih h'.2.2⟩
def cellAt' (cs : List (Str × Cell)) (k : Str) : Option Cell := (cs.find? fun p => p.1 = k).map (·.2)
def cellPut (cs : List (Str × Cell)) (k : Str) (c : Cell) : List (Str × Cell) := cs.map fun p => if p.1 = k then (p.1, c) else p
theorem TabIs.at_none {news : List (Addr × Obj)} {k : Str} : ∀ {kvs : List (Str × Value)} {cs : List (Str × Cell)}, TabIs news kvs cs → cellAt' cs k = none → valueAt kvs k = none := by
  intro kvs
  induction kvs with
  | nil => intro cs _ _; rfl
  | cons a l ih =>
    intro cs h q
    cases cs with
    | nil => exact h.elim
    | cons b m =>
      unfold cellAt' at q
      by_cases hb : b.1 = k
      · rw [List.find?_cons_of_pos (by simpa using hb)] at q; cases q
      · rw [List.find?_cons_of_neg (by simpa using hb)] at q
        have e : valueAt (a :: l) k = valueAt l k := by unfold valueAt; rw [List.find?_cons_of_neg (by rw [h.1]; simpa using hb)]
        rw [e]; exact ih h.2.2 q
theorem TabIs.at_some {news : List (Addr × Obj)} {k : Str} {c : Cell} : ∀ {kvs : List (Str × Value)} {cs : List (Str × Cell)}, TabIs news kvs cs → cellAt' cs k = some c → ∃ v, valueAt kvs k = some v ∧ CellIs news v c := by
  intro kvs
  induction kvs with
  | nil => intro cs h q; cases cs with | nil => cases q | cons b m => exact h.elim
  | cons a l ih =>
    intro cs h q
    cases cs with
    | nil => exact h.elim
    | cons b m =>
      unfold cellAt' at q
      by_cases hb : b.1 = k
      · rw [List.find?_cons_of_pos (by simpa using hb)] at q; cases q
        exact ⟨a.2, by unfold valueAt; rw [List.find?_cons_of_pos (by rw [h.1]; simpa using hb)]; rfl, h.2.1⟩
      · rw [List.find?_cons_of_neg (by simpa using hb)] at q
        have e : valueAt (a :: l) k = valueAt l k := by unfold valueAt; rw [List.find?_cons_of_neg (by rw [h.1]; simpa using hb)]
        rw [e]; exact ih h.2.2 q
theorem TabIs.put {news : List (Addr × Obj)} {k : Str} {v : Value} {c : Cell} (hv : CellIs news v c) : ∀ {kvs : List (Str × Value)} {cs : List (Str × Cell)}, TabIs news kvs cs → TabIs news (kvs.map fun kv => if kv.1 = k then (kv.1, v) else kv) (cellPut cs k c) := by
  intro kvs
  induction kvs with
  | nil => intro cs h; cases cs with | nil => trivial | cons b m => exact h.elim
  | cons a l ih =>
    intro cs h
    cases cs with
    | nil => exact h.elim
    | cons b m =>
      simp only [List.map_cons, cellPut]
      rw [h.1]
      by_cases hb : b.1 = k
      · rw [if_pos hb, if_pos hb]; exact ⟨rfl, hv, ih h.2.2⟩
      · rw [if_neg hb, if_neg hb]; exact ⟨h.1, h.2.1, ih h.2.2⟩
theorem TabIs.store {news : List (Addr × Obj)} {k : Str} {v : Value} {c co : Cell} {kvs : List (Str × Value)} {cs : List (Str × Cell)} (T : TabIs news kvs cs) (hc : cellAt' cs k = some co) (hv : CellIs news v c) : TabIs news (stored kvs k v) (cellPut cs k c) := by
  refine Mine.exand1_2 (T.at_some hc) fun v0 h0 _ => ?_
  unfold stored
  have : (kvs.any fun kv => kv.1 = k) = true := by rw [← valueAt_isSome_eq_any, h0]; rfl
  rw [this]
  exact TabIs.put hv T

/-- the sum of two cells of one kind -/
def cellAdd : Cell → Cell → Cell
  | .int a, .int b => .int (a + b)
  | .pair a b, .pair c d => .pair (c + a) (d + b)
  | a, _ => a
/-- one entry laid into a table -/
def mergeC (cs : List (Str × Cell)) (p : Str × Cell) : List (Str × Cell) :=
  match cellAt' cs p.1 with
  | none => cs ++ [p]
  | some c => cellPut cs p.1 (cellAdd c p.2)
def sameKind : Cell → Cell → Prop
  | .int _, .int _ => True
  | .pair _ _, .pair _ _ => True
  | _, _ => False
def merged' (cs ds : List (Str × Cell)) : List (Str × Cell) := ds.foldl mergeC cs
theorem merged_step {cs ds : List (Str × Cell)} {i : Nat} {p : Str × Cell} (h : ds[i]? = some p) : merged' cs (ds.take (i + 1)) = mergeC (merged' cs (ds.take i)) p := by
  unfold merged'
  have e : ds.take (i + 1) = ds.take i ++ [p] := by
    rw [List.take_add_one, h]; rfl
  rw [e, List.foldl_append]
  rfl

theorem stored_new {kvs : List (Str × Value)} {i : Nat} {k : Str} {v : Value} (hn : (kvs.map (·.1)).Nodup) (h : kvs[i]? = some (k, v)) : stored (kvs.take i) k v = kvs.take (i + 1) := by
  rw [List.take_add_one, h]
  refine stored_absent (valueAt_none_of_not_mem fun hm => ?_) v
  refine Mine.exand1_2 (List.mem_map.mp hm) fun q hq e => ?_
  refine Mine.exand1_1 (List.mem_iff_getElem?.mp hq) fun j hj => ?_
  rw [List.getElem?_take] at hj
  split at hj
  · rename_i hji
    have h1 : (kvs.map (·.1))[j]? = some k := by rw [List.getElem?_map, hj]; simp [e]
    have h2 : (kvs.map (·.1))[i]? = some k := by rw [List.getElem?_map, h]; rfl
    have hl : i < (kvs.map (·.1)).length := by
      rcases Nat.lt_or_ge i (kvs.map (·.1)).length with h | h
      · exact h
      · rw [List.getElem?_eq_none h] at h2; cases h2
    have := (List.getElem?_inj hl hn (j := j)).mp (h2.trans h1.symm)
    omega
  · cases hj

theorem nodup_of_dict {w : World} {o : Obj} {kvs : List (Str × Value)} (h : DictIs w o kvs) : (kvs.map (·.1)).Nodup := by
  refine Mine.exand2_5 h fun _ _ _ _ _ _ n => ?_
  try clear h
  exact n
/-- a table on the ledger -/
def TabAtL (w : World) (news : List (Addr × Obj)) (d : Addr) (cs : List (Str × Cell)) : Prop := ∃ o kvs, (d, o) ∈ news ∧ DictIs w o kvs ∧ TabIs news kvs cs ∧ (d == sysModules) = false

abbrev GivesG (w : World) (p : Program) (loose : List Str) (mean : ExcName → Option Value) (mg mb : Str → Option Value) (f : Addr) (vs : List Value) (dep uni : Nat) (Pre : List (Addr × Obj) → Prop) (Post : List (Addr × Obj) → Value → List (Addr × Obj) → Prop) : Prop :=
  ∀ (dp un : Nat) (gd : Option (List Code)) (cn : Str) (cs : Scope) (aa : Addr) (ccd : Value) (cl : List (Str × Addr)) (outer : List Env) (A₀ : Around) (base h₀ : Heap) (L : Addr) (m : Str → Option Value) (news : List (Addr × Obj)) (ps : Array Value) (s : Shared)
    (Q E : Value → Shared → Prop),
    Below A₀ base outer h₀ → Fr h₀ L s.heap m → (hd.heap_1 w.params).In h₀ → News h₀ L s.heap ((93, tabObj ps) :: news) → GT ps → (∀ p ∈ news, p.1 ≠ 93) → AllBare s.gens → Pre news → Top p loose mean mg mb h₀ → base.NoSeer → CodeHd base 34 30 → CodeHd base 41 37 → CodeHd base 97 93 → cs.kind = .function → dp + dep < recursionLimit → un + uni < cLine →
    (∀ v new h' tk' gs' ps', Post news v new → GT ps' → AllBare gs' → (∀ p ∈ new, p.1 ≠ 93) → Fr h₀ L h' m → News h₀ L h' ((93, tabObj ps') :: (new ++ news)) → Q v { s with heap := h', toks := tk', gens := gs' }) →
    wpAny (model PySem.Challenge.rw_ph0128_01.row.prog w) (ktrTop dp un gd cn cs L aa ccd cl outer) (call (.ref f) vs) Q E s

theorem cellPut_length (cs : List (Str × Cell)) (k : Str) (c : Cell) : (cellPut cs k c).length = cs.length := by unfold cellPut; rw [List.length_map]
theorem mergeC_length (cs : List (Str × Cell)) (p : Str × Cell) : (mergeC cs p).length ≤ cs.length + 1 := by
  unfold mergeC
  split
  · simp
  · rw [cellPut_length]; omega
theorem merged_length : ∀ (ds cs : List (Str × Cell)), (merged' cs ds).length ≤ cs.length + ds.length
  | [], cs => Nat.le_refl _
  | d :: ds, cs => by
    have h1 := merged_length ds (mergeC cs d)
    have h2 := mergeC_length cs d
    show (merged' (mergeC cs d) ds).length ≤ _
    simp only [List.length_cons]
    omega
theorem mergeC_none {cs : List (Str × Cell)} {k : Str} {c : Cell} (h : cellAt' cs k = none) : mergeC cs (k, c) = cs ++ [(k, c)] := by unfold mergeC; simp only [h]
theorem mergeC_some {cs : List (Str × Cell)} {k : Str} {c co : Cell} (h : cellAt' cs k = some co) : mergeC cs (k, c) = cellPut cs k (cellAdd co c) := by unfold mergeC; simp only [h]
theorem map3 {c f : Str} {o1 o2 o3 o4 : Option Value} {m0 : Str → Option Value} : (fun y => if y = c then o1 else if y = f then o2 else (fun y => if y = c then o3 else if y = f then o4 else m0 y) y) = (fun y => if y = c then o1 else if y = f then o2 else m0 y) := by
  funext y
  dsimp only
  by_cases h1 : y = c
  · simp [h1]
  by_cases h2 : y = f
  · simp [h2]
  simp only [h1, h2, if_false]
local macro_rules | `(tactic| walk_at "call builtin:dict.items") => `(tactic| (k_here; k_dflt (k_extra "Kit"); intro D' h' F' N' l1; (try k_lt l1)))

theorem addc {w p loose mean mg mb} (tl sl : Addr) (ct cs' : List (Str × Cell)) (hkind : ∀ i k c co, cs'[i]? = some (k, c) → cellAt' (merged' ct (cs'.take i)) k = some co → sameKind co c) (hlen : ct.length ≤ 100 ∧ cs'.length ≤ 100) :
    GivesG w p loose mean mg mb 98 [.ref tl, .ref sl] 10 100 (fun news => TabAtL w news tl ct ∧ TabAtL w news sl cs')
      (fun news v new => ∃ D o kvs, v = .ref D ∧ (D, o) ∈ new ∧ (∀ q ∈ new, AllLt q.1 news) ∧ DictIs w o kvs ∧ TabIs (new ++ news) kvs (merged' ct cs') ∧ (D == sysModules) = false) := by
  unfold GivesG
  k_fill
  intro dp un gd cn cs aa ccd cl outer A₀ base h₀ L m news ps s Q E B F X N hG h93 hB hP Tp NS C1 C2 C3 hk hdp hu hret
  refine Mine.exand0_2 hP fun ob19 ob29 => ?_
  refine Mine.exand2_4 ob19 fun ot kt hot hdt htt lot => ?_
  try clear ob19
  refine Mine.exand2_4 ob29 fun os ks hos hds hts los => ?_
  try clear ob29
  try clear hP
  have hMk := kstMark
  have N0 : News h₀ L s.heap ((93, tabObj ps) :: (tl, ot) :: (sl, os) :: news) := fun q hq => by
    rcases List.mem_cons.mp hq with rfl | hq
    · exact N _ (.head _)
    rcases List.mem_cons.mp hq with rfl | hq
    · exact N _ (.tail _ hot)
    rcases List.mem_cons.mp hq with rfl | hq
    · exact N _ (.tail _ hos)
    · exact N _ (.tail _ hq)
  clear N
  have hz : sizeLine = 16777216 := sizeLine_eq
  k_with_none
  k_with "binaryOp Add int int" => (refine add_N ?_)
  k_with "binaryOp Sub int int" => (refine sub_N ?_)
  k_with "inplaceOp Add int int" => (refine iadd_N ?_)
  k_with "inplaceOp Sub int int" => (refine isub_N ?_)
  k_with "binaryOp BitOr int int" => (refine or_N ?_)
  k_with "unaryOp USub int" => (refine neg_N ?_)
  k_with "storeName" => (k_here; k_dflt (refine' storeX_N ?F ?N ?eg ?ed ?eo ?_ ?a ?b; (case F => k_asm); (case N => k_asm); (case a => rfl); (case b => rfl); (case eg => first | (dsimp only; done) | exact rfl); (case ed => first | (dsimp only; done) | exact rfl); (case eo => first | (dsimp only; done) | exact rfl); k_whole; intro _ _ _; (try k_sweep)))
  k_with "MineLt" => (first | with_reducible assumption | ((with_reducible rename _ ∧ _ => hC9); first | exact hC9.1 | exact hC9.2.1 | exact hC9.2.2.1 | exact hC9.2.2.2.1 | exact hC9.2.2.2.2.1 | exact hC9.2.2.2.2.2.1 | exact hC9.2.2.2.2.2.2.1 | exact hC9.2.2.2.2.2.2.2.1 | exact hC9.2.2.2.2.2.2.2.2.1 | exact hC9.2.2.2.2.2.2.2.2.2.1 | exact hC9.2.2.2.2.2.2.2.2.2.2.1 | exact hC9.2.2.2.2.2.2.2.2.2.2.2.1 | exact hC9.2.2.2.2.2.2.2.2.2.2.2.2.1 | exact hC9.2.2.2.2.2.2.2.2.2.2.2.2.2.1) | exact And.left (by with_reducible assumption) | exact Nat.lt_succ_self _)
  k_with "binaryOp LShift int int" => (refine' lshift_N ?hn ?hz ?_; (case hn => k_extra "nn"); (case hz => k_extra "shl"); (try k_extra "tidy"))
  k_with "inplaceOp LShift int int" => (refine' ilshift_N ?hn ?hz ?_; (case hn => k_extra "nn"); (case hz => k_extra "shl"); (try k_extra "tidy"))
  k_with "binaryOp RShift int int" => (refine' rshift_N ?hn ?_; (case hn => k_extra "nn"); (try k_extra "tidy"))
  k_with "inplaceOp RShift int int" => (refine' irshift_N ?hn ?_; (case hn => k_extra "nn"); (try k_extra "tidy"))
  k_with "binaryOp BitAnd int int" => (refine and_N ?_; (try k_extra "tidy"))
  k_with "binaryOp Mult int int" => (refine' mul_N ?_ ?hm; (case hm => k_extra "mul"); (try k_extra "tidy"))
  k_with "Kdm" => (refine' divmod_N ?F ?N ?hb ?_ ?hp; (case F => k_asm); (case N => k_asm); (case hb => k_extra "div0"); (case hp => k_extra "pylong"))
  k_with "call ref" => (k_extra "my call")
  k_with "ite" => (k_extra "decide")
  k_with "binaryOp FloorDiv int int" => (refine' floordiv_N ?hb ?_ ?hp; (case hb => k_extra "div0"); (case hp => k_extra "pylong"); (try k_extra "tidy"))
  k_with "binaryOp BitXor int int" => (refine xor_N ?_; (try k_extra "tidy"))
  k_with "subscriptTail Name Constant ref int" => (k_here; (with_reducible show wpAny _ _ (subscriptTail _ _ (Value.ref _) (Value.int _ _)) _ _ _); (with_unfolding_all refine' item_litK ?k1 ?k2 ?k3 ?k4 ?_ ?k6; (case k1 => is_list); (case k2 => decide); (case k3 => decide); (case k4 => rfl); (case k6 => with_unfolding_all rfl); k_whole))
  k_with "subscriptTail Name Name ref int" => (k_here; (with_reducible show wpAny _ _ (subscriptTail _ _ (Value.ref _) (Value.int _ _)) _ _ _); (with_unfolding_all refine' item_litK ?k1 ?k2 ?k3 ?k4 ?_ ?k6; (case k1 => is_list); (case k2 => decide); (case k3 => decide); (case k4 => rfl); (case k6 => with_unfolding_all rfl); k_whole))
  k_with "subscriptTail Name BinOp ref int" => (k_here; (with_reducible show wpAny _ _ (subscriptTail _ _ (Value.ref _) (Value.int _ _)) _ _ _); (with_unfolding_all refine' item_litK ?k1 ?k2 ?k3 ?k4 ?_ ?k6; (case k1 => is_list); (case k2 => decide); (case k3 => decide); (case k4 => rfl); (case k6 => with_unfolding_all rfl); k_whole))
  k_with "UnrEnd" => k_dflt (refine' unr_close ?uF ?uN ?uP ?uO ?_; (case uF => assumption); (case uN => assumption); (case uP => first | exact Pull.head | exact Pull.tail Pull.head | exact Pull.tail (Pull.tail Pull.head) | exact Pull.tail (Pull.tail (Pull.tail Pull.head)) | exact Pull.tail (Pull.tail (Pull.tail (Pull.tail Pull.head)))); (case uO => k_all); k_whole)
  k_with "pyIter ref" => k_dflt (k_extra "iter")
  k_with "exec For Tuple Call cons nil" => (k_here; k_dflt (refine' For_loopG ?_ ?hs; (case hs => intro _; with_unfolding_all rfl)))
  k_with "setItem ref str" => (k_here; k_dflt (k_extra "set"))
  k_with "getItem ref str" => (k_here; k_dflt (k_extra "get"))
  k_with "subscriptTail" => (k_here; k_dflt (k_extra "tail"))
  k_with "compareOp In str ref" => (k_here; k_dflt (k_extra "in"))
  k_with "eval GeneratorExp" => (k_here; k_dflt (k_extra "gen"))
  k_with "call type:zip" => (k_here; k_dflt (k_extra "zip"))
  k_with "call type:tuple" => (k_here; k_dflt (k_extra "tup"))
  k_with "getMethod ref" => (k_here; (with_reducible show wpAny _ _ (getMethod (Value.ref _) (Str.ofString "items") _) _ _ _); k_dflt (refine kdl_method (knd := PySem.strKind _ _) PySem.F.slot_dict_items PySem.F.type_dict_items (by k_asm) (by k_mem) (by k_asm) ?_))
  k_with "Kit" => ((with_reducible show wpAny _ _ (call (Value.builtin "dict.items") [Value.ref _]) _ _ _); refine kdx_view (knd := PySem.strKind _ _) (by k_asm) (by k_asm) (by k_mem) (by assumption) (by assumption) ?_)
  k_with "decide" => fail
  k_with "iter" => refine stop_intro ?_
  refine wpAny_call ?_
  k_dflt ktr_enter
  (try refine tok_any fun tk9 => ?_)
  (rename Fr _ _ _ _ => F1)
  replace F1 := fr_as (m' := fun y => List.lookup y [(Str.ofString "source", .ref sl), (Str.ofString "target", .ref tl)]) F1 rfl
  k_steps
  rename_i g1 L1 h3 FG1 B1 X1 T1 Dn h2 o0 lo1 hs1 fs1 hi1 fi1 l1q h1q Fa Na V h1 Fv Nv l2q
  unfold Stop
  clear Fa Na hi1 fi1 fs1 N0
  have Fv1 : Fr g1 L1 h1 (fun y => if y = Str.ofString "caller" then none else if y = Str.ofString "func" then none else if y = Str.ofString "new_callers" then some (.ref Dn) else List.lookup y [(Str.ofString "source", .ref sl), (Str.ofString "target", .ref tl)]) := fr_as Fv (funext fun y => by
    by_cases q1 : y = Str.ofString "caller"
    · subst q1; exact rfl
    by_cases q2 : y = Str.ofString "func"
    · subst q2; exact rfl
    simp only [q1, q2, if_false])
  clear Fv
  refine items_iter (d := tl) (od := ot) (kvs := kt) rfl rfl rfl rfl Fv1 Nv (.head _) (by k_mem) hdt hB
    (fun i m' n' => ∃ uc uf oN, m' = (fun y => if y = Str.ofString "caller" then uc else if y = Str.ofString "func" then uf else if y = Str.ofString "new_callers" then some (.ref Dn) else List.lookup y [(Str.ofString "source", .ref sl), (Str.ofString "target", .ref tl)]) ∧
      n' = (V, { cls := .type "dict_items", data := .fields #[.ref tl] }) :: (Dn, oN) :: (93, tabObj ps) :: (tl, ot) :: (sl, os) :: news ∧ DictIs w oN (kt.take i)) ⟨none, none, o0, rfl, rfl, hs1⟩ ?turn ?done
  case turn =>
    intro I i k x t m₁ news₁ h tk gs oI hI cI hx hJ hdn hoff Fx Nx Gx
    first | (refine' turn_N ?eg ?ed ?eo ?_; (case eg => first | (dsimp only; done) | exact rfl); (case ed => first | (dsimp only; done) | exact rfl); (case eo => first | (dsimp only; done) | exact rfl)) | refine post_let ?_
    intro qT
    refine Mine.exand3_3 hJ fun uc uf oN ob39 ob49 hdN => ?_
    subst ob39
    subst ob49
    try clear hJ
    k_lt hI
    k_with "set" =>
      refine' kda_set (knd := PySem.strKind _ _) ?F ?N ?U hdN (strKind_is _ _ _ _) ?z ?_
      (case F => k_asm)
      (case N => k_asm)
      (case U => k_updF)
      (case z => (rw [List.length_take, hz]; have := htt.length; omega))
      intro h'9 o'9 F'9 N'9 hd'9
      (try dsimp only at N'9)
    k_steps
    rw [stored_new (nodup_of_dict hdt) hx] at hd'9
    have hoffI : ∀ o : Obj, ∀ p ∈ ((V, ({ cls := .type "dict_items", data := .fields #[.ref tl] } : Obj)) :: (Dn, o) :: (93, tabObj ps) :: (tl, ot) :: (sl, os) :: news : List (Addr × Obj)), p.1 ≠ I := fun o p hp =>
      Nat.ne_of_lt (kst_ltOf (l := (V, ({ cls := .type "dict_items", data := .fields #[.ref tl] } : Obj)) :: (Dn, o) :: (93, tabObj ps) :: (tl, ot) :: (sl, os) :: news) hI p hp)
    exact stop_intro (turnE (fr_as (by assumption) map3) (by assumption) (hoffI _) Gx ⟨by k_mem, _, _, _, rfl, rfl, hd'9⟩)
  case done =>
    intro m' news' h tk gs hJ Fd Nd Gd
    refine Mine.exand3_3 hJ fun uc uf oN ob59 ob69 hdN => ?_
    subst ob59
    subst ob69
    try clear hJ
    rw [List.take_length] at hdN
    k_steps
    rename_i V2 h4 Fv2 Nv2 l3q
    unfold Stop
    have e0 : ∀ q ∈ news, q.1 < Dn := kst_ltOf l1q.2.2.2
    have e1 : ∀ q ∈ news, q.1 < V := kst_ltOf l2q.2.2.2.2
    have e2 : ∀ q ∈ news, q.1 < V2 := kst_ltOf l3q.2.2.2.2.2
    have ob79 : ∃ R, R = (V2, ({ cls := .type "dict_items", data := .fields #[.ref sl] } : Obj)) :: (V, { cls := .type "dict_items", data := .fields #[.ref tl] }) :: (tl, ot) :: (sl, os) :: news := ⟨_, rfl⟩
    refine Mine.exand1_1 ob79 fun R2 hR2 => ?_
    try clear ob79
    have hV2 : (V2, ({ cls := .type "dict_items", data := .fields #[.ref sl] } : Obj)) ∈ R2 := by rw [hR2]; exact .head _
    have hsl2 : (sl, os) ∈ R2 := by rw [hR2]; exact .tail _ (.tail _ (.tail _ (.head _)))
    have hRn : ∀ p ∈ news, p ∈ R2 := fun p hp => by rw [hR2]; exact .tail _ (.tail _ (.tail _ (.tail _ hp)))
    have n1 := h93 _ hot
    have n2 := h93 _ hos
    have hRq : ∀ p ∈ R2, p.1 ≠ Dn ∧ p.1 ≠ 93 := fun p hp => by
      rw [hR2] at hp
      simp only [List.mem_cons] at hp
      rcases hp with rfl | rfl | rfl | rfl | hp
      · exact ⟨Nat.ne_of_gt l3q.2.1, Nat.ne_of_gt l3q.2.2.1⟩
      · exact ⟨Nat.ne_of_gt l2q.1, Nat.ne_of_gt l2q.2.1⟩
      · exact ⟨Nat.ne_of_lt l1q.2.1, n1⟩
      · exact ⟨Nat.ne_of_lt l1q.2.2.1, n2⟩
      · exact ⟨Nat.ne_of_lt (e0 p hp), h93 p hp⟩
    have Nv3 : News g1 L1 h4 ((93, tabObj ps) :: (Dn, oN) :: ([] ++ R2)) := fun p hp => Nv2 p (by
      rw [hR2] at hp
      simp only [List.mem_cons, List.nil_append] at hp ⊢
      grind)
    have D93 : @Ne Nat Dn 93 := Nat.ne_of_gt l1q.1
    clear Nv2 hR2 Nd Fd
    refine items_iter (d := sl) (od := os) (kvs := ks) rfl rfl rfl rfl Fv2 Nv3 (.tail _ (.tail _ hV2)) (.tail _ (.tail _ hsl2)) hds Gd
      (fun i m' n' => ∃ uc uf oN kvs extra ps', m' = (fun y => if y = Str.ofString "caller" then uc else if y = Str.ofString "func" then uf else if y = Str.ofString "new_callers" then some (.ref Dn) else List.lookup y [(Str.ofString "source", .ref sl), (Str.ofString "target", .ref tl)]) ∧
        n' = (93, tabObj ps') :: (Dn, oN) :: (extra ++ R2) ∧ GT ps' ∧ DictIs w oN kvs ∧ TabIs (extra ++ news) kvs (merged' ct (cs'.take i)) ∧ (∀ q ∈ extra, AllLt q.1 news ∧ q.1 ≠ 93 ∧ q.1 ≠ Dn)) ⟨_, _, oN, kt, [], ps, rfl, rfl, hG, hdN, htt, fun q hq => nomatch hq⟩ ?turn ?done
    case turn =>
      intro I i k x t m₁ news₁ h tk gs oI hI cI hx hJ hdn hoff Fx Nx Gx
      first | (refine' turn_N ?eg ?ed ?eo ?_; (case eg => first | (dsimp only; done) | exact rfl); (case ed => first | (dsimp only; done) | exact rfl); (case eo => first | (dsimp only; done) | exact rfl)) | refine post_let ?_
      intro qT
      refine Mine.exand6_6 hJ fun uc uf oN' kvs extra ps' ob89 ob99 hG' hdN' hT' hex => ?_
      subst ob89
      subst ob99
      try clear hJ
      refine Mine.exand1_2 (hts.get hx) fun c hc hxc => ?_
      have off0 : ∀ p ∈ extra ++ R2, p.1 ≠ I := fun p hp => hoff p (.tail _ (.tail _ hp))
      have off1 : @Ne Nat 93 I := hoff _ (.head _)
      have off2 : @Ne Nat Dn I := hoff _ (.tail _ (.head _))
      have off3 : ∀ p ∈ extra ++ R2, p.1 ≠ Dn := fun p hp => (List.mem_append.mp hp).elim (fun q => (hex p q).2.2) fun q => (hRq p q).1
      have off4 : ∀ p ∈ extra ++ R2, p.1 ≠ 93 := fun p hp => (List.mem_append.mp hp).elim (fun q => (hex p q).2.1) fun q => (hRq p q).2
      have hsl3 : (sl, os) ∈ extra ++ R2 := List.mem_append_right _ hsl2
      have hkl : kvs.length ≤ sizeLine := by
        have a1 := hT'.length
        have a2 := merged_length (cs'.take i) ct
        rw [List.length_take] at a2
        rw [hz]; omega
      k_with "set" =>
        refine' kda_set (knd := PySem.strKind _ _) ?F ?N ?U hdN' (strKind_is _ _ _ _) hkl ?_
        (case F => k_asm)
        (case N => k_asm)
        (case U => k_updF)
        intro h'9 o'9 F'9 N'9 hd'9
        (try dsimp only at N'9)
      rcases hq : cellAt' (merged' ct (cs'.take i)) k with _ | co
      · k_with "in" => refine kda_in (knd := PySem.strKind _ _) (by k_asm) (by k_mem) hdN' lo1 (strKind_is _ _ _ _) false (by rw [hT'.at_none hq]; rfl) ?_
        k_steps
        rw [stored_absent (hT'.at_none hq)] at hd'9
        refine stop_intro (turnE (fr_as (by assumption) map3) (by assumption) (fun p hp => ?_) Gx ⟨by k_mem, _, _, _, _, extra, ps', rfl, rfl, hG', hd'9, ?_, hex⟩)
        · rcases List.mem_cons.mp hp with rfl | hp
          · exact off1
          rcases List.mem_cons.mp hp with rfl | hp
          · exact off2
          · exact off0 p hp
        · rw [merged_step hc, mergeC_none hq]
          exact TabIs.append (hxc.sub fun p hp => List.mem_append_right _ hp) hT'
      · have hsk := hkind i k c co hc hq
        refine Mine.exand1_2 (hT'.at_some hq) fun v0 hv0 hc0 => ?_
        k_with "in" => refine kda_in (knd := PySem.strKind _ _) (by k_asm) (by k_mem) hdN' lo1 (strKind_is _ _ _ _) true (by rw [hv0]; rfl) ?_
        cases c with
        | int b =>
          cases co with
          | pair _ _ => exact hsk.elim
          | int a =>
            refine Mine.exand1_1 hxc fun tx ob109 => ?_
            subst ob109
            try clear hxc
            refine Mine.exand1_1 hc0 fun t0 ob119 => ?_
            subst ob119
            try clear hc0
            k_with "get" => refine kdt_getItem (knd := PySem.strKind _ _) (by k_asm) (by k_mem) hdN' (strKind_is _ _ _ _) hv0 ?_
            k_with "tail" => refine kda_item (knd := PySem.strKind _ _) (by k_asm) (by k_mem) hdN' (strKind_is _ _ _ _) hv0 ?_
            k_steps
            refine stop_intro (turnE (fr_as (by assumption) map3) (by assumption) (fun p hp => ?_) Gx ⟨by k_mem, _, _, _, _, extra, ps', rfl, rfl, hG', hd'9, ?_, hex⟩)
            · rcases List.mem_cons.mp hp with rfl | hp
              · exact off1
              rcases List.mem_cons.mp hp with rfl | hp
              · exact off2
              · exact off0 p hp
            · rw [merged_step hc, mergeC_some hq]
              exact hT'.store hq ⟨_, rfl⟩
        | pair b1 b2 =>
          cases co with
          | int _ => exact hsk.elim
          | pair a1 a2 =>
            refine Mine.exand4_2 hxc fun dx t1 t2 kx ob129 hdx => ?_
            subst ob129
            try clear hxc
            refine Mine.exand4_2 hc0 fun d0 u1 u2 k0 ob139 hd0 => ?_
            subst ob139
            try clear hc0
            have hdx' : (dx, tup2 b1 t1 b2 t2 kx) ∈ extra ++ R2 := List.mem_append_right _ (hRn _ hdx)
            have hd0' : (d0, tup2 a1 u1 a2 u2 k0) ∈ extra ++ R2 := (List.mem_append.mp hd0).elim (List.mem_append_left _) fun q => List.mem_append_right _ (hRn _ q)
            k_with "tail" => refine kda_item (knd := PySem.strKind _ _) (by k_asm) (by k_mem) hdN' (strKind_is _ _ _ _) hv0 ?_
            k_with "gen" =>
              refine' genexp_zip (news := (I, oI) :: (Dn, oN') :: (extra ++ R2)) (ps := ps') (x1 := b1) (x2 := b2) (y1 := a1) (y2 := a2) (L := L1) (h₀ := g1) ?F ?C ?T hG' ?ne Gx rfl rfl rfl rfl ?clos ?cell rfl rfl rfl rfl ?room ?h (fun _ => rfl) ?k
              (case F => k_asm)
              (case C => kn_code)
              (case T => k_asm)
              (case clos => exact rfl)
              (case cell => decide)
              (case room => ktr_room)
              (case ne => exact fun p hp => (List.mem_cons.mp hp).elim (fun e => e ▸ off1.symm) fun hp => (List.mem_cons.mp hp).elim (fun e => e ▸ D93) (off4 p))
              (case' k => (intro a8 h8 tk8 gs8 ps8 hG8 hB8 F8 N8 X8))
            k_with "zip" =>
              (rename News _ _ _ _ => nz9)
              refine zip_post (by k_asm) (newsSub nz9 (news' := (93, tabObj ps') :: (I, oI) :: (Dn, oN') :: (extra ++ R2)) (fun p hp => by simp only [List.mem_cons] at hp ⊢; grind)) (by k_mem) (by k_mem) ⟨_, _, rfl⟩
            k_with "tup" =>
              refine tuple_gen (by k_asm) (by k_asm) (by k_asm) (by k_asm) ?_
              intro D7 r1 r2 h7 tk7 gs7 c7 F7 N7 l7 G7
              (try simp only [AllLt] at l7)
            k_steps
            refine stop_intro (turnE (news' := (93, tabObj ps8) :: (Dn, o'9) :: (((D7, tup2 (b1 + a1) r1 (b2 + a2) r2 c7) :: extra) ++ R2)) (fr_as F'9 map3) (newsSub N'9 (fun p hp => by simp only [List.mem_cons, List.mem_append, List.cons_append] at hp ⊢; grind)) (fun p hp => ?_) (by assumption) ⟨.tail _ (.tail _ (.tail _ hsl3)), _, _, _, _, (D7, tup2 (b1 + a1) r1 (b2 + a2) r2 c7) :: extra, ps8, rfl, rfl, hG8, hd'9, ?_, fun q hq => ?_⟩)
            · rcases List.mem_cons.mp hp with rfl | hp
              · exact off1
              rcases List.mem_cons.mp hp with rfl | hp
              · exact off2
              rcases List.mem_cons.mp hp with rfl | hp
              · exact Nat.ne_of_gt l7.2.1
              · exact off0 p hp
            · rw [merged_step hc, mergeC_some hq]
              exact (hT'.sub (news' := (D7, tup2 (b1 + a1) r1 (b2 + a2) r2 c7) :: (extra ++ news)) fun p hp => .tail _ hp).store hq ⟨D7, r1, r2, c7, rfl, .head _⟩
            · rcases List.mem_cons.mp hq with rfl | hq
              · exact ⟨allLt_sub l7.2.2.2 fun p hp => List.mem_append_right _ (hRn p hp), Nat.ne_of_gt l7.1, Nat.ne_of_gt l7.2.2.1⟩
              · exact hex q hq
    case done =>
      intro m' news' h tk gs hJ Fd Nd Gd
      refine Mine.exand6_6 hJ fun uc uf oN kvs extra ps' ob149 ob159 hG' hdN hT' hex => ?_
      subst ob149
      subst ob159
      try clear hJ
      have : cs'.take ks.length = cs' := by rw [hts.length, List.take_length]
      rw [this] at hT'
      k_steps
      refine hret _ ((Dn, oN) :: extra) _ _ _ ps' ⟨Dn, oN, kvs, rfl, .head _, fun q hq => ?_, hdN, hT'.sub fun p hp => .tail _ hp, lo1⟩ hG' Gd (fun q hq => ?_) (by assumption) (newsSub (by assumption) fun p hp => ?_)
      · rcases List.mem_cons.mp hq with rfl | hq
        · exact allLt_of e0
        · exact (hex q hq).1
      · rcases List.mem_cons.mp hq with rfl | hq
        · exact D93
        · exact (hex q hq).2.1
      · simp only [List.mem_cons, List.mem_append, List.cons_append] at hp ⊢
        rcases hp with h | h | h | h
        · exact .inl h
        · exact .inr (.inl h)
        · exact .inr (.inr (.inl h))
        · exact .inr (.inr (.inr (hRn p h)))
end
example {prog : Program} {w : World} {A : Around} {env : Env} {Q : Flow → Shared → Prop} {E : Value → Shared → Prop} {s : Shared} (h : Q .next s) : wpAny (model prog w) A (execs [] env) Q E s := by
  w_top off
  walk1
  exact h
section
theorem GivesG.use {w : World} {p : Program} {loose : List Str} {mean : ExcName → Option Value} {mg mb : Str → Option Value} {f : Addr} {vs : List Value} {dep uni : Nat} {Pre : List (Addr × Obj) → Prop} {Post : List (Addr × Obj) → Value → List (Addr × Obj) → Prop}
    {dp un : Nat} {gd : Option (List Code)} {cn : Str} {cs : Scope} {aa : Addr} {ccd : Value} {cl : List (Str × Addr)} {outer : List Env} {A₀ : Around} {base h₀ : Heap} {L : Addr} {m : Str → Option Value} {news all : List (Addr × Obj)} {ps : Array Value} {h9 : Heap} {g9 : Array GenState} {d9 : Drawn} {t9 : Nat} {o9 : OsState}
    {Q E : Value → Shared → Prop} (C : GivesG w p loose mean mg mb f vs dep uni Pre Post) (P : Pull 93 (tabObj ps) all news)
    (B : Below A₀ base outer h₀) (F : Fr h₀ L h9 m) (X : (hd.heap_1 w.params).In h₀) (N : News h₀ L h9 all) (hG : GT ps) (h93 : ∀ p ∈ news, p.1 ≠ 93) (hB : AllBare g9) (hP : Pre news) (Tp : Top p loose mean mg mb h₀) (NS : base.NoSeer) (C1 : CodeHd base 34 30) (C2 : CodeHd base 41 37) (C3 : CodeHd base 97 93) (hk : cs.kind = .function) (hdp : dp + dep < recursionLimit) (hu : un + uni < cLine)
    (ret : ∀ v new h' tk' gs' ps', Post news v new → GT ps' → AllBare gs' → (∀ p ∈ new, p.1 ≠ 93) → Fr h₀ L h' m → News h₀ L h' ((93, tabObj ps') :: (new ++ news)) → Q v ⟨h', gs', d9, tk', o9⟩) :
    wpAny (model PySem.Challenge.rw_ph0128_01.row.prog w) (ktrTop dp un gd cn cs L aa ccd cl outer) (call (.ref f) vs) Q E ⟨h9, g9, d9, t9, o9⟩ := C _ _ _ _ _ _ _ _ _ _ _ _ _ _ _ _ _ _ _ B F X (P.news N) hG h93 hB hP Tp NS C1 C2 C3 hk hdp hu ret

theorem TabAtL.sub {w : World} {news news' : List (Addr × Obj)} {d : Addr} {cs : List (Str × Cell)} (h : TabAtL w news d cs) (hs : ∀ p ∈ news, p ∈ news') : TabAtL w news' d cs := by
  refine Mine.exand2_4 h fun o kvs a b c l => ?_
  exact ⟨o, kvs, hs _ a, b, c.sub hs, l⟩
/-- an entry on the ledger -/
def EntL (w : World) (news : List (Addr × Obj)) (e : Addr) (a b c d : Int) (cs : List (Str × Cell)) : Prop := ∃ t1 t2 t3 t4 dd k, (e, tup5 a t1 b t2 c t3 d t4 dd k) ∈ news ∧ TabAtL w news dd cs
theorem EntL.sub {w : World} {news news' : List (Addr × Obj)} {e : Addr} {a b c d : Int} {cs : List (Str × Cell)} (h : EntL w news e a b c d cs) (hs : ∀ p ∈ news, p ∈ news') : EntL w news' e a b c d cs := by
  refine Mine.exand6_2 h fun t1 t2 t3 t4 dd k x y => ?_
  exact ⟨t1, t2, t3, t4, dd, k, hs _ x, y.sub hs⟩
def MergeOk (ct cs' : List (Str × Cell)) : Prop := (∀ i k c co, cs'[i]? = some (k, c) → cellAt' (merged' ct (cs'.take i)) k = some co → sameKind co c) ∧ ct.length ≤ 100 ∧ cs'.length ≤ 100


theorem addf {w p loose mean mg mb} (te se : Addr) (a b c d a' b' c' d' : Int) (ct cs' : List (Str × Cell)) (hm : MergeOk ct cs') :
    GivesG w p loose mean mg mb 91 [.ref te, .ref se] 20 200 (fun news => EntL w news te a b c d ct ∧ EntL w news se a' b' c' d' cs')
      (fun news v new => ∃ D, v = .ref D ∧ (∀ q ∈ new, AllLt q.1 news) ∧ EntL w (new ++ news) D (a' + a) (b' + b) (c' + c) (d' + d) (merged' ct cs')) := by
  unfold GivesG
  k_fill
  intro dp un gd cn cs aa ccd cl outer A₀ base h₀ L m news ps s Q E B F X N hG h93 hB hP Tp NS C1 C2 C3 hk hdp hu hret
  refine Mine.exand0_2 hP fun ob19 ob29 => ?_
  refine Mine.exand6_2 ob19 fun t1 t2 t3 t4 td tk hte htd => ?_
  try clear ob19
  refine Mine.exand6_2 ob29 fun s1 s2 s3 s4 sd sk hse hsd => ?_
  try clear ob29
  try clear hP
  have hMk := kstMark
  have N0 : News h₀ L s.heap ((93, tabObj ps) :: (te, tup5 a t1 b t2 c t3 d t4 td tk) :: (se, tup5 a' s1 b' s2 c' s3 d' s4 sd sk) :: news) := fun q hq => by
    rcases List.mem_cons.mp hq with rfl | hq
    · exact N _ (.head _)
    rcases List.mem_cons.mp hq with rfl | hq
    · exact N _ (.tail _ hte)
    rcases List.mem_cons.mp hq with rfl | hq
    · exact N _ (.tail _ hse)
    · exact N _ (.tail _ hq)
  clear N
  have h93' : ∀ q ∈ ((te, tup5 a t1 b t2 c t3 d t4 td tk) :: (se, tup5 a' s1 b' s2 c' s3 d' s4 sd sk) :: news : List (Addr × Obj)), q.1 ≠ 93 := fun q hq => by
    rcases List.mem_cons.mp hq with rfl | hq
    · exact h93 _ hte
    rcases List.mem_cons.mp hq with rfl | hq
    · exact h93 _ hse
    · exact h93 _ hq
  k_with_none
  k_with "binaryOp Add int int" => (refine add_N ?_)
  k_with "binaryOp Sub int int" => (refine sub_N ?_)
  k_with "inplaceOp Add int int" => (refine iadd_N ?_)
  k_with "inplaceOp Sub int int" => (refine isub_N ?_)
  k_with "binaryOp BitOr int int" => (refine or_N ?_)
  k_with "unaryOp USub int" => (refine neg_N ?_)
  k_with "storeName" => (k_here; k_dflt (refine' storeX_N ?F ?N ?eg ?ed ?eo ?_ ?a ?b; (case F => k_asm); (case N => k_asm); (case a => rfl); (case b => rfl); (case eg => first | (dsimp only; done) | exact rfl); (case ed => first | (dsimp only; done) | exact rfl); (case eo => first | (dsimp only; done) | exact rfl); k_whole; intro _ _ _; (try k_sweep)))
  k_with "MineLt" => (first | with_reducible assumption | ((with_reducible rename _ ∧ _ => hC9); first | exact hC9.1 | exact hC9.2.1 | exact hC9.2.2.1 | exact hC9.2.2.2.1 | exact hC9.2.2.2.2.1 | exact hC9.2.2.2.2.2.1 | exact hC9.2.2.2.2.2.2.1 | exact hC9.2.2.2.2.2.2.2.1 | exact hC9.2.2.2.2.2.2.2.2.1 | exact hC9.2.2.2.2.2.2.2.2.2.1 | exact hC9.2.2.2.2.2.2.2.2.2.2.1 | exact hC9.2.2.2.2.2.2.2.2.2.2.2.1 | exact hC9.2.2.2.2.2.2.2.2.2.2.2.2.1 | exact hC9.2.2.2.2.2.2.2.2.2.2.2.2.2.1) | exact And.left (by with_reducible assumption) | exact Nat.lt_succ_self _)
  k_with "binaryOp LShift int int" => (refine' lshift_N ?hn ?hz ?_; (case hn => k_extra "nn"); (case hz => k_extra "shl"); (try k_extra "tidy"))
  k_with "inplaceOp LShift int int" => (refine' ilshift_N ?hn ?hz ?_; (case hn => k_extra "nn"); (case hz => k_extra "shl"); (try k_extra "tidy"))
  k_with "binaryOp RShift int int" => (refine' rshift_N ?hn ?_; (case hn => k_extra "nn"); (try k_extra "tidy"))
  k_with "inplaceOp RShift int int" => (refine' irshift_N ?hn ?_; (case hn => k_extra "nn"); (try k_extra "tidy"))
  k_with "binaryOp BitAnd int int" => (refine and_N ?_; (try k_extra "tidy"))
  k_with "binaryOp Mult int int" => (refine' mul_N ?_ ?hm; (case hm => k_extra "mul"); (try k_extra "tidy"))
  k_with "Kdm" => (refine' divmod_N ?F ?N ?hb ?_ ?hp; (case F => k_asm); (case N => k_asm); (case hb => k_extra "div0"); (case hp => k_extra "pylong"))
  k_with "call ref" => (k_extra "my call")
  k_with "ite" => (k_extra "decide")
  k_with "binaryOp FloorDiv int int" => (refine' floordiv_N ?hb ?_ ?hp; (case hb => k_extra "div0"); (case hp => k_extra "pylong"); (try k_extra "tidy"))
  k_with "binaryOp BitXor int int" => (refine xor_N ?_; (try k_extra "tidy"))
  k_with "subscriptTail Name Constant ref int" => (k_here; (with_reducible show wpAny _ _ (subscriptTail _ _ (Value.ref _) (Value.int _ _)) _ _ _); (with_unfolding_all refine' item_litK ?k1 ?k2 ?k3 ?k4 ?_ ?k6; (case k1 => is_list); (case k2 => decide); (case k3 => decide); (case k4 => rfl); (case k6 => with_unfolding_all rfl); k_whole))
  k_with "subscriptTail Name Name ref int" => (k_here; (with_reducible show wpAny _ _ (subscriptTail _ _ (Value.ref _) (Value.int _ _)) _ _ _); (with_unfolding_all refine' item_litK ?k1 ?k2 ?k3 ?k4 ?_ ?k6; (case k1 => is_list); (case k2 => decide); (case k3 => decide); (case k4 => rfl); (case k6 => with_unfolding_all rfl); k_whole))
  k_with "subscriptTail Name BinOp ref int" => (k_here; (with_reducible show wpAny _ _ (subscriptTail _ _ (Value.ref _) (Value.int _ _)) _ _ _); (with_unfolding_all refine' item_litK ?k1 ?k2 ?k3 ?k4 ?_ ?k6; (case k1 => is_list); (case k2 => decide); (case k3 => decide); (case k4 => rfl); (case k6 => with_unfolding_all rfl); k_whole))
  k_with "UnrEnd" => k_dflt (refine' unr_close ?uF ?uN ?uP ?uO ?_; (case uF => assumption); (case uN => assumption); (case uP => first | exact Pull.head | exact Pull.tail Pull.head | exact Pull.tail (Pull.tail Pull.head) | exact Pull.tail (Pull.tail (Pull.tail Pull.head)) | exact Pull.tail (Pull.tail (Pull.tail (Pull.tail Pull.head)))); (case uO => k_all); k_whole)
  k_with "pyIter ref" => k_dflt (k_extra "iter")
  k_with "call ref" => (k_extra "my call")
  k_with "decide" => fail
  k_with "my call" =>
    refine' GivesG.use (addc td sd ct cs' hm.1 hm.2) (news := (te, tup5 a t1 b t2 c t3 d t4 td tk) :: (se, tup5 a' s1 b' s2 c' s3 d' s4 sd sk) :: news) ?kP ?k1 ?k2 ?k3 ?k4 hG h93' ?kB ?kPr ?k5 ?kN ?k6 ?k6b ?k6c ?k7 ?k8 ?k9 ?_
    (case kP => exact Pull.head)
    (case k1 => k_asm)
    (case k2 => k_asm)
    (case k3 => k_asm)
    (case k4 => k_asm)
    (case kB => k_asm)
    (case kPr => exact ⟨htd.sub fun p hp => .tail _ (.tail _ hp), hsd.sub fun p hp => .tail _ (.tail _ hp)⟩)
    (case k5 => k_asm)
    (case kN => k_asm)
    (case k6 => k_asm)
    (case k6b => k_asm)
    (case k6c => k_asm)
    (case k7 => exact rfl)
    (case k8 => ktr_room)
    (case k9 => ktr_units)
    intro v9 new9 hp9 tk9 gs9 ps9 P9 G9 B9 n9 F9 N9
    refine Mine.exand3_6 P9 fun D9 o9 kvs9 ob39 hD9 hl9 hd9 ht9 lo9 => ?_
    subst ob39
    try clear P9
  refine wpAny_call ?_
  k_dflt ktr_enter
  (try refine tok_any fun tk9 => ?_)
  (rename Fr _ _ _ _ => F1)
  replace F1 := fr_as (m' := fun y => List.lookup y [(Str.ofString "source", .ref se), (Str.ofString "target", .ref te)]) F1 rfl
  k_steps
  rename_i Dz hz Fz Nz lz kFz kNz Tcz kXz
  have hsub : ∀ p ∈ new9 ++ ((te, tup5 a t1 b t2 c t3 d t4 td tk) :: (se, tup5 a' s1 b' s2 c' s3 d' s4 sd sk) :: news), p ∈ new9 ++ news := fun p hp => by
    rcases List.mem_append.mp hp with hp | hp
    · exact List.mem_append_left _ hp
    rcases List.mem_cons.mp hp with rfl | hp
    · exact List.mem_append_right _ hte
    rcases List.mem_cons.mp hp with rfl | hp
    · exact List.mem_append_right _ hse
    · exact List.mem_append_right _ hp
  have hsub2 : ∀ p ∈ news, p ∈ ((te, tup5 a t1 b t2 c t3 d t4 td tk) :: (se, tup5 a' s1 b' s2 c' s3 d' s4 sd sk) :: news : List (Addr × Obj)) := fun p hp => .tail _ (.tail _ hp)
  have ob49 : ∃ r1 r2 r3 r4 kk, News h₀ L hz ((Dz, tup5 (a' + a) r1 (b' + b) r2 (c' + c) r3 (d' + d) r4 D9 kk) :: (93, tabObj ps9) :: (new9 ++ ((te, tup5 a t1 b t2 c t3 d t4 td tk) :: (se, tup5 a' s1 b' s2 c' s3 d' s4 sd sk) :: news))) := ⟨_, _, _, _, _, kNz⟩
  refine Mine.exand5_1 ob49 fun r1 r2 r3 r4 kk kN2 => ?_
  try clear ob49
  clear kNz Nz
  refine hret (.ref Dz) ((Dz, tup5 (a' + a) r1 (b' + b) r2 (c' + c) r3 (d' + d) r4 D9 kk) :: new9) _ _ gs9 ps9 ⟨Dz, rfl, fun q hq => ?_, ⟨r1, r2, r3, r4, D9, kk, .head _, o9, kvs9, .tail _ (List.mem_append_left _ hD9), hd9, ht9.sub fun p hp => .tail _ (hsub p hp), lo9⟩⟩ G9 B9 (fun q hq => ?_) kFz (newsSub kN2 fun p hp => ?_)
  · rcases List.mem_cons.mp hq with rfl | hq
    · exact allLt_sub lz.2 fun p hp => List.mem_append_right _ (hsub2 p hp)
    · exact allLt_sub (hl9 q hq) hsub2
  · rcases List.mem_cons.mp hq with rfl | hq
    · exact Nat.ne_of_gt lz.1
    · exact n9 q hq
  · simp only [List.mem_cons, List.mem_append, List.cons_append] at hp ⊢
    rcases hp with h | h | h | h
    · exact .inr (.inl h)
    · exact .inl h
    · exact .inr (.inr (.inl h))
    · exact .inr (.inr (.inr (.inr (.inr h))))
end
example {prog : Program} {w : World} {A : Around} {env : Env} {Q : Flow → Shared → Prop} {E : Value → Shared → Prop} {s : Shared} (h : Q .next s) : wpAny (model prog w) A (execs [] env) Q E s := by
  w_top off
  walk1
  exact h
section
abbrev lst4w (a : Int) (ta : Tok) (b : Int) (tb : Tok) (c : Int) (tc : Tok) (d : Int) (td : Tok) (k : Nat) : Obj := listOf #[.int a ta, .int b tb, .int c tc, .int d td] k
def carryT (up more la w2 : Int) : List (Str × Cell) := [(Str.ofString "b", .int up), (Str.ofString "c", .pair more (more * w2)), (Str.ofString "d", .int la)]

theorem carried {w p loose mean mg mb} (e bl wl : Addr) (a b c d b0 b1 b2 w0 w1 w2 w3 : Int) (ct : List (Str × Cell)) (t0 t1 t2 v0 v1 v2 v3 : Tok) (kb kw : Nat) (hz0 : b0 ≠ 0) (hz1 : b1 ≠ 0) (hz2 : b2 ≠ 0)
    (ha : intBits a ≤ 4000000) (hb : intBits b ≤ 4000000) (hdb : intBits d ≤ 4000000) (hb0 : intBits b0 ≤ 4194304) (hb1 : intBits b1 ≤ 4194304) (hb2 : intBits b2 ≤ 4194304) (hw2 : intBits w2 ≤ 4194304) (hm : ∀ up more la, MergeOk ct (carryT up more la w2)) :
    GivesG w p loose mean mg mb 126 [.ref e, .ref bl, .ref wl] 110 700 (fun news => EntL w news e a b c d ct ∧ (bl, lst3 b0 t0 b1 t1 b2 t2 kb) ∈ news ∧ (wl, lst4 w0 v0 w1 v1 w2 v2 w3 v3 kw) ∈ news ∧ HotN news)
      (fun news v new => ∃ D up one more two la th, v = .ref D ∧ DM b b0 up one ∧ DM (d + up) b1 more two ∧ DM (a + more) b2 la th ∧ (∀ q ∈ new, AllLt q.1 news) ∧ EntL w (new ++ news) D th one (c + la) two (merged' ct (carryT up more la w2))) := by
  unfold GivesG
  k_fill
  intro dp un gd cn cs aa ccd cl outer A₀ base h₀ L m news ps s Q E B F X N hG h93 hB hP Tp NS C1 C2 C3 hk hdp hu hret
  refine Mine.exand0_4 hP fun ob19 hbl hwl hH => ?_
  refine Mine.exand6_2 ob19 fun e1 e2 e3 e4 ed ek9 he hed => ?_
  try clear ob19
  try clear hP
  have hMk := kstMark
  have N0 : News h₀ L s.heap ((93, tabObj ps) :: (e, tup5 a e1 b e2 c e3 d e4 ed ek9) :: (bl, lst3 b0 t0 b1 t1 b2 t2 kb) :: (wl, lst4 w0 v0 w1 v1 w2 v2 w3 v3 kw) :: news) := fun q hq => by
    rcases List.mem_cons.mp hq with rfl | hq
    · exact N _ (.head _)
    rcases List.mem_cons.mp hq with rfl | hq
    · exact N _ (.tail _ he)
    rcases List.mem_cons.mp hq with rfl | hq
    · exact N _ (.tail _ hbl)
    rcases List.mem_cons.mp hq with rfl | hq
    · exact N _ (.tail _ hwl)
    · exact N _ (.tail _ hq)
  clear N
  have n1 := h93 _ he
  have n2 := h93 _ hbl
  have n3 := h93 _ hwl
  k_with_none
  k_with "binaryOp Add int int" => (refine add_N ?_)
  k_with "binaryOp Sub int int" => (refine sub_N ?_)
  k_with "inplaceOp Add int int" => (refine iadd_N ?_)
  k_with "inplaceOp Sub int int" => (refine isub_N ?_)
  k_with "binaryOp BitOr int int" => (refine or_N ?_)
  k_with "unaryOp USub int" => (refine neg_N ?_)
  k_with "storeName" => (k_here; k_dflt (refine' storeX_N ?F ?N ?eg ?ed ?eo ?_ ?a ?b; (case F => k_asm); (case N => k_asm); (case a => rfl); (case b => rfl); (case eg => first | (dsimp only; done) | exact rfl); (case ed => first | (dsimp only; done) | exact rfl); (case eo => first | (dsimp only; done) | exact rfl); k_whole; intro _ _ _; (try k_sweep)))
  k_with "MineLt" => (first | with_reducible assumption | ((with_reducible rename _ ∧ _ => hC9); first | exact hC9.1 | exact hC9.2.1 | exact hC9.2.2.1 | exact hC9.2.2.2.1 | exact hC9.2.2.2.2.1 | exact hC9.2.2.2.2.2.1 | exact hC9.2.2.2.2.2.2.1 | exact hC9.2.2.2.2.2.2.2.1 | exact hC9.2.2.2.2.2.2.2.2.1 | exact hC9.2.2.2.2.2.2.2.2.2.1 | exact hC9.2.2.2.2.2.2.2.2.2.2.1 | exact hC9.2.2.2.2.2.2.2.2.2.2.2.1 | exact hC9.2.2.2.2.2.2.2.2.2.2.2.2.1 | exact hC9.2.2.2.2.2.2.2.2.2.2.2.2.2.1) | exact And.left (by with_reducible assumption) | exact Nat.lt_succ_self _)
  k_with "binaryOp LShift int int" => (refine' lshift_N ?hn ?hz ?_; (case hn => k_extra "nn"); (case hz => k_extra "shl"); (try k_extra "tidy"))
  k_with "inplaceOp LShift int int" => (refine' ilshift_N ?hn ?hz ?_; (case hn => k_extra "nn"); (case hz => k_extra "shl"); (try k_extra "tidy"))
  k_with "binaryOp RShift int int" => (refine' rshift_N ?hn ?_; (case hn => k_extra "nn"); (try k_extra "tidy"))
  k_with "inplaceOp RShift int int" => (refine' irshift_N ?hn ?_; (case hn => k_extra "nn"); (try k_extra "tidy"))
  k_with "binaryOp BitAnd int int" => (refine and_N ?_; (try k_extra "tidy"))
  k_with "binaryOp Mult int int" => (refine' mul_N ?_ ?hm; (case hm => k_extra "mul"); (try k_extra "tidy"))
  k_with "Kdm" => (refine' divmod_N ?F ?N ?hb ?_ ?hp; (case F => k_asm); (case N => k_asm); (case hb => k_extra "div0"); (case hp => k_extra "pylong"))
  k_with "call ref" => (k_extra "my call")
  k_with "ite" => (k_extra "decide")
  k_with "binaryOp FloorDiv int int" => (refine' floordiv_N ?hb ?_ ?hp; (case hb => k_extra "div0"); (case hp => k_extra "pylong"); (try k_extra "tidy"))
  k_with "binaryOp BitXor int int" => (refine xor_N ?_; (try k_extra "tidy"))
  k_with "subscriptTail Name Constant ref int" => (k_here; (with_reducible show wpAny _ _ (subscriptTail _ _ (Value.ref _) (Value.int _ _)) _ _ _); (with_unfolding_all refine' item_litK ?k1 ?k2 ?k3 ?k4 ?_ ?k6; (case k1 => is_list); (case k2 => decide); (case k3 => decide); (case k4 => rfl); (case k6 => with_unfolding_all rfl); k_whole))
  k_with "subscriptTail Name Name ref int" => (k_here; (with_reducible show wpAny _ _ (subscriptTail _ _ (Value.ref _) (Value.int _ _)) _ _ _); (with_unfolding_all refine' item_litK ?k1 ?k2 ?k3 ?k4 ?_ ?k6; (case k1 => is_list); (case k2 => decide); (case k3 => decide); (case k4 => rfl); (case k6 => with_unfolding_all rfl); k_whole))
  k_with "subscriptTail Name BinOp ref int" => (k_here; (with_reducible show wpAny _ _ (subscriptTail _ _ (Value.ref _) (Value.int _ _)) _ _ _); (with_unfolding_all refine' item_litK ?k1 ?k2 ?k3 ?k4 ?_ ?k6; (case k1 => is_list); (case k2 => decide); (case k3 => decide); (case k4 => rfl); (case k6 => with_unfolding_all rfl); k_whole))
  k_with "UnrEnd" => k_dflt (refine' unr_close ?uF ?uN ?uP ?uO ?_; (case uF => assumption); (case uN => assumption); (case uP => first | exact Pull.head | exact Pull.tail Pull.head | exact Pull.tail (Pull.tail Pull.head) | exact Pull.tail (Pull.tail (Pull.tail Pull.head)) | exact Pull.tail (Pull.tail (Pull.tail (Pull.tail Pull.head)))); (case uO => k_all); k_whole)
  k_with "pyIter ref" => k_dflt (k_extra "iter")
  k_with "decide" => fail
  k_with "hot" => (repeat (first | assumption | refine HotN.cons ?_))
  k_with "mul" => exact IntMulOk.of_le (m := 4194304) (n := 4194304) (Nat.le_trans (by assumption) (by decide)) (by assumption) (by decide)
  k_with "bits" => exact Nat.le_trans (by assumption) (by decide)
  k_with "my call" =>
    first
      | ((with_reducible show wpAny _ _ (call (Value.ref 98) _) _ _ _); refine stop_intro ?_)
      | (refine' idmH ?kb ?b1 ?b2 ?k1 ?k2 ?k3 ?k4 ?kH ?k5 ?k6 ?k6b ?k7 ?k8 ?k9 ?_
         (case k4 => k_asm)
         (case kH => k_extra "hot")
         (case k1 => k_asm)
         (case k2 => k_asm)
         (case k3 => k_asm)
         (case k5 => k_asm)
         (case k6 => k_asm)
         (case k6b => k_asm)
         (case k7 => exact rfl)
         (case k8 => ktr_room)
         (case k9 => ktr_units)
         (case kb => assumption)
         (case b2 => assumption)
         (case b1 => k_extra "bits")
         intro x9 y9 D9 t91 t92 c9 hp9 tk9 P9 F9 N9 l9
         (try simp only [AllLt] at l9)
         have B9 := dm_bits P9 (by assumption)
         have S9 := intBits_add_le hdb B9
         have U9 := intBits_add_le ha B9)
  refine wpAny_call ?_
  k_dflt ktr_enter
  (try refine tok_any fun tk9 => ?_)
  (rename Fr _ _ _ _ => F1)
  replace F1 := fr_as (m' := fun y => List.lookup y [(Str.ofString "worths", .ref wl), (Str.ofString "bases", .ref bl), (Str.ofString "entry", .ref e)]) F1 rfl
  k_steps
  rename_i xa ya Da ta1 ta2 ca hpa tka Pa la Ba Sa Ua q1 q2 q3 tkq xb yb Db tb1 tb2 cb hpb tkb Pb lb Bb Sb Ub q4 q5 q6 tkr q7 q8 q9 dd q10 o1 lod hd1 ld DD q11 Fq Nq lD q12 od Fz Nz hdz
  unfold Stop
  obtain ⟨tx, kx, Nr⟩ : ∃ tx kx, News _ _ q12 ((93, tabObj ps) :: (DD, tup2 xb tb1 (xb * w2) tx kx) :: (dd, od) :: (e, tup5 a e1 b e2 c e3 d e4 ed ek9) :: news) := ⟨_, _, newsSub Nz (fun p hp => by
    rcases List.mem_cons.mp hp with rfl | hp
    · k_mem
    rcases List.mem_cons.mp hp with rfl | hp
    · k_mem
    rcases List.mem_cons.mp hp with rfl | hp
    · k_mem
    rcases List.mem_cons.mp hp with rfl | hp
    · k_mem
    · (repeat refine List.mem_cons_of_mem _ ?_); exact hp)⟩
  have r93 : ∀ q ∈ ((DD, tup2 xb tb1 (xb * w2) tx kx) :: (dd, od) :: (e, tup5 a e1 b e2 c e3 d e4 ed ek9) :: news : List (Addr × Obj)), q.1 ≠ 93 := fun q hq => by
    rcases List.mem_cons.mp hq with rfl | hq
    · exact Nat.ne_of_gt lD.2.2.2.2.1
    rcases List.mem_cons.mp hq with rfl | hq
    · exact Nat.ne_of_gt ld.2.2.2.1
    rcases List.mem_cons.mp hq with rfl | hq
    · exact n1
    · exact h93 q hq
  have ldn : AllLt dd news := ld.2.2.2.2.2.2.2
  have lDn : AllLt DD news := lD.2.2.2.2.2.2.2.2
  clear Nz Nq Fq
  refine GivesG.use (addc ed dd ct (carryT xa xb x9 w2) (hm xa xb x9).1 (hm xa xb x9).2) Pull.head (by k_asm) (by k_asm) (by k_asm) Nr hG r93 (by k_asm) ⟨hed.sub fun p hp => .tail _ (.tail _ (.tail _ hp)), od, _, .tail _ (.head _), hdz, ⟨rfl, ⟨_, rfl⟩, rfl, ⟨DD, tb1, tx, kx, rfl, .head _⟩, rfl, ⟨_, rfl⟩, trivial⟩, lod⟩ (by k_asm) (by k_asm) (by k_asm) (by k_asm) (by k_asm) rfl (by ktr_room) (by ktr_units) ?_
  intro v8 new8 hp8 tk8 gs8 ps8 P8 G8 B8 n8 F8 N8
  refine Mine.exand3_6 P8 fun D8 o8 kvs8 ob29 hD8 hl8 hd8 ht8 lo8 => ?_
  subst ob29
  try clear P8
  have he8 : (e, tup5 a e1 b e2 c e3 d e4 ed ek9) ∈ new8 ++ ((DD, tup2 xb tb1 (xb * w2) tx kx) :: (dd, od) :: (e, tup5 a e1 b e2 c e3 d e4 ed ek9) :: news) := List.mem_append_right _ (.tail _ (.tail _ (.head _)))
  k_steps
  rename_i Dz hz Fz Nz lz kFz kNz Tcz kXz
  have ob39 : ∃ r1 r2 r3 r4 kk, News h₀ L hz ((Dz, tup5 y9 r1 ya r2 (c + x9) r3 yb r4 D8 kk) :: (93, tabObj ps8) :: (new8 ++ ((DD, tup2 xb tb1 (xb * w2) tx kx) :: (dd, od) :: (e, tup5 a e1 b e2 c e3 d e4 ed ek9) :: news))) := ⟨_, _, _, _, _, kNz⟩
  refine Mine.exand5_1 ob39 fun r1 r2 r3 r4 kk kN2 => ?_
  try clear ob39
  clear kNz Nz
  have hsubn : ∀ p ∈ news, p ∈ ((DD, tup2 xb tb1 (xb * w2) tx kx) :: (dd, od) :: (e, tup5 a e1 b e2 c e3 d e4 ed ek9) :: news : List (Addr × Obj)) := fun p hp => .tail _ (.tail _ (.tail _ hp))
  refine hret (.ref Dz) ((Dz, tup5 y9 r1 ya r2 (c + x9) r3 yb r4 D8 kk) :: (DD, tup2 xb tb1 (xb * w2) tx kx) :: (dd, od) :: new8) _ _ gs8 ps8 ⟨Dz, xa, ya, xb, yb, x9, y9, rfl, Pa, Pb, P9, fun q hq => ?_, ⟨r1, r2, r3, r4, D8, kk, .head _, o8, kvs8, .tail _ (.tail _ (.tail _ (List.mem_append_left _ hD8))), hd8, ht8.sub fun p hp => ?_, lo8⟩⟩ G8 B8 (fun q hq => ?_) kFz (newsSub kN2 fun p hp => ?_)
  · rcases List.mem_cons.mp hq with rfl | hq
    · exact allLt_sub lz.2 fun p hp => List.mem_append_right _ (hsubn p hp)
    rcases List.mem_cons.mp hq with rfl | hq
    · exact lDn
    rcases List.mem_cons.mp hq with rfl | hq
    · exact ldn
    · exact allLt_sub (hl8 q hq) hsubn
  · simp only [List.mem_cons, List.mem_append, List.cons_append] at hp ⊢
    rcases hp with h | h | h | h | h
    · exact .inr (.inr (.inr (.inl h)))
    · exact .inr (.inl h)
    · exact .inr (.inr (.inl h))
    · exact .inr (.inr (.inr (.inr (h ▸ he))))
    · exact .inr (.inr (.inr (.inr h)))
  · rcases List.mem_cons.mp hq with rfl | hq
    · exact Nat.ne_of_gt lz.1
    rcases List.mem_cons.mp hq with rfl | hq
    · exact r93 _ (.head _)
    rcases List.mem_cons.mp hq with rfl | hq
    · exact r93 _ (.tail _ (.head _))
    · exact n8 q hq
  · simp only [List.mem_cons, List.mem_append, List.cons_append] at hp ⊢
    rcases hp with h | h | h | h | h | h
    · exact .inr (.inl h)
    · exact .inl h
    · exact .inr (.inr (.inr (.inl h)))
    · exact .inr (.inr (.inr (.inr (.inl h))))
    · exact .inr (.inr (.inl h))
    · exact .inr (.inr (.inr (.inr (.inr (.inr h)))))
end
example {prog : Program} {w : World} {A : Around} {env : Env} {Q : Flow → Shared → Prop} {E : Value → Shared → Prop} {s : Shared} (h : Q .next s) : wpAny (model prog w) A (execs [] env) Q E s := by
  w_top off
  walk1
  exact h
section
def q1 (b0 x : Int) : Int := x.fdiv b0
def q2 (b0 b1 x : Int) : Int := (q1 b0 x).fdiv b1
def q3 (b0 b1 b2 x : Int) : Int := (q2 b0 b1 x).fdiv b2

theorem dm_of {a b : Int} (hb : b ≠ 0) : DM a b (a.fdiv b) (a - b * a.fdiv b) := by
  refine ⟨by rw [Int.mul_comm]; omega, ?_⟩
  rcases Int.lt_or_lt_of_ne hb with h | h
  · right
    have e : a.fdiv b = (-a) / (-b) := by rw [← Int.neg_fdiv_neg, Int.fdiv_eq_ediv_of_nonneg _ (by omega)]
    have h1 := Int.mul_ediv_add_emod (-a) (-b)
    have h2 := Int.emod_nonneg (-a) (show -b ≠ 0 by omega)
    have h3 := Int.emod_lt_of_pos (-a) (show 0 < -b by omega)
    rw [e]
    rw [Int.neg_mul] at h1
    omega
  · left
    rw [Int.fdiv_eq_ediv_of_nonneg _ (by omega)]
    have h1 := Int.mul_ediv_add_emod a b
    have h2 := Int.emod_nonneg a hb
    have h3 := Int.emod_lt_of_pos a h
    omega
theorem dm_fdiv {a b x y : Int} (h : DM a b x y) : x = a.fdiv b ∧ y = a - b * a.fdiv b := by
  have hb : b ≠ 0 := by obtain ⟨_, h⟩ := h; omega
  exact dm_unique h (dm_of hb)
theorem dm_shift {a b x y k : Int} (h : DM a b x y) : DM (a + b * k) b (x + k) y := by
  refine Mine.exand0_2 h fun e h => ?_
  exact ⟨by rw [Int.add_mul, Int.mul_comm k b]; omega, h⟩

/-- what an entry stands for: is it a row as made, its number, the sums of its rows' blocks -/
structure Rc where
  leaf : Bool
  S : Int
  s1 : Int
  s2 : Int
  s3 : Int
def Rc.ok (b0 b1 b2 : Int) (r : Rc) : Prop := r.leaf = true → r.s1 = q1 b0 r.S ∧ r.s2 = q2 b0 b1 r.S ∧ r.s3 = q3 b0 b1 b2 r.S
def rcM (r r' : Rc) : Rc := ⟨false, r.S + r'.S, r.s1 + r'.s1, r.s2 + r'.s2, r.s3 + r'.s3⟩
def rcTab (b0 b1 b2 w2 : Int) (r : Rc) : List (Str × Cell) :=
  if r.leaf = true then [(Str.ofString "a", .int r.S)]
  else [(Str.ofString "a", .int r.S), (Str.ofString "b", .int (q1 b0 r.S - r.s1)), (Str.ofString "c", .pair (q2 b0 b1 r.S - r.s2) ((q2 b0 b1 r.S - r.s2) * w2)), (Str.ofString "d", .int (q3 b0 b1 b2 r.S - r.s3))]
theorem rcM_ok (b0 b1 b2 : Int) (r r' : Rc) : (rcM r r').ok b0 b1 b2 := fun h => by cases h

theorem nab : ¬ Str.ofString "a" = Str.ofString "b" := by decide
theorem nac : ¬ Str.ofString "a" = Str.ofString "c" := by decide
theorem nad : ¬ Str.ofString "a" = Str.ofString "d" := by decide
theorem nba : ¬ Str.ofString "b" = Str.ofString "a" := by decide
theorem nbc : ¬ Str.ofString "b" = Str.ofString "c" := by decide
theorem nbd : ¬ Str.ofString "b" = Str.ofString "d" := by decide
theorem nca : ¬ Str.ofString "c" = Str.ofString "a" := by decide
theorem ncb : ¬ Str.ofString "c" = Str.ofString "b" := by decide
theorem ncd : ¬ Str.ofString "c" = Str.ofString "d" := by decide
theorem nda : ¬ Str.ofString "d" = Str.ofString "a" := by decide
theorem ndb : ¬ Str.ofString "d" = Str.ofString "b" := by decide
theorem ndc : ¬ Str.ofString "d" = Str.ofString "c" := by decide

theorem merge_tab {b0 b1 b2 w2 : Int} {r r' : Rc} (h : r.ok b0 b1 b2) (h' : r'.ok b0 b1 b2) {up more la : Int} (e1 : up = q1 b0 (r.S + r'.S) - q1 b0 r.S - q1 b0 r'.S) (e2 : more = q2 b0 b1 (r.S + r'.S) - q2 b0 b1 r.S - q2 b0 b1 r'.S) (e3 : la = q3 b0 b1 b2 (r.S + r'.S) - q3 b0 b1 b2 r.S - q3 b0 b1 b2 r'.S) :
    merged' (merged' (rcTab b0 b1 b2 w2 r) (rcTab b0 b1 b2 w2 r')) (carryT up more la w2) = rcTab b0 b1 b2 w2 (rcM r r') := by
  obtain ⟨f, S, s1, s2, s3⟩ := r
  try clear r
  obtain ⟨f', T, t1, t2, t3⟩ := r'
  try clear r'
  simp only [Rc.ok] at h h' e1 e2 e3
  have m1 : ∀ x y : Int, (x + y) * w2 = x * w2 + y * w2 := fun x y => Int.add_mul x y w2
  have m2 : ∀ x y : Int, (x - y) * w2 = x * w2 - y * w2 := fun x y => Int.sub_mul x y w2
  cases f <;> cases f'
  · simp [rcTab, rcM, carryT, merged', mergeC, cellAt', cellPut, cellAdd, nab, nac, nad, nba, nbc, nbd, nca, ncb, ncd, nda, ndb, ndc]
    subst e1 e2 e3
    refine ⟨by omega, ⟨by omega, ?_⟩, by omega⟩
    rw [← Int.add_mul, ← Int.add_mul]; congr 1; omega
  · refine Mine.exand0_3 (h' rfl) fun a1 a2 a3 => ?_
    simp [rcTab, rcM, carryT, merged', mergeC, cellAt', cellPut, cellAdd, nab, nac, nad, nba, nbc, nbd, nca, ncb, ncd, nda, ndb, ndc]
    subst e1 e2 e3
    refine ⟨by omega, ⟨by omega, ?_⟩, by omega⟩
    rw [← Int.add_mul]; congr 1; omega
  · refine Mine.exand0_3 (h rfl) fun a1 a2 a3 => ?_
    simp [rcTab, rcM, carryT, merged', mergeC, cellAt', cellPut, cellAdd, nab, nac, nad, nba, nbc, nbd, nca, ncb, ncd, nda, ndb, ndc]
    subst e1 e2 e3
    refine ⟨by omega, ⟨by omega, ?_⟩, by omega⟩
    rw [← Int.add_mul]; congr 1; omega
  · refine Mine.exand0_3 (h rfl) fun a1 a2 a3 => ?_
    refine Mine.exand0_3 (h' rfl) fun c1 c2 c3 => ?_
    simp [rcTab, rcM, carryT, merged', mergeC, cellAt', cellPut, cellAdd, nab, nac, nad, nba, nbc, nbd, nca, ncb, ncd, nda, ndb, ndc]
    subst e1 e2 e3
    refine ⟨by omega, ⟨by omega, ?_⟩, by omega⟩
    congr 1; omega

/-- the carry of two entries is the entry of both -/
theorem carry_math {b0 b1 b2 : Int} {S T up one more two la th : Int} (h1 : DM ((T - b0 * q1 b0 T) + (S - b0 * q1 b0 S)) b0 up one) (h2 : DM ((q1 b0 T - b1 * q2 b0 b1 T) + (q1 b0 S - b1 * q2 b0 b1 S) + up) b1 more two)
    (h3 : DM ((q2 b0 b1 T - b2 * q3 b0 b1 b2 T) + (q2 b0 b1 S - b2 * q3 b0 b1 b2 S) + more) b2 la th) :
    up = q1 b0 (S + T) - q1 b0 S - q1 b0 T ∧ more = q2 b0 b1 (S + T) - q2 b0 b1 S - q2 b0 b1 T ∧ la = q3 b0 b1 b2 (S + T) - q3 b0 b1 b2 S - q3 b0 b1 b2 T ∧
      one = (S + T) - b0 * q1 b0 (S + T) ∧ two = q1 b0 (S + T) - b1 * q2 b0 b1 (S + T) ∧ th = q2 b0 b1 (S + T) - b2 * q3 b0 b1 b2 (S + T) := by
  have g1 := dm_fdiv (dm_shift (k := q1 b0 S + q1 b0 T) h1)
  have z1 : (T - b0 * q1 b0 T) + (S - b0 * q1 b0 S) + b0 * (q1 b0 S + q1 b0 T) = S + T := by rw [Int.mul_add]; omega
  rw [z1] at g1
  have e1 : up + (q1 b0 S + q1 b0 T) = q1 b0 (S + T) := g1.1
  have o1 : one = S + T - b0 * q1 b0 (S + T) := g1.2
  have g2 := dm_fdiv (dm_shift (k := q2 b0 b1 S + q2 b0 b1 T) h2)
  have z2 : (q1 b0 T - b1 * q2 b0 b1 T) + (q1 b0 S - b1 * q2 b0 b1 S) + up + b1 * (q2 b0 b1 S + q2 b0 b1 T) = q1 b0 (S + T) := by rw [Int.mul_add]; omega
  rw [z2] at g2
  have e2 : more + (q2 b0 b1 S + q2 b0 b1 T) = q2 b0 b1 (S + T) := g2.1
  have o2 : two = q1 b0 (S + T) - b1 * q2 b0 b1 (S + T) := g2.2
  have g3 := dm_fdiv (dm_shift (k := q3 b0 b1 b2 S + q3 b0 b1 b2 T) h3)
  have z3 : (q2 b0 b1 T - b2 * q3 b0 b1 b2 T) + (q2 b0 b1 S - b2 * q3 b0 b1 b2 S) + more + b2 * (q3 b0 b1 b2 S + q3 b0 b1 b2 T) = q2 b0 b1 (S + T) := by rw [Int.mul_add]; omega
  rw [z3] at g3
  have e3 : la + (q3 b0 b1 b2 S + q3 b0 b1 b2 T) = q3 b0 b1 b2 (S + T) := g3.1
  have o3 : th = q2 b0 b1 (S + T) - b2 * q3 b0 b1 b2 (S + T) := g3.2
  exact ⟨by omega, by omega, by omega, o1, o2, o3⟩

/-! the kinds of a table's things -/
def KindOk (cs : List (Str × Cell)) : Prop := ∀ p ∈ cs, (p.1 = Str.ofString "c" → ∃ x y, p.2 = .pair x y) ∧ (¬ p.1 = Str.ofString "c" → ∃ i, p.2 = .int i)
theorem cellAt_mem {cs : List (Str × Cell)} {k : Str} {c : Cell} (h : cellAt' cs k = some c) : (k, c) ∈ cs := by
  unfold cellAt' at h
  rw [Option.map_eq_some_iff] at h
  refine Mine.exand1_2 h fun p h1 h2 => ?_
  try clear h
  have h3 := List.mem_of_find?_eq_some h1
  have h4 := List.find?_some h1
  have h5 : p.1 = k := by simpa using h4
  subst h5 h2
  exact h3
theorem same_of_kind {k : Str} {c co : Cell} (h : (k = Str.ofString "c" → ∃ x y, c = .pair x y) ∧ (¬ k = Str.ofString "c" → ∃ i, c = .int i)) (h' : (k = Str.ofString "c" → ∃ x y, co = .pair x y) ∧ (¬ k = Str.ofString "c" → ∃ i, co = .int i)) : sameKind co c := by
  by_cases e : k = Str.ofString "c"
  · refine Mine.exand2_1 (h.1 e) fun x y ob19 => ?_
    subst ob19
    refine Mine.exand2_1 (h'.1 e) fun x' y' ob29 => ?_
    subst ob29
    trivial
  · refine Mine.exand1_1 (h.2 e) fun x ob39 => ?_
    subst ob39
    refine Mine.exand1_1 (h'.2 e) fun x' ob49 => ?_
    subst ob49
    trivial
theorem kind_put {cs : List (Str × Cell)} {p : Str × Cell} (h : KindOk cs) (hp : (p.1 = Str.ofString "c" → ∃ x y, p.2 = .pair x y) ∧ (¬ p.1 = Str.ofString "c" → ∃ i, p.2 = .int i)) : KindOk (mergeC cs p) := by
  unfold mergeC
  split
  · intro q hq
    rcases List.mem_append.mp hq with hq | hq
    · exact h q hq
    · rw [List.mem_singleton.mp hq]; exact hp
  · rename_i c hc
    have hk := h _ (cellAt_mem hc)
    intro q hq
    unfold cellPut at hq
    refine Mine.exand1_2 (List.mem_map.mp hq) fun r hr ob59 => ?_
    subst ob59
    split
    · rename_i e
      have := same_of_kind hp hk
      dsimp only
      rw [e]
      cases c with
      | int a =>
        cases h2 : p.2 with
        | int b => exact ⟨fun q => (by obtain ⟨x, y, z⟩ := hk.1 q; cases z), fun _ => ⟨_, rfl⟩⟩
        | pair x y => rw [h2] at this; exact this.elim
      | pair a b =>
        cases h2 : p.2 with
        | int b => rw [h2] at this; exact this.elim
        | pair x y => exact ⟨fun _ => ⟨_, _, rfl⟩, fun q => (by obtain ⟨x, z⟩ := hk.2 q; cases z)⟩
    · exact h r hr
theorem kind_merged : ∀ (ds cs : List (Str × Cell)), KindOk cs → KindOk ds → KindOk (merged' cs ds)
  | [], cs, h, _ => h
  | d :: ds, cs, h, h' => kind_merged ds (mergeC cs d) (kind_put h (h' d (.head _))) fun q hq => h' q (.tail _ hq)
theorem mergeOk_of {cs ds : List (Str × Cell)} (h : KindOk cs) (h' : KindOk ds) (l : cs.length ≤ 100) (l' : ds.length ≤ 100) : MergeOk cs ds := by
  refine ⟨fun i k c co h1 h2 => ?_, l, l'⟩
  have h3 := kind_merged (ds.take i) cs h fun q hq => h' q (List.mem_of_mem_take hq)
  exact same_of_kind (h' _ (List.mem_of_getElem? h1)) (h3 _ (cellAt_mem h2))
theorem kind_rc (b0 b1 b2 w2 : Int) (r : Rc) : KindOk (rcTab b0 b1 b2 w2 r) := by
  intro p hp
  unfold rcTab at hp
  split at hp
  · rw [List.mem_singleton.mp hp]
    exact ⟨fun e => absurd e nac, fun _ => ⟨_, rfl⟩⟩
  · simp only [List.mem_cons, List.not_mem_nil, or_false] at hp
    rcases hp with rfl | rfl | rfl | rfl
    · exact ⟨fun e => absurd e nac, fun _ => ⟨_, rfl⟩⟩
    · exact ⟨fun e => absurd e nbc, fun _ => ⟨_, rfl⟩⟩
    · exact ⟨fun _ => ⟨_, _, rfl⟩, fun e => absurd rfl e⟩
    · exact ⟨fun e => absurd e ndc, fun _ => ⟨_, rfl⟩⟩
theorem kind_carry (up more la w2 : Int) : KindOk (carryT up more la w2) := by
  intro p hp
  simp only [carryT, List.mem_cons, List.not_mem_nil, or_false] at hp
  rcases hp with rfl | rfl | rfl
  · exact ⟨fun e => absurd e nbc, fun _ => ⟨_, rfl⟩⟩
  · exact ⟨fun _ => ⟨_, _, rfl⟩, fun e => absurd rfl e⟩
  · exact ⟨fun e => absurd e ndc, fun _ => ⟨_, rfl⟩⟩
theorem rcTab_length (b0 b1 b2 w2 : Int) (r : Rc) : (rcTab b0 b1 b2 w2 r).length ≤ 4 := by
  unfold rcTab
  split <;> simp
end
example {prog : Program} {w : World} {A : Around} {env : Env} {Q : Flow → Shared → Prop} {E : Value → Shared → Prop} {s : Shared} (h : Q .next s) : wpAny (model prog w) A (execs [] env) Q E s := by
  w_top off
  walk1
  exact h
section
abbrev EntR (w : World) (b0 b1 b2 w2 : Int) (news : List (Addr × Obj)) (e : Addr) (r : Rc) : Prop :=
  EntL w news e (q2 b0 b1 r.S - b2 * q3 b0 b1 b2 r.S) (r.S - b0 * q1 b0 r.S) (q3 b0 b1 b2 r.S) (q1 b0 r.S - b1 * q2 b0 b1 r.S) (rcTab b0 b1 b2 w2 r) ∧ r.ok b0 b1 b2
def LineR (w : World) (b0 b1 b2 w2 : Int) (news : List (Addr × Obj)) : List Value → List Rc → Prop
  | [], [] => True
  | v :: vs, r :: rs => (∃ e, v = .ref e ∧ EntR w b0 b1 b2 w2 news e r) ∧ LineR w b0 b1 b2 w2 news vs rs
  | _, _ => False
section
variable {w : World} {b0 b1 b2 w2 : Int} {news news' : List (Addr × Obj)}
theorem LineR.sub (hs : ∀ p ∈ news, p ∈ news') : ∀ {vs : List Value} {rs : List Rc}, LineR w b0 b1 b2 w2 news vs rs → LineR w b0 b1 b2 w2 news' vs rs := by
  intro vs
  induction vs with
  | nil => intro rs h; cases rs with | nil => trivial | cons b m => exact h.elim
  | cons a l ih => intro rs h; cases rs with | nil => exact h.elim | cons b m => exact ⟨h.1.elim fun e x => ⟨e, x.1, x.2.1.sub hs, x.2.2⟩, ih h.2⟩
theorem LineR.length : ∀ {vs : List Value} {rs : List Rc}, LineR w b0 b1 b2 w2 news vs rs → vs.length = rs.length := by
  intro vs
  induction vs with
  | nil => intro rs h; cases rs with | nil => rfl | cons b m => exact h.elim
  | cons a l ih => intro rs h; cases rs with | nil => exact h.elim | cons b m => exact congrArg Nat.succ (ih h.2)
theorem LineR.append {v : Value} {r : Rc} (h : ∃ e, v = .ref e ∧ EntR w b0 b1 b2 w2 news e r) : ∀ {vs : List Value} {rs : List Rc}, LineR w b0 b1 b2 w2 news vs rs → LineR w b0 b1 b2 w2 news (vs ++ [v]) (rs ++ [r]) := by
  intro vs
  induction vs with
  | nil => intro rs h'; cases rs with | nil => exact ⟨h, trivial⟩ | cons b m => exact h'.elim
  | cons a l ih => intro rs h'; cases rs with | nil => exact h'.elim | cons b m => exact ⟨h'.1, ih h'.2⟩
theorem LineR.cut : ∀ {vs : List Value} {rs : List Rc} (k : Nat), LineR w b0 b1 b2 w2 news vs rs → k < vs.length →
    ∃ p y q rp ry rq, kl_cut vs k = some (p, .ref y, q) ∧ rs = rp ++ ry :: rq ∧ EntR w b0 b1 b2 w2 news y ry ∧ LineR w b0 b1 b2 w2 news (p ++ q) (rp ++ rq) := by
  intro vs
  induction vs with
  | nil => intro rs k h hk; cases hk
  | cons v vs ih =>
    intro rs k h hk
    cases rs with
    | nil => exact h.elim
    | cons r rs =>
      cases k with
      | zero =>
        refine h.1.elim fun e x => ?_
        exact ⟨[], e, vs, [], r, rs, by rw [x.1]; rfl, rfl, x.2, h.2⟩
      | succ k =>
        refine Mine.exand6_4 (ih k h.2 (Nat.lt_of_succ_lt_succ hk)) fun p y q rp ry rq e1 e2 e3 e4 => ?_
        exact ⟨v :: p, y, q, r :: rp, ry, rq, by unfold kl_cut; rw [e1], by rw [e2]; rfl, e3, h.1, e4⟩
end
/-- the sums of a line's records -/
structure Tot (rs : List Rc) (S s1 s2 s3 : Int) : Prop where
  a : (rs.map Rc.S).sum = S
  b : (rs.map Rc.s1).sum = s1
  c : (rs.map Rc.s2).sum = s2
  d : (rs.map Rc.s3).sum = s3
theorem sum_mid (f : Rc → Int) (p q : List Rc) (r : Rc) : ((p ++ r :: q).map f).sum = f r + ((p ++ q).map f).sum := by
  rw [List.map_append, List.map_append, List.map_cons, List.sum_append, List.sum_append, List.sum_cons]
  omega
theorem Tot.cut {p q : List Rc} {r : Rc} {S s1 s2 s3 : Int} (h : Tot (p ++ r :: q) S s1 s2 s3) : Tot (p ++ q) (S - r.S) (s1 - r.s1) (s2 - r.s2) (s3 - r.s3) := by
  obtain ⟨a, b, c, d⟩ := h
  try clear h
  rw [sum_mid] at a b c d
  exact ⟨by omega, by omega, by omega, by omega⟩
theorem Tot.push {rs : List Rc} {r : Rc} {S s1 s2 s3 : Int} (h : Tot rs S s1 s2 s3) : Tot (rs ++ [r]) (S + r.S) (s1 + r.s1) (s2 + r.s2) (s3 + r.s3) := by
  obtain ⟨a, b, c, d⟩ := h
  try clear h
  refine ⟨?_, ?_, ?_, ?_⟩ <;> rw [List.map_append, List.sum_append] <;> simp [*]
theorem Tot.cast {rs : List Rc} {S s1 s2 s3 S' s1' s2' s3' : Int} (h : Tot rs S s1 s2 s3) (a : S = S') (b : s1 = s1') (c : s2 = s2') (d : s3 = s3') : Tot rs S' s1' s2' s3' := by subst a b c d; exact h

theorem fmod_idx {d : Int} {n : Nat} (hn : 0 < n) : ∃ k : Nat, d.fmod (n : Int) = (k : Int) ∧ k < n := by
  have h1 : d.fmod (n : Int) = d % (n : Int) := Int.fmod_eq_emod_of_nonneg d (by omega)
  have h2 := Int.emod_nonneg d (show (n : Int) ≠ 0 by omega)
  have h3 := Int.emod_lt_of_pos d (show (0 : Int) < n by omega)
  exact ⟨(d % (n : Int)).toNat, by omega, by omega⟩
theorem fits_small {k : Nat} (h : k < 100) : Builtin.List.listFitsIndex (k : Int) = true := by
  unfold Builtin.List.listFitsIndex
  simp only [Bool.and_eq_true, decide_eq_true_eq]
  omega
theorem idx_at {k n : Nat} (h : k < n) : seqIndex? (k : Int) n = some k := by
  unfold seqIndex?
  have e1 : ¬ ((k : Int) < 0) := by omega
  simp only [e1, if_false]
  rw [if_pos (by simp only [Bool.and_eq_true, decide_eq_true_eq]; omega)]
  rw [Int.toNat_natCast]

/-- what is neither a tuple nor a dict may be dropped -/
def Idle (o : Obj) : Prop := o.cls ≠ .type "tuple" ∧ o.cls ≠ .type "dict"
section
variable {news news' : List (Addr × Obj)}
theorem CellIs.drop (hs : ∀ p ∈ news, p ∈ news' ∨ Idle p.2) {v : Value} {c : Cell} (h : CellIs news v c) : CellIs news' v c := by
  cases c with
  | int i => exact h
  | pair x y =>
    refine Mine.exand4_2 h fun d t1 t2 k e hd => ?_
    try clear h
    exact ⟨d, t1, t2, k, e, (hs _ hd).elim id fun q => absurd rfl q.1⟩
theorem TabIs.drop (hs : ∀ p ∈ news, p ∈ news' ∨ Idle p.2) : ∀ {kvs : List (Str × Value)} {cs : List (Str × Cell)}, TabIs news kvs cs → TabIs news' kvs cs
  | [], [], _ => trivial
  | (_, _) :: _, (_, _) :: _, ⟨e, h, r⟩ => ⟨e, h.drop hs, TabIs.drop hs r⟩
theorem EntL.drop {w : World} {e : Addr} {a b c d : Int} {cs : List (Str × Cell)} (hs : ∀ p ∈ news, p ∈ news' ∨ Idle p.2) (h : EntL w news e a b c d cs) : EntL w news' e a b c d cs := by
  obtain ⟨t1, t2, t3, t4, dd, k, x, o, kvs, y1, y2, y3, y4⟩ := h
  try clear h
  refine ⟨t1, t2, t3, t4, dd, k, (hs _ x).elim id fun q => absurd rfl q.1, o, kvs, (hs _ y1).elim id fun q => absurd ?_ q.2, y2, y3.drop hs, y4⟩
  refine Mine.exand2_2 y2 fun _ _ hc _ => ?_
  try clear y2
  exact hc.1
end
theorem idle_list {a : Array Value} {n : Nat} : Idle (listOf a n) := ⟨fun e => absurd (Value.type.inj e) (by decide), fun e => absurd (Value.type.inj e) (by decide)⟩
theorem idle_iter {o : Obj} (h : o.cls = .type "list_iterator") : Idle o := ⟨fun e => absurd (Value.type.inj (h.symm.trans e)) (by decide), fun e => absurd (Value.type.inj (h.symm.trans e)) (by decide)⟩


theorem twos {w p loose mean mg mb} (el dl bl wl : Addr) (vs dvs : List Value) (rs : List Rc) (ds : List Int) (b0 b1 b2 w0 w1 w2 w3 : Int) (t0 t1 t2 v0 v1 v2 v3 : Tok) (ke kd kb kw : Nat) (hz0 : b0 ≠ 0) (hz1 : b1 ≠ 0) (hz2 : b2 ≠ 0)
    (hb0 : intBits b0 ≤ 1048576) (hb1 : intBits b1 ≤ 1048576) (hb2 : intBits b2 ≤ 1048576) (hw2 : intBits w2 ≤ 4194304) (hIn : IntsAre dvs ds) (hds : ds.length = 5) (hrs : rs.length = 6) (S s1 s2 s3 : Int) (hT : Tot rs S s1 s2 s3) :
    GivesG w p loose mean mg mb 133 [.ref el, .ref dl, .ref bl, .ref wl] 120 800 (fun news => (el, listOf vs.toArray ke) ∈ news ∧ LineR w b0 b1 b2 w2 news vs rs ∧ (dl, listOf dvs.toArray kd) ∈ news ∧ (bl, lst3 b0 t0 b1 t1 b2 t2 kb) ∈ news ∧ (wl, lst4 w0 v0 w1 v1 w2 v2 w3 v3 kw) ∈ news ∧ HotN news)
      (fun news v new => ∃ e, v = .ref e ∧ (∀ q ∈ new, AllLt q.1 news) ∧ EntR w b0 b1 b2 w2 (new ++ news) e ⟨false, S, s1, s2, s3⟩) := by
  unfold GivesG
  k_fill
  intro dp un gd cn cs aa ccd cl outer A₀ base h₀ L m news ps s Q E B F X N hG h93 hB hP Tp NS C1 C2 C3 hk hdp hu hret
  refine Mine.exand0_6 hP fun hel hline hdl hbl hwl hH => ?_
  try clear hP
  have hMk := kstMark
  have N0 : News h₀ L s.heap ((93, tabObj ps) :: (el, listOf vs.toArray ke) :: news) := fun q hq => by
    rcases List.mem_cons.mp hq with rfl | hq
    · exact N _ (.head _)
    rcases List.mem_cons.mp hq with rfl | hq
    · exact N _ (.tail _ hel)
    · exact N _ (.tail _ hq)
  clear N
  have hvl : vs.length = 6 := by rw [hline.length, hrs]
  have hdvl : dvs.length = 5 := by rw [hIn.length, hds]
  k_with_none
  k_with "binaryOp Add int int" => (refine add_N ?_)
  k_with "binaryOp Sub int int" => (refine sub_N ?_)
  k_with "inplaceOp Add int int" => (refine iadd_N ?_)
  k_with "inplaceOp Sub int int" => (refine isub_N ?_)
  k_with "binaryOp BitOr int int" => (refine or_N ?_)
  k_with "unaryOp USub int" => (refine neg_N ?_)
  k_with "storeName" => (k_here; k_dflt (refine' storeX_N ?F ?N ?eg ?ed ?eo ?_ ?a ?b; (case F => k_asm); (case N => k_asm); (case a => rfl); (case b => rfl); (case eg => first | (dsimp only; done) | exact rfl); (case ed => first | (dsimp only; done) | exact rfl); (case eo => first | (dsimp only; done) | exact rfl); k_whole; intro _ _ _; (try k_sweep)))
  k_with "MineLt" => (first | with_reducible assumption | ((with_reducible rename _ ∧ _ => hC9); first | exact hC9.1 | exact hC9.2.1 | exact hC9.2.2.1 | exact hC9.2.2.2.1 | exact hC9.2.2.2.2.1 | exact hC9.2.2.2.2.2.1 | exact hC9.2.2.2.2.2.2.1 | exact hC9.2.2.2.2.2.2.2.1 | exact hC9.2.2.2.2.2.2.2.2.1 | exact hC9.2.2.2.2.2.2.2.2.2.1 | exact hC9.2.2.2.2.2.2.2.2.2.2.1 | exact hC9.2.2.2.2.2.2.2.2.2.2.2.1 | exact hC9.2.2.2.2.2.2.2.2.2.2.2.2.1 | exact hC9.2.2.2.2.2.2.2.2.2.2.2.2.2.1) | exact And.left (by with_reducible assumption) | exact Nat.lt_succ_self _)
  k_with "binaryOp LShift int int" => (refine' lshift_N ?hn ?hz ?_; (case hn => k_extra "nn"); (case hz => k_extra "shl"); (try k_extra "tidy"))
  k_with "inplaceOp LShift int int" => (refine' ilshift_N ?hn ?hz ?_; (case hn => k_extra "nn"); (case hz => k_extra "shl"); (try k_extra "tidy"))
  k_with "binaryOp RShift int int" => (refine' rshift_N ?hn ?_; (case hn => k_extra "nn"); (try k_extra "tidy"))
  k_with "inplaceOp RShift int int" => (refine' irshift_N ?hn ?_; (case hn => k_extra "nn"); (try k_extra "tidy"))
  k_with "binaryOp BitAnd int int" => (refine and_N ?_; (try k_extra "tidy"))
  k_with "binaryOp Mult int int" => (refine' mul_N ?_ ?hm; (case hm => k_extra "mul"); (try k_extra "tidy"))
  k_with "Kdm" => (refine' divmod_N ?F ?N ?hb ?_ ?hp; (case F => k_asm); (case N => k_asm); (case hb => k_extra "div0"); (case hp => k_extra "pylong"))
  k_with "call ref" => (k_extra "my call")
  k_with "ite" => (k_extra "decide")
  k_with "binaryOp FloorDiv int int" => (refine' floordiv_N ?hb ?_ ?hp; (case hb => k_extra "div0"); (case hp => k_extra "pylong"); (try k_extra "tidy"))
  k_with "binaryOp BitXor int int" => (refine xor_N ?_; (try k_extra "tidy"))
  k_with "subscriptTail Name Constant ref int" => (k_here; (with_reducible show wpAny _ _ (subscriptTail _ _ (Value.ref _) (Value.int _ _)) _ _ _); (with_unfolding_all refine' item_litK ?k1 ?k2 ?k3 ?k4 ?_ ?k6; (case k1 => is_list); (case k2 => decide); (case k3 => decide); (case k4 => rfl); (case k6 => with_unfolding_all rfl); k_whole))
  k_with "subscriptTail Name Name ref int" => (k_here; (with_reducible show wpAny _ _ (subscriptTail _ _ (Value.ref _) (Value.int _ _)) _ _ _); (with_unfolding_all refine' item_litK ?k1 ?k2 ?k3 ?k4 ?_ ?k6; (case k1 => is_list); (case k2 => decide); (case k3 => decide); (case k4 => rfl); (case k6 => with_unfolding_all rfl); k_whole))
  k_with "subscriptTail Name BinOp ref int" => (k_here; (with_reducible show wpAny _ _ (subscriptTail _ _ (Value.ref _) (Value.int _ _)) _ _ _); (with_unfolding_all refine' item_litK ?k1 ?k2 ?k3 ?k4 ?_ ?k6; (case k1 => is_list); (case k2 => decide); (case k3 => decide); (case k4 => rfl); (case k6 => with_unfolding_all rfl); k_whole))
  k_with "UnrEnd" => k_dflt (refine' unr_close ?uF ?uN ?uP ?uO ?_; (case uF => assumption); (case uN => assumption); (case uP => first | exact Pull.head | exact Pull.tail Pull.head | exact Pull.tail (Pull.tail Pull.head) | exact Pull.tail (Pull.tail (Pull.tail Pull.head)) | exact Pull.tail (Pull.tail (Pull.tail (Pull.tail Pull.head)))); (case uO => k_all); k_whole)
  k_with "pyIter ref" => k_dflt (k_extra "iter")
  k_with "call ref" => (k_extra "my call")
  k_with "call builtin:list.pop" => (k_here; k_dflt (k_extra "pop"))
  k_with "call builtin:len" => (k_here; (with_reducible show wpAny _ _ (call (Value.builtin "len") [Value.ref _]) _ _ _); k_dflt (k_extra "len"))
  k_with "binaryOp Mod int int" => (refine' mod_int' ?hb ?_; (case hb => k_extra "mod0"))
  k_with "exec For Name Name cons nil" => (k_here; k_dflt (refine' For_loopG ?_ ?hs; (case hs => intro _; with_unfolding_all rfl)))
  k_with "decide" => fail
  k_with "iter" => refine stop_intro ?_
  k_with "pop" => refine stop_intro ?_
  k_with "my call" => refine stop_intro ?_
  k_with "div0" => decide
  k_with "pylong" => exact Or.inl (PyProof.noPylong_small (by decide))
  k_with "len" => (refine' len_list ?ll ?lf ?_; (case ll => exact News.isList (by k_asm) (by k_mem)); (case lf => (simp only [List.size_toArray]; omega)))
  refine wpAny_call ?_
  k_dflt ktr_enter
  (try refine tok_any fun tk9 => ?_)
  (rename Fr _ _ _ _ => F1)
  replace F1 := fr_as (m' := fun y => List.lookup y [(Str.ofString "worths", .ref wl), (Str.ofString "bases", .ref bl), (Str.ofString "draws", .ref dl), (Str.ofString "entries", .ref el)]) F1 rfl
  k_steps
  rename_i g1 L1 h3 FG1 B1 X1 T1 ll cl0 h2 l1q h1 Fv Nv
  unfold Stop
  have hlln : ∀ q ∈ news, q.1 < ll := kst_ltOf l1q.2.2
  have ll93 : @Ne Nat ll 93 := Nat.ne_of_gt l1q.1
  have Fv1 : Fr g1 L1 h1 (fun y => if y = Str.ofString "two" then none else if y = Str.ofString "one" then none else if y = Str.ofString "draw" then none else if y = Str.ofString "line" then some (.ref ll) else List.lookup y [(Str.ofString "worths", .ref wl), (Str.ofString "bases", .ref bl), (Str.ofString "draws", .ref dl), (Str.ofString "entries", .ref el)]) := fr_as Fv (funext fun y => by
    by_cases q1 : y = Str.ofString "two"
    · subst q1; exact rfl
    by_cases q2 : y = Str.ofString "one"
    · subst q2; exact rfl
    by_cases q3 : y = Str.ofString "draw"
    · subst q3; exact rfl
    simp only [q1, q2, q3, if_false])
  clear Fv
  have Nv3 : News g1 L1 h1 ((93, tabObj ps) :: (ll, listOf vs.toArray cl0) :: ([] ++ news)) := newsSub Nv (fun p hp => by
    simp only [List.mem_cons, List.nil_append] at hp ⊢
    grind)
  clear Nv
  refine list_iter (l := dl) (items := dvs.toArray) (kl := kd) rfl rfl rfl Fv1 Nv3 (.tail _ (.tail _ hdl)) (by k_asm)
    (fun i m' n' => ∃ ud uo ut ws kk ext ps' rs', m' = (fun y => if y = Str.ofString "two" then ut else if y = Str.ofString "one" then uo else if y = Str.ofString "draw" then ud else if y = Str.ofString "line" then some (.ref ll) else List.lookup y [(Str.ofString "worths", .ref wl), (Str.ofString "bases", .ref bl), (Str.ofString "draws", .ref dl), (Str.ofString "entries", .ref el)]) ∧
      n' = (93, tabObj ps') :: (ll, listOf (List.toArray ws) kk) :: (ext ++ news) ∧ GT ps' ∧ LineR w b0 b1 b2 w2 (ext ++ news) ws rs' ∧ Tot rs' S s1 s2 s3 ∧ rs'.length + i = 6 ∧ (i = 0 ∨ ∃ r ∈ rs', r.leaf = false) ∧ (∀ q ∈ ext, AllLt q.1 news ∧ @Ne Nat q.1 93 ∧ @Ne Nat q.1 ll))
    ⟨none, none, none, vs, cl0, [], ps, rs, rfl, rfl, hG, hline, hT, hrs, .inl rfl, fun q hq => nomatch hq⟩ ?turn ?done
  case turn =>
    intro I i v m₁ news₁ h tk gs oI hI cI hx hJ hdn hoff Fx Nx Gx
    first | (refine' turn_N ?eg ?ed ?eo ?_; (case eg => first | (dsimp only; done) | exact rfl); (case ed => first | (dsimp only; done) | exact rfl); (case eo => first | (dsimp only; done) | exact rfl)) | refine post_let ?_
    intro qT
    refine Mine.exand8_8 hJ fun ud uo ut ws kk ext ps' rs' ob19 ob29 hG' hL hT' hlen hlf hex => ?_
    subst ob19
    subst ob29
    try clear hJ
    have hx' : dvs[i]? = some v := by simpa using hx
    have hi5 : i < 5 := by
      rcases Nat.lt_or_ge i dvs.length with h | h
      · omega
      · rw [List.getElem?_eq_none h] at hx'; cases hx'
    have ob39 : ∃ t, v = .int (ds.getD i 0) t := by
      have hil : i < ds.length := by omega
      obtain ⟨t, e⟩ := hIn.get i ds[i] (by simp [hil])
      rw [hx'] at e
      refine ⟨t, ?_⟩
      rw [Option.some.inj e, List.getD_eq_getElem?_getD, List.getElem?_eq_getElem hil]
      rfl
    refine Mine.exand1_1 ob39 fun td ob49 => ?_
    subst ob49
    try clear ob39
    generalize ds.getD i 0 = dr at *
    have off1 : @Ne Nat 93 I := hoff _ (.head _)
    have off2 : @Ne Nat ll I := hoff _ (.tail _ (.head _))
    have off0 : ∀ p ∈ ext ++ news, @Ne Nat p.1 I := fun p hp => hoff p (.tail _ (.tail _ hp))
    have off3 : ∀ p ∈ ext ++ news, p.1 ≠ ll := fun p hp => (List.mem_append.mp hp).elim (fun q => (hex p q).2.2) fun q => Nat.ne_of_lt (hlln p q)
    have off4 : ∀ p ∈ ext ++ news, p.1 ≠ 93 := fun p hp => (List.mem_append.mp hp).elim (fun q => (hex p q).2.1) fun q => h93 p q
    have hwl6 : ws.length = 6 - i := by rw [hL.length]; omega
    have hwz : ws.length ≤ 16777216 := by omega
    k_with "mod0" => (first | omega | (simp only [List.size_toArray]; omega))
    k_steps
    unfold Stop
    have hz1' : ws.toArray.size = ws.length := List.size_toArray
    refine Mine.exand1_2 (fmod_idx (d := dr) (n := ws.toArray.size) (by rw [hz1']; omega)) fun k1 hk1 hk1l => ?_
    rw [hk1]
    refine Mine.exand6_4 (hL.cut k1 (by rw [← hz1']; exact hk1l)) fun p1 y1 r1 rp1 ry1 rq1 hc1 hrs1 hE1 hL1 => ?_
    subst hrs1
    have hT1 := hT'.cut
    have hl1 : (p1 ++ r1).length = 5 - i := by
      have a1 := hL1.length
      simp only [List.length_append, List.length_cons] at a1 hlen ⊢
      omega
    refine kl_popAt (p := p1) (q := r1) (y := .ref y1) (k := k1) (by k_asm) (by k_asm) (fits_small (by omega)) (idx_at hk1l) hc1 (by k_upd) (by show ws.length ≤ _; rw [sizeLine_eq]; exact hwz) ?_
    intro h'1 F'1 N'1
    (try dsimp only at N'1)
    have hwl6 := hl1
    k_steps
    unfold Stop
    have hz2' : (p1 ++ r1).toArray.size = (p1 ++ r1).length := List.size_toArray
    refine Mine.exand1_2 (fmod_idx (d := dr.fdiv 6) (n := (p1 ++ r1).toArray.size) (by rw [hz2']; omega)) fun k2 hk2 hk2l => ?_
    rw [hk2]
    refine Mine.exand6_4 (hL1.cut k2 (by rw [← hz2']; exact hk2l)) fun p2 y2 r2 rp2 ry2 rq2 hc2 hrs2 hE2 hL2 => ?_
    have hrl : (rp1 ++ rq1).length = (rp2 ++ ry2 :: rq2).length := by rw [hrs2]
    rw [hrs2] at hT1
    have hT2 := hT1.cut
    refine kl_popAt (p := p2) (q := r2) (y := .ref y2) (k := k2) (by k_asm) (by k_asm) (fits_small (by omega)) (idx_at hk2l) hc2 (by k_upd) (by show (p1 ++ r1).length ≤ _; rw [sizeLine_eq]; omega) ?_
    intro h'2 F'2 N'2
    (try dsimp only at N'2)
    k_steps
    rename_i hc2' Fc2 Nc2
    unfold Stop
    -- the sum of the two
    have m91 : ∀ q ∈ ((I, oI) :: (ll, listOf (p2 ++ r2).toArray (kk + 1 + 1)) :: (ext ++ news) : List (Addr × Obj)), q.1 ≠ 93 := fun q hq => by
      rcases List.mem_cons.mp hq with rfl | hq
      · exact off1.symm
      rcases List.mem_cons.mp hq with rfl | hq
      · exact ll93
      · exact off4 q hq
    refine GivesG.use (addf y1 y2 _ _ _ _ _ _ _ _ _ _ (mergeOk_of (kind_rc b0 b1 b2 w2 ry1) (kind_rc b0 b1 b2 w2 ry2) (Nat.le_trans (rcTab_length ..) (by decide)) (Nat.le_trans (rcTab_length ..) (by decide)))) (Pull.tail Pull.head) (by k_asm) Fc2 (by k_asm) Nc2 hG' m91 Gx
      ⟨hE1.1.sub fun p hp => .tail _ (.tail _ hp), hE2.1.sub fun p hp => .tail _ (.tail _ hp)⟩ (by k_asm) (by k_asm) (by k_asm) (by k_asm) (by k_asm) rfl (by ktr_room) (by ktr_units) ?_
    intro v9 new9 hp9 tk9 gs9 ps9 P9 G9 B9 n9 F9 N9
    refine Mine.exand1_3 P9 fun D9 ob59 hl9 hE9 => ?_
    subst ob59
    try clear P9
    have N8 : News g1 L1 hp9 ((I, oI) :: (93, tabObj ps9) :: (ll, listOf (p2 ++ r2).toArray (kk + 1 + 1)) :: ((new9 ++ ext) ++ news)) := newsSub N9 fun p hp => by
      simp only [List.mem_cons, List.mem_append] at hp ⊢
      grind
    have hE9' : EntL w ((new9 ++ ext) ++ news) D9 _ _ _ _ _ := hE9.drop fun p hp => by
      rcases List.mem_append.mp hp with hp | hp
      · exact .inl (List.mem_append_left _ (List.mem_append_left _ hp))
      rcases List.mem_cons.mp hp with rfl | hp
      · exact .inr (idle_iter cI)
      rcases List.mem_cons.mp hp with rfl | hp
      · exact .inr idle_list
      · exact .inl ((List.mem_append.mp hp).elim (fun q => List.mem_append_left _ (List.mem_append_right _ q)) fun q => List.mem_append_right _ q)
    clear N9 Nc2
    k_steps
    unfold Stop
    -- its carry
    have m92 : ∀ q ∈ ((I, oI) :: (ll, listOf (p2 ++ r2).toArray (kk + 1 + 1)) :: ((new9 ++ ext) ++ news) : List (Addr × Obj)), q.1 ≠ 93 := fun q hq => by
      rcases List.mem_cons.mp hq with rfl | hq
      · exact off1.symm
      rcases List.mem_cons.mp hq with rfl | hq
      · exact ll93
      rcases List.mem_append.mp hq with hq | hq
      · rcases List.mem_append.mp hq with hq | hq
        · exact n9 q hq
        · exact (hex q hq).2.1
      · exact h93 q hq
    refine GivesG.use (carried D9 bl wl _ _ _ _ b0 b1 b2 w0 w1 w2 w3 _ t0 t1 t2 v0 v1 v2 v3 kb kw hz0 hz1 hz2 (Nat.le_trans (intBits_add_le (dm_rest (dm_of hz2) hb2) (dm_rest (dm_of hz2) hb2)) (by decide)) (Nat.le_trans (intBits_add_le (dm_rest (dm_of hz0) hb0) (dm_rest (dm_of hz0) hb0)) (by decide)) (Nat.le_trans (intBits_add_le (dm_rest (dm_of hz1) hb1) (dm_rest (dm_of hz1) hb1)) (by decide)) (Nat.le_trans hb0 (by decide)) (Nat.le_trans hb1 (by decide)) (Nat.le_trans hb2 (by decide)) hw2
      (fun up more la => mergeOk_of (kind_merged _ _ (kind_rc b0 b1 b2 w2 ry1) (kind_rc b0 b1 b2 w2 ry2)) (kind_carry up more la w2) (Nat.le_trans (merged_length _ _) (Nat.le_trans (Nat.add_le_add (rcTab_length ..) (rcTab_length ..)) (by decide))) (by simp [carryT])))
      (Pull.tail Pull.head) (by k_asm) (by k_asm) (by k_asm) (by k_asm) G9 m92 (by k_asm)
      ⟨hE9'.sub fun p hp => .tail _ (.tail _ hp), .tail _ (.tail _ (List.mem_append_right _ hbl)), .tail _ (.tail _ (List.mem_append_right _ hwl)), hH.sub fun p hp => .tail _ (.tail _ (List.mem_append_right _ hp))⟩ (by k_asm) (by k_asm) (by k_asm) (by k_asm) (by k_asm) rfl (by ktr_room) (by ktr_units) ?_
    intro v8 new8 hp8 tk8 gs8 ps8 P8 G8 B8 n8 F8 Nq8
    refine Mine.exand7_6 P8 fun D8 up one more two la th ob69 c1 c2 c3 hl8 hE8 => ?_
    subst ob69
    try clear P8
    have N7 : News g1 L1 hp8 ((I, oI) :: (93, tabObj ps8) :: (ll, listOf (p2 ++ r2).toArray (kk + 1 + 1)) :: ((new8 ++ (new9 ++ ext)) ++ news)) := newsSub Nq8 fun p hp => by
      simp only [List.mem_cons, List.mem_append] at hp ⊢
      grind
    have hE8' : EntL w ((new8 ++ (new9 ++ ext)) ++ news) D8 _ _ _ _ _ := hE8.drop fun p hp => by
      rcases List.mem_append.mp hp with hp | hp
      · exact .inl (List.mem_append_left _ (List.mem_append_left _ hp))
      rcases List.mem_cons.mp hp with rfl | hp
      · exact .inr (idle_iter cI)
      rcases List.mem_cons.mp hp with rfl | hp
      · exact .inr idle_list
      · exact .inl ((List.mem_append.mp hp).elim (fun q => List.mem_append_left _ (List.mem_append_right _ q)) fun q => List.mem_append_right _ q)
    refine Mine.exand0_6 (carry_math c1 c2 c3) fun z1 z2 z3 z4 z5 z6 => ?_
    rw [merge_tab hE1.2 hE2.2 z1 z2 z3, show q3 b0 b1 b2 ry2.S + q3 b0 b1 b2 ry1.S + la = q3 b0 b1 b2 (ry1.S + ry2.S) from by omega] at hE8'
    subst z4 z5 z6
    have hEnt : EntR w b0 b1 b2 w2 ((new8 ++ (new9 ++ ext)) ++ news) D8 (rcM ry1 ry2) := ⟨hE8', rcM_ok b0 b1 b2 ry1 ry2⟩
    have hext : ∀ q ∈ new8 ++ (new9 ++ ext), AllLt q.1 news ∧ @Ne Nat q.1 93 ∧ @Ne Nat q.1 ll := fun q hq => by
      rcases List.mem_append.mp hq with hq | hq
      · have a1 := hl8 q hq
        exact ⟨allLt_sub a1 fun p hp => .tail _ (.tail _ (List.mem_append_right _ hp)), n8 q hq, Nat.ne_of_gt a1.2.1⟩
      rcases List.mem_append.mp hq with hq | hq
      · have a1 := hl9 q hq
        exact ⟨allLt_sub a1 fun p hp => .tail _ (.tail _ (List.mem_append_right _ hp)), n9 q hq, Nat.ne_of_gt a1.2.1⟩
      · exact hex q hq
    have hexI : ∀ q ∈ (new8 ++ (new9 ++ ext)) ++ news, @Ne Nat q.1 I := fun q hq => by
      rcases List.mem_append.mp hq with hq | hq
      · rcases List.mem_append.mp hq with hq | hq
        · exact Nat.ne_of_gt (hl8 q hq).1
        rcases List.mem_append.mp hq with hq | hq
        · exact Nat.ne_of_gt (hl9 q hq).1
        · exact off0 q (List.mem_append_left _ hq)
      · exact off0 q (List.mem_append_right _ hq)
    have off5 : ∀ p ∈ (new8 ++ (new9 ++ ext)) ++ news, p.1 ≠ ll := fun p hp => (List.mem_append.mp hp).elim (fun q => (hext p q).2.2) fun q => Nat.ne_of_lt (hlln p q)
    clear Nq8 N8
    have hl2 : (p2 ++ r2).length = 4 - i := by
      have a1 := hL2.length
      simp only [List.length_append, List.length_cons] at a1 hlen hrl ⊢
      omega
    have hwz2 : (p2 ++ r2).length ≤ 16777216 := by omega
    k_steps
    rename_i hq8 Fq8 Nq9
    simp only [List.push_toArray] at Nq9
    refine stop_intro (turnE (news' := (93, tabObj ps8) :: (ll, listOf ((p2 ++ r2) ++ [Value.ref D8]).toArray (kk + 1 + 1 + 1)) :: ((new8 ++ (new9 ++ ext)) ++ news)) (fr_as Fq8 (funext fun y => ?_)) Nq9 (fun q hq => ?_) (by k_asm)
      ⟨.tail _ (.tail _ (List.mem_append_right _ hdl)), some (.int dr td), some (.ref y1), some (.ref y2), (p2 ++ r2) ++ [Value.ref D8], kk + 1 + 1 + 1, new8 ++ (new9 ++ ext), ps8, (rp2 ++ rq2) ++ [rcM ry1 ry2], rfl, rfl, G8, LineR.append ⟨D8, rfl, hEnt⟩ (hL2.sub fun p hp => ?_), hT2.push.cast ?_ ?_ ?_ ?_, ?_, .inr ⟨_, List.mem_append_right _ (.head _), rfl⟩, hext⟩)
    · first
        | exact pif fun q1 => pif fun q2 => pif fun q3 => pgo q1 (pgo q2 (pgo q3 rfl))
        | (by_cases q1 : y = Str.ofString "two"
           · simp only [q1, if_true]
           by_cases q2 : y = Str.ofString "one"
           · subst q2; exact rfl
           by_cases q3 : y = Str.ofString "draw"
           · subst q3; exact rfl
           simp only [q1, q2, q3, if_false])
    · rcases List.mem_cons.mp hq with rfl | hq
      · exact off1
      rcases List.mem_cons.mp hq with rfl | hq
      · exact off2
      · exact hexI q hq
    · exact (List.mem_append.mp hp).elim (fun q => List.mem_append_left _ (List.mem_append_right _ (List.mem_append_right _ q))) fun q => List.mem_append_right _ q
    · simp only [rcM]; omega
    · simp only [rcM]; omega
    · simp only [rcM]; omega
    · simp only [rcM]; omega
    · simp only [List.length_append, List.length_cons, List.length_nil] at hrl hlen ⊢
      omega
  case done =>
    intro m' news' h tk gs hJ Fd Nd Gd
    refine Mine.exand8_8 hJ fun ud uo ut ws kk ext ps' rs' ob79 ob89 hG' hL hT' hlen hlf hex => ?_
    subst ob79
    subst ob89
    try clear hJ
    have e5 : dvs.toArray.size = 5 := by rw [List.size_toArray, hdvl]
    rw [e5] at hlen hlf
    have ob99 : ∃ r, rs' = [r] := list1 (by omega)
    refine Mine.exand1_1 ob99 fun r ob109 => ?_
    subst ob109
    try clear ob99
    have ob119 : ∃ v, ws = [v] := list1 (by have := hL.length; simp only [List.length_cons, List.length_nil] at this; omega)
    refine Mine.exand1_1 ob119 fun v ob129 => ?_
    subst ob129
    try clear ob119
    refine Mine.exand0_2 hL fun ob139 _ => ?_
    refine Mine.exand1_2 ob139 fun e ob149 hEr => ?_
    subst ob149
    try clear ob139
    try clear hL
    have hlf' : r.leaf = false := by
      rcases hlf with h | ⟨r', h1, h2⟩
      · cases h
      · rw [← List.mem_singleton.mp h1]; exact h2
    obtain ⟨fl, S', x1, x2, x3⟩ := r
    try clear r
    obtain rfl : fl = false := hlf'
    obtain ⟨y1, y2, y3, y4⟩ := hT'
    try clear hT'
    simp only [List.map_cons, List.map_nil, List.sum_cons, List.sum_nil, Int.add_zero] at y1 y2 y3 y4
    subst y1 y2 y3 y4
    k_steps
    refine hret _ ext _ _ _ ps' ⟨e, rfl, fun q hq => (hex q hq).1, hEr⟩ hG' Gd (fun q hq => (hex q hq).2.1) (by assumption) (newsSub (by assumption) fun p hp => ?_)
    rcases List.mem_cons.mp hp with rfl | hp
    · exact .head _
    · exact .tail _ (.tail _ hp)
end
example {prog : Program} {w : World} {A : Around} {env : Env} {Q : Flow → Shared → Prop} {E : Value → Shared → Prop} {s : Shared} (h : Q .next s) : wpAny (model prog w) A (execs [] env) Q E s := by
  w_top off
  walk1
  exact h
section
theorem LineR.get {w : World} {b0 b1 b2 w2 : Int} {news : List (Addr × Obj)} : ∀ {vs : List Value} {rs : List Rc} {i : Nat} {v : Value}, LineR w b0 b1 b2 w2 news vs rs → vs[i]? = some v → ∃ r e, rs[i]? = some r ∧ v = .ref e ∧ EntR w b0 b1 b2 w2 news e r := by
  intro vs
  induction vs with
  | nil => intro rs i v h q; cases q
  | cons a l ih =>
    intro rs i v h q
    cases rs with
    | nil => exact h.elim
    | cons b m =>
      cases i with
      | zero => cases q; exact h.1.elim fun e x => ⟨b, e, rfl, x.1, x.2⟩
      | succ i => exact ih (rs := m) (i := i) h.2 q
/-- the table while the entries are added -/
def addTab (rs : List Rc) : List (Str × Cell) := if rs = [] then [] else [(Str.ofString "a", .int (rs.map Rc.S).sum)]
def sumOf (f : Rc → Int) (rs : List Rc) : Int := (rs.map f).sum
theorem sumOf_step (f : Rc → Int) {rs : List Rc} {i : Nat} {r : Rc} (h : rs[i]? = some r) : sumOf f (rs.take (i + 1)) = f r + sumOf f (rs.take i) := by
  unfold sumOf
  rw [List.take_add_one, h, List.map_append, List.sum_append]
  simp
  omega
theorem addTab_step {b0 b1 b2 w2 : Int} {rs : List Rc} {i : Nat} {r : Rc} (h : rs[i]? = some r) (hl : r.leaf = true) : merged' (addTab (rs.take i)) (rcTab b0 b1 b2 w2 r) = addTab (rs.take (i + 1)) := by
  have e1 : rs.take (i + 1) = rs.take i ++ [r] := by rw [List.take_add_one, h]; rfl
  rw [e1]
  generalize rs.take i = ps
  unfold addTab rcTab
  rw [if_pos hl, if_neg (show ¬ ps ++ [r] = [] by simp)]
  by_cases hp : ps = []
  · subst hp
    simp [merged', mergeC, cellAt']
  · rw [if_neg hp]
    simp [merged', mergeC, cellAt', cellPut, cellAdd]
theorem addTab_kind (rs : List Rc) : KindOk (addTab rs) := by
  intro p hp
  unfold addTab at hp
  split at hp
  · cases hp
  · rw [List.mem_singleton.mp hp]
    exact ⟨fun e => absurd e nac, fun _ => ⟨_, rfl⟩⟩
theorem addTab_length (rs : List Rc) : (addTab rs).length ≤ 100 := by unfold addTab; split <;> simp


theorem added {w p loose mean mg mb} (el : Addr) (vs : List Value) (rs : List Rc) (b0 b1 b2 w2 : Int) (ke : Nat) (hrs : rs.length = 6) (hlf : ∀ r ∈ rs, r.leaf = true) :
    GivesG w p loose mean mg mb 140 [.ref el] 40 300 (fun news => (el, listOf vs.toArray ke) ∈ news ∧ LineR w b0 b1 b2 w2 news vs rs)
      (fun news v new => ∃ e, v = .ref e ∧ (∀ q ∈ new, AllLt q.1 news) ∧ EntL w (new ++ news) e (sumOf (fun r => q2 b0 b1 r.S - b2 * q3 b0 b1 b2 r.S) rs) (sumOf (fun r => r.S - b0 * q1 b0 r.S) rs) (sumOf (fun r => q3 b0 b1 b2 r.S) rs) (sumOf (fun r => q1 b0 r.S - b1 * q2 b0 b1 r.S) rs) [(Str.ofString "a", .int (sumOf Rc.S rs))]) := by
  unfold GivesG
  k_fill
  intro dp un gd cn cs aa ccd cl outer A₀ base h₀ L m news ps s Q E B F X N hG h93 hB hP Tp NS C1 C2 C3 hk hdp hu hret
  refine Mine.exand0_2 hP fun hel hline => ?_
  try clear hP
  have hMk := kstMark
  have N0 : News h₀ L s.heap ((93, tabObj ps) :: news) := N
  clear N
  have hvl : vs.length = 6 := by rw [hline.length, hrs]
  k_with_none
  k_with "binaryOp Add int int" => (refine add_N ?_)
  k_with "binaryOp Sub int int" => (refine sub_N ?_)
  k_with "inplaceOp Add int int" => (refine iadd_N ?_)
  k_with "inplaceOp Sub int int" => (refine isub_N ?_)
  k_with "binaryOp BitOr int int" => (refine or_N ?_)
  k_with "unaryOp USub int" => (refine neg_N ?_)
  k_with "storeName" => (k_here; k_dflt (refine' storeX_N ?F ?N ?eg ?ed ?eo ?_ ?a ?b; (case F => k_asm); (case N => k_asm); (case a => rfl); (case b => rfl); (case eg => first | (dsimp only; done) | exact rfl); (case ed => first | (dsimp only; done) | exact rfl); (case eo => first | (dsimp only; done) | exact rfl); k_whole; intro _ _ _; (try k_sweep)))
  k_with "MineLt" => (first | with_reducible assumption | ((with_reducible rename _ ∧ _ => hC9); first | exact hC9.1 | exact hC9.2.1 | exact hC9.2.2.1 | exact hC9.2.2.2.1 | exact hC9.2.2.2.2.1 | exact hC9.2.2.2.2.2.1 | exact hC9.2.2.2.2.2.2.1 | exact hC9.2.2.2.2.2.2.2.1 | exact hC9.2.2.2.2.2.2.2.2.1 | exact hC9.2.2.2.2.2.2.2.2.2.1 | exact hC9.2.2.2.2.2.2.2.2.2.2.1 | exact hC9.2.2.2.2.2.2.2.2.2.2.2.1 | exact hC9.2.2.2.2.2.2.2.2.2.2.2.2.1 | exact hC9.2.2.2.2.2.2.2.2.2.2.2.2.2.1) | exact And.left (by with_reducible assumption) | exact Nat.lt_succ_self _)
  k_with "binaryOp LShift int int" => (refine' lshift_N ?hn ?hz ?_; (case hn => k_extra "nn"); (case hz => k_extra "shl"); (try k_extra "tidy"))
  k_with "inplaceOp LShift int int" => (refine' ilshift_N ?hn ?hz ?_; (case hn => k_extra "nn"); (case hz => k_extra "shl"); (try k_extra "tidy"))
  k_with "binaryOp RShift int int" => (refine' rshift_N ?hn ?_; (case hn => k_extra "nn"); (try k_extra "tidy"))
  k_with "inplaceOp RShift int int" => (refine' irshift_N ?hn ?_; (case hn => k_extra "nn"); (try k_extra "tidy"))
  k_with "binaryOp BitAnd int int" => (refine and_N ?_; (try k_extra "tidy"))
  k_with "binaryOp Mult int int" => (refine' mul_N ?_ ?hm; (case hm => k_extra "mul"); (try k_extra "tidy"))
  k_with "Kdm" => (refine' divmod_N ?F ?N ?hb ?_ ?hp; (case F => k_asm); (case N => k_asm); (case hb => k_extra "div0"); (case hp => k_extra "pylong"))
  k_with "call ref" => (k_extra "my call")
  k_with "ite" => (k_extra "decide")
  k_with "binaryOp FloorDiv int int" => (refine' floordiv_N ?hb ?_ ?hp; (case hb => k_extra "div0"); (case hp => k_extra "pylong"); (try k_extra "tidy"))
  k_with "binaryOp BitXor int int" => (refine xor_N ?_; (try k_extra "tidy"))
  k_with "subscriptTail Name Constant ref int" => (k_here; (with_reducible show wpAny _ _ (subscriptTail _ _ (Value.ref _) (Value.int _ _)) _ _ _); (with_unfolding_all refine' item_litK ?k1 ?k2 ?k3 ?k4 ?_ ?k6; (case k1 => is_list); (case k2 => decide); (case k3 => decide); (case k4 => rfl); (case k6 => with_unfolding_all rfl); k_whole))
  k_with "subscriptTail Name Name ref int" => (k_here; (with_reducible show wpAny _ _ (subscriptTail _ _ (Value.ref _) (Value.int _ _)) _ _ _); (with_unfolding_all refine' item_litK ?k1 ?k2 ?k3 ?k4 ?_ ?k6; (case k1 => is_list); (case k2 => decide); (case k3 => decide); (case k4 => rfl); (case k6 => with_unfolding_all rfl); k_whole))
  k_with "subscriptTail Name BinOp ref int" => (k_here; (with_reducible show wpAny _ _ (subscriptTail _ _ (Value.ref _) (Value.int _ _)) _ _ _); (with_unfolding_all refine' item_litK ?k1 ?k2 ?k3 ?k4 ?_ ?k6; (case k1 => is_list); (case k2 => decide); (case k3 => decide); (case k4 => rfl); (case k6 => with_unfolding_all rfl); k_whole))
  k_with "UnrEnd" => k_dflt (refine' unr_close ?uF ?uN ?uP ?uO ?_; (case uF => assumption); (case uN => assumption); (case uP => first | exact Pull.head | exact Pull.tail Pull.head | exact Pull.tail (Pull.tail Pull.head) | exact Pull.tail (Pull.tail (Pull.tail Pull.head)) | exact Pull.tail (Pull.tail (Pull.tail (Pull.tail Pull.head)))); (case uO => k_all); k_whole)
  k_with "pyIter ref" => k_dflt (k_extra "iter")
  k_with "call ref" => (k_extra "my call")
  k_with "exec For Name Name cons nil" => (k_here; k_dflt (refine' For_loopG ?_ ?hs; (case hs => intro _; with_unfolding_all rfl)))
  k_with "decide" => fail
  k_with "iter" => refine stop_intro ?_
  k_with "my call" => refine stop_intro ?_
  refine wpAny_call ?_
  k_dflt ktr_enter
  (try refine tok_any fun tk9 => ?_)
  (rename Fr _ _ _ _ => F1)
  replace F1 := fr_as (m' := fun y => List.lookup y [(Str.ofString "entries", .ref el)]) F1 rfl
  k_steps
  rename_i g1 L1 h3 FG1 B1 X1 T1 dd h2 o0 lo1 hs1 fs1 hi1 fi1 l1q WW h2' l2q h1 Fv Nv
  unfold Stop
  have ob19 : ∃ a1 a2 a3 a4 ak, News g1 L1 h1 ((WW, tup5 0 a1 0 a2 0 a3 0 a4 dd ak) :: (dd, o0) :: (93, tabObj ps) :: news) := ⟨_, _, _, _, _, Nv⟩
  refine Mine.exand5_1 ob19 fun a1 a2 a3 a4 ak Nv2 => ?_
  try clear ob19
  clear Nv fs1 hi1 fi1
  have Nv3 : News g1 L1 h1 ((93, tabObj ps) :: ([(WW, tup5 0 a1 0 a2 0 a3 0 a4 dd ak), (dd, o0)] ++ news)) := newsSub Nv2 (fun p hp => by
    simp only [List.mem_cons, List.cons_append, List.nil_append] at hp ⊢
    grind)
  clear Nv2
  have Fv1 : Fr g1 L1 h1 (fun y => if y = Str.ofString "whole" then some (.ref WW) else if y = Str.ofString "entry" then none else List.lookup y [(Str.ofString "entries", .ref el)]) := fr_as Fv (funext fun y => by
    by_cases q1 : y = Str.ofString "whole"
    · subst q1; exact rfl
    by_cases q2 : y = Str.ofString "entry"
    · subst q2; exact rfl
    simp only [q1, q2, if_false])
  clear Fv
  refine list_iter (l := el) (items := vs.toArray) (kl := ke) rfl rfl rfl Fv1 Nv3 (.tail _ (List.mem_append_right _ hel)) (by k_asm)
    (fun i m' n' => ∃ ue W ext ps', m' = (fun y => if y = Str.ofString "whole" then some (.ref W) else if y = Str.ofString "entry" then ue else List.lookup y [(Str.ofString "entries", .ref el)]) ∧
      n' = (93, tabObj ps') :: (ext ++ news) ∧ GT ps' ∧ EntL w (ext ++ news) W (sumOf (fun r => q2 b0 b1 r.S - b2 * q3 b0 b1 b2 r.S) (rs.take i)) (sumOf (fun r => r.S - b0 * q1 b0 r.S) (rs.take i)) (sumOf (fun r => q3 b0 b1 b2 r.S) (rs.take i)) (sumOf (fun r => q1 b0 r.S - b1 * q2 b0 b1 r.S) (rs.take i)) (addTab (rs.take i)) ∧ (∀ q ∈ ext, AllLt q.1 news ∧ @Ne Nat q.1 93))
    ⟨none, WW, [(WW, tup5 0 a1 0 a2 0 a3 0 a4 dd ak), (dd, o0)], ps, rfl, rfl, hG, ⟨a1, a2, a3, a4, dd, ak, .head _, o0, [], .tail _ (.head _), hs1, trivial, lo1⟩, fun q hq => ?_⟩ ?turn ?done
  · rcases List.mem_cons.mp hq with rfl | hq
    · exact ⟨l2q.2.2, Nat.ne_of_gt l2q.2.1⟩
    · rw [List.mem_singleton.mp hq]; exact ⟨l1q.2, Nat.ne_of_gt l1q.1⟩
  case turn =>
    intro I i v m₁ news₁ h tk gs oI hI cI hx hJ hdn hoff Fx Nx Gx
    first | (refine' turn_N ?eg ?ed ?eo ?_; (case eg => first | (dsimp only; done) | exact rfl); (case ed => first | (dsimp only; done) | exact rfl); (case eo => first | (dsimp only; done) | exact rfl)) | refine post_let ?_
    intro qT
    refine Mine.exand4_5 hJ fun ue W ext ps' ob29 ob39 hG' hE hex => ?_
    subst ob29
    subst ob39
    try clear hJ
    have hx' : vs[i]? = some v := by simpa using hx
    refine Mine.exand2_3 (hline.get hx') fun r e hr ob49 hEr => ?_
    subst ob49
    have hrl := hlf r (List.mem_of_getElem? hr)
    have off1 : @Ne Nat 93 I := hoff _ (.head _)
    have off0 : ∀ p ∈ ext ++ news, @Ne Nat p.1 I := fun p hp => hoff p (.tail _ hp)
    have off4 : ∀ p ∈ ext ++ news, p.1 ≠ 93 := fun p hp => (List.mem_append.mp hp).elim (fun q => (hex p q).2) fun q => h93 p q
    k_steps
    unfold Stop
    have m91 : ∀ q ∈ ((I, oI) :: (ext ++ news) : List (Addr × Obj)), q.1 ≠ 93 := fun q hq => by
      rcases List.mem_cons.mp hq with rfl | hq
      · exact off1.symm
      · exact off4 q hq
    refine GivesG.use (addf W e _ _ _ _ _ _ _ _ _ _ (mergeOk_of (addTab_kind (rs.take i)) (kind_rc b0 b1 b2 w2 r) (addTab_length _) (Nat.le_trans (rcTab_length ..) (by decide)))) (Pull.tail Pull.head) (by k_asm) (by k_asm) (by k_asm) (by k_asm) hG' m91 Gx
      ⟨hE.sub fun p hp => .tail _ hp, hEr.1.sub fun p hp => .tail _ (List.mem_append_right _ hp)⟩ (by k_asm) (by k_asm) (by k_asm) (by k_asm) (by k_asm) rfl (by ktr_room) (by ktr_units) ?_
    intro v9 new9 hp9 tk9 gs9 ps9 P9 G9 B9 n9 F9 N9
    refine Mine.exand1_3 P9 fun D9 ob59 hl9 hE9 => ?_
    subst ob59
    try clear P9
    have N8 : News g1 L1 hp9 ((I, oI) :: (93, tabObj ps9) :: ((new9 ++ ext) ++ news)) := newsSub N9 fun p hp => by
      simp only [List.mem_cons, List.mem_append] at hp ⊢
      grind
    have hE9' : EntL w ((new9 ++ ext) ++ news) D9 _ _ _ _ _ := hE9.drop fun p hp => by
      rcases List.mem_append.mp hp with hp | hp
      · exact .inl (List.mem_append_left _ (List.mem_append_left _ hp))
      rcases List.mem_cons.mp hp with rfl | hp
      · exact .inr (idle_iter cI)
      · exact .inl ((List.mem_append.mp hp).elim (fun q => List.mem_append_left _ (List.mem_append_right _ q)) fun q => List.mem_append_right _ q)
    clear N9
    k_steps
    rename_i hq8 Fq8 Nq9
    rw [addTab_step hr hrl] at hE9'
    refine stop_intro (turnE (news' := (93, tabObj ps9) :: ((new9 ++ ext) ++ news)) (fr_as Fq8 (funext fun y => ?_)) Nq9 (fun q hq => ?_) (by k_asm)
      ⟨.tail _ (List.mem_append_right _ hel), some (.ref e), D9, new9 ++ ext, ps9, rfl, rfl, G9, ?_, fun q hq => ?_⟩)
    · by_cases q1 : y = Str.ofString "whole"
      · simp only [q1, if_true]
      by_cases q2 : y = Str.ofString "entry"
      · subst q2; exact rfl
      simp only [q1, q2, if_false]
    · rcases List.mem_cons.mp hq with rfl | hq
      · exact off1
      rcases List.mem_append.mp hq with hq | hq
      · rcases List.mem_append.mp hq with hq | hq
        · exact Nat.ne_of_gt (hl9 q hq).1
        · exact off0 q (List.mem_append_left _ hq)
      · exact off0 q (List.mem_append_right _ hq)
    · rw [sumOf_step _ hr, sumOf_step _ hr, sumOf_step _ hr, sumOf_step _ hr]
      exact hE9'
    · rcases List.mem_append.mp hq with hq | hq
      · exact ⟨allLt_sub (hl9 q hq) fun p hp => .tail _ (List.mem_append_right _ hp), n9 q hq⟩
      · exact hex q hq
  case done =>
    intro m' news' h tk gs hJ Fd Nd Gd
    refine Mine.exand4_5 hJ fun ue W ext ps' ob69 ob79 hG' hE hex => ?_
    subst ob69
    subst ob79
    try clear hJ
    have e5 : rs.take vs.toArray.size = rs := by rw [List.size_toArray, hvl, ← hrs, List.take_length]
    rw [e5] at hE
    have e6 : addTab rs = [(Str.ofString "a", .int (sumOf Rc.S rs))] := by
      unfold addTab
      rw [if_neg (by intro q; rw [q] at hrs; cases hrs)]
      rfl
    rw [e6] at hE
    k_steps
    exact hret _ ext _ _ _ ps' ⟨W, rfl, fun q hq => (hex q hq).1, hE⟩ hG' Gd (fun q hq => (hex q hq).2) (by assumption) (by assumption)
end
example {prog : Program} {w : World} {A : Around} {env : Env} {Q : Flow → Shared → Prop} {E : Value → Shared → Prop} {s : Shared} (h : Q .next s) : wpAny (model prog w) A (execs [] env) Q E s := by
  w_top off
  walk1
  exact h
section
section
variable {prog : Program} {w : World} {A : Around} {s : Shared} {env : Env} {h₀ : Heap} {body : List Stmt} {Q : Flow → Shared → Prop} {E : Value → Shared → Prop}
/-- a for over any walk that writes its own iterator alone -/
theorem walks_loop {x : Str} {px : Pos} {I d : Addr} {od : Obj} {n : Nat} {P : Nat → Value → Prop} {St : Nat → Heap → Prop} {m : Str → Option Value} {news : List (Addr × Obj)}
    (W : Walks prog w A I [I, d] [I] n P St) (live : ∀ i h, St i h → ∃ o, h.get? I = some o)
    (hx : env.kindOf x = some .local) (hp : (env.scope.kind == .class || (env.scope.kind == .module && env.locals != env.globals)) = false)
    (F : Fr h₀ env.locals s.heap m) (N : News h₀ env.locals s.heap news) (hSt : St 0 s.heap) (hIn : ∀ p ∈ news, p.1 ≠ I) (hIL : env.locals < I) (hdn : (d, od) ∈ news) (G : AllBare s.gens)
    (J : Nat → (Str → Option Value) → List (Addr × Obj) → Prop) (h0 : J 0 m news)
    (turn : ∀ i v m₁ news₁ h tk gs oI, i < n → P i v → J i m₁ news₁ → (d, od) ∈ news₁ → (∀ p ∈ news₁, p.1 ≠ I) → Fr h₀ env.locals h (fun y => if y = x then some v else m₁ y) → News h₀ env.locals h ((I, oI) :: news₁) → AllBare gs →
      wpAny (model prog w) A (execs body env) (TurnG Q (TurnE h₀ env.locals I oI s fun m' n' => (d, od) ∈ n' ∧ J (i + 1) m' n')) E { s with heap := h, toks := tk, gens := gs })
    (done : ∀ m' news' h tk gs, J n m' news' → Fr h₀ env.locals h m' → News h₀ env.locals h news' → AllBare gs → Q .next { s with heap := h, toks := tk, gens := gs })
    (hE : PassesOwn (model prog w) A env E := by passes_own) :
    ItemsLoop prog w A env (.Name x px) body Q E (.ref I) s := by
  have freshI : h₀.get? I = none := Heap.get?_none_of_le (Nat.le_trans F.above (Nat.le_of_lt hIL))
  have hLI : env.locals ≠ I := Nat.ne_of_lt hIL
  unfold ItemsLoop
  refine codeAny_forLoop
    (fun k s' => ∃ i h tk gs m' news', i ≤ n ∧ k = n + 1 - i ∧ s' = { s with heap := h, toks := tk, gens := gs } ∧ St i h ∧ Fr h₀ env.locals h m' ∧ News h₀ env.locals h news' ∧ (∀ p ∈ news', p.1 ≠ I) ∧ (d, od) ∈ news' ∧ AllBare gs ∧ J i m' news')
    ?_ (n + 1) ⟨0, s.heap, s.toks, s.gens, m, news, Nat.zero_le _, rfl, rfl, hSt, F, N, hIn, hdn, G, h0⟩
  intro k s' ob19
  refine Mine.exand6_10 ob19 fun i h tk gs m' news' hi ob29 ob39 hS F' N' hoff hdn' G' hJ => ?_
  subst ob29
  subst ob39
  try clear ob19
  have next : ∀ h₁ : Heap, (∀ b o, b ∉ [I] → h.get? b = some o → h₁.get? b = some o) → Fr h₀ env.locals h₁ m' ∧ News h₀ env.locals h₁ news' := fun h₁ hk => by
    have hx : ∀ b o, b ≠ I → h.get? b = some o → h₁.get? b = some o := fun b o hb e => hk b o (fun q => hb (List.mem_singleton.mp q)) e
    exact ⟨⟨F'.ns.at' fun o e => hx _ o hLI e, fun b o e => hx b o (fun q => by rw [q, freshI] at e; cases e) (F'.keep b o e), F'.above⟩, fun p hp => ⟨hx _ _ (hoff p hp) (N' p hp).1, (N' p hp).2⟩⟩
  by_cases hlt : i < n
  · refine W.item i _ _ _ hlt hS fun v h₁ tk₁ hP hS₁ hk => ?_
    refine Mine.exand0_2 (next h₁ hk) fun F₁ N₁ => ?_
    refine wpAny_assign_Name (wpAny_storeName_local hx F₁.ns (fun h₂ hn₂ hs₂ => ?_) hp)
    replace hs₂ : Heap.SameBut env.locals h₁ h₂ := hs₂
    have F₂ := F₁.set hn₂ hs₂
    have N₂ : News h₀ env.locals h₂ news' := N₁.set hs₂
    refine Mine.exand1_1 (live _ _ hS₁) fun oI gI => ?_
    have gI₂ := hs₂.extBut _ _ hLI.symm gI
    have dL : d ≠ env.locals := fun q => (N' _ hdn').2.1 q
    refine wpAny_mono (wpAny_passesOwn hE (turn i v m' news' h₂ _ gs oI hlt hP hJ hdn' hoff F₂ (fun p hp => by
      rcases List.mem_cons.mp hp with rfl | hp
      · exact ⟨gI₂, hLI.symm, freshI⟩
      · exact N₂ p hp) G')) (fun f s₃ h₆ => ?_) fun _ _ e => e
    have fin : ∀ s₃, TurnE h₀ env.locals I oI s (fun m' n' => (d, od) ∈ n' ∧ J (i + 1) m' n') s₃ → ∃ q, q < n + 1 - i ∧ ∃ i h tk gs m' news', i ≤ n ∧ q = n + 1 - i ∧ s₃ = { s with heap := h, toks := tk, gens := gs } ∧ St i h ∧ Fr h₀ env.locals h m' ∧ News h₀ env.locals h news' ∧ (∀ p ∈ news', p.1 ≠ I) ∧ (d, od) ∈ news' ∧ AllBare gs ∧ J i m' news' := by
      intro s₃ ob49
      refine Mine.exand5_7 ob49 fun h₆ tk₆ gs₆ m₆ news₆ ob59 F₆ N₆ off₆ G₆ hd₆ J₆ => ?_
      subst ob59
      try clear ob49
      refine ⟨n + 1 - (i + 1), by omega, i + 1, h₆, tk₆, gs₆, m₆, news₆, hlt, rfl, rfl, W.frame _ _ _ hS₁ (fun b hb o e => ?_), F₆, fun p hp => N₆ p (.tail _ hp), off₆, hd₆, G₆, J₆⟩
      rcases List.mem_cons.mp hb with rfl | hb
      · rw [gI] at e; cases e; exact (N₆ _ (.head _)).1
      · obtain rfl := List.mem_singleton.mp hb
        have e1 := (N₁ _ hdn').1
        rw [e1] at e; cases e
        exact (N₆ _ (.tail _ hd₆)).1
    cases f with
    | ret v => exact h₆
    | brk => exact h₆
    | cont => exact fin s₃ h₆
    | next => exact fin s₃ h₆
  · have hin : i = n := by omega
    subst hin
    refine W.done _ _ _ hS fun h₁ tk₁ hk => wpAny_execs_nil ?_
    refine Mine.exand0_2 (next h₁ hk) fun F₁ N₁ => ?_
    exact done m' news' h₁ _ gs hJ F₁ N₁ G'

theorem vals_iter {x : Str} {px : Pos} {v d : Addr} {od : Obj} {kvs : List (Str × Value)} {m : Str → Option Value} {news : List (Addr × Obj)} (hh : A.handled = none)
    (hx : env.kindOf x = some .local) (hp : (env.scope.kind == .class || (env.scope.kind == .module && env.locals != env.globals)) = false)
    (F : Fr h₀ env.locals s.heap m) (N : News h₀ env.locals s.heap news) (hv : (v, { cls := .type "dict_values", data := .fields #[.ref d] }) ∈ news) (hdn : (d, od) ∈ news) (hd : od.IsDictOf (strKind prog w) kvs) (G : AllBare s.gens)
    (J : Nat → (Str → Option Value) → List (Addr × Obj) → Prop) (h0 : J 0 m news)
    (turn : ∀ I i k v m₁ news₁ h tk gs oI, (∀ p ∈ news, p.1 < I) → kvs[i]? = some (k, v) → J i m₁ news₁ → (d, od) ∈ news₁ → (∀ p ∈ news₁, p.1 ≠ I) → Fr h₀ env.locals h (fun y => if y = x then some v else m₁ y) → News h₀ env.locals h ((I, oI) :: news₁) → AllBare gs →
      wpAny (model prog w) A (execs body env) (TurnG Q (TurnE h₀ env.locals I oI s fun m' n' => (d, od) ∈ n' ∧ J (i + 1) m' n')) E { s with heap := h, toks := tk, gens := gs })
    (done : ∀ m' news' h tk gs, J kvs.length m' news' → Fr h₀ env.locals h m' → News h₀ env.locals h news' → AllBare gs → Q .next { s with heap := h, toks := tk, gens := gs })
    (hE : PassesOwn (model prog w) A env E := by passes_own) :
    wpAny (model prog w) A (pyIter (.ref v)) (ItemsLoop prog w A env (.Name x px) body Q E) E s := by
  refine Mine.exand1_1 (KdkAt.of hd) fun ep ha => ?_
  have hat := ha.dictAt (N _ hdn).1
  refine wpAny_pyIter_values ⟨_, (N _ hv).1, rfl, rfl⟩ hat ?_
  have hne : d ≠ s.heap.objs.size := Nat.ne_of_lt hat.lt_size
  exact walks_loop (s := { s with heap := s.heap.push _ }) (Walks.dictValues (knd := strKind prog w) hh s.heap.objs.size d hne kvs ep) (fun i h q => ⟨_, q.1.choose_spec.1⟩) hx hp (F.push _) (fun p hp => ⟨Heap.get?_push_of_some _ (N p hp).1, (N p hp).2⟩)
    ⟨⟨_, Heap.get?_push_size _ rfl, rfl, rfl⟩, hat.push _⟩ (fun p hp => Nat.ne_of_lt (Heap.lt_size (N p hp).1)) F.ns.lt hdn G J h0
    (fun i v m₁ news₁ h tk gs oI _ hP a2 a3 a4 a5 a6 a7 => turn _ i hP.choose v m₁ news₁ h tk gs oI (fun p hp => Heap.lt_size (N p hp).1) hP.choose_spec a2 a3 a4 a5 a6 a7) done hE
end

local macro_rules | `(tactic| walk_at "call builtin:dict.values") => `(tactic| (k_here; k_dflt (k_extra "Kvl"); intro D' h' F' N' l1; (try k_lt l1)))

theorem countc {w p loose mean mg mb} (d : Addr) (x y z : Int) :
    GivesG w p loose mean mg mb 105 [.ref d] 10 100 (fun news => TabAtL w news d [(Str.ofString "b", .int x), (Str.ofString "c", .int y), (Str.ofString "d", .int z)])
      (fun news v new => new = [] ∧ ∃ t, v = .int (x + y + z) t) := by
  unfold GivesG
  k_fill
  intro dp un gd cn cs aa ccd cl outer A₀ base h₀ L m news ps s Q E B F X N hG h93 hB hP Tp NS C1 C2 C3 hk hdp hu hret
  refine Mine.exand2_4 hP fun o kvs ho hd ht lo => ?_
  try clear hP
  have ob69 : ∃ t1 t2 t3, kvs = [(Str.ofString "b", .int x t1), (Str.ofString "c", .int y t2), (Str.ofString "d", .int z t3)] := by
    obtain ⟨v1, r1, e1, ⟨t1, h1⟩, ht⟩ := ht.cons_inv
    obtain ⟨v2, r2, e2, ⟨t2, h2⟩, ht⟩ := ht.cons_inv
    obtain ⟨v3, r3, e3, ⟨t3, h3⟩, ht⟩ := ht.cons_inv
    exact ⟨t1, t2, t3, by rw [e1, e2, e3, ht.nil_inv, h1, h2, h3]⟩
  refine Mine.exand3_1 ob69 fun t1 t2 t3 ob79 => ?_
  subst ob79
  try clear ob69
  have hMk := kstMark
  have N0 := newsCons N (.tail _ ho)
  clear N
  k_with_none
  k_with "binaryOp Add int int" => (refine add_N ?_)
  k_with "binaryOp Sub int int" => (refine sub_N ?_)
  k_with "inplaceOp Add int int" => (refine iadd_N ?_)
  k_with "inplaceOp Sub int int" => (refine isub_N ?_)
  k_with "binaryOp BitOr int int" => (refine or_N ?_)
  k_with "unaryOp USub int" => (refine neg_N ?_)
  k_with "storeName" => (k_here; k_dflt (refine' storeX_N ?F ?N ?eg ?ed ?eo ?_ ?a ?b; (case F => k_asm); (case N => k_asm); (case a => rfl); (case b => rfl); (case eg => first | (dsimp only; done) | exact rfl); (case ed => first | (dsimp only; done) | exact rfl); (case eo => first | (dsimp only; done) | exact rfl); k_whole; intro _ _ _; (try k_sweep)))
  k_with "MineLt" => (first | with_reducible assumption | ((with_reducible rename _ ∧ _ => hC9); first | exact hC9.1 | exact hC9.2.1 | exact hC9.2.2.1 | exact hC9.2.2.2.1 | exact hC9.2.2.2.2.1 | exact hC9.2.2.2.2.2.1 | exact hC9.2.2.2.2.2.2.1 | exact hC9.2.2.2.2.2.2.2.1 | exact hC9.2.2.2.2.2.2.2.2.1 | exact hC9.2.2.2.2.2.2.2.2.2.1 | exact hC9.2.2.2.2.2.2.2.2.2.2.1 | exact hC9.2.2.2.2.2.2.2.2.2.2.2.1 | exact hC9.2.2.2.2.2.2.2.2.2.2.2.2.1 | exact hC9.2.2.2.2.2.2.2.2.2.2.2.2.2.1) | exact And.left (by with_reducible assumption) | exact Nat.lt_succ_self _)
  k_with "binaryOp LShift int int" => (refine' lshift_N ?hn ?hz ?_; (case hn => k_extra "nn"); (case hz => k_extra "shl"); (try k_extra "tidy"))
  k_with "inplaceOp LShift int int" => (refine' ilshift_N ?hn ?hz ?_; (case hn => k_extra "nn"); (case hz => k_extra "shl"); (try k_extra "tidy"))
  k_with "binaryOp RShift int int" => (refine' rshift_N ?hn ?_; (case hn => k_extra "nn"); (try k_extra "tidy"))
  k_with "inplaceOp RShift int int" => (refine' irshift_N ?hn ?_; (case hn => k_extra "nn"); (try k_extra "tidy"))
  k_with "binaryOp BitAnd int int" => (refine and_N ?_; (try k_extra "tidy"))
  k_with "binaryOp Mult int int" => (refine' mul_N ?_ ?hm; (case hm => k_extra "mul"); (try k_extra "tidy"))
  k_with "Kdm" => (refine' divmod_N ?F ?N ?hb ?_ ?hp; (case F => k_asm); (case N => k_asm); (case hb => k_extra "div0"); (case hp => k_extra "pylong"))
  k_with "call ref" => (k_extra "my call")
  k_with "ite" => (k_extra "decide")
  k_with "binaryOp FloorDiv int int" => (refine' floordiv_N ?hb ?_ ?hp; (case hb => k_extra "div0"); (case hp => k_extra "pylong"); (try k_extra "tidy"))
  k_with "binaryOp BitXor int int" => (refine xor_N ?_; (try k_extra "tidy"))
  k_with "subscriptTail Name Constant ref int" => (k_here; (with_reducible show wpAny _ _ (subscriptTail _ _ (Value.ref _) (Value.int _ _)) _ _ _); (with_unfolding_all refine' item_litK ?k1 ?k2 ?k3 ?k4 ?_ ?k6; (case k1 => is_list); (case k2 => decide); (case k3 => decide); (case k4 => rfl); (case k6 => with_unfolding_all rfl); k_whole))
  k_with "subscriptTail Name Name ref int" => (k_here; (with_reducible show wpAny _ _ (subscriptTail _ _ (Value.ref _) (Value.int _ _)) _ _ _); (with_unfolding_all refine' item_litK ?k1 ?k2 ?k3 ?k4 ?_ ?k6; (case k1 => is_list); (case k2 => decide); (case k3 => decide); (case k4 => rfl); (case k6 => with_unfolding_all rfl); k_whole))
  k_with "subscriptTail Name BinOp ref int" => (k_here; (with_reducible show wpAny _ _ (subscriptTail _ _ (Value.ref _) (Value.int _ _)) _ _ _); (with_unfolding_all refine' item_litK ?k1 ?k2 ?k3 ?k4 ?_ ?k6; (case k1 => is_list); (case k2 => decide); (case k3 => decide); (case k4 => rfl); (case k6 => with_unfolding_all rfl); k_whole))
  k_with "UnrEnd" => k_dflt (refine' unr_close ?uF ?uN ?uP ?uO ?_; (case uF => assumption); (case uN => assumption); (case uP => first | exact Pull.head | exact Pull.tail Pull.head | exact Pull.tail (Pull.tail Pull.head) | exact Pull.tail (Pull.tail (Pull.tail Pull.head)) | exact Pull.tail (Pull.tail (Pull.tail (Pull.tail Pull.head)))); (case uO => k_all); k_whole)
  k_with "pyIter ref" => k_dflt (k_extra "iter")
  k_with "exec For Name Call cons nil" => (k_here; k_dflt (refine' For_loopG ?_ ?hs; (case hs => intro _; with_unfolding_all rfl)))
  k_with "getMethod ref" => (k_here; (with_reducible show wpAny _ _ (getMethod (Value.ref _) (Str.ofString "values") _) _ _ _); k_dflt (refine kdl_method (knd := PySem.strKind _ _) PySem.F.slot_dict_values PySem.F.type_dict_values (by k_asm) (by k_mem) (by k_asm) ?_))
  k_with "Kvl" => ((with_reducible show wpAny _ _ (call (Value.builtin "dict.values") [Value.ref _]) _ _ _); refine kdl_view_values (knd := PySem.strKind _ _) (by k_asm) (by k_asm) (by k_mem) (by assumption) (by assumption) ?_)
  k_with "decide" => fail
  k_with "iter" => refine stop_intro ?_
  refine wpAny_call ?_
  k_dflt ktr_enter
  (try refine tok_any fun tk9 => ?_)
  (rename Fr _ _ _ _ => F1)
  replace F1 := fr_as (m' := fun y => List.lookup y [(Str.ofString "callers", .ref d)]) F1 rfl
  k_steps
  rename_i g1 L1 h3 FG1 B1 X1 T1 hx2 Fq Nq V h1 Fv Nv lv
  unfold Stop
  have ob89 : ∃ t0, Fr g1 L1 h1 (fun y => if y = Str.ofString "nc" then some (.int 0 t0) else if y = Str.ofString "calls" then none else List.lookup y [(Str.ofString "callers", .ref d)]) := ⟨_, fr_as Fv (funext fun y => by
    by_cases q1 : y = Str.ofString "nc"
    · subst q1; exact rfl
    by_cases q2 : y = Str.ofString "calls"
    · subst q2; exact rfl
    simp only [q1, q2, if_false])⟩
  refine Mine.exand1_1 ob89 fun t0 Fv1 => ?_
  try clear ob89
  refine vals_iter (d := d) (od := o) rfl rfl rfl Fv1 Nv (.head _) (by k_mem) hd (by k_asm)
    (fun i m' n' => ∃ uc t, m' = (fun y' => if y' = Str.ofString "nc" then some (.int ([x, y, z].take i).sum t) else if y' = Str.ofString "calls" then uc else List.lookup y' [(Str.ofString "callers", .ref d)]) ∧ n' = (V, { cls := .type "dict_values", data := .fields #[.ref d] }) :: (d, o) :: (93, tabObj ps) :: news) ⟨none, t0, rfl, rfl⟩ ?turn ?done
  case turn =>
    intro I i k v m₁ news₁ h tk gs oI hI hx hJ hdn hoff Fx Nx Gx
    first | (refine' turn_N ?eg ?ed ?eo ?_; (case eg => first | (dsimp only; done) | exact rfl); (case ed => first | (dsimp only; done) | exact rfl); (case eo => first | (dsimp only; done) | exact rfl)) | refine post_let ?_
    intro qT
    refine Mine.exand2_2 hJ fun uc t ob99 ob109 => ?_
    subst ob99
    subst ob109
    try clear hJ
    have ob119 : ∃ c tc, v = .int c tc ∧ ([x, y, z].take (i + 1)).sum = ([x, y, z].take i).sum + c := by
      match i, hx with
      | 0, hx => cases hx; exact ⟨_, _, rfl, by simp⟩
      | 1, hx => cases hx; exact ⟨_, _, rfl, by simp⟩
      | 2, hx => cases hx; exact ⟨_, _, rfl, by simp; omega⟩
      | i + 3, hx => cases hx
    refine Mine.exand2_2 ob119 fun c tc ob129 hsum => ?_
    subst ob129
    try clear ob119
    k_steps
    rename_i hz Fz Nz
    have ob139 : ∃ tq, Fr g1 L1 hz (fun y' => if y' = Str.ofString "nc" then some (.int (([x, y, z].take i).sum + c) tq) else if y' = Str.ofString "calls" then some (.int c tc) else List.lookup y' [(Str.ofString "callers", .ref d)]) := ⟨_, fr_as Fz (funext fun y' => by
      by_cases q1 : y' = Str.ofString "nc"
      · subst q1; exact rfl
      by_cases q2 : y' = Str.ofString "calls"
      · subst q2; exact rfl
      simp only [q1, q2, if_false])⟩
    refine Mine.exand1_1 ob139 fun tq Fz2 => ?_
    try clear ob139
    rw [← hsum] at Fz2
    exact stop_intro (turnE Fz2 Nz hoff Gx ⟨hdn, some (.int c tc), tq, rfl, rfl⟩)
  case done =>
    intro m' news' h tk gs hJ Fd Nd Gd
    refine Mine.exand2_2 hJ fun uc t ob149 ob159 => ?_
    subst ob149
    subst ob159
    try clear hJ
    k_steps
    refine hret _ [] _ _ _ ps ⟨rfl, t, ?_⟩ hG Gd (fun q hq => nomatch hq) (by assumption) (newsSub (by assumption) fun p hp => .tail _ (.tail _ hp))
    have e : ([x, y, z].take 3).sum = x + y + z := by simp; omega
    show Value.int ([x, y, z].take 3).sum t = _
    rw [e]
end
example {prog : Program} {w : World} {A : Around} {env : Env} {Q : Flow → Shared → Prop} {E : Value → Shared → Prop} {s : Shared} (h : Q .next s) : wpAny (model prog w) A (execs [] env) Q E s := by
  w_top off
  walk1
  exact h
section
theorem cell_nodup {cs : List (Str × Cell)} (hn : (cs.map (·.1)).Nodup) {k : Str} {c : Cell} (h : (k, c) ∈ cs) : cellAt' cs k = some c := by
  induction cs with
  | nil => cases h
  | cons p r ih =>
    rw [List.map_cons, List.nodup_cons] at hn
    unfold cellAt'
    rw [List.find?_cons]
    rcases List.mem_cons.mp h with rfl | h
    · simp
    · have hne : ¬ p.1 = k := fun e => hn.1 (e ▸ List.mem_map_of_mem (f := (·.1)) h)
      simp only [hne, decide_false]
      exact ih hn.2 h
section
variable {prog : Program} {w : World} {A : Around} {s : Shared} {news : List (Addr × Obj)} {h₀ : Heap} {L : Addr}
theorem cellEq (N : News h₀ L s.heap news) (hu : A.units + 8 < cLine) {v y : Value} {c : Cell} (hv : CellIs news v c) (hy : CellIs news y c) : SeqAt.EqAt A s v y true := by
  cases c with
  | int i =>
    refine Mine.exand1_1 hv fun t ob19 => ?_
    subst ob19
    try clear hv
    refine Mine.exand1_1 hy fun u ob29 => ?_
    subst ob29
    try clear hy
    have := SeqAt.EqAt.int_int (A := A) (s := s) i t i u
    rw [beq_self_eq_true] at this
    exact this
  | pair a b =>
    refine Mine.exand4_2 hv fun d t1 t2 k ob39 hd => ?_
    subst ob39
    try clear hv
    refine Mine.exand4_2 hy fun d' u1 u2 k' ob49 hd' => ?_
    subst ob49
    try clear hy
    have r1 : Reads s.heap (.ref d) (.tuple [.int a, .int b]) _ := .tuple (N _ hd).1 rfl rfl (.cons (.int a t1) (.cons (.int b t2) .nil))
    have r2 : Reads s.heap (.ref d') (.tuple [.int a, .int b]) _ := .tuple (N _ hd').1 rfl rfl (.cons (.int a u1) (.cons (.int b u2) .nil))
    have := SeqAt.eqAt_reads _ _ A s _ _ _ _ r1 r2 rfl rfl (by
      have e : min (PyData.tuple [.int a, .int b]).depth (PyData.tuple [.int a, .int b]).depth = 1 := rfl
      rw [e]; omega)
    have e : PyData.eqv (.tuple [.int a, .int b]) (.tuple [.int a, .int b]) = true := by simp [PyData.eqv, PyData.eqvAll]
    rw [e] at this
    exact this
theorem tabHits (N : News h₀ L s.heap news) (hu : A.units + 8 < cLine) {kb : List (Str × Value)} : ∀ {ka : List (Str × Value)} {cs : List (Str × Cell)}, TabIs news ka cs → (∀ p ∈ cs, ∃ y, valueAt kb p.1 = some y ∧ CellIs news y p.2) → KeqHits A s kb ka true
  | [], [], _, _ => .nil
  | (k, v) :: r, (k', c) :: r', ⟨e, h, t⟩, hall => by
    subst e
    refine Mine.exand1_2 (hall _ (.head _)) fun y hy hc => ?_
    exact KeqHits.hit (e := true) (b := true) hy (cellEq N hu h hc) (tabHits N hu t fun p hp => hall p (.tail _ hp))
theorem tabEq (N : News h₀ L s.heap news) (hu : A.units + 16 < cLine) {d d' : Addr} {cs : List (Str × Cell)} (hn : (cs.map (·.1)).Nodup) (h : TabAtL w news d cs) (h' : TabAtL w news d' cs) : EqW PySem.Challenge.rw_ph0128_01.row.prog w A s (.ref d) (.ref d') := by
  refine Mine.exand2_4 h fun o kvs ho hd ht lo => ?_
  try clear h
  refine Mine.exand2_4 h' fun o' kvs' ho' hd' ht' lo' => ?_
  try clear h'
  refine EqW.refs fun E Q hq => ?_
  refine keq_eq (knd := strKind PySem.Challenge.rw_ph0128_01.row.prog w) (r := true) lo lo' (kda_dict N ho hd) (kda_dict N ho' hd') (by omega) (fun _ => tabHits N (show A.units + 1 + 8 < cLine by omega) ht fun p hp => ht'.at_some (cell_nodup hn hp)) ?_
  have e : (kvs.length == kvs'.length && true) = true := by rw [ht.length, ht'.length]; simp
  rw [e]
  exact hq
theorem entItems {dd dd' : Addr} {a b c d : Int} {t1 t2 t3 t4 u1 u2 u3 u4 : Tok} (h : EqW prog w A s (.ref dd) (.ref dd')) :
    ∀ j (h1 : j < (#[.int a t1, .int b t2, .int c t3, .int d t4, .ref dd] : Array Value).size) (h2 : j < (#[.int a u1, .int b u2, .int c u3, .int d u4, .ref dd'] : Array Value).size), EqW prog w A s (#[.int a t1, .int b t2, .int c t3, .int d t4, .ref dd] : Array Value)[j] (#[.int a u1, .int b u2, .int c u3, .int d u4, .ref dd'] : Array Value)[j] := by
  intro j h1 h2
  match j, h1, h2 with
  | 0, _, _ => exact EqW.int a t1 u1
  | 1, _, _ => exact EqW.int b t2 u2
  | 2, _, _ => exact EqW.int c t3 u3
  | 3, _, _ => exact EqW.int d t4 u4
  | 4, _, _ => exact h
  | j + 5, h1, _ => (simp at h1; omega)
theorem entEq (N : News h₀ L s.heap news) (hu : A.units + 32 < cLine) {e e' : Addr} {a b c d : Int} {cs : List (Str × Cell)} (hn : (cs.map (·.1)).Nodup) (h : EntL w news e a b c d cs) (h' : EntL w news e' a b c d cs) : EqW PySem.Challenge.rw_ph0128_01.row.prog w A s (.ref e) (.ref e') := by
  refine Mine.exand6_2 h fun t1 t2 t3 t4 dd k he hd => ?_
  try clear h
  refine Mine.exand6_2 h' fun u1 u2 u3 u4 dd' k' he' hd' => ?_
  try clear h'
  exact EqW.refs (RcW.tupEq ⟨_, (N _ he).1, rfl, _, rfl⟩ ⟨_, (N _ he').1, rfl, _, rfl⟩ rfl (by omega) (entItems (tabEq N (show A.units + 1 + 16 < cLine by omega) hn hd hd')))
theorem entNe (N : News h₀ L s.heap news) (hu : A.units + 32 < cLine) {e e' : Addr} {a b c d : Int} {cs : List (Str × Cell)} (hn : (cs.map (·.1)).Nodup) (h : EntL w news e a b c d cs) (h' : EntL w news e' a b c d cs) {E Q : Value → Shared → Prop} (hq : Q (.bool false) s) :
    wpAny (model PySem.Challenge.rw_ph0128_01.row.prog w) A (compareOp .NotEq (.ref e) (.ref e')) Q E s := by
  refine Mine.exand6_2 h fun t1 t2 t3 t4 dd k he hd => ?_
  try clear h
  refine Mine.exand6_2 h' fun u1 u2 u3 u4 dd' k' he' hd' => ?_
  try clear h'
  exact RcW.tupNe ⟨_, (N _ he).1, rfl, _, rfl⟩ ⟨_, (N _ he').1, rfl, _, rfl⟩ rfl (by omega) (entItems (tabEq N (show A.units + 1 + 16 < cLine by omega) hn hd hd')) E Q hq
end
end
example {prog : Program} {w : World} {A : Around} {env : Env} {Q : Flow → Shared → Prop} {E : Value → Shared → Prop} {s : Shared} (h : Q .next s) : wpAny (model prog w) A (execs [] env) Q E s := by
  w_top off
  walk1
  exact h
section
/-- a table of four keys, written out -/
theorem tab4 {w : World} {news : List (Addr × Obj)} {d : Addr} {a b c1 c2 e : Int} (h : TabAtL w news d [(Str.ofString "a", .int a), (Str.ofString "b", .int b), (Str.ofString "c", .pair c1 c2), (Str.ofString "d", .int e)]) :
    ∃ o t1 t2 dc u1 u2 k t4, (d, o) ∈ news ∧ DictIs w o [(Str.ofString "a", .int a t1), (Str.ofString "b", .int b t2), (Str.ofString "c", .ref dc), (Str.ofString "d", .int e t4)] ∧ (dc, tup2 c1 u1 c2 u2 k) ∈ news ∧ (d == sysModules) = false := by
  refine Mine.exand2_4 h fun o kvs ho hd ht lo => ?_
  try clear h
  refine Mine.exand2_3 ht.cons_inv fun v1 r1 e1 ob19 ht => ?_
  refine Mine.exand1_1 ob19 fun t1 h1 => ?_
  try clear ob19
  refine Mine.exand2_3 ht.cons_inv fun v2 r2 e2 ob29 ht => ?_
  refine Mine.exand1_1 ob29 fun t2 h2 => ?_
  try clear ob29
  refine Mine.exand2_3 ht.cons_inv fun v3 r3 e3 ob39 ht => ?_
  refine Mine.exand4_2 ob39 fun dc u1 u2 k h3 h4 => ?_
  try clear ob39
  refine Mine.exand2_3 ht.cons_inv fun v4 r4 e4 ob49 ht => ?_
  refine Mine.exand1_1 ob49 fun t4 h5 => ?_
  try clear ob49
  rw [e1, e2, e3, e4, ht.nil_inv, h1, h2, h3, h5] at hd
  exact ⟨o, t1, t2, dc, u1, u2, k, t4, ho, hd, h4, lo⟩
def fourT (a b c1 c2 e : Int) : List (Str × Cell) := [(Str.ofString "a", .int a), (Str.ofString "b", .int b), (Str.ofString "c", .pair c1 c2), (Str.ofString "d", .int e)]



theorem fourT_nodup (a b c1 c2 e : Int) : ((fourT a b c1 c2 e).map (·.1)).Nodup := by
  show ([Str.ofString "a", Str.ofString "b", Str.ofString "c", Str.ofString "d"] : List Str).Nodup
  decide

theorem summed {w p loose mean mg mb} (e du bl : Addr) (a b c d A1 B1 C1 C2 D1 lost b0 b1 b2 : Int) (t0 t1 t2 tl : Tok) (kb : Nat) (hlost : B1 * (b0 - 1) + C1 * (b1 - 1) + D1 * (b2 - 1) = lost)
    (hb0 : intBits b0 ≤ 1048576) (hb1 : intBits b1 ≤ 1048576) (hb2 : intBits b2 ≤ 1048576) (hB : intBits B1 ≤ 4194304) (hC : intBits C1 ≤ 4194304) (hD : intBits D1 ≤ 4194304) :
    GivesG w p loose mean mg mb 175 [.ref e, .ref du, .int lost tl, .ref bl] 40 300 (fun news => EntL w news e a b c d (fourT A1 B1 C1 C2 D1) ∧ EntL w news du a b c d (fourT A1 B1 C1 C2 D1) ∧ (bl, lst3 b0 t0 b1 t1 b2 t2 kb) ∈ news)
      (fun news v new => new = [] ∧ v = .bool true) := by
  unfold GivesG
  k_fill
  intro dp un gd cn cs aa ccd cl outer A₀ base h₀ L m news ps s Q E B F X N hG h93 hBr hP Tp NS C1' C2' C3' hk hdp hu hret
  refine Mine.exand0_3 hP fun ob59 ob69 hbl => ?_
  refine Mine.exand6_2 ob59 fun e1 e2 e3 e4 ed ek9 he hed => ?_
  try clear ob59
  refine Mine.exand6_2 ob69 fun f1 f2 f3 f4 fd fk9 hf hfd => ?_
  try clear ob69
  try clear hP
  refine Mine.exand8_4 (tab4 hed) fun o s1 s2 dc u1 u2 kc s4 ho hdo hdc lo => ?_
  refine Mine.exand8_4 (tab4 hfd) fun o' s1' s2' dc' u1' u2' kc' s4' ho' hdo' hdc' lo' => ?_
  have hMk := kstMark
  have N0 : News h₀ L s.heap ((93, tabObj ps) :: (e, tup5 a e1 b e2 c e3 d e4 ed ek9) :: (ed, o) :: (dc, tup2 C1 u1 C2 u2 kc) :: (du, tup5 a f1 b f2 c f3 d f4 fd fk9) :: (fd, o') :: (dc', tup2 C1 u1' C2 u2' kc') :: (bl, lst3 b0 t0 b1 t1 b2 t2 kb) :: news) := fun q hq => by
    simp only [List.mem_cons] at hq
    rcases hq with rfl | rfl | rfl | rfl | rfl | rfl | rfl | rfl | hq
    · exact N _ (.head _)
    · exact N _ (.tail _ he)
    · exact N _ (.tail _ ho)
    · exact N _ (.tail _ hdc)
    · exact N _ (.tail _ hf)
    · exact N _ (.tail _ ho')
    · exact N _ (.tail _ hdc')
    · exact N _ (.tail _ hbl)
    · exact N _ (.tail _ hq)
  clear N
  k_with_none
  k_with "binaryOp Add int int" => (refine add_N ?_)
  k_with "binaryOp Sub int int" => (refine sub_N ?_)
  k_with "inplaceOp Add int int" => (refine iadd_N ?_)
  k_with "inplaceOp Sub int int" => (refine isub_N ?_)
  k_with "binaryOp BitOr int int" => (refine or_N ?_)
  k_with "unaryOp USub int" => (refine neg_N ?_)
  k_with "storeName" => (k_here; k_dflt (refine' storeX_N ?F ?N ?eg ?ed ?eo ?_ ?a ?b; (case F => k_asm); (case N => k_asm); (case a => rfl); (case b => rfl); (case eg => first | (dsimp only; done) | exact rfl); (case ed => first | (dsimp only; done) | exact rfl); (case eo => first | (dsimp only; done) | exact rfl); k_whole; intro _ _ _; (try k_sweep)))
  k_with "MineLt" => (first | with_reducible assumption | ((with_reducible rename _ ∧ _ => hC9); first | exact hC9.1 | exact hC9.2.1 | exact hC9.2.2.1 | exact hC9.2.2.2.1 | exact hC9.2.2.2.2.1 | exact hC9.2.2.2.2.2.1 | exact hC9.2.2.2.2.2.2.1 | exact hC9.2.2.2.2.2.2.2.1 | exact hC9.2.2.2.2.2.2.2.2.1 | exact hC9.2.2.2.2.2.2.2.2.2.1 | exact hC9.2.2.2.2.2.2.2.2.2.2.1 | exact hC9.2.2.2.2.2.2.2.2.2.2.2.1 | exact hC9.2.2.2.2.2.2.2.2.2.2.2.2.1 | exact hC9.2.2.2.2.2.2.2.2.2.2.2.2.2.1) | exact And.left (by with_reducible assumption) | exact Nat.lt_succ_self _)
  k_with "binaryOp LShift int int" => (refine' lshift_N ?hn ?hz ?_; (case hn => k_extra "nn"); (case hz => k_extra "shl"); (try k_extra "tidy"))
  k_with "inplaceOp LShift int int" => (refine' ilshift_N ?hn ?hz ?_; (case hn => k_extra "nn"); (case hz => k_extra "shl"); (try k_extra "tidy"))
  k_with "binaryOp RShift int int" => (refine' rshift_N ?hn ?_; (case hn => k_extra "nn"); (try k_extra "tidy"))
  k_with "inplaceOp RShift int int" => (refine' irshift_N ?hn ?_; (case hn => k_extra "nn"); (try k_extra "tidy"))
  k_with "binaryOp BitAnd int int" => (refine and_N ?_; (try k_extra "tidy"))
  k_with "binaryOp Mult int int" => (refine' mul_N ?_ ?hm; (case hm => k_extra "mul"); (try k_extra "tidy"))
  k_with "Kdm" => (refine' divmod_N ?F ?N ?hb ?_ ?hp; (case F => k_asm); (case N => k_asm); (case hb => k_extra "div0"); (case hp => k_extra "pylong"))
  k_with "call ref" => (k_extra "my call")
  k_with "ite" => (k_extra "decide")
  k_with "binaryOp FloorDiv int int" => (refine' floordiv_N ?hb ?_ ?hp; (case hb => k_extra "div0"); (case hp => k_extra "pylong"); (try k_extra "tidy"))
  k_with "binaryOp BitXor int int" => (refine xor_N ?_; (try k_extra "tidy"))
  k_with "subscriptTail Name Constant ref int" => (k_here; (with_reducible show wpAny _ _ (subscriptTail _ _ (Value.ref _) (Value.int _ _)) _ _ _); (with_unfolding_all refine' item_litK ?k1 ?k2 ?k3 ?k4 ?_ ?k6; (case k1 => is_list); (case k2 => decide); (case k3 => decide); (case k4 => rfl); (case k6 => with_unfolding_all rfl); k_whole))
  k_with "subscriptTail Name Name ref int" => (k_here; (with_reducible show wpAny _ _ (subscriptTail _ _ (Value.ref _) (Value.int _ _)) _ _ _); (with_unfolding_all refine' item_litK ?k1 ?k2 ?k3 ?k4 ?_ ?k6; (case k1 => is_list); (case k2 => decide); (case k3 => decide); (case k4 => rfl); (case k6 => with_unfolding_all rfl); k_whole))
  k_with "subscriptTail Name BinOp ref int" => (k_here; (with_reducible show wpAny _ _ (subscriptTail _ _ (Value.ref _) (Value.int _ _)) _ _ _); (with_unfolding_all refine' item_litK ?k1 ?k2 ?k3 ?k4 ?_ ?k6; (case k1 => is_list); (case k2 => decide); (case k3 => decide); (case k4 => rfl); (case k6 => with_unfolding_all rfl); k_whole))
  k_with "UnrEnd" => k_dflt (refine' unr_close ?uF ?uN ?uP ?uO ?_; (case uF => assumption); (case uN => assumption); (case uP => first | exact Pull.head | exact Pull.tail Pull.head | exact Pull.tail (Pull.tail Pull.head) | exact Pull.tail (Pull.tail (Pull.tail Pull.head)) | exact Pull.tail (Pull.tail (Pull.tail (Pull.tail Pull.head)))); (case uO => k_all); k_whole)
  k_with "pyIter ref" => k_dflt (k_extra "iter")
  k_with "compareOp NotEq ref ref" => (k_here; k_dflt (k_extra "ne"))
  k_with "call ref" => (k_extra "my call")
  k_with "call type:list" => (k_here; k_dflt (k_extra "list"))
  k_with "subscriptTail" => (k_here; (with_reducible show wpAny _ _ (subscriptTail _ _ (Value.ref _) (Value.str _ _)) _ _ _); k_dflt (k_extra "tail"))
  k_with "decide" => fail
  k_with "iter" => refine stop_intro ?_
  k_with "ne" => refine entNe (by k_asm) ?ku (fourT_nodup A1 B1 C1 C2 D1) ⟨e1, e2, e3, e4, ed, ek9, by k_mem, o, _, by k_mem, hdo, ⟨rfl, ⟨_, rfl⟩, rfl, ⟨_, rfl⟩, rfl, ⟨dc, u1, u2, kc, rfl, by k_mem⟩, rfl, ⟨_, rfl⟩, trivial⟩, lo⟩ ⟨f1, f2, f3, f4, fd, fk9, by k_mem, o', _, by k_mem, hdo', ⟨rfl, ⟨_, rfl⟩, rfl, ⟨_, rfl⟩, rfl, ⟨dc', u1', u2', kc', rfl, by k_mem⟩, rfl, ⟨_, rfl⟩, trivial⟩, lo'⟩ ?_; (case ku => ktr_units)
  k_with "my call" => refine stop_intro ?_
  k_with "list" =>
    (refine kdl_list_keysS rfl (by k_asm) (by k_asm) (by k_mem) hdo lo (Nat.le_of_ble_eq_true rfl) ?_; (intro B9 c9 h9 tk9 ta9 tb9 tc9 td9 F9 N9 l9); (try k_lt l9))
  k_with "tail" => refine kda_item (knd := PySem.strKind _ _) (by k_asm) (by k_mem) hdo (strKind_is _ _ _ _) (by rfl) ?_
  k_with "mul" => exact IntMulOk.of_le (m := 4194304) (n := 1048577) (by assumption) (Nat.le_trans (intBits_sub_le (by assumption) (show intBits 1 ≤ 1 by decide)) (by decide)) (by decide)
  refine wpAny_call ?_
  k_dflt ktr_enter
  (try refine tok_any fun tk9 => ?_)
  (rename Fr _ _ _ _ => F1)
  replace F1 := fr_as (m' := fun y => List.lookup y [(Str.ofString "bases", .ref bl), (Str.ofString "lost", .int lost tl), (Str.ofString "due", .ref du), (Str.ofString "entry", .ref e)]) F1 rfl
  k_steps
  rename_i dsp hq2 o1 lo1 hd1 l2q hq1 od hdz hfz hz Fz Nz
  unfold Stop
  have Nr : News _ _ hz ((93, tabObj ps) :: (dsp, od) :: news) := newsSub Nz (fun p hp => by
    rcases List.mem_cons.mp hp with rfl | hp
    · k_mem
    rcases List.mem_cons.mp hp with rfl | hp
    · k_mem
    · (repeat refine List.mem_cons_of_mem _ ?_); exact hp)
  have r93 : ∀ q ∈ ((dsp, od) :: news : List (Addr × Obj)), q.1 ≠ 93 := fun q hq => by
    rcases List.mem_cons.mp hq with rfl | hq
    · exact Nat.ne_of_gt l2q.2.2.1
    · exact h93 q hq
  clear Nz
  refine GivesG.use (countc dsp (B1 * (b0 - 1)) (C1 * (b1 - 1)) (D1 * (b2 - 1))) Pull.head (by k_asm) Fz (by k_asm) Nr hG r93 (by k_asm) ⟨od, _, .head _, hdz, ⟨rfl, ⟨_, rfl⟩, rfl, ⟨_, rfl⟩, rfl, ⟨_, rfl⟩, trivial⟩, lo1⟩ (by k_asm) (by k_asm) (by k_asm) (by k_asm) (by k_asm) rfl (by ktr_room) (by ktr_units) ?_
  intro v8 new8 hp8 tk8 gs8 ps8 P8 G8 B8 n8 F8 N8
  obtain ⟨ob79, t8, ob89⟩ := P8
  subst ob79
  subst ob89
  try clear P8
  k_steps
  refine hret _ [] _ _ _ ps8 ⟨rfl, ?_⟩ G8 B8 (fun q hq => nomatch hq) (by assumption) (newsSub (by assumption) fun p hp => ?_)
  · rw [hlost, beq_self_eq_true]
  · rcases List.mem_cons.mp hp with rfl | hp
    · exact .head _
    · exact .tail _ (List.mem_append_right _ (.tail _ hp))
end
example {prog : Program} {w : World} {A : Around} {env : Env} {Q : Flow → Shared → Prop} {E : Value → Shared → Prop} {s : Shared} (h : Q .next s) : wpAny (model prog w) A (execs [] env) Q E s := by
  w_top off
  walk1
  exact h
section
section
variable {prog : Program} {w : World} {A : Around} {s : Shared} {env : Env} {h₀ : Heap} {body : List Stmt} {Q : Flow → Shared → Prop} {E : Value → Shared → Prop}
/-- a list of pairs of ints on the ledger -/
def PairsR (news : List (Addr × Obj)) : List Value → List (Int × Int) → Prop
  | [], [] => True
  | v :: vs, p :: ps => (∃ d t u k, v = .ref d ∧ (d, tup2 p.1 t p.2 u k) ∈ news) ∧ PairsR news vs ps
  | _, _ => False
theorem PairsR.sub {news news' : List (Addr × Obj)} (hs : ∀ p ∈ news, p ∈ news') : ∀ {vs : List Value} {ps : List (Int × Int)}, PairsR news vs ps → PairsR news' vs ps := by
  intro vs
  induction vs with
  | nil => intro ps h; cases ps with | nil => trivial | cons b m => exact h.elim
  | cons a l ih => intro ps h; cases ps with | nil => exact h.elim | cons b m => exact ⟨Mine.exand4_2 h.1 fun d t u k e h => ⟨d, t, u, k, e, hs _ h⟩, ih h.2⟩
theorem PairsR.length {news : List (Addr × Obj)} : ∀ {vs : List Value} {ps : List (Int × Int)}, PairsR news vs ps → vs.length = ps.length := by
  intro vs
  induction vs with
  | nil => intro ps h; cases ps with | nil => rfl | cons b m => exact h.elim
  | cons a l ih => intro ps h; cases ps with | nil => exact h.elim | cons b m => exact congrArg Nat.succ (ih h.2)
theorem PairsR.get {news : List (Addr × Obj)} : ∀ {vs : List Value} {ps : List (Int × Int)} {i : Nat} {v : Value}, PairsR news vs ps → vs[i]? = some v → ∃ p d t u k, ps[i]? = some p ∧ v = .ref d ∧ (d, tup2 p.1 t p.2 u k) ∈ news := by
  intro vs
  induction vs with
  | nil => intro ps i v h q; cases q
  | cons a l ih =>
    intro ps i v h q
    cases ps with
    | nil => exact h.elim
    | cons b m =>
      cases i with
      | zero => cases q; exact Mine.exand4_2 h.1 fun d t u k e x => ⟨b, d, t, u, k, rfl, e, x⟩
      | succ i => exact ih (ps := m) (i := i) h.2 q
theorem pairs_iter {xi xc : Str} {pk pv pt : Pos} {x1 : Nat} {l : Addr} {vs : List Value} {kl : Nat} {ps : List (Int × Int)} {m : Str → Option Value} {news : List (Addr × Obj)} (hh : A.handled = none)
    (hxi : env.kindOf xi = some .local) (hxc : env.kindOf xc = some .local) (hp : (env.scope.kind == .class || (env.scope.kind == .module && env.locals != env.globals)) = false)
    (F : Fr h₀ env.locals s.heap m) (N : News h₀ env.locals s.heap news) (hln : (l, listOf vs.toArray kl) ∈ news) (hps : PairsR news vs ps) (G : AllBare s.gens)
    (J : Nat → (Str → Option Value) → Prop) (h0 : J 0 m)
    (turn : ∀ I i x y t u m₁ h tk gs oI, (∀ p ∈ news, p.1 < I) → ps[i]? = some (x, y) → J i m₁ → Fr h₀ env.locals h (fun z => if z = xc then some (.int y u) else if z = xi then some (.int x t) else m₁ z) → News h₀ env.locals h ((I, oI) :: news) → AllBare gs →
      wpAny (model prog w) A (execs body env) (TurnG Q (TurnE h₀ env.locals I oI s fun m' n' => n' = news ∧ J (i + 1) m')) E { s with heap := h, toks := tk, gens := gs })
    (done : ∀ m' h tk gs, J ps.length m' → Fr h₀ env.locals h m' → News h₀ env.locals h news → AllBare gs → Q .next { s with heap := h, toks := tk, gens := gs })
    (hE : PassesOwn (model prog w) A env E := by passes_own) :
    wpAny (model prog w) A (pyIter (.ref l)) (ItemsLoop prog w A env (.Tuple [.Name xi pk, .Name xc pv] x1 pt) body Q E) E s := by
  refine wpAny_pyIter_list ⟨_, (N _ hln).1, rfl, _, rfl⟩ ?_
  have hIL : env.locals < s.heap.objs.size := F.ns.lt
  have freshI : h₀.get? s.heap.objs.size = none := Heap.get?_none_of_le (Nat.le_trans F.above (Nat.le_of_lt hIL))
  have hLI : env.locals ≠ s.heap.objs.size := Nat.ne_of_lt hIL
  have hlt0 : ∀ p ∈ news, p.1 < s.heap.objs.size := fun p hp => Heap.lt_size (N p hp).1
  have hoff : ∀ p ∈ news, p.1 ≠ s.heap.objs.size := fun p hp => Nat.ne_of_lt (hlt0 p hp)
  have hsz : vs.toArray.size = ps.length := by rw [List.size_toArray, hps.length]
  show codeAny _ _ _ _ _
  let I9 : Nat → Shared → Prop := fun k s' => ∃ i h tk gs m', i ≤ ps.length ∧ k = ps.length + 1 - i ∧ s' = { s with heap := h, toks := tk, gens := gs } ∧ h.IsListIter s.heap.objs.size l i ∧ Fr h₀ env.locals h m' ∧ News h₀ env.locals h news ∧ AllBare gs ∧ J i m'
  refine codeAny_forLoop_any I9
    ?_ (ps.length + 1) ⟨0, _, s.toks, s.gens, m, Nat.zero_le _, rfl, rfl, ⟨_, Heap.get?_push_size _ rfl, rfl, rfl⟩, F.push _, fun p hp => ⟨Heap.get?_push_of_some _ (N p hp).1, (N p hp).2⟩, G, h0⟩
  intro k s' ob19
  refine Mine.exand5_8 ob19 fun i h tk gs m' hi ob29 ob39 hI' F' N' G' hJ => ?_
  subst ob29
  subst ob39
  try clear ob19
  have hl : h.IsList l vs.toArray := ⟨_, (N' _ hln).1, rfl, _, rfl⟩
  have next : ∀ h₁ : Heap, Heap.ExtBut s.heap.objs.size h h₁ → Fr h₀ env.locals h₁ m' ∧ News h₀ env.locals h₁ news := fun h₁ hx =>
    ⟨⟨F'.ns.at' fun o e => hx _ o hLI e, fun b o e => hx b o (fun q => by rw [q, freshI] at e; cases e) (F'.keep b o e), F'.above⟩, fun p hp => ⟨hx _ _ (hoff p hp) (N' p hp).1, (N' p hp).2⟩⟩
  by_cases hlt : i < ps.length
  · have hlt' : i < vs.length := by rw [hps.length]; exact hlt
    refine Mine.exand5_3 (hps.get (i := i) (v := vs[i]) (by simp [hlt'])) fun ob49 d t u kd hpi hv hd => ?_
    obtain ⟨x, y⟩ := ob49
    try clear ob49
    refine wpAny_pyNext_list_item hI' hl (x := .ref d) (by rw [← hv]; simp [hlt']) fun h₁ hI₁ hs₁ => ?_
    refine Mine.exand0_2 (next h₁ hs₁.extBut) fun F₁ N₁ => ?_
    refine wpAny_letOwnedTupleGo_listiter hI₁ ?_
    have ht₁ : h₁.IsTuple d #[.int x t, .int y u] := ⟨_, (N₁ _ hd).1, rfl, _, rfl⟩
    refine wpAny_assign_Tuple hh ht₁ rfl rfl fun h₃ hx₃ => ?_
    replace hx₃ : Heap.ExtBut h₁.objs.size h₁ h₃ := hx₃
    have up₃ : ∀ b o, h₁.get? b = some o → h₃.get? b = some o := fun b o q => hx₃ b o (Nat.ne_of_lt (Heap.lt_size q)) q
    have F₃ : Fr h₀ env.locals h₃ m' := F₁.keeps up₃
    have N₃ : News h₀ env.locals h₃ news := fun p hp => ⟨up₃ _ _ (N₁ p hp).1, (N₁ p hp).2⟩
    show wpAny _ A (do holding [Value.int y u] (assign (.Name xi pk) env (.int x t)); do holding [] (assign (.Name xc pv) env (.int y u)); pure ()) _ _ _
    refine wpAny_bind (wpAny_holding (wpAny_assign_Name (wpAny_storeName_local hxi F₃.ns (fun h₄ hn₄ hs₄ => ?_) hp)))
    replace hs₄ : Heap.SameBut env.locals h₃ h₄ := hs₄
    have F₄ := F₃.set hn₄ hs₄
    refine wpAny_bind (wpAny_holding (wpAny_assign_Name (wpAny_storeName_local hxc F₄.ns (fun h₅ hn₅ hs₅ => wpAny_pure ?_) hp)))
    replace hs₅ : Heap.SameBut env.locals h₄ h₅ := hs₅
    have F₅ := F₄.set hn₅ hs₅
    have N₅ : News h₀ env.locals h₅ news := (N₃.set hs₄).set hs₅
    refine Mine.exand1_3 hI₁ fun oI gI cI dI => ?_
    try clear hI₁
    have gI₅ := hs₅.extBut _ _ hLI.symm (hs₄.extBut _ _ hLI.symm (up₃ _ _ gI))
    refine wpAny_mono (wpAny_passesOwn hE (turn _ i x y t u m' h₅ _ gs oI hlt0 hpi hJ F₅ (fun p hp => by
      rcases List.mem_cons.mp hp with rfl | hp
      · exact ⟨gI₅, hLI.symm, freshI⟩
      · exact N₅ p hp) G')) (fun f s₃ h₆ => ?_) fun _ _ e => e
    have fin : ∀ s₃, TurnE h₀ env.locals s.heap.objs.size oI s (fun m' n' => n' = news ∧ J (i + 1) m') s₃ → ∃ q, q < ps.length + 1 - i ∧ ∃ i h tk gs m', i ≤ ps.length ∧ q = ps.length + 1 - i ∧ s₃ = { s with heap := h, toks := tk, gens := gs } ∧ h.IsListIter s.heap.objs.size l i ∧ Fr h₀ env.locals h m' ∧ News h₀ env.locals h news ∧ AllBare gs ∧ J i m' := by
      intro s₃ ob59
      refine Mine.exand5_7 ob59 fun hx6 tk₆ gs₆ m₆ news₆ ob69 F₆ N₆ off₆ G₆ ob79 J₆ => ?_
      subst ob69
      subst ob79
      try clear ob59
      exact ⟨ps.length + 1 - (i + 1), by omega, i + 1, hx6, tk₆, gs₆, m₆, hlt, rfl, rfl, ⟨oI, (N₆ _ (.head _)).1, cI, dI⟩, F₆, fun p hp => N₆ p (.tail _ hp), G₆, J₆⟩
    cases f with
    | ret v => exact h₆
    | brk => exact h₆
    | cont => exact fin s₃ h₆
    | next => exact fin s₃ h₆
  · have hin : i = ps.length := by omega
    subst hin
    refine wpAny_pyNext_list_end hh hI' hl (by rw [Array.getElem?_eq_none]; rw [hsz]; exact Nat.le_refl _) fun h₁ hx => wpAny_execs_nil ?_
    refine Mine.exand0_2 (next h₁ hx) fun F₁ N₁ => ?_
    exact done m' h₁ _ gs hJ F₁ N₁ G'
end

/-- what compare tells -/
def cmpF (L R : Int → Int) : List (Int × Int) → Int
  | [] => 0
  | (x, d) :: r => if L x < R x then -d else if R x < L x then d else cmpF L R r
def rowAt (a b c d : Int) (x : Int) : Int := if x = 0 then a else if x = 1 then b else if x = 2 then c else d
theorem rowAt_get (a b c d : Int) (t1 t2 t3 t4 : Tok) (dd : Addr) {x : Int} (h0 : 0 ≤ x) (h4 : x < 4) : ∃ t, (#[.int a t1, .int b t2, .int c t3, .int d t4, .ref dd] : Array Value)[x.toNat]? = some (.int (rowAt a b c d x) t) := by
  refine Mine.exand1_1 (Int.eq_ofNat_of_zero_le h0) fun n ob89 => ?_
  subst ob89
  match n, h4 with
  | 0, _ => exact ⟨t1, rfl⟩
  | 1, _ => exact ⟨t2, rfl⟩
  | 2, _ => exact ⟨t3, rfl⟩
  | 3, _ => exact ⟨t4, rfl⟩
  | n + 4, h => omega
theorem cmpF_step {L R : Int → Int} {ps : List (Int × Int)} {i : Nat} {x d : Int} (h : ps[i]? = some (x, d)) : cmpF L R (ps.drop i) = if L x < R x then -d else if R x < L x then d else cmpF L R (ps.drop (i + 1)) := by
  have hlt : i < ps.length := by
    rcases Nat.lt_or_ge i ps.length with h' | h'
    · exact h'
    · rw [List.getElem?_eq_none h'] at h; cases h
  rw [List.drop_eq_getElem_cons hlt]
  rw [List.getElem?_eq_getElem hlt] at h
  rw [Option.some.inj h]
  rfl
end
example {prog : Program} {w : World} {A : Around} {env : Env} {Q : Flow → Shared → Prop} {E : Value → Shared → Prop} {s : Shared} (h : Q .next s) : wpAny (model prog w) A (execs [] env) Q E s := by
  w_top off
  walk1
  exact h
section
/-- what a function gives that leaves the ledger alone -/
abbrev GivesS (w : World) (p : Program) (loose : List Str) (mean : ExcName → Option Value) (mg mb : Str → Option Value) (f : Addr) (vs : List Value) (dep uni : Nat) (Pre : List (Addr × Obj) → Prop) (Post : Value → Prop) : Prop :=
  ∀ (dp un : Nat) (gd : Option (List Code)) (cn : Str) (cs : Scope) (aa : Addr) (ccd : Value) (cl : List (Str × Addr)) (outer : List Env) (A₀ : Around) (base h₀ : Heap) (L : Addr) (m : Str → Option Value) (news : List (Addr × Obj)) (s : Shared)
    (Q E : Value → Shared → Prop),
    Below A₀ base outer h₀ → Fr h₀ L s.heap m → (hd.heap_1 w.params).In h₀ → News h₀ L s.heap news → AllBare s.gens → Pre news → Top p loose mean mg mb h₀ → base.NoSeer → CodeHd base 34 30 → CodeHd base 41 37 → CodeHd base 97 93 → cs.kind = .function → dp + dep < recursionLimit → un + uni < cLine →
    (∀ v h' tk' gs', Post v → AllBare gs' → Fr h₀ L h' m → News h₀ L h' news → Q v { s with heap := h', toks := tk', gens := gs' }) →
    wpAny (model PySem.Challenge.rw_ph0128_01.row.prog w) (ktrTop dp un gd cn cs L aa ccd cl outer) (call (.ref f) vs) Q E s
theorem GivesS.use {w : World} {p : Program} {loose : List Str} {mean : ExcName → Option Value} {mg mb : Str → Option Value} {f : Addr} {vs : List Value} {dep uni : Nat} {Pre : List (Addr × Obj) → Prop} {Post : Value → Prop}
    {dp un : Nat} {gd : Option (List Code)} {cn : Str} {cs : Scope} {aa : Addr} {ccd : Value} {cl : List (Str × Addr)} {outer : List Env} {A₀ : Around} {base h₀ : Heap} {L : Addr} {m : Str → Option Value} {news : List (Addr × Obj)} {h9 : Heap} {g9 : Array GenState} {d9 : Drawn} {t9 : Nat} {o9 : OsState}
    {Q E : Value → Shared → Prop} (C : GivesS w p loose mean mg mb f vs dep uni Pre Post)
    (B : Below A₀ base outer h₀) (F : Fr h₀ L h9 m) (X : (hd.heap_1 w.params).In h₀) (N : News h₀ L h9 news) (hB : AllBare g9) (hP : Pre news) (Tp : Top p loose mean mg mb h₀) (NS : base.NoSeer) (C1 : CodeHd base 34 30) (C2 : CodeHd base 41 37) (C3 : CodeHd base 97 93) (hk : cs.kind = .function) (hdp : dp + dep < recursionLimit) (hu : un + uni < cLine)
    (ret : ∀ v h' tk' gs', Post v → AllBare gs' → Fr h₀ L h' m → News h₀ L h' news → Q v ⟨h', gs', d9, tk', o9⟩) :
    wpAny (model PySem.Challenge.rw_ph0128_01.row.prog w) (ktrTop dp un gd cn cs L aa ccd cl outer) (call (.ref f) vs) Q E ⟨h9, g9, d9, t9, o9⟩ := C _ _ _ _ _ _ _ _ _ _ _ _ _ _ _ _ _ _ B F X N hB hP Tp NS C1 C2 C3 hk hdp hu ret

abbrev compDict (w : World) (tc : Tok) (l : Addr) : Obj := dictOf [{ hash := PyData.keyHash w.params (Str.ofString "comp_select_list"), key := .str (Str.ofString "comp_select_list") tc, val := .ref l }] 1

theorem compare {w p loose mean mg mb} (so sd l r1 r2 : Addr) (vs : List Value) (kl : Nat) (ps : List (Int × Int)) (a b c d a' b' c' d' : Int) (t1 t2 t3 t4 u1 u2 u3 u4 : Tok) (dd dd' : Addr) (k k' : Nat) (hr : ∀ p ∈ ps, 0 ≤ p.1 ∧ p.1 < 4) (tc : Tok) :
    GivesS w p loose mean mg mb 77 [.ref so, .ref r1, .ref r2] 10 100 (fun news => (so, instObj 80 sd) ∈ news ∧ (sd, compDict w tc l) ∈ news ∧ (l, listOf vs.toArray kl) ∈ news ∧ PairsR news vs ps ∧
        (r1, tup5 a t1 b t2 c t3 d t4 dd k) ∈ news ∧ (r2, tup5 a' u1 b' u2 c' u3 d' u4 dd' k') ∈ news)
      (fun v => ∃ t, v = .int (cmpF (rowAt a b c d) (rowAt a' b' c' d') ps) t) := by
  unfold GivesS
  k_fill
  intro dp un gd cn cs aa ccd cl outer A₀ base h₀ L m news s Q E B F X N hBr hP Tp NS C1' C2' C3' hk hdp hu hret
  refine Mine.exand0_6 hP fun hso hsd hl hps hr1 hr2 => ?_
  try clear hP
  have hMk := kstMark
  have N0 : News h₀ L s.heap ((so, instObj 80 sd) :: (sd, compDict w tc l) :: (r1, tup5 a t1 b t2 c t3 d t4 dd k) :: (r2, tup5 a' u1 b' u2 c' u3 d' u4 dd' k') :: news) := fun q hq => by
    simp only [List.mem_cons] at hq
    rcases hq with rfl | rfl | rfl | rfl | hq
    · exact N _ hso
    · exact N _ hsd
    · exact N _ hr1
    · exact N _ hr2
    · exact N _ hq
  clear N
  k_with_none
  k_with "binaryOp Add int int" => (refine add_N ?_)
  k_with "binaryOp Sub int int" => (refine sub_N ?_)
  k_with "inplaceOp Add int int" => (refine iadd_N ?_)
  k_with "inplaceOp Sub int int" => (refine isub_N ?_)
  k_with "binaryOp BitOr int int" => (refine or_N ?_)
  k_with "unaryOp USub int" => (refine neg_N ?_)
  k_with "storeName" => (k_here; k_dflt (refine' storeX_N ?F ?N ?eg ?ed ?eo ?_ ?a ?b; (case F => k_asm); (case N => k_asm); (case a => rfl); (case b => rfl); (case eg => first | (dsimp only; done) | exact rfl); (case ed => first | (dsimp only; done) | exact rfl); (case eo => first | (dsimp only; done) | exact rfl); k_whole; intro _ _ _; (try k_sweep)))
  k_with "MineLt" => (first | with_reducible assumption | ((with_reducible rename _ ∧ _ => hC9); first | exact hC9.1 | exact hC9.2.1 | exact hC9.2.2.1 | exact hC9.2.2.2.1 | exact hC9.2.2.2.2.1 | exact hC9.2.2.2.2.2.1 | exact hC9.2.2.2.2.2.2.1 | exact hC9.2.2.2.2.2.2.2.1 | exact hC9.2.2.2.2.2.2.2.2.1 | exact hC9.2.2.2.2.2.2.2.2.2.1 | exact hC9.2.2.2.2.2.2.2.2.2.2.1 | exact hC9.2.2.2.2.2.2.2.2.2.2.2.1 | exact hC9.2.2.2.2.2.2.2.2.2.2.2.2.1 | exact hC9.2.2.2.2.2.2.2.2.2.2.2.2.2.1) | exact And.left (by with_reducible assumption) | exact Nat.lt_succ_self _)
  k_with "binaryOp LShift int int" => (refine' lshift_N ?hn ?hz ?_; (case hn => k_extra "nn"); (case hz => k_extra "shl"); (try k_extra "tidy"))
  k_with "inplaceOp LShift int int" => (refine' ilshift_N ?hn ?hz ?_; (case hn => k_extra "nn"); (case hz => k_extra "shl"); (try k_extra "tidy"))
  k_with "binaryOp RShift int int" => (refine' rshift_N ?hn ?_; (case hn => k_extra "nn"); (try k_extra "tidy"))
  k_with "inplaceOp RShift int int" => (refine' irshift_N ?hn ?_; (case hn => k_extra "nn"); (try k_extra "tidy"))
  k_with "binaryOp BitAnd int int" => (refine and_N ?_; (try k_extra "tidy"))
  k_with "binaryOp Mult int int" => (refine' mul_N ?_ ?hm; (case hm => k_extra "mul"); (try k_extra "tidy"))
  k_with "Kdm" => (refine' divmod_N ?F ?N ?hb ?_ ?hp; (case F => k_asm); (case N => k_asm); (case hb => k_extra "div0"); (case hp => k_extra "pylong"))
  k_with "call ref" => (k_extra "my call")
  k_with "ite" => (k_extra "decide")
  k_with "binaryOp FloorDiv int int" => (refine' floordiv_N ?hb ?_ ?hp; (case hb => k_extra "div0"); (case hp => k_extra "pylong"); (try k_extra "tidy"))
  k_with "binaryOp BitXor int int" => (refine xor_N ?_; (try k_extra "tidy"))
  k_with "subscriptTail Name Constant ref int" => (k_here; (with_reducible show wpAny _ _ (subscriptTail _ _ (Value.ref _) (Value.int _ _)) _ _ _); (with_unfolding_all refine' item_litK ?k1 ?k2 ?k3 ?k4 ?_ ?k6; (case k1 => is_list); (case k2 => decide); (case k3 => decide); (case k4 => rfl); (case k6 => with_unfolding_all rfl); k_whole))
  k_with "subscriptTail Name Name ref int" => (k_here; (with_reducible show wpAny _ _ (subscriptTail _ _ (Value.ref _) (Value.int _ _)) _ _ _); (with_unfolding_all refine' item_litK ?k1 ?k2 ?k3 ?k4 ?_ ?k6; (case k1 => is_list); (case k2 => decide); (case k3 => decide); (case k4 => rfl); (case k6 => with_unfolding_all rfl); k_whole))
  k_with "subscriptTail Name BinOp ref int" => (k_here; (with_reducible show wpAny _ _ (subscriptTail _ _ (Value.ref _) (Value.int _ _)) _ _ _); (with_unfolding_all refine' item_litK ?k1 ?k2 ?k3 ?k4 ?_ ?k6; (case k1 => is_list); (case k2 => decide); (case k3 => decide); (case k4 => rfl); (case k6 => with_unfolding_all rfl); k_whole))
  k_with "UnrEnd" => k_dflt (refine' unr_close ?uF ?uN ?uP ?uO ?_; (case uF => assumption); (case uN => assumption); (case uP => first | exact Pull.head | exact Pull.tail Pull.head | exact Pull.tail (Pull.tail Pull.head) | exact Pull.tail (Pull.tail (Pull.tail Pull.head)) | exact Pull.tail (Pull.tail (Pull.tail (Pull.tail Pull.head)))); (case uO => k_all); k_whole)
  k_with "pyIter ref" => k_dflt (k_extra "iter")
  k_with "exec For Tuple Attribute cons nil" => (k_here; k_dflt (refine' For_loopG ?_ ?hs; (case hs => intro _; with_unfolding_all rfl)))
  k_with "TurnG" => dsimp only [TurnG]
  k_with "subscriptTail" => (k_here; (with_reducible show wpAny _ _ (subscriptTail _ _ (Value.ref _) (Value.int _ _)) _ _ _); k_dflt (k_extra "tail"))
  k_with "decide" => fail
  k_with "iter" => refine stop_intro ?_
  refine wpAny_call ?_
  k_dflt ktr_enter
  (try refine tok_any fun tk9 => ?_)
  (rename Fr _ _ _ _ => F1)
  replace F1 := fr_as (m' := fun y => List.lookup y [(Str.ofString "right", .ref r2), (Str.ofString "left", .ref r1), (Str.ofString "self", .ref so)]) F1 rfl
  k_steps
  rename_i g1 L1 h1 FG1 Nv B1 X1 T1
  unfold Stop
  have Fv1 : Fr g1 L1 h1 (fun y => if y = Str.ofString "r" then none else if y = Str.ofString "l" then none else if y = Str.ofString "direction" then none else if y = Str.ofString "index" then none else List.lookup y [(Str.ofString "right", .ref r2), (Str.ofString "left", .ref r1), (Str.ofString "self", .ref so)]) := fr_as F1 (funext fun y => by
    by_cases q1 : y = Str.ofString "r"
    · subst q1; exact rfl
    by_cases q2 : y = Str.ofString "l"
    · subst q2; exact rfl
    by_cases q3 : y = Str.ofString "direction"
    · subst q3; exact rfl
    by_cases q4 : y = Str.ofString "index"
    · subst q4; exact rfl
    simp only [q1, q2, q3, q4, if_false])
  refine pairs_iter rfl rfl rfl rfl Fv1 Nv (by (repeat refine List.mem_cons_of_mem _ ?_); exact hl) (hps.sub fun p hp => by (repeat refine List.mem_cons_of_mem _ ?_); exact hp) (by k_asm)
    (fun i m' => ∃ o1 o2 o3 o4, m' = (fun y => if y = Str.ofString "r" then o1 else if y = Str.ofString "l" then o2 else if y = Str.ofString "direction" then o3 else if y = Str.ofString "index" then o4 else List.lookup y [(Str.ofString "right", .ref r2), (Str.ofString "left", .ref r1), (Str.ofString "self", .ref so)]) ∧
      cmpF (rowAt a b c d) (rowAt a' b' c' d') ps = cmpF (rowAt a b c d) (rowAt a' b' c' d') (ps.drop i)) ⟨none, none, none, none, rfl, rfl⟩ ?turn ?done
  case turn =>
    intro I i x dir t u m₁ h tk gs oI hI hpi hJ Fx Nx Gx
    first | (refine' turn_N ?eg ?ed ?eo ?_; (case eg => first | (dsimp only; done) | exact rfl); (case ed => first | (dsimp only; done) | exact rfl); (case eo => first | (dsimp only; done) | exact rfl)) | refine post_let ?_
    intro qT
    refine Mine.exand4_2 hJ fun o1 o2 o3 o4 ob19 hc => ?_
    subst ob19
    try clear hJ
    refine Mine.exand0_2 (hr _ (List.mem_of_getElem? hpi)) fun hx0 hx4 => ?_
    dsimp only at hx0 hx4
    refine Mine.exand1_1 (rowAt_get a b c d t1 t2 t3 t4 dd hx0 hx4) fun ta hta => ?_
    refine Mine.exand1_1 (rowAt_get a' b' c' d' u1 u2 u3 u4 dd' hx0 hx4) fun tb htb => ?_
    rw [cmpF_step hpi] at hc
    generalize rowAt a b c d x = va at *
    generalize rowAt a' b' c' d' x = vb at *
    have hj5 : seqIndex? x 5 = some x.toNat := by
      refine Mine.exand1_1 (Int.eq_ofNat_of_zero_le hx0) fun n ob29 => ?_
      subst ob29
      exact idx_at (by omega)
    have hlo : -(2 ^ 63) ≤ x := by omega
    have hhi : x < 2 ^ 63 := by omega
    k_with "tail" => first
      | refine item_tuple (News.isTup (by k_asm) (show (r1, tup5 a t1 b t2 c t3 d t4 dd k) ∈ _ by k_mem)) hlo hhi hj5 hta ?_
      | refine item_tuple (News.isTup (by k_asm) (show (r2, tup5 a' u1 b' u2 c' u3 d' u4 dd' k') ∈ _ by k_mem)) hlo hhi hj5 htb ?_
    k_steps
    all_goals first
      | (refine stop_intro (turnE (fr_as (by k_asm) (funext fun y => ?_)) (by k_asm) (fun p hp => Nat.ne_of_lt (hI p hp)) Gx ⟨rfl, some (.int vb tb), some (.int va ta), some (.int dir u), some (.int x t), rfl, hc.trans ((if_neg ‹_›).trans (if_neg ‹_›))⟩)
         first | exact pif fun q1 => pif fun q2 => pif fun q3 => pif fun q4 => pgo q1 (pgo q2 (pgo q3 (pgo q4 rfl))) | (by_cases q1 : y = Str.ofString "r" <;> by_cases q2 : y = Str.ofString "l" <;> by_cases q3 : y = Str.ofString "direction" <;> by_cases q4 : y = Str.ofString "index" <;> simp only [q1, q2, q3, q4, if_true, if_false]))
      | exact hret _ _ _ _ ⟨_, by rw [hc, if_pos ‹_›]⟩ Gx (by k_asm) (newsSub (by k_asm) fun q hq => .tail _ (.tail _ (.tail _ (.tail _ (.tail _ hq)))))
      | exact hret _ _ _ _ ⟨_, by rw [hc, if_neg ‹_›, if_pos ‹_›]⟩ Gx (by k_asm) (newsSub (by k_asm) fun q hq => .tail _ (.tail _ (.tail _ (.tail _ (.tail _ hq)))))
  case done =>
    intro m' h tk gs hJ Fd Nd Gd
    refine Mine.exand4_2 hJ fun o1 o2 o3 o4 ob39 hc => ?_
    subst ob39
    try clear hJ
    rw [List.drop_length] at hc
    k_steps
    exact hret _ _ _ _ ⟨_, by rw [hc]; rfl⟩ Gd (by k_asm) (newsSub (by k_asm) fun q hq => .tail _ (.tail _ (.tail _ (.tail _ hq))))
end
example {prog : Program} {w : World} {A : Around} {env : Env} {Q : Flow → Shared → Prop} {E : Value → Shared → Prop} {s : Shared} (h : Q .next s) : wpAny (model prog w) A (execs [] env) Q E s := by
  w_top off
  walk1
  exact h
section
section
variable {prog : Program} {w : World} {A : Around} {s : Shared} {env : Env} {h₀ : Heap} {body : List Stmt} {Q : Flow → Shared → Prop} {E : Value → Shared → Prop}
/-- a for over a tuple of ints on the ledger -/
theorem tup_iter {x : Str} {px : Pos} {l : Addr} {items : Array Value} {ol : Obj} {m : Str → Option Value} {news : List (Addr × Obj)} (hh : A.handled = none)
    (hxi : env.kindOf x = some .local) (hp : (env.scope.kind == .class || (env.scope.kind == .module && env.locals != env.globals)) = false)
    (F : Fr h₀ env.locals s.heap m) (N : News h₀ env.locals s.heap news) (hln : (l, ol) ∈ news) (hol : ol.cls = .type "tuple" ∧ ∃ n, ol.data = .seq items n) (G : AllBare s.gens)
    (J : Nat → (Str → Option Value) → Prop) (h0 : J 0 m)
    (turn : ∀ I i v m₁ h tk gs oI, (∀ p ∈ news, p.1 < I) → items[i]? = some v → J i m₁ → Fr h₀ env.locals h (fun z => if z = x then some v else m₁ z) → News h₀ env.locals h ((I, oI) :: news) → AllBare gs →
      wpAny (model prog w) A (execs body env) (TurnG Q (TurnE h₀ env.locals I oI s fun m' n' => n' = news ∧ J (i + 1) m')) E { s with heap := h, toks := tk, gens := gs })
    (done : ∀ m' h tk gs, J items.size m' → Fr h₀ env.locals h m' → News h₀ env.locals h news → AllBare gs → Q .next { s with heap := h, toks := tk, gens := gs })
    (hE : PassesOwn (model prog w) A env E := by passes_own) :
    wpAny (model prog w) A (pyIter (.ref l)) (ItemsLoop prog w A env (.Name x px) body Q E) E s := by
  obtain ⟨hcl, hcn, hcd⟩ := hol
  try clear hol
  refine wpAny_pyIter_tuple ⟨_, (N _ hln).1, hcl, _, hcd⟩ ?_
  have hIL : env.locals < s.heap.objs.size := F.ns.lt
  have freshI : h₀.get? s.heap.objs.size = none := Heap.get?_none_of_le (Nat.le_trans F.above (Nat.le_of_lt hIL))
  have hLI : env.locals ≠ s.heap.objs.size := Nat.ne_of_lt hIL
  have hlt0 : ∀ p ∈ news, p.1 < s.heap.objs.size := fun p hp => Heap.lt_size (N p hp).1
  have hoff : ∀ p ∈ news, p.1 ≠ s.heap.objs.size := fun p hp => Nat.ne_of_lt (hlt0 p hp)
  unfold ItemsLoop
  let I9 : Nat → Shared → Prop := fun k s' => ∃ i h tk gs m', i ≤ items.size ∧ k = items.size + 1 - i ∧ s' = { s with heap := h, toks := tk, gens := gs } ∧ h.IsTupleIter s.heap.objs.size l i ∧ Fr h₀ env.locals h m' ∧ News h₀ env.locals h news ∧ AllBare gs ∧ J i m'
  refine codeAny_forLoop I9
    ?_ (items.size + 1) ⟨0, _, s.toks, s.gens, m, Nat.zero_le _, rfl, rfl, ⟨_, Heap.get?_push_size _ rfl, rfl, rfl⟩, F.push _, fun p hp => ⟨Heap.get?_push_of_some _ (N p hp).1, (N p hp).2⟩, G, h0⟩
  intro k s' ob19
  refine Mine.exand5_8 ob19 fun i h tk gs m' hi ob29 ob39 hI' F' N' G' hJ => ?_
  subst ob29
  subst ob39
  try clear ob19
  have hl : h.IsTuple l items := ⟨_, (N' _ hln).1, hcl, _, hcd⟩
  have next : ∀ h₁ : Heap, Heap.ExtBut s.heap.objs.size h h₁ → Fr h₀ env.locals h₁ m' ∧ News h₀ env.locals h₁ news := fun h₁ hx =>
    ⟨⟨F'.ns.at' fun o e => hx _ o hLI e, fun b o e => hx b o (fun q => by rw [q, freshI] at e; cases e) (F'.keep b o e), F'.above⟩, fun p hp => ⟨hx _ _ (hoff p hp) (N' p hp).1, (N' p hp).2⟩⟩
  by_cases hlt : i < items.size
  · refine wpAny_pyNext_tuple_item hI' hl (x := items[i]) (by simp [hlt]) fun h₁ hI₁ hs₁ => ?_
    refine Mine.exand0_2 (next h₁ hs₁.extBut) fun F₁ N₁ => ?_
    refine wpAny_assign_Name (wpAny_storeName_local hxi F₁.ns (fun h₂ hn₂ hs₂ => ?_) hp)
    replace hs₂ : Heap.SameBut env.locals h₁ h₂ := hs₂
    have F₂ := F₁.set hn₂ hs₂
    have N₂ : News h₀ env.locals h₂ news := N₁.set hs₂
    refine Mine.exand1_3 hI₁ fun oI gI cI dI => ?_
    try clear hI₁
    have gI₂ := hs₂.extBut _ _ hLI.symm gI
    refine wpAny_mono (wpAny_passesOwn hE (turn _ i items[i] m' h₂ _ gs oI hlt0 (by simp [hlt]) hJ F₂ (fun p hp => by
      rcases List.mem_cons.mp hp with rfl | hp
      · exact ⟨gI₂, hLI.symm, freshI⟩
      · exact N₂ p hp) G')) (fun f s₃ h₆ => ?_) fun _ _ e => e
    have fin : ∀ s₃, TurnE h₀ env.locals s.heap.objs.size oI s (fun m' n' => n' = news ∧ J (i + 1) m') s₃ → ∃ q, q < items.size + 1 - i ∧ ∃ i h tk gs m', i ≤ items.size ∧ q = items.size + 1 - i ∧ s₃ = { s with heap := h, toks := tk, gens := gs } ∧ h.IsTupleIter s.heap.objs.size l i ∧ Fr h₀ env.locals h m' ∧ News h₀ env.locals h news ∧ AllBare gs ∧ J i m' := by
      intro s₃ ob49
      refine Mine.exand5_7 ob49 fun hx6 tk₆ gs₆ m₆ news₆ ob59 F₆ N₆ off₆ G₆ ob69 J₆ => ?_
      subst ob59
      subst ob69
      try clear ob49
      exact ⟨items.size + 1 - (i + 1), by omega, i + 1, hx6, tk₆, gs₆, m₆, hlt, rfl, rfl, ⟨oI, (N₆ _ (.head _)).1, cI, dI⟩, F₆, fun p hp => N₆ p (.tail _ hp), G₆, J₆⟩
    cases f with
    | ret v => exact h₆
    | brk => exact h₆
    | cont => exact fin s₃ h₆
    | next => exact fin s₃ h₆
  · have hin : i = items.size := by omega
    subst hin
    refine wpAny_pyNext_tuple_end hh hI' hl (by rw [Array.getElem?_eq_none]; exact Nat.le_refl _) fun h₁ hx => wpAny_execs_nil ?_
    refine Mine.exand0_2 (next h₁ hx) fun F₁ N₁ => ?_
    exact done m' h₁ _ gs hJ F₁ N₁ G'
end

/-- what _law_side tells -/
def sideL (A B W : List Int) (keys : Int) : List Int → Int
  | [] => 0
  | p :: r => if A.getD p.toNat 0 = B.getD p.toNat 0 then sideL A B W keys r else
      if B.getD 0 0 < A.getD 0 0 then (if 4 - keys ≤ p then ((W.getD p.toNat 0).natAbs : Int) else 0) else -(if 4 - keys ≤ p then ((W.getD p.toNat 0).natAbs : Int) else 0)
abbrev places : List Int := [3, 2, 1, 0]


theorem abs_if (x : Int) : (if x < 0 then -x else x) = (x.natAbs : Int) := by split <;> omega
theorem sc1 {a b e x y p keys W : Int} (h1 : a ≠ b) (h2 : y < x) (h3 : 4 - keys ≤ p) : (if a = b then e else if y < x then (if 4 - keys ≤ p then (W.natAbs : Int) else 0) else -(if 4 - keys ≤ p then (W.natAbs : Int) else 0)) = (if W < 0 then -W else W) := by
  rw [if_neg h1, if_pos h2, if_pos h3, abs_if]
theorem sc2 {a b e x y p keys W : Int} (h1 : a ≠ b) (h2 : ¬ y < x) (h3 : 4 - keys ≤ p) : (if a = b then e else if y < x then (if 4 - keys ≤ p then (W.natAbs : Int) else 0) else -(if 4 - keys ≤ p then (W.natAbs : Int) else 0)) = -(if W < 0 then -W else W) := by
  rw [if_neg h1, if_neg h2, if_pos h3, abs_if]
theorem sc3 {a b e x y p keys W : Int} (h1 : a ≠ b) (h2 : y < x) (h3 : ¬ 4 - keys ≤ p) : (if a = b then e else if y < x then (if 4 - keys ≤ p then (W.natAbs : Int) else 0) else -(if 4 - keys ≤ p then (W.natAbs : Int) else 0)) = 0 := by
  rw [if_neg h1, if_pos h2, if_neg h3]
theorem sc4 {a b e x y p keys W : Int} (h1 : a ≠ b) (h2 : ¬ y < x) (h3 : ¬ 4 - keys ≤ p) : (if a = b then e else if y < x then (if 4 - keys ≤ p then (W.natAbs : Int) else 0) else -(if 4 - keys ≤ p then (W.natAbs : Int) else 0)) = -0 := by
  rw [if_neg h1, if_neg h2, if_neg h3]
theorem sideL_step {A B W : List Int} {keys : Int} {i : Nat} {p : Int} (h : places[i]? = some p) : sideL A B W keys (places.drop i) = if A.getD p.toNat 0 = B.getD p.toNat 0 then sideL A B W keys (places.drop (i + 1)) else
      if B.getD 0 0 < A.getD 0 0 then (if 4 - keys ≤ p then ((W.getD p.toNat 0).natAbs : Int) else 0) else -(if 4 - keys ≤ p then ((W.getD p.toNat 0).natAbs : Int) else 0) := by
  match i, h with
  | 0, h => cases h; rfl
  | 1, h => cases h; rfl
  | 2, h => cases h; rfl
  | 3, h => cases h; rfl
theorem places_at {i : Nat} {v : Value} {c1 c2 c3 c4 : Tok} (h : (#[.int 3 c1, .int 2 c2, .int 1 c3, .int 0 c4] : Array Value)[i]? = some v) : ∃ p t, places[i]? = some p ∧ v = .int p t ∧ 0 ≤ p ∧ p < 4 := by
  match i, h with
  | 0, h => cases h; exact ⟨_, _, rfl, rfl, by decide, by decide⟩
  | 1, h => cases h; exact ⟨_, _, rfl, rfl, by decide, by decide⟩
  | 2, h => cases h; exact ⟨_, _, rfl, rfl, by decide, by decide⟩
  | 3, h => cases h; exact ⟨_, _, rfl, rfl, by decide, by decide⟩

theorem side {w p loose mean mg mb} (o t wl : Addr) (us vs ws : List Value) (A B W : List Int) (hA : IntsAre us A) (hB : IntsAre vs B) (hW : IntsAre ws W) (lA : A.length = 4) (lB : B.length = 4) (lW : W.length = 4) (keys : Int) (tk : Tok) (ko kt kw : Nat) :
    GivesS w p loose mean mg mb 161 [.ref o, .ref t, .ref wl, .int keys tk] 10 100 (fun news => (o, listOf us.toArray ko) ∈ news ∧ (t, listOf vs.toArray kt) ∈ news ∧ (wl, listOf ws.toArray kw) ∈ news)
      (fun v => ∃ t, v = .int (sideL A B W keys places) t) := by
  unfold GivesS
  k_fill
  intro dp un gd cn cs aa ccd cl outer A₀ base h₀ L m news s Q E B' F X N hBr hP Tp NS C1' C2' C3' hk hdp hu hret
  refine Mine.exand0_3 hP fun ho ht hwl => ?_
  try clear hP
  have hMk := kstMark
  have N0 : News h₀ L s.heap ((o, listOf us.toArray ko) :: (t, listOf vs.toArray kt) :: (wl, listOf ws.toArray kw) :: news) := fun q hq => by
    simp only [List.mem_cons] at hq
    rcases hq with rfl | rfl | rfl | hq
    · exact N _ ho
    · exact N _ ht
    · exact N _ hwl
    · exact N _ hq
  clear N
  k_with_none
  k_with "binaryOp Add int int" => (refine add_N ?_)
  k_with "binaryOp Sub int int" => (refine sub_N ?_)
  k_with "inplaceOp Add int int" => (refine iadd_N ?_)
  k_with "inplaceOp Sub int int" => (refine isub_N ?_)
  k_with "binaryOp BitOr int int" => (refine or_N ?_)
  k_with "unaryOp USub int" => (refine neg_N ?_)
  k_with "storeName" => (k_here; k_dflt (refine' storeX_N ?F ?N ?eg ?ed ?eo ?_ ?a ?b; (case F => k_asm); (case N => k_asm); (case a => rfl); (case b => rfl); (case eg => first | (dsimp only; done) | exact rfl); (case ed => first | (dsimp only; done) | exact rfl); (case eo => first | (dsimp only; done) | exact rfl); k_whole; intro _ _ _; (try k_sweep)))
  k_with "MineLt" => (first | with_reducible assumption | ((with_reducible rename _ ∧ _ => hC9); first | exact hC9.1 | exact hC9.2.1 | exact hC9.2.2.1 | exact hC9.2.2.2.1 | exact hC9.2.2.2.2.1 | exact hC9.2.2.2.2.2.1 | exact hC9.2.2.2.2.2.2.1 | exact hC9.2.2.2.2.2.2.2.1 | exact hC9.2.2.2.2.2.2.2.2.1 | exact hC9.2.2.2.2.2.2.2.2.2.1 | exact hC9.2.2.2.2.2.2.2.2.2.2.1 | exact hC9.2.2.2.2.2.2.2.2.2.2.2.1 | exact hC9.2.2.2.2.2.2.2.2.2.2.2.2.1 | exact hC9.2.2.2.2.2.2.2.2.2.2.2.2.2.1) | exact And.left (by with_reducible assumption) | exact Nat.lt_succ_self _)
  k_with "binaryOp LShift int int" => (refine' lshift_N ?hn ?hz ?_; (case hn => k_extra "nn"); (case hz => k_extra "shl"); (try k_extra "tidy"))
  k_with "inplaceOp LShift int int" => (refine' ilshift_N ?hn ?hz ?_; (case hn => k_extra "nn"); (case hz => k_extra "shl"); (try k_extra "tidy"))
  k_with "binaryOp RShift int int" => (refine' rshift_N ?hn ?_; (case hn => k_extra "nn"); (try k_extra "tidy"))
  k_with "inplaceOp RShift int int" => (refine' irshift_N ?hn ?_; (case hn => k_extra "nn"); (try k_extra "tidy"))
  k_with "binaryOp BitAnd int int" => (refine and_N ?_; (try k_extra "tidy"))
  k_with "binaryOp Mult int int" => (refine' mul_N ?_ ?hm; (case hm => k_extra "mul"); (try k_extra "tidy"))
  k_with "Kdm" => (refine' divmod_N ?F ?N ?hb ?_ ?hp; (case F => k_asm); (case N => k_asm); (case hb => k_extra "div0"); (case hp => k_extra "pylong"))
  k_with "call ref" => (k_extra "my call")
  k_with "ite" => (k_extra "decide")
  k_with "binaryOp FloorDiv int int" => (refine' floordiv_N ?hb ?_ ?hp; (case hb => k_extra "div0"); (case hp => k_extra "pylong"); (try k_extra "tidy"))
  k_with "binaryOp BitXor int int" => (refine xor_N ?_; (try k_extra "tidy"))
  k_with "subscriptTail Name Constant ref int" => (k_here; (with_reducible show wpAny _ _ (subscriptTail _ _ (Value.ref _) (Value.int _ _)) _ _ _); (with_unfolding_all refine' item_litK ?k1 ?k2 ?k3 ?k4 ?_ ?k6; (case k1 => is_list); (case k2 => decide); (case k3 => decide); (case k4 => rfl); (case k6 => with_unfolding_all rfl); k_whole))
  k_with "subscriptTail Name Name ref int" => (k_here; (with_reducible show wpAny _ _ (subscriptTail _ _ (Value.ref _) (Value.int _ _)) _ _ _); (with_unfolding_all refine' item_litK ?k1 ?k2 ?k3 ?k4 ?_ ?k6; (case k1 => is_list); (case k2 => decide); (case k3 => decide); (case k4 => rfl); (case k6 => with_unfolding_all rfl); k_whole))
  k_with "subscriptTail Name BinOp ref int" => (k_here; (with_reducible show wpAny _ _ (subscriptTail _ _ (Value.ref _) (Value.int _ _)) _ _ _); (with_unfolding_all refine' item_litK ?k1 ?k2 ?k3 ?k4 ?_ ?k6; (case k1 => is_list); (case k2 => decide); (case k3 => decide); (case k4 => rfl); (case k6 => with_unfolding_all rfl); k_whole))
  k_with "UnrEnd" => k_dflt (refine' unr_close ?uF ?uN ?uP ?uO ?_; (case uF => assumption); (case uN => assumption); (case uP => first | exact Pull.head | exact Pull.tail Pull.head | exact Pull.tail (Pull.tail Pull.head) | exact Pull.tail (Pull.tail (Pull.tail Pull.head)) | exact Pull.tail (Pull.tail (Pull.tail (Pull.tail Pull.head)))); (case uO => k_all); k_whole)
  k_with "pyIter ref" => k_dflt (k_extra "iter")
  k_with "exec For Name Tuple cons nil" => (k_here; k_dflt (refine' For_loopG ?_ ?hs; (case hs => intro _; with_unfolding_all rfl)))
  k_with "TurnG" => dsimp only [TurnG]
  k_with "subscriptTail" => (k_here; (with_reducible show wpAny _ _ (subscriptTail _ _ (Value.ref _) (Value.int _ _)) _ _ _); k_dflt (k_extra "tail"))
  k_with "decide" => fail
  k_with "iter" => refine stop_intro ?_
  refine wpAny_call ?_
  k_dflt ktr_enter
  (try refine tok_any fun tk9 => ?_)
  (rename Fr _ _ _ _ => F1)
  replace F1 := fr_as (m' := fun y => List.lookup y [(Str.ofString "keys", .int keys tk), (Str.ofString "worths", .ref wl), (Str.ofString "two", .ref t), (Str.ofString "one", .ref o)]) F1 rfl
  k_steps
  rename_i g1 L1 h0' FG1 B1 X1 T1 D h1 Fv Nv l1
  unfold Stop
  have ob79 : ∃ c1 c2 c3 c4 ck, News g1 L1 h1 ((D, { cls := .type "tuple", data := .seq #[.int 3 c1, .int 2 c2, .int 1 c3, .int 0 c4] ck }) :: (o, listOf us.toArray ko) :: (t, listOf vs.toArray kt) :: (wl, listOf ws.toArray kw) :: news) := ⟨_, _, _, _, _, Nv⟩
  refine Mine.exand5_1 ob79 fun c1 c2 c3 c4 ck Nv1 => ?_
  try clear ob79
  clear Nv
  have Fv1 : Fr g1 L1 h1 (fun y => if y = Str.ofString "size" then none else if y = Str.ofString "place" then none else List.lookup y [(Str.ofString "keys", .int keys tk), (Str.ofString "worths", .ref wl), (Str.ofString "two", .ref t), (Str.ofString "one", .ref o)]) := fr_as Fv (funext fun y => by
    by_cases q1 : y = Str.ofString "size"
    · subst q1; exact rfl
    by_cases q2 : y = Str.ofString "place"
    · subst q2; exact rfl
    simp only [q1, q2, if_false])
  clear Fv
  refine tup_iter rfl rfl rfl Fv1 Nv1 (.head _) ⟨rfl, _, rfl⟩ (by k_asm)
    (fun i m' => ∃ o1 o2, m' = (fun y => if y = Str.ofString "size" then o1 else if y = Str.ofString "place" then o2 else List.lookup y [(Str.ofString "keys", .int keys tk), (Str.ofString "worths", .ref wl), (Str.ofString "two", .ref t), (Str.ofString "one", .ref o)]) ∧
      sideL A B W keys places = sideL A B W keys (places.drop i)) ⟨none, none, rfl, rfl⟩ ?turn ?done
  case turn =>
    intro I i v m₁ h tk' gs oI hI hpi hJ Fx Nx Gx
    first | (refine' turn_N ?eg ?ed ?eo ?_; (case eg => first | (dsimp only; done) | exact rfl); (case ed => first | (dsimp only; done) | exact rfl); (case eo => first | (dsimp only; done) | exact rfl)) | refine post_let ?_
    intro qT
    refine Mine.exand2_2 hJ fun o1 o2 ob89 hc => ?_
    subst ob89
    try clear hJ
    refine Mine.exand2_4 (places_at hpi) fun pl tp hpl ob99 hp0 hp4 => ?_
    subst ob99
    rw [sideL_step hpl] at hc
    have hlA : pl < (A.length : Int) := by rw [lA]; exact hp4
    have hlB : pl < (B.length : Int) := by rw [lB]; exact hp4
    have hlW : pl < (W.length : Int) := by rw [lW]; exact hp4
    have hfit : pl < 2 ^ 63 := Int.lt_trans hp4 (by decide)
    have zA : (0 : Int) < (A.length : Int) := by rw [lA]; decide
    have zB : (0 : Int) < (B.length : Int) := by rw [lB]; decide
    have IA : ∀ {h : Heap}, News g1 L1 h ((I, oI) :: (D, { cls := .type "tuple", data := .seq #[.int 3 c1, .int 2 c2, .int 1 c3, .int 0 c4] ck }) :: (o, listOf us.toArray ko) :: (t, listOf vs.toArray kt) :: (wl, listOf ws.toArray kw) :: news) → h.IsList o us.toArray := fun N => ⟨_, (N _ (.tail _ (.tail _ (.head _)))).1, rfl, _, rfl⟩
    have IB : ∀ {h : Heap}, News g1 L1 h ((I, oI) :: (D, { cls := .type "tuple", data := .seq #[.int 3 c1, .int 2 c2, .int 1 c3, .int 0 c4] ck }) :: (o, listOf us.toArray ko) :: (t, listOf vs.toArray kt) :: (wl, listOf ws.toArray kw) :: news) → h.IsList t vs.toArray := fun N => ⟨_, (N _ (.tail _ (.tail _ (.tail _ (.head _))))).1, rfl, _, rfl⟩
    have IW : ∀ {h : Heap}, News g1 L1 h ((I, oI) :: (D, { cls := .type "tuple", data := .seq #[.int 3 c1, .int 2 c2, .int 1 c3, .int 0 c4] ck }) :: (o, listOf us.toArray ko) :: (t, listOf vs.toArray kt) :: (wl, listOf ws.toArray kw) :: news) → h.IsList wl ws.toArray := fun N => ⟨_, (N _ (.tail _ (.tail _ (.tail _ (.tail _ (.head _)))))).1, rfl, _, rfl⟩
    k_with "tail" => first
      | (with_reducible refine item_list_ints (IA (by k_asm)) hA hp0 hlA hfit ?_ (by with_unfolding_all rfl) (by intro _; with_unfolding_all rfl); intro _)
      | (with_reducible refine item_list_ints (IB (by k_asm)) hB hp0 hlB hfit ?_ (by with_unfolding_all rfl) (by intro _; with_unfolding_all rfl); intro _)
      | (with_reducible refine item_list_ints (IW (by k_asm)) hW hp0 hlW hfit ?_ (by with_unfolding_all rfl) (by intro _; with_unfolding_all rfl); intro _)
      | (with_reducible refine item_list_ints (IA (by k_asm)) hA (by decide) zA (by decide) ?_ (by with_unfolding_all rfl) (by intro _; with_unfolding_all rfl); intro _)
      | (with_reducible refine item_list_ints (IB (by k_asm)) hB (by decide) zB (by decide) ?_ (by with_unfolding_all rfl) (by intro _; with_unfolding_all rfl); intro _)
    k_steps
    all_goals first
      | (refine stop_intro (turnE (fr_as (by k_asm) (funext fun y => ?_)) (by k_asm) (fun p hp => Nat.ne_of_lt (hI p hp)) Gx ⟨rfl, o1, some (.int pl tp), rfl, hc.trans (if_pos ‹_›)⟩)
         by_cases q1 : y = Str.ofString "size"
         · subst q1; exact rfl
         by_cases q2 : y = Str.ofString "place"
         · subst q2; exact rfl
         simp only [q1, q2, if_false])
      | exact hret _ _ _ _ ⟨_, congrArg (Value.int · _) (hc.trans (sc1 ‹_› ‹_› ‹_›)).symm⟩ Gx (by k_asm) (newsSub (by k_asm) fun q hq => .tail _ (.tail _ (.tail _ (.tail _ (.tail _ hq)))))
      | exact hret _ _ _ _ ⟨_, congrArg (Value.int · _) (hc.trans (sc2 ‹_› ‹_› ‹_›)).symm⟩ Gx (by k_asm) (newsSub (by k_asm) fun q hq => .tail _ (.tail _ (.tail _ (.tail _ (.tail _ hq)))))
      | exact hret _ _ _ _ ⟨_, congrArg (Value.int · _) (hc.trans (sc3 ‹_› ‹_› ‹_›)).symm⟩ Gx (by k_asm) (newsSub (by k_asm) fun q hq => .tail _ (.tail _ (.tail _ (.tail _ (.tail _ hq)))))
      | exact hret _ _ _ _ ⟨_, congrArg (Value.int · _) (hc.trans (sc4 ‹_› ‹_› ‹_›)).symm⟩ Gx (by k_asm) (newsSub (by k_asm) fun q hq => .tail _ (.tail _ (.tail _ (.tail _ (.tail _ hq)))))
  case done =>
    intro m' h tk' gs hJ Fd Nd Gd
    refine Mine.exand2_2 hJ fun o1 o2 ob109 hc => ?_
    subst ob109
    try clear hJ
    have hc' : sideL A B W keys places = 0 := hc
    k_steps
    exact hret _ _ _ _ ⟨_, by rw [hc']⟩ Gd (by k_asm) (newsSub (by k_asm) fun q hq => .tail _ (.tail _ (.tail _ (.tail _ hq))))
end
example {prog : Program} {w : World} {A : Around} {env : Env} {Q : Flow → Shared → Prop} {E : Value → Shared → Prop} {s : Shared} (h : Q .next s) : wpAny (model prog w) A (execs [] env) Q E s := by
  w_top off
  walk1
  exact h
section
section
variable {prog : Program} {w : World} {A : Around} {s : Shared} {env : Env} {h₀ : Heap} {body : List Stmt} {Q : Flow → Shared → Prop} {E : Value → Shared → Prop}
/-- a for over a zip of two lists on the ledger -/
theorem zip_iter {xi xc : Str} {pk pv pt : Pos} {x1 : Nat} {l1 l2 : Addr} {xs ys : Array Value} {k1 k2 : Nat} {m : Str → Option Value} {news : List (Addr × Obj)} (hh : A.handled = none)
    (hxi : env.kindOf xi = some .local) (hxc : env.kindOf xc = some .local) (hp : (env.scope.kind == .class || (env.scope.kind == .module && env.locals != env.globals)) = false)
    (F : Fr h₀ env.locals s.heap m) (N : News h₀ env.locals s.heap news) (hl1 : (l1, listOf xs k1) ∈ news) (hl2 : (l2, listOf ys k2) ∈ news) (hsz : ys.size = xs.size) (G : AllBare s.gens)
    (J : Nat → (Str → Option Value) → Prop) (h0 : J 0 m)
    (turn : ∀ z oz own i x y m₁ h tk gs, (∀ p ∈ news, p.1 < z) → (∀ p ∈ own, p.1 ≠ z) → (∀ q ∈ own, ∀ p ∈ news, p.1 < q.1) → xs[i]? = some x → ys[i]? = some y → J i m₁ → Fr h₀ env.locals h (fun u => if u = xc then some y else if u = xi then some x else m₁ u) → News h₀ env.locals h ((z, oz) :: (own ++ news)) → AllBare gs →
      wpAny (model prog w) A (execs body env) (TurnG Q (TurnE h₀ env.locals z oz s fun m' n' => n' = own ++ news ∧ J (i + 1) m')) E { s with heap := h, toks := tk, gens := gs })
    (done : ∀ m' h tk gs, J xs.size m' → Fr h₀ env.locals h m' → News h₀ env.locals h news → AllBare gs → Q .next { s with heap := h, toks := tk, gens := gs })
    (hE : PassesOwn (model prog w) A env E := by passes_own) :
    wpAny (model prog w) A (call (.type "zip") [.ref l1, .ref l2]) (fun xv s₁ => wpAny (model prog w) A (pyIter xv) (ItemsLoop prog w A env (.Tuple [.Name xi pk, .Name xc pv] x1 pt) body Q E) E s₁) E s := by
  have a1 : l1 < s.heap.objs.size := Heap.lt_size (N _ hl1).1
  have a2 : l2 < s.heap.objs.size := Heap.lt_size (N _ hl2).1
  have hIL : env.locals < s.heap.objs.size := F.ns.lt
  have hlt0 : ∀ p ∈ news, p.1 < s.heap.objs.size := fun p hp => Heap.lt_size (N p hp).1
  refine call_zip_2 ⟨_, (N _ hl1).1, rfl, _, rfl⟩ ⟨_, (N _ hl2).1, rfl, _, rfl⟩ fun h' hz hTI hTO hi1 hi2 hsz' hk => ?_
  generalize hn : s.heap.objs.size = n at *
  have D := zipApart_new a1 a2
  have W := WalksT.zip2 (prog := prog) (w := w) hh (n + 4) (n + 2) (n + 3) n (n + 1) l1 l2 D xs ys
  have hmin : min xs.size ys.size = xs.size := by rw [hsz]; exact Nat.min_self _
  rw [hmin] at W
  have fresh : ∀ b, n ≤ b → h₀.get? b = none := fun b hb => Heap.get?_none_of_le (Nat.le_trans F.above (Nat.le_trans (Nat.le_of_lt hIL) hb))
  have hLn : ∀ b, n ≤ b → env.locals ≠ b := fun b hb e => Nat.lt_irrefl _ (Nat.lt_of_lt_of_le (e ▸ hIL) hb)
  have hwn : ∀ b ∈ [n + 4, n + 3, n, n + 1], n ≤ b := fun b hb => by
    simp only [List.mem_cons, List.not_mem_nil, or_false] at hb
    rcases hb with rfl | rfl | rfl | rfl
    · exact Nat.le_add_right _ _
    · exact Nat.le_add_right _ _
    · exact Nat.le_refl _
    · exact Nat.le_add_right _ _
  have hLw : env.locals ∉ [n + 4, n + 3, n, n + 1] := fun hb => hLn _ (hwn _ hb) rfl
  have hLf : env.locals ∉ [n + 4, n + 2, n + 3, n, n + 1, l1, l2] := fun hb => by
    simp only [List.mem_cons, List.not_mem_nil, or_false] at hb
    rcases hb with e | e | e | e | e | e | e
    · exact hLn _ (Nat.le_add_right _ _) e
    · exact hLn _ (Nat.le_add_right _ _) e
    · exact hLn _ (Nat.le_add_right _ _) e
    · exact hLn _ (Nat.le_refl _) e
    · exact hLn _ (Nat.le_add_right _ _) e
    · exact (N _ hl1).2.1 e.symm
    · exact (N _ hl2).2.1 e.symm
  have hnw : ∀ p ∈ news, p.1 ∉ [n + 4, n + 3, n, n + 1] := fun p hp hb => Nat.lt_irrefl _ (Nat.lt_of_lt_of_le (hlt0 p hp) (hwn _ hb))
  have old : ∀ b o, h₀.get? b = some o → b ∉ [n + 4, n + 3, n, n + 1] := fun b o e hb => by rw [fresh b (hwn _ hb)] at e; cases e
  have hst0 : IsZip h' (n + 4) (n + 2) (n + 3) .none ∧ IsPair h' (n + 2) (.ref n) (.ref (n + 1)) ∧ (∃ a b, IsPair h' (n + 3) a b) ∧ h'.IsListIter n l1 0 ∧ h'.IsListIter (n + 1) l2 0 ∧ h'.IsList l1 xs ∧ h'.IsList l2 ys :=
    ⟨hz, hTI, ⟨_, _, hTO⟩, hi1, hi2, ⟨_, hk _ _ (N _ hl1).1, rfl, _, rfl⟩, ⟨_, hk _ _ (N _ hl2).1, rfl, _, rfl⟩⟩
  refine W.self 0 _ _ _ hst0 ?_
  unfold ItemsLoop
  let I9 : Nat → Shared → Prop := fun k s' => ∃ i h tk gs m', i ≤ xs.size ∧ k = xs.size + 1 - i ∧ s' = { s with heap := h, toks := tk, gens := gs } ∧ (IsZip h (n + 4) (n + 2) (n + 3) .none ∧ IsPair h (n + 2) (.ref n) (.ref (n + 1)) ∧ (∃ a b, IsPair h (n + 3) a b) ∧ h.IsListIter n l1 i ∧ h.IsListIter (n + 1) l2 i ∧ h.IsList l1 xs ∧ h.IsList l2 ys) ∧ Fr h₀ env.locals h m' ∧ News h₀ env.locals h news ∧ AllBare gs ∧ J i m'
  refine codeAny_forLoop_any I9
    ?_ (xs.size + 1) ⟨0, h', s.toks, s.gens, m, Nat.zero_le _, rfl, rfl, hst0, F.keeps hk, fun p hp => ⟨hk _ _ (N p hp).1, (N p hp).2⟩, G, h0⟩
  intro k s' ob19
  refine Mine.exand5_8 ob19 fun i H tk gs m' hi ob29 ob39 hst' F' N' G' hJ => ?_
  subst ob29
  subst ob39
  try clear ob19
  have next : ∀ h₁ : Heap, (∀ b o, b ∉ [n + 4, n + 3, n, n + 1] → H.get? b = some o → h₁.get? b = some o) → Fr h₀ env.locals h₁ m' ∧ News h₀ env.locals h₁ news := fun h₁ hk₁ =>
    ⟨⟨F'.ns.at' fun o e => hk₁ _ o hLw e, fun b o e => hk₁ b o (old b o e) (F'.keep b o e), F'.above⟩, fun p hp => ⟨hk₁ _ _ (hnw p hp) (N' p hp).1, (N' p hp).2⟩⟩
  by_cases hlt : i < xs.size
  · refine W.item i _ _ _ hlt hst' fun T vals h₁ tk₁ hPt _ hT hMid hk₁ => ?_
    refine Mine.exand2_3 hPt fun v0 v1 hx hy ob49 => ?_
    subst ob49
    try clear hPt
    refine W.go _ x1 pt i T _ _ _ hMid fun h₂ hst₂ hk₂ => ?_
    have ht₂ : h₂.IsTuple T #[v0, v1] := hT.at fun o e => hk₂ T o (W.apart i T h₁ hMid) e
    refine wpAny_assign_Tuple hh ht₂ rfl rfl fun h₃ hx₃ => ?_
    replace hx₃ : Heap.ExtBut h₂.objs.size h₂ h₃ := hx₃
    have up₃ : ∀ b o, h₂.get? b = some o → h₃.get? b = some o := fun b o x => hx₃ b o (Nat.ne_of_lt (Heap.lt_size x)) x
    refine Mine.exand0_2 (next h₃ fun b o hb x => up₃ b o (hk₂ b o hb (hk₁ b o hb x))) fun F₃ N₃ => ?_
    show wpAny _ A (do holding [v1] (assign (.Name xi pk) env v0); do holding [] (assign (.Name xc pv) env v1); pure ()) _ _ _
    refine wpAny_bind (wpAny_holding (wpAny_assign_Name (wpAny_storeName_local hxi F₃.ns (fun h₄ hn₄ hs₄ => ?_) hp)))
    replace hs₄ : Heap.SameBut env.locals h₃ h₄ := hs₄
    have F₄ := F₃.set hn₄ hs₄
    refine wpAny_bind (wpAny_holding (wpAny_assign_Name (wpAny_storeName_local hxc F₄.ns (fun h₅ hn₅ hs₅ => wpAny_pure ?_) hp)))
    replace hs₅ : Heap.SameBut env.locals h₄ h₅ := hs₅
    have F₅ := F₄.set hn₅ hs₅
    have N₅ : News h₀ env.locals h₅ news := (N₃.set hs₄).set hs₅
    have hst₅ := W.frame (i + 1) h₂ h₅ hst₂ fun b hb o e => hs₅.extBut b o (fun q => hLf (q ▸ hb)) (hs₄.extBut b o (fun q => hLf (q ▸ hb)) (up₃ b o e))
    refine Mine.exand0_7 (id hst₅) fun q1 q2 ob59 ob69 ob79 q6 q7 => ?_
    refine Mine.exand2_1 ob59 fun aa bb q3 => ?_
    try clear ob59
    refine Mine.exand1_3 ob69 fun o4 q4 q4c q4d => ?_
    try clear ob69
    refine Mine.exand1_3 ob79 fun o5 q5 q5c q5d => ?_
    try clear ob79
    have ob89 : ∃ oz, h₅.get? (n + 4) = some oz ∧ ∀ h : Heap, h.get? (n + 4) = some oz → IsZip h (n + 4) (n + 2) (n + 3) .none := ⟨_, q1, fun _ e => e⟩
    refine Mine.exand1_2 ob89 fun oz ez bz => ?_
    try clear ob89
    have ob99 : ∃ oz, h₅.get? (n + 2) = some oz ∧ ∀ h : Heap, h.get? (n + 2) = some oz → IsPair h (n + 2) (.ref n) (.ref (n + 1)) := ⟨_, q2, fun _ e => e⟩
    refine Mine.exand1_2 ob99 fun o2 e2 b2 => ?_
    try clear ob99
    have ob109 : ∃ oz, h₅.get? (n + 3) = some oz ∧ ∀ h : Heap, h.get? (n + 3) = some oz → IsPair h (n + 3) aa bb := ⟨_, q3, fun _ e => e⟩
    refine Mine.exand1_2 ob109 fun o3 e3 b3 => ?_
    try clear ob109
    have ledg : ∀ b o, n ≤ b → h₅.get? b = some o → h₅.get? b = some o ∧ b ≠ env.locals ∧ h₀.get? b = none := fun b o hb e => ⟨e, (hLn b hb).symm, fresh b hb⟩
    refine wpAny_mono (wpAny_passesOwn hE (turn (n + 4) oz [(n + 2, o2), (n + 3, o3), (n, o4), (n + 1, o5)] i v0 v1 m' h₅ _ gs (fun p hp => Nat.lt_of_lt_of_le (hlt0 p hp) (Nat.le_add_right _ _)) (fun p hp => ?_) (fun q hq p hp => ?_) hx hy hJ F₅ (fun p hp => ?_) G')) (fun f s₃ h₆ => ?_) fun _ _ e => e
    · simp only [List.mem_cons, List.not_mem_nil, or_false] at hp
      rcases hp with rfl | rfl | rfl | rfl
      · exact D.TIz
      · exact D.TOz
      · exact D.i1z
      · exact D.i2z
    · refine Nat.lt_of_lt_of_le (hlt0 p hp) ?_
      simp only [List.mem_cons, List.not_mem_nil, or_false] at hq
      rcases hq with rfl | rfl | rfl | rfl
      · exact Nat.le_add_right _ _
      · exact Nat.le_add_right _ _
      · exact Nat.le_refl _
      · exact Nat.le_add_right _ _
    · simp only [List.mem_cons, List.cons_append, List.nil_append] at hp
      rcases hp with rfl | rfl | rfl | rfl | rfl | hp
      · exact ledg _ _ (Nat.le_add_right _ _) ez
      · exact ledg _ _ (Nat.le_add_right _ _) e2
      · exact ledg _ _ (Nat.le_add_right _ _) e3
      · exact ledg _ _ (Nat.le_refl _) q4
      · exact ledg _ _ (Nat.le_add_right _ _) q5
      · exact N₅ p hp
    have fin : ∀ s₃, TurnE h₀ env.locals (n + 4) oz s (fun m' n' => n' = [(n + 2, o2), (n + 3, o3), (n, o4), (n + 1, o5)] ++ news ∧ J (i + 1) m') s₃ → ∃ q, q < xs.size + 1 - i ∧ ∃ i h tk gs m', i ≤ xs.size ∧ q = xs.size + 1 - i ∧ s₃ = { s with heap := h, toks := tk, gens := gs } ∧ (IsZip h (n + 4) (n + 2) (n + 3) .none ∧ IsPair h (n + 2) (.ref n) (.ref (n + 1)) ∧ (∃ a b, IsPair h (n + 3) a b) ∧ h.IsListIter n l1 i ∧ h.IsListIter (n + 1) l2 i ∧ h.IsList l1 xs ∧ h.IsList l2 ys) ∧ Fr h₀ env.locals h m' ∧ News h₀ env.locals h news ∧ AllBare gs ∧ J i m' := by
      intro s₃ ob119
      refine Mine.exand5_7 ob119 fun hx6 tk₆ gs₆ m₆ news₆ ob129 F₆ N₆ off₆ G₆ ob139 J₆ => ?_
      subst ob129
      subst ob139
      try clear ob119
      refine ⟨xs.size + 1 - (i + 1), by omega, i + 1, hx6, tk₆, gs₆, m₆, hlt, rfl, rfl, ⟨bz _ (N₆ _ (.head _)).1, b2 _ (N₆ _ (.tail _ (.head _))).1, ⟨aa, bb, b3 _ (N₆ _ (.tail _ (.tail _ (.head _)))).1⟩, ⟨o4, (N₆ _ (.tail _ (.tail _ (.tail _ (.head _))))).1, q4c, q4d⟩, ⟨o5, (N₆ _ (.tail _ (.tail _ (.tail _ (.tail _ (.head _)))))).1, q5c, q5d⟩,
        ⟨_, (N₆ _ (.tail _ (List.mem_append_right _ hl1))).1, rfl, _, rfl⟩, ⟨_, (N₆ _ (.tail _ (List.mem_append_right _ hl2))).1, rfl, _, rfl⟩⟩, F₆, fun p hp => N₆ p (.tail _ (List.mem_append_right _ hp)), G₆, J₆⟩
    cases f with
    | ret v => exact h₆
    | brk => exact h₆
    | cont => exact fin s₃ h₆
    | next => exact fin s₃ h₆
  · have hin : i = xs.size := Nat.le_antisymm hi (Nat.le_of_not_lt hlt)
    subst hin
    refine W.done _ _ _ hst' fun h₁ tk₁ hk₁ => wpAny_execs_nil ?_
    refine Mine.exand0_2 (next h₁ hk₁) fun F₁ N₁ => ?_
    exact done m' h₁ _ gs hJ F₁ N₁ G'
end
end
example {prog : Program} {w : World} {A : Around} {env : Env} {Q : Flow → Shared → Prop} {E : Value → Shared → Prop} {s : Shared} (h : Q .next s) : wpAny (model prog w) A (execs [] env) Q E s := by
  w_top off
  walk1
  exact h
section
/-- two lists, element by element -/
def All2 {α : Type} (R : Value → α → Prop) : List Value → List α → Prop
  | [], [] => True
  | v :: vs, a :: as => R v a ∧ All2 R vs as
  | _, _ => False
theorem All2.length {α : Type} {R : Value → α → Prop} : ∀ {vs : List Value} {as : List α}, All2 R vs as → vs.length = as.length := by
  intro vs
  induction vs with
  | nil => intro rs h; cases rs with | nil => rfl | cons b m => exact h.elim
  | cons a l ih => intro rs h; cases rs with | nil => exact h.elim | cons b m => exact congrArg Nat.succ (ih h.2)
theorem All2.mono {α : Type} {R R' : Value → α → Prop} (hR : ∀ v a, R v a → R' v a) : ∀ {vs : List Value} {as : List α}, All2 R vs as → All2 R' vs as := by
  intro vs
  induction vs with
  | nil => intro rs h; cases rs with | nil => trivial | cons b m => exact h.elim
  | cons a l ih => intro rs h; cases rs with | nil => exact h.elim | cons b m => exact ⟨hR _ _ h.1, ih h.2⟩
theorem All2.get {α : Type} {R : Value → α → Prop} : ∀ {vs : List Value} {as : List α} {i : Nat} {v : Value}, All2 R vs as → vs[i]? = some v → ∃ a, as[i]? = some a ∧ R v a := by
  intro vs
  induction vs with
  | nil => intro rs i v h q; cases q
  | cons a l ih =>
    intro rs i v h q
    cases rs with
    | nil => exact h.elim
    | cons b m =>
      cases i with
      | zero => cases q; exact ⟨b, rfl, h.1⟩
      | succ i => exact ih (as := m) (i := i) h.2 q
def RowV (news : List (Addr × Obj)) (v : Value) (r : Int × Int × Int × Int) : Prop := ∃ e t1 t2 t3 t4 dd k, v = .ref e ∧ (e, tup5 r.1 t1 r.2.1 t2 r.2.2.1 t3 r.2.2.2 t4 dd k) ∈ news
def BlkV (news : List (Addr × Obj)) (v : Value) (D : List Int) : Prop := ∃ l us k, v = .ref l ∧ (l, listOf (List.toArray us) k) ∈ news ∧ IntsAre us D ∧ D.length = 4
def RowOf (r : Int × Int × Int × Int) : Int → Int := rowAt r.1 r.2.1 r.2.2.1 r.2.2.2
/-- the keys that TupleComp is given -/
def selOf (w1 w2 w3 : Int) : List (Int × Int) := [(2, w3), (0, w2), (3, w1), (1, 1)]


theorem slice4 {a b c d : Value} {k : Int} (h0 : 0 ≤ k) (h4 : k ≤ 4) : slicePick #[a, b, c, d] none (some k) none = (([a, b, c, d] : List Value).take k.toNat).toArray := by
  refine Mine.exand1_1 (Int.eq_ofNat_of_zero_le h0) fun n ob19 => ?_
  subst ob19
  match n, h4 with
  | 0, _ => rfl
  | 1, _ => rfl
  | 2, _ => rfl
  | 3, _ => rfl
  | 4, _ => rfl
  | n + 5, h => omega
theorem PairsR.take {news : List (Addr × Obj)} : ∀ {vs : List Value} {ps : List (Int × Int)} (n : Nat), PairsR news vs ps → PairsR news (vs.take n) (ps.take n) := by
  intro vs
  induction vs with
  | nil => intro ps n h; cases ps with | nil => rw [List.take_nil, List.take_nil]; trivial | cons b m => exact h.elim
  | cons a l ih => intro ps n h; cases ps with | nil => exact h.elim | cons b m => cases n with | zero => trivial | succ n => exact ⟨h.1, ih n h.2⟩
theorem selOf_places {w1 w2 w3 : Int} {n : Nat} : ∀ p ∈ (selOf w1 w2 w3).take n, 0 ≤ p.1 ∧ p.1 < 4 := fun p hp => by
  have := List.mem_of_mem_take hp
  simp only [selOf, List.mem_cons, List.not_mem_nil, or_false] at this
  rcases this with rfl | rfl | rfl | rfl <;> simp
theorem in_order {w p loose mean mg mb} (rl bbl wl : Addr) (vs us : List Value) (Rs : List (Int × Int × Int × Int)) (Ds : List (List Int)) (w1 w2 w3 keys : Int) (v0 v1 v2 v3 tkk : Tok) (kr kb kw : Nat) (hk0 : 0 ≤ keys) (hk4 : keys ≤ 4)
    (hlen : Ds.length = Rs.length) (hord : ∀ (i j : Nat) ri rj di dj, Rs[i]? = some ri → Rs[j]? = some rj → Ds[i]? = some di → Ds[j]? = some dj → cmpF (RowOf ri) (RowOf rj) ((selOf w1 w2 w3).take keys.toNat) = sideL di dj [1, w1, w2, w3] keys places) :
    GivesS w p loose mean mg mb 168 [.ref rl, .ref bbl, .ref wl, .int keys tkk] 20 200 (fun news => (rl, listOf vs.toArray kr) ∈ news ∧ (bbl, listOf us.toArray kb) ∈ news ∧ (wl, lst4 1 v0 w1 v1 w2 v2 w3 v3 kw) ∈ news ∧ All2 (RowV news) vs Rs ∧ All2 (BlkV news) us Ds)
      (fun v => v = .bool true) := by
  unfold GivesS
  k_fill
  intro dp un gd cn cs aa ccd cl outer A₀ base h₀ L m news s Q E B F X N hBr hP Tp NS C1' C2' C3' hk hdp hu hret
  refine Mine.exand0_5 hP fun hrl hbl hwl hRs hDs => ?_
  try clear hP
  have hMk := kstMark
  have N0 := newsCons N hwl
  clear N
  k_with_none
  k_with "binaryOp Add int int" => (refine add_N ?_)
  k_with "binaryOp Sub int int" => (refine sub_N ?_)
  k_with "inplaceOp Add int int" => (refine iadd_N ?_)
  k_with "inplaceOp Sub int int" => (refine isub_N ?_)
  k_with "binaryOp BitOr int int" => (refine or_N ?_)
  k_with "unaryOp USub int" => (refine neg_N ?_)
  k_with "storeName" => (k_here; k_dflt (refine' storeX_N ?F ?N ?eg ?ed ?eo ?_ ?a ?b; (case F => k_asm); (case N => k_asm); (case a => rfl); (case b => rfl); (case eg => first | (dsimp only; done) | exact rfl); (case ed => first | (dsimp only; done) | exact rfl); (case eo => first | (dsimp only; done) | exact rfl); k_whole; intro _ _ _; (try k_sweep)))
  k_with "MineLt" => (first | with_reducible assumption | ((with_reducible rename _ ∧ _ => hC9); first | exact hC9.1 | exact hC9.2.1 | exact hC9.2.2.1 | exact hC9.2.2.2.1 | exact hC9.2.2.2.2.1 | exact hC9.2.2.2.2.2.1 | exact hC9.2.2.2.2.2.2.1 | exact hC9.2.2.2.2.2.2.2.1 | exact hC9.2.2.2.2.2.2.2.2.1 | exact hC9.2.2.2.2.2.2.2.2.2.1 | exact hC9.2.2.2.2.2.2.2.2.2.2.1 | exact hC9.2.2.2.2.2.2.2.2.2.2.2.1 | exact hC9.2.2.2.2.2.2.2.2.2.2.2.2.1 | exact hC9.2.2.2.2.2.2.2.2.2.2.2.2.2.1) | exact And.left (by with_reducible assumption) | exact Nat.lt_succ_self _)
  k_with "binaryOp LShift int int" => (refine' lshift_N ?hn ?hz ?_; (case hn => k_extra "nn"); (case hz => k_extra "shl"); (try k_extra "tidy"))
  k_with "inplaceOp LShift int int" => (refine' ilshift_N ?hn ?hz ?_; (case hn => k_extra "nn"); (case hz => k_extra "shl"); (try k_extra "tidy"))
  k_with "binaryOp RShift int int" => (refine' rshift_N ?hn ?_; (case hn => k_extra "nn"); (try k_extra "tidy"))
  k_with "inplaceOp RShift int int" => (refine' irshift_N ?hn ?_; (case hn => k_extra "nn"); (try k_extra "tidy"))
  k_with "binaryOp BitAnd int int" => (refine and_N ?_; (try k_extra "tidy"))
  k_with "binaryOp Mult int int" => (refine' mul_N ?_ ?hm; (case hm => k_extra "mul"); (try k_extra "tidy"))
  k_with "Kdm" => (refine' divmod_N ?F ?N ?hb ?_ ?hp; (case F => k_asm); (case N => k_asm); (case hb => k_extra "div0"); (case hp => k_extra "pylong"))
  k_with "call ref" => (k_extra "my call")
  k_with "ite" => (k_extra "decide")
  k_with "binaryOp FloorDiv int int" => (refine' floordiv_N ?hb ?_ ?hp; (case hb => k_extra "div0"); (case hp => k_extra "pylong"); (try k_extra "tidy"))
  k_with "binaryOp BitXor int int" => (refine xor_N ?_; (try k_extra "tidy"))
  k_with "subscriptTail Name Constant ref int" => (k_here; (with_reducible show wpAny _ _ (subscriptTail _ _ (Value.ref _) (Value.int _ _)) _ _ _); (with_unfolding_all refine' item_litK ?k1 ?k2 ?k3 ?k4 ?_ ?k6; (case k1 => is_list); (case k2 => decide); (case k3 => decide); (case k4 => rfl); (case k6 => with_unfolding_all rfl); k_whole))
  k_with "subscriptTail Name Name ref int" => (k_here; (with_reducible show wpAny _ _ (subscriptTail _ _ (Value.ref _) (Value.int _ _)) _ _ _); (with_unfolding_all refine' item_litK ?k1 ?k2 ?k3 ?k4 ?_ ?k6; (case k1 => is_list); (case k2 => decide); (case k3 => decide); (case k4 => rfl); (case k6 => with_unfolding_all rfl); k_whole))
  k_with "subscriptTail Name BinOp ref int" => (k_here; (with_reducible show wpAny _ _ (subscriptTail _ _ (Value.ref _) (Value.int _ _)) _ _ _); (with_unfolding_all refine' item_litK ?k1 ?k2 ?k3 ?k4 ?_ ?k6; (case k1 => is_list); (case k2 => decide); (case k3 => decide); (case k4 => rfl); (case k6 => with_unfolding_all rfl); k_whole))
  k_with "UnrEnd" => k_dflt (refine' unr_close ?uF ?uN ?uP ?uO ?_; (case uF => assumption); (case uN => assumption); (case uP => first | exact Pull.head | exact Pull.tail Pull.head | exact Pull.tail (Pull.tail Pull.head) | exact Pull.tail (Pull.tail (Pull.tail Pull.head)) | exact Pull.tail (Pull.tail (Pull.tail (Pull.tail Pull.head)))); (case uO => k_all); k_whole)
  k_with "pyIter ref" => k_dflt (k_extra "iter")
  k_with "exec For Tuple Call cons nil" => (k_here; k_dflt (refine' For_loopG ?_ ?hs; (case hs => intro _; with_unfolding_all rfl)))
  k_with "TurnG" => dsimp only [TurnG]
  k_with "call type:zip" => (k_here; k_dflt (k_extra "zip"))
  k_with "call ref" => (k_extra "my call")
  k_with "callWith ref" => (k_here; k_dflt (refine' callWith_K ?k1 ?k2 ?_; (case k1 => k_asm); (case k2 => k_is); k_whole))
  k_with "decide" => fail
  k_with "zip" => refine stop_intro ?_
  have hkq : ScopeKind.function = ScopeKind.function := rfl
  k_with "my call" =>
    first
      | ((with_reducible show wpAny _ _ (call (Value.ref 80) _) _ _ _); k_dflt (refine' call_cls ?k1 ?k2 ?k3 ?k4 ?k5 ?k6 ?_; (case k1 => k_asm); (case k2 => k_asm); (case k3 => k_asm); (case k4 => k_is); (case k5 => k_is); (case k6 => k_is); k_whole; intro x' d' h' F' N' l1 l2; (try k_lt l1); (try k_lt2 l2); ktr_enter))
      | refine stop_intro ?_
  refine wpAny_call ?_
  k_dflt ktr_enter
  (try refine tok_any fun tk9 => ?_)
  (rename Fr _ _ _ _ => F1)
  replace F1 := fr_as (m' := fun y => List.lookup y [(Str.ofString "keys", .int keys tkk), (Str.ofString "worths", .ref wl), (Str.ofString "blocks", .ref bbl), (Str.ofString "rows", .ref rl)]) F1 rfl
  refine tok_any fun tk0 => ?_
  k_steps
  rename_i g1 L1 q1 FG1 B1 X1 T1 qk1 ek1 P1 e1 la P2 e2 lb P3 e3 lc P4 e4 ld l0 e5 le q8 q9 q10 q11 q12 q13 q14 tk1 q16 q17 q18 q19 q20 h1 Fv Nv
  unfold Stop
  rw [slice4 hk0 hk4] at Nv
  have ob29 : ∃ M SD tc, News g1 L1 h1 ((x', instObj 80 d') :: (d', compDict w tc SD) :: M) ∧ (SD, listOf (([.ref P1, .ref P2, .ref P3, .ref P4] : List Value).take keys.toNat).toArray 0) ∈ M ∧ PairsR M (([.ref P1, .ref P2, .ref P3, .ref P4] : List Value).take keys.toNat) ((selOf w1 w2 w3).take keys.toNat) ∧ (wl, lst4 1 v0 w1 v1 w2 v2 w3 v3 kw) ∈ M ∧ (∀ q ∈ news, q ∈ M) :=
    ⟨_, _, _, Nv, .head _, PairsR.take _ ⟨⟨_, _, _, _, rfl, by k_mem⟩, ⟨_, _, _, _, rfl, by k_mem⟩, ⟨_, _, _, _, rfl, by k_mem⟩, ⟨_, _, _, _, rfl, by k_mem⟩, trivial⟩, by k_mem, fun q hq => by (repeat refine List.mem_cons_of_mem _ ?_); exact hq⟩
  refine Mine.exand3_5 ob29 fun M SD tc NM m3 m4 m5 mN => ?_
  try clear ob29
  clear Nv q18 q17 l1 l2 la lb lc ld le
  have hR' : All2 (RowV M) vs Rs := hRs.mono fun v a h => Mine.exand7_2 h fun e t1 t2 t3 t4 dd k h1 h2 => ⟨e, t1, t2, t3, t4, dd, k, h1, mN _ h2⟩
  have hD' : All2 (BlkV M) us Ds := hDs.mono fun v a h => Mine.exand3_3 h fun l us k h1 h2 h3 => ⟨l, us, k, h1, mN _ h2, h3⟩
  have hW : IntsAre [.int 1 v0, .int w1 v1, .int w2 v2, .int w3 v3] [1, w1, w2, w3] := .cons _ _ (.cons _ _ (.cons _ _ (.cons _ _ .nil)))
  have hsz : us.toArray.size = vs.toArray.size := by rw [List.size_toArray, List.size_toArray, hDs.length, hRs.length, hlen]
  have Fv1 : Fr g1 L1 h1 (fun y => if y = Str.ofString "told" then none else if y = Str.ofString "two" then none else if y = Str.ofString "other" then none else if y = Str.ofString "one" then none else if y = Str.ofString "row" then none else if y = Str.ofString "comp" then some (.ref x') else List.lookup y [(Str.ofString "keys", .int keys tkk), (Str.ofString "worths", .ref wl), (Str.ofString "blocks", .ref bbl), (Str.ofString "rows", .ref rl)]) := fr_as Fv (funext fun y => by
    by_cases z0 : y = Str.ofString "told"
    · subst z0; exact rfl
    by_cases z1 : y = Str.ofString "two"
    · subst z1; exact rfl
    by_cases z2 : y = Str.ofString "other"
    · subst z2; exact rfl
    by_cases z3 : y = Str.ofString "one"
    · subst z3; exact rfl
    by_cases z4 : y = Str.ofString "row"
    · subst z4; exact rfl
    simp only [z0, z1, z2, z3, z4, if_false])
  clear Fv
  refine zip_iter rfl rfl rfl rfl Fv1 NM (.tail _ (.tail _ (mN _ hrl))) (.tail _ (.tail _ (mN _ hbl))) hsz (by k_asm)
    (fun _ m' => ∃ o1 o2 o3 o4 o5, m' = (fun y => if y = Str.ofString "told" then o1 else if y = Str.ofString "two" then o2 else if y = Str.ofString "other" then o3 else if y = Str.ofString "one" then o4 else if y = Str.ofString "row" then o5 else if y = Str.ofString "comp" then some (.ref x') else List.lookup y [(Str.ofString "keys", .int keys tkk), (Str.ofString "worths", .ref wl), (Str.ofString "blocks", .ref bbl), (Str.ofString "rows", .ref rl)])) ⟨none, none, none, none, none, rfl⟩ ?turn ?done
  case turn =>
    intro z oz own i x y m₁ h tk9 gs hlt hz hown hx hy hJ Fx Nx Gx
    first | (refine' turn_N ?eg ?ed ?eo ?_; (case eg => first | (dsimp only; done) | exact rfl); (case ed => first | (dsimp only; done) | exact rfl); (case eo => first | (dsimp only; done) | exact rfl)) | refine post_let ?_
    intro qT
    refine Mine.exand5_1 hJ fun o1 o2 o3 o4 o5 ob39 => ?_
    subst ob39
    try clear hJ
    rw [List.getElem?_toArray] at hx hy
    refine Mine.exand1_2 (hR'.get hx) fun ri hri ob49 => ?_
    refine Mine.exand7_2 ob49 fun re rt1 rt2 rt3 rt4 rdd rk ob59 hrm => ?_
    subst ob59
    try clear ob49
    refine Mine.exand1_2 (hD'.get hy) fun di hdi ob69 => ?_
    refine Mine.exand3_4 ob69 fun de dus dk ob79 hdm hdI hd4 => ?_
    subst ob79
    try clear ob69
    k_steps
    unfold Stop
    have Fx1 : Fr g1 L1 h (fun y => if y = Str.ofString "told" then o1 else if y = Str.ofString "two" then o2 else if y = Str.ofString "other" then o3 else if y = Str.ofString "one" then some (.ref de) else if y = Str.ofString "row" then some (.ref re) else if y = Str.ofString "comp" then some (.ref x') else List.lookup y [(Str.ofString "keys", .int keys tkk), (Str.ofString "worths", .ref wl), (Str.ofString "blocks", .ref bbl), (Str.ofString "rows", .ref rl)]) := fr_as Fx (funext fun y => by
      by_cases z0 : y = Str.ofString "told"
      · subst z0; exact rfl
      by_cases z1 : y = Str.ofString "two"
      · subst z1; exact rfl
      by_cases z2 : y = Str.ofString "other"
      · subst z2; exact rfl
      by_cases z3 : y = Str.ofString "one"
      · subst z3; exact rfl
      by_cases z4 : y = Str.ofString "row"
      · subst z4; exact rfl
      simp only [z0, z1, z2, z3, z4, if_false])
    clear Fx
    refine zip_iter rfl rfl rfl rfl Fx1 Nx (.tail _ (List.mem_append_right _ (.tail _ (.tail _ (mN _ hrl))))) (.tail _ (List.mem_append_right _ (.tail _ (.tail _ (mN _ hbl))))) hsz (by k_asm)
      (fun _ m' => ∃ o1 o2 o3, m' = (fun y => if y = Str.ofString "told" then o1 else if y = Str.ofString "two" then o2 else if y = Str.ofString "other" then o3 else if y = Str.ofString "one" then some (.ref de) else if y = Str.ofString "row" then some (.ref re) else if y = Str.ofString "comp" then some (.ref x') else List.lookup y [(Str.ofString "keys", .int keys tkk), (Str.ofString "worths", .ref wl), (Str.ofString "blocks", .ref bbl), (Str.ofString "rows", .ref rl)])) ⟨o1, o2, o3, rfl⟩ ?turn2 ?done2
    case turn2 =>
      intro z2 oz2 own2 j x2 y2 m₂ h2 tk8 gs2 hlt2 hz2 hown2 hx2 hy2 hJ2 Fx2 Nx2 Gx2
      first | (refine' turn_N ?eg ?ed ?eo ?_; (case eg => first | (dsimp only; done) | exact rfl); (case ed => first | (dsimp only; done) | exact rfl); (case eo => first | (dsimp only; done) | exact rfl)) | refine post_let ?_
      intro qT
      clear Nx Fx1
      refine Mine.exand3_1 hJ2 fun p1 p2 p3 ob89 => ?_
      subst ob89
      try clear hJ2
      rw [List.getElem?_toArray] at hx2 hy2
      refine Mine.exand1_2 (hR'.get hx2) fun rj hrj ob99 => ?_
      refine Mine.exand7_2 ob99 fun se st1 st2 st3 st4 sdd sk ob109 hsm => ?_
      subst ob109
      try clear ob99
      refine Mine.exand1_2 (hD'.get hy2) fun dj hdj ob119 => ?_
      refine Mine.exand3_4 ob119 fun ce cus ck ob129 hcm hcI hc4 => ?_
      subst ob129
      try clear ob119
      have ob139 : ∃ R, R = (z2, oz2) :: (own2 ++ ((z, oz) :: (own ++ ((x', instObj 80 d') :: (d', compDict w tc SD) :: M)))) := ⟨_, rfl⟩
      refine Mine.exand1_1 ob139 fun R hR => ?_
      try clear ob139
      have MR : ∀ q ∈ M, q ∈ R := fun q hq => by
        rw [hR]; exact .tail _ (List.mem_append_right _ (.tail _ (List.mem_append_right _ (.tail _ (.tail _ hq)))))
      have N3 : News g1 L1 h2 ((x', instObj 80 d') :: (d', compDict w tc SD) :: R) := newsCons (newsCons (hR ▸ Nx2) (by rw [hR]; exact .tail _ (List.mem_append_right _ (.tail _ (List.mem_append_right _ (.tail _ (.head _))))))) (.tail _ (by rw [hR]; exact .tail _ (List.mem_append_right _ (.tail _ (List.mem_append_right _ (.head _))))))
      clear Nx2
      k_steps
      unfold Stop
      have hcmp := hord i j ri rj di dj hri hrj hdi hdj
      refine GivesS.use (compare x' d' SD re se _ _ _ ri.1 ri.2.1 ri.2.2.1 ri.2.2.2 rj.1 rj.2.1 rj.2.2.1 rj.2.2.2 _ _ _ _ _ _ _ _ _ _ _ _ selOf_places tc) (by k_asm) Fx2 (by k_asm) N3 Gx2
        ⟨.head _, .tail _ (.head _), .tail _ (.tail _ (MR _ m3)), m4.sub fun q hq => .tail _ (.tail _ (MR _ hq)), .tail _ (.tail _ (MR _ hrm)), .tail _ (.tail _ (MR _ hsm))⟩ (by k_asm) (by k_asm) (by k_asm) (by k_asm) (by k_asm) rfl (by ktr_room) (by ktr_units) ?_
      intro v3' h3 tk3 gs3 ob149
      refine Mine.exand1_1 ob149 fun t3 ob159 => ?_
      subst ob159
      try clear ob149
      intro G3 F3 N4
      clear N3 Fx2
      rw [show cmpF (rowAt ri.1 ri.2.1 ri.2.2.1 ri.2.2.2) (rowAt rj.1 rj.2.1 rj.2.2.1 rj.2.2.2) ((selOf w1 w2 w3).take keys.toNat) = sideL di dj [1, w1, w2, w3] keys places from hcmp]
      k_steps
      rename_i h4 F4 N5
      unfold Stop
      refine GivesS.use (side de ce wl _ _ _ di dj _ hdI hcI hW hd4 hc4 rfl keys tkk _ _ _) (by k_asm) F4 (by k_asm) N5 (by k_asm)
        ⟨.tail _ (.tail _ (MR _ hdm)), .tail _ (.tail _ (MR _ hcm)), .tail _ (.tail _ (MR _ m5))⟩ (by k_asm) (by k_asm) (by k_asm) (by k_asm) (by k_asm) rfl (by ktr_room) (by ktr_units) ?_
      intro v5 h5 tk5 gs5 ob169
      refine Mine.exand1_1 ob169 fun t5 ob179 => ?_
      subst ob179
      try clear ob169
      intro G5 F5 N6
      clear N5 F4
      generalize sideL di dj [1, w1, w2, w3] keys places = cv
      k_steps
      · exact absurd rfl ‹cv ≠ cv›
      · refine stop_intro (turnE (fr_as (by k_asm) (funext fun y => ?_)) (hR ▸ newsSub (news' := R) (by k_asm) fun q hq => .tail _ (.tail _ hq)) (fun q hq => ?_) G5 ⟨rfl, some (.int (sideL di dj [1, w1, w2, w3] keys places) t3), some (.ref ce), some (.ref se), rfl⟩)
        · by_cases z0 : y = Str.ofString "told"
          · subst z0; exact rfl
          by_cases z1 : y = Str.ofString "two"
          · subst z1; exact rfl
          by_cases z2 : y = Str.ofString "other"
          · subst z2; exact rfl
          simp only [z0, z1, z2, if_false]
        · rcases List.mem_append.mp hq with hq | hq
          · exact hz2 _ hq
          · exact Nat.ne_of_lt (hlt2 _ hq)
    case done2 =>
      intro m' h tk7 gs' hJ Fd Nd Gd
      refine Mine.exand3_1 hJ fun p1 p2 p3 ob189 => ?_
      subst ob189
      try clear hJ
      k_steps
      exact stop_intro (turnE (by k_asm) (by k_asm) (fun q hq => (List.mem_append.mp hq).elim (fun a => hz _ a) (fun a => Nat.ne_of_lt (hlt _ a))) Gd ⟨rfl, _, _, _, _, _, rfl⟩)
  case done =>
    intro m' h tk9 gs hJ Fd Nd Gd
    refine Mine.exand5_1 hJ fun o1 o2 o3 o4 o5 ob199 => ?_
    subst ob199
    try clear hJ
    k_steps
    exact hret _ _ _ _ rfl Gd (by k_asm) (newsSub (by k_asm) fun q hq => .tail _ (.tail _ (mN _ hq)))
end
example {prog : Program} {w : World} {A : Around} {env : Env} {Q : Flow → Shared → Prop} {E : Value → Shared → Prop} {s : Shared} (h : Q .next s) : wpAny (model prog w) A (execs [] env) Q E s := by
  w_top off
  walk1
  exact h
section
/-- the block of a number, as the law counts it -/
def blk (w l x : Int) : Int := if 0 < w then (x - l).fdiv (if w < 0 then -w else w) else -(x - l).fdiv (if w < 0 then -w else w)
theorem fdiv_mono {a b v : Int} (hv : 0 < v) (h : a ≤ b) : a.fdiv v ≤ b.fdiv v := by
  rw [Int.fdiv_eq_ediv_of_nonneg _ (Int.le_of_lt hv), Int.fdiv_eq_ediv_of_nonneg _ (Int.le_of_lt hv)]
  exact Int.ediv_le_ediv hv h
theorem blk_sign {w l S S' X : Int} (hw : w ≠ 0) (h : blk w l S ≠ blk w l S') :
    (if blk w l S < blk w l S' then -w else if blk w l S' < blk w l S then w else X) = if S' < S then (w.natAbs : Int) else -(w.natAbs : Int) := by
  unfold blk at *
  rcases Int.lt_or_lt_of_ne hw with hn | hp
  · rw [if_neg (by omega : ¬ 0 < w), if_neg (by omega : ¬ 0 < w), if_pos hn] at *
    have hv : 0 < -w := by omega
    by_cases hs : S' < S
    · have m := fdiv_mono (a := S' - l) (b := S - l) hv (by omega)
      generalize (S' - l).fdiv (-w) = y at *
      generalize (S - l).fdiv (-w) = x at *
      rw [if_pos hs]
      have e : (w.natAbs : Int) = -w := by omega
      rw [e, if_pos (by omega)]
    · have m := fdiv_mono (a := S - l) (b := S' - l) hv (by omega)
      generalize (S' - l).fdiv (-w) = y at *
      generalize (S - l).fdiv (-w) = x at *
      rw [if_neg hs]
      have e : (w.natAbs : Int) = -w := by omega
      rw [e, if_neg (by omega), if_pos (by omega)]; omega
  · rw [if_pos hp, if_pos hp, if_neg (by omega : ¬ w < 0)] at *
    by_cases hs : S' < S
    · have m := fdiv_mono (a := S' - l) (b := S - l) hp (by omega)
      generalize (S' - l).fdiv w = y at *
      generalize (S - l).fdiv w = x at *
      rw [if_pos hs]
      have e : (w.natAbs : Int) = w := by omega
      rw [e, if_neg (by omega), if_pos (by omega)]
    · have m := fdiv_mono (a := S - l) (b := S' - l) hp (by omega)
      generalize (S' - l).fdiv w = y at *
      generalize (S - l).fdiv w = x at *
      rw [if_neg hs]
      have e : (w.natAbs : Int) = w := by omega
      rw [e, if_pos (by omega)]
end
example {prog : Program} {w : World} {A : Around} {env : Env} {Q : Flow → Shared → Prop} {E : Value → Shared → Prop} {s : Shared} (h : Q .next s) : wpAny (model prog w) A (execs [] env) Q E s := by
  w_top off
  walk1
  exact h
section
def SignAt (w x y S S' : Int) : Prop := x ≠ y → ∀ X : Int, (if x < y then -w else if y < x then w else X) = if S' < S then (w.natAbs : Int) else -(w.natAbs : Int)
theorem signAt_eq {w x y S S' X : Int} (h : SignAt w x y S S') (n : ¬ x = y) : (if x < y then -w else if y < x then w else X) = if S' < S then (w.natAbs : Int) else -(w.natAbs : Int) := h n X
theorem cmp_eq {x y w X : Int} (h : x = y) : (if x < y then -w else if y < x then w else X) = X := by subst h; rw [if_neg (Int.lt_irrefl _), if_neg (Int.lt_irrefl _)]
theorem order_law {S S' x1 x2 x3 y1 y2 y3 c0 c1 c2 w1 w2 w3 : Int} (h1 : SignAt w1 x1 y1 S S') (h2 : SignAt w2 x2 y2 S S') (h3 : SignAt w3 x3 y3 S S') (keys : Int) (hk0 : 0 ≤ keys) (hk4 : keys ≤ 4) :
    cmpF (RowOf (x2 - c2 * x3, S - c0 * x1, x3, x1 - c1 * x2)) (RowOf (y2 - c2 * y3, S' - c0 * y1, y3, y1 - c1 * y2)) ((selOf w1 w2 w3).take keys.toNat) = sideL [S, x1, x2, x3] [S', y1, y2, y3] [1, w1, w2, w3] keys places := by
  have e3 : ∀ K X : Int, sideL [S, x1, x2, x3] [S', y1, y2, y3] [1, w1, w2, w3] K (3 :: [2, 1, 0]) = if x3 = y3 then sideL [S, x1, x2, x3] [S', y1, y2, y3] [1, w1, w2, w3] K [2, 1, 0] else if S' < S then (if 4 - K ≤ 3 then (w3.natAbs : Int) else 0) else -(if 4 - K ≤ 3 then (w3.natAbs : Int) else 0) := fun _ _ => rfl
  have e2 : ∀ K X : Int, sideL [S, x1, x2, x3] [S', y1, y2, y3] [1, w1, w2, w3] K (2 :: [1, 0]) = if x2 = y2 then sideL [S, x1, x2, x3] [S', y1, y2, y3] [1, w1, w2, w3] K [1, 0] else if S' < S then (if 4 - K ≤ 2 then (w2.natAbs : Int) else 0) else -(if 4 - K ≤ 2 then (w2.natAbs : Int) else 0) := fun _ _ => rfl
  have e1 : ∀ K X : Int, sideL [S, x1, x2, x3] [S', y1, y2, y3] [1, w1, w2, w3] K (1 :: [0]) = if x1 = y1 then sideL [S, x1, x2, x3] [S', y1, y2, y3] [1, w1, w2, w3] K [0] else if S' < S then (if 4 - K ≤ 1 then (w1.natAbs : Int) else 0) else -(if 4 - K ≤ 1 then (w1.natAbs : Int) else 0) := fun _ _ => rfl
  have e0 : ∀ K X : Int, sideL [S, x1, x2, x3] [S', y1, y2, y3] [1, w1, w2, w3] K (0 :: []) = if S = S' then 0 else if S' < S then (if 4 - K ≤ 0 then (1 : Int) else 0) else -(if 4 - K ≤ 0 then (1 : Int) else 0) := fun _ _ => rfl
  have f : ∀ l : List (Int × Int), ∀ d : Int, cmpF (RowOf (x2 - c2 * x3, S - c0 * x1, x3, x1 - c1 * x2)) (RowOf (y2 - c2 * y3, S' - c0 * y1, y3, y1 - c1 * y2)) ((2, d) :: l) = if x3 < y3 then -d else if y3 < x3 then d else cmpF (RowOf (x2 - c2 * x3, S - c0 * x1, x3, x1 - c1 * x2)) (RowOf (y2 - c2 * y3, S' - c0 * y1, y3, y1 - c1 * y2)) l := fun _ _ => rfl
  have g : ∀ l : List (Int × Int), ∀ d : Int, cmpF (RowOf (x2 - c2 * x3, S - c0 * x1, x3, x1 - c1 * x2)) (RowOf (y2 - c2 * y3, S' - c0 * y1, y3, y1 - c1 * y2)) ((0, d) :: l) = if x2 - c2 * x3 < y2 - c2 * y3 then -d else if y2 - c2 * y3 < x2 - c2 * x3 then d else cmpF (RowOf (x2 - c2 * x3, S - c0 * x1, x3, x1 - c1 * x2)) (RowOf (y2 - c2 * y3, S' - c0 * y1, y3, y1 - c1 * y2)) l := fun _ _ => rfl
  have i : ∀ l : List (Int × Int), ∀ d : Int, cmpF (RowOf (x2 - c2 * x3, S - c0 * x1, x3, x1 - c1 * x2)) (RowOf (y2 - c2 * y3, S' - c0 * y1, y3, y1 - c1 * y2)) ((3, d) :: l) = if x1 - c1 * x2 < y1 - c1 * y2 then -d else if y1 - c1 * y2 < x1 - c1 * x2 then d else cmpF (RowOf (x2 - c2 * x3, S - c0 * x1, x3, x1 - c1 * x2)) (RowOf (y2 - c2 * y3, S' - c0 * y1, y3, y1 - c1 * y2)) l := fun _ _ => rfl
  have j : ∀ l : List (Int × Int), ∀ d : Int, cmpF (RowOf (x2 - c2 * x3, S - c0 * x1, x3, x1 - c1 * x2)) (RowOf (y2 - c2 * y3, S' - c0 * y1, y3, y1 - c1 * y2)) ((1, d) :: l) = if S - c0 * x1 < S' - c0 * y1 then -d else if S' - c0 * y1 < S - c0 * x1 then d else cmpF (RowOf (x2 - c2 * x3, S - c0 * x1, x3, x1 - c1 * x2)) (RowOf (y2 - c2 * y3, S' - c0 * y1, y3, y1 - c1 * y2)) l := fun _ _ => rfl
  have z : cmpF (RowOf (x2 - c2 * x3, S - c0 * x1, x3, x1 - c1 * x2)) (RowOf (y2 - c2 * y3, S' - c0 * y1, y3, y1 - c1 * y2)) [] = 0 := rfl
  have hp : places = 3 :: [2, 1, 0] := rfl
  rw [hp]
  clear hp
  generalize RowOf (x2 - c2 * x3, S - c0 * x1, x3, x1 - c1 * x2) = RA at *
  generalize RowOf (y2 - c2 * y3, S' - c0 * y1, y3, y1 - c1 * y2) = RB at *
  generalize sideL [S, x1, x2, x3] [S', y1, y2, y3] [1, w1, w2, w3] = SL at *
  have sub : ∀ {a b c d k : Int}, c = d → ((a - k * c < b - k * d) ↔ a < b) := fun {a b c d k} e => by subst e; omega
  have sw : ∀ {A : Prop} [Decidable A] {a b : Int}, a = 0 → b = 0 → (if A then a else b) = 0 := fun ha hb => by subst ha hb; split <;> rfl
  rw [e3 _ 0]
  by_cases q3 : x3 = y3
  · rw [if_pos q3, e2 _ 0]
    by_cases q2 : x2 = y2
    · rw [if_pos q2, e1 _ 0]
      by_cases q1 : x1 = y1
      · rw [if_pos q1, e0 _ 0]
        subst q3 q2 q1
        refine Mine.exand1_1 (Int.eq_ofNat_of_zero_le hk0) fun n ob19 => ?_
        subst ob19
        match n, hk4 with
        | 0, _ => show cmpF _ _ [] = _; rw [z]; split; rfl; split <;> rfl
        | 1, _ => show cmpF _ _ [(2, w3)] = _; rw [f, cmp_eq rfl, z]; split; rfl; split <;> rfl
        | 2, _ => show cmpF _ _ [(2, w3), (0, w2)] = _; rw [f, cmp_eq rfl, g, cmp_eq rfl, z]; split; rfl; split <;> rfl
        | 3, _ => show cmpF _ _ [(2, w3), (0, w2), (3, w1)] = _; rw [f, cmp_eq rfl, g, cmp_eq rfl, i, cmp_eq rfl, z]; split; rfl; split <;> rfl
        | 4, _ =>
          show cmpF _ _ [(2, w3), (0, w2), (3, w1), (1, 1)] = _
          rw [f, cmp_eq rfl, g, cmp_eq rfl, i, cmp_eq rfl, j, z]
          simp only [sub rfl]
          rcases Int.lt_trichotomy S S' with h | h | h
          · rw [if_pos h, if_neg (by omega : ¬ S = S'), if_neg (by omega : ¬ S' < S)]; rfl
          · rw [if_neg (by omega), if_neg (by omega), if_pos h]
          · rw [if_neg (by omega : ¬ S < S'), if_pos h, if_neg (by omega : ¬ S = S'), if_pos h]; rfl
        | n + 5, h => omega
      · rw [if_neg q1]
        subst q3 q2
        refine Mine.exand1_1 (Int.eq_ofNat_of_zero_le hk0) fun n ob29 => ?_
        subst ob29
        match n, hk4 with
        | 0, _ => show cmpF _ _ [] = _; rw [z]; exact (sw rfl rfl).symm
        | 1, _ => show cmpF _ _ [(2, w3)] = _; rw [f, cmp_eq rfl, z]; exact (sw rfl rfl).symm
        | 2, _ => show cmpF _ _ [(2, w3), (0, w2)] = _; rw [f, cmp_eq rfl, g, cmp_eq rfl, z]; exact (sw rfl rfl).symm
        | 3, _ => show cmpF _ _ [(2, w3), (0, w2), (3, w1)] = _; rw [f, cmp_eq rfl, g, cmp_eq rfl, i]; simp only [sub rfl]; exact signAt_eq h1 q1
        | 4, _ => show cmpF _ _ [(2, w3), (0, w2), (3, w1), (1, 1)] = _; rw [f, cmp_eq rfl, g, cmp_eq rfl, i]; simp only [sub rfl]; exact signAt_eq h1 q1
        | n + 5, h => omega
    · rw [if_neg q2]
      subst q3
      refine Mine.exand1_1 (Int.eq_ofNat_of_zero_le hk0) fun n ob39 => ?_
      subst ob39
      match n, hk4 with
      | 0, _ => show cmpF _ _ [] = _; rw [z]; exact (sw rfl rfl).symm
      | 1, _ => show cmpF _ _ [(2, w3)] = _; rw [f, cmp_eq rfl, z]; exact (sw rfl rfl).symm
      | 2, _ => show cmpF _ _ [(2, w3), (0, w2)] = _; rw [f, cmp_eq rfl, g]; simp only [sub rfl]; exact signAt_eq h2 q2
      | 3, _ => show cmpF _ _ [(2, w3), (0, w2), (3, w1)] = _; rw [f, cmp_eq rfl, g]; simp only [sub rfl]; exact signAt_eq h2 q2
      | 4, _ => show cmpF _ _ [(2, w3), (0, w2), (3, w1), (1, 1)] = _; rw [f, cmp_eq rfl, g]; simp only [sub rfl]; exact signAt_eq h2 q2
      | n + 5, h => omega
  · rw [if_neg q3]
    refine Mine.exand1_1 (Int.eq_ofNat_of_zero_le hk0) fun n ob49 => ?_
    subst ob49
    match n, hk4 with
    | 0, _ => show cmpF _ _ [] = _; rw [z]; exact (sw rfl rfl).symm
    | 1, _ => show cmpF _ _ [(2, w3)] = _; rw [f]; exact signAt_eq h3 q3
    | 2, _ => show cmpF _ _ [(2, w3), (0, w2)] = _; rw [f]; exact signAt_eq h3 q3
    | 3, _ => show cmpF _ _ [(2, w3), (0, w2), (3, w1)] = _; rw [f]; exact signAt_eq h3 q3
    | 4, _ => show cmpF _ _ [(2, w3), (0, w2), (3, w1), (1, 1)] = _; rw [f]; exact signAt_eq h3 q3
    | n + 5, h => omega
end
example {prog : Program} {w : World} {A : Around} {env : Env} {Q : Flow → Shared → Prop} {E : Value → Shared → Prop} {s : Shared} (h : Q .next s) : wpAny (model prog w) A (execs [] env) Q E s := by
  w_top off
  walk1
  exact h
section
theorem blk_of {w l S q R : Int} (hw : w ≠ 0) (e : S = q * w + R) (h0 : l ≤ R) (h1 : R - l < (w.natAbs : Int)) : blk w l S = q := by
  unfold blk
  rcases Int.lt_or_lt_of_ne hw with hn | hp
  · rw [if_neg (by omega : ¬ 0 < w), if_pos hn]
    have hv : 0 < -w := by omega
    have e2 : S - l = (R - l) + (-q) * (-w) := by rw [Int.neg_mul_neg]; omega
    rw [Int.fdiv_eq_ediv_of_nonneg _ (Int.le_of_lt hv), e2, Int.add_mul_ediv_right _ _ (by omega), Int.ediv_eq_zero_of_lt (by omega) (by omega)]
    omega
  · rw [if_pos hp, if_neg (by omega : ¬ w < 0)]
    have e2 : S - l = (R - l) + q * w := by omega
    rw [Int.fdiv_eq_ediv_of_nonneg _ (Int.le_of_lt hp), e2, Int.add_mul_ediv_right _ _ (by omega), Int.ediv_eq_zero_of_lt (by omega) (by omega)]
    omega
/-- one digit more -/
theorem digit_span {w b r : Int} (hr : (0 < b ∧ 0 ≤ r ∧ r < b) ∨ (b < 0 ∧ b < r ∧ r ≤ 0)) : 0 ≤ w * r - mnF w b ∧ w * r - mnF w b + (w.natAbs : Int) ≤ ((w * b).natAbs : Int) := by
  unfold mnF
  rw [Int.natAbs_mul, Int.natCast_mul]
  rcases hr with ⟨hb, h0, h1⟩ | ⟨hb, h1, h0⟩
  · rw [if_pos hb]
    have eb : (b.natAbs : Int) = b := by omega
    rw [eb]
    rcases Int.lt_or_le w 0 with hw | hw
    · have ew : (w.natAbs : Int) = -w := by omega
      rw [ew]
      have a1 : w * (b - 1) ≤ w * r := Int.mul_le_mul_of_nonpos_left (Int.le_of_lt hw) (by omega)
      have a2 : w * r ≤ 0 := Int.mul_nonpos_of_nonpos_of_nonneg (Int.le_of_lt hw) h0
      have a3 : w * (b - 1) = w * b - w := by rw [Int.mul_sub, Int.mul_one]
      have a4 : -w * b = -(w * b) := Int.neg_mul ..
      split <;> omega
    · have ew : (w.natAbs : Int) = w := by omega
      rw [ew]
      have a1 : w * r ≤ w * (b - 1) := Int.mul_le_mul_of_nonneg_left (by omega) hw
      have a2 : 0 ≤ w * r := Int.mul_nonneg hw h0
      have a3 : w * (b - 1) = w * b - w := by rw [Int.mul_sub, Int.mul_one]
      split <;> omega
  · rw [if_neg (by omega : ¬ 0 < b)]
    have eb : (b.natAbs : Int) = -b := by omega
    rw [eb]
    have a3 : w * (b - -1) = w * b + w := by rw [Int.sub_neg, Int.mul_add, Int.mul_one]
    rcases Int.lt_or_le w 0 with hw | hw
    · have ew : (w.natAbs : Int) = -w := by omega
      rw [ew]
      have a1 : w * r ≤ w * (b - -1) := Int.mul_le_mul_of_nonpos_left (Int.le_of_lt hw) (by omega)
      have a2 : 0 ≤ w * r := Int.mul_nonneg_of_nonpos_of_nonpos (Int.le_of_lt hw) h0
      have a4 : -w * -b = w * b := Int.neg_mul_neg ..
      split <;> omega
    · have ew : (w.natAbs : Int) = w := by omega
      rw [ew]
      have a1 : w * (b - -1) ≤ w * r := Int.mul_le_mul_of_nonneg_left (by omega) hw
      have a2 : w * r ≤ 0 := Int.mul_nonpos_of_nonneg_of_nonpos hw h0
      have a4 : w * -b = -(w * b) := Int.mul_neg ..
      split <;> omega
end
example {prog : Program} {w : World} {A : Around} {env : Env} {Q : Flow → Shared → Prop} {E : Value → Shared → Prop} {s : Shared} (h : Q .next s) : wpAny (model prog w) A (execs [] env) Q E s := by
  w_top off
  walk1
  exact h
section
theorem span_step {R l w b r : Int} (h0 : 0 ≤ R - l) (h1 : R - l + 1 ≤ (w.natAbs : Int)) (hr : (0 < b ∧ 0 ≤ r ∧ r < b) ∨ (b < 0 ∧ b < r ∧ r ≤ 0)) :
    0 ≤ R + w * r - (l + mnF w b) ∧ R + w * r - (l + mnF w b) + 1 ≤ ((w * b).natAbs : Int) := by
  refine Mine.exand0_2 (digit_span (w := w) hr) fun a c => ?_
  omega
theorem blkF_eq (x : Int) (Ws Bs : List Int) (i : Nat) : blkF x Ws Bs i = blk (Ws.getD (i + 1) 0) (lowF Ws Bs (i + 1)) x := rfl
theorem blocks_q' {S b0 b1 b2 x1 x2 x3 r1 r2 r3 : Int} (h0 : b0 ≠ 0) (h1 : b1 ≠ 0) (h2 : b2 ≠ 0) (d1 : DM S b0 x1 r1) (d2 : DM x1 b1 x2 r2) (d3 : DM x2 b2 x3 r3) :
    blk b0 (0 + mnF 1 b0) S = x1 ∧ blk (b0 * b1) (0 + mnF 1 b0 + mnF b0 b1) S = x2 ∧ blk (b0 * b1 * b2) (0 + mnF 1 b0 + mnF b0 b1 + mnF (b0 * b1) b2) S = x3 := by
  refine Mine.exand0_2 d1 fun e1 k1 => ?_
  try clear d1
  refine Mine.exand0_2 d2 fun e2 k2 => ?_
  try clear d2
  refine Mine.exand0_2 d3 fun e3 k3 => ?_
  try clear d3
  have a1 := span_step (R := 0) (l := 0) (w := 1) (by decide) (by decide) k1
  rw [Int.one_mul b0] at a1
  have a2 := span_step (w := b0) a1.1 a1.2 k2
  have a3 := span_step (w := b0 * b1) a2.1 a2.2 k3
  generalize mnF 1 b0 = m1 at *
  generalize mnF b0 b1 = m2 at *
  generalize mnF (b0 * b1) b2 = m3 at *
  have s1 : S = x1 * b0 + (0 + 1 * r1) := by omega
  have s2 : S = x2 * (b0 * b1) + (0 + 1 * r1 + b0 * r2) := by
    rw [s1, ← e2, Int.add_mul, Int.mul_comm b0 b1, ← Int.mul_assoc, Int.mul_comm b0 r2]; omega
  have s3 : S = x3 * (b0 * b1 * b2) + (0 + 1 * r1 + b0 * r2 + b0 * b1 * r3) := by
    have u1 : x3 * b2 * (b0 * b1) = x3 * (b0 * b1 * b2) := by rw [Int.mul_assoc, Int.mul_comm b2]
    have u2 : r3 * (b0 * b1) = b0 * b1 * r3 := Int.mul_comm ..
    rw [s2, ← e3, Int.add_mul, u1, u2]; omega
  refine ⟨blk_of h0 s1 (by omega) (by omega), blk_of (Int.mul_ne_zero h0 h1) s2 ?_ ?_, blk_of (Int.mul_ne_zero (Int.mul_ne_zero h0 h1) h2) s3 ?_ ?_⟩
  · generalize b0 * r2 = t at *; omega
  · generalize b0 * r2 = t at *; omega
  · generalize b0 * r2 = t at *; generalize b0 * b1 * r3 = u at *; omega
  · generalize b0 * r2 = t at *; generalize b0 * b1 * r3 = u at *; omega
theorem blocks_q {S b0 b1 b2 : Int} (h0 : b0 ≠ 0) (h1 : b1 ≠ 0) (h2 : b2 ≠ 0) :
    blkF S [1, b0, b0 * b1, b0 * b1 * b2] [b0, b1, b2] 0 = q1 b0 S ∧ blkF S [1, b0, b0 * b1, b0 * b1 * b2] [b0, b1, b2] 1 = q2 b0 b1 S ∧ blkF S [1, b0, b0 * b1, b0 * b1 * b2] [b0, b1, b2] 2 = q3 b0 b1 b2 S :=
  blocks_q' h0 h1 h2 (dm_of h0) (dm_of h1) (dm_of h2)
theorem sign1 {b0 b1 b2 S S' : Int} (h0 : b0 ≠ 0) (h1 : b1 ≠ 0) (h2 : b2 ≠ 0) : SignAt b0 (q1 b0 S) (q1 b0 S') S S' := fun n X => by
  rw [← (blocks_q h0 h1 h2 (S := S)).1, ← (blocks_q h0 h1 h2 (S := S')).1] at *
  exact blk_sign h0 n
theorem sign2 {b0 b1 b2 S S' : Int} (h0 : b0 ≠ 0) (h1 : b1 ≠ 0) (h2 : b2 ≠ 0) : SignAt (b0 * b1) (q2 b0 b1 S) (q2 b0 b1 S') S S' := fun n X => by
  rw [← (blocks_q h0 h1 h2 (S := S)).2.1, ← (blocks_q h0 h1 h2 (S := S')).2.1] at *
  exact blk_sign (Int.mul_ne_zero h0 h1) n
theorem sign3 {b0 b1 b2 S S' : Int} (h0 : b0 ≠ 0) (h1 : b1 ≠ 0) (h2 : b2 ≠ 0) : SignAt (b0 * b1 * b2) (q3 b0 b1 b2 S) (q3 b0 b1 b2 S') S S' := fun n X => by
  rw [← (blocks_q h0 h1 h2 (S := S)).2.2, ← (blocks_q h0 h1 h2 (S := S')).2.2] at *
  exact blk_sign (Int.mul_ne_zero (Int.mul_ne_zero h0 h1) h2) n
end
example {prog : Program} {w : World} {A : Around} {env : Env} {Q : Flow → Shared → Prop} {E : Value → Shared → Prop} {s : Shared} (h : Q .next s) : wpAny (model prog w) A (execs [] env) Q E s := by
  w_top off
  walk1
  exact h
section
theorem filled_len (ns : List Int) (first : Nat) (sp : List Int) : (filled ns first sp).length = sp.length := by
  unfold filled
  rw [List.length_take, List.length_append, List.length_drop, List.length_drop]
  omega
theorem filled_mem {ns : List Int} {first : Nat} {sp : List Int} {x : Int} (h : x ∈ filled ns first sp) : x ∈ ns ∨ x ∈ sp := by
  unfold filled at h
  rcases List.mem_append.mp (List.mem_of_mem_take h) with h | h
  · exact .inl (List.mem_of_mem_drop h)
  · exact .inr (List.mem_of_mem_drop h)
theorem filled_bits {ns : List Int} {first : Nat} {sp : List Int} (hb : ∀ x ∈ ns, intBits x ≤ 1048576) (hs : ∀ x ∈ sp, intBits x ≤ 1048576) {x : Int} (h : x ∈ filled ns first sp) : intBits x ≤ 1048576 :=
  (filled_mem h).elim (hb x) (hs x)
theorem list2 {α : Type} : ∀ {l : List α}, l.length = 2 → ∃ a b, l = [a, b] := by
  intro l h
  cases l with
  | nil => cases h
  | cons a r => exact (list1 (Nat.succ.inj h)).elim fun b e => ⟨a, b, congrArg _ e⟩
theorem list3 {α : Type} : ∀ {l : List α}, l.length = 3 → ∃ a b c, l = [a, b, c] := by
  intro l h
  cases l with
  | nil => cases h
  | cons a r => exact (list2 (Nat.succ.inj h)).elim fun b e => e.elim fun c e => ⟨a, b, c, congrArg _ e⟩
theorem list4 {α : Type} : ∀ {l : List α}, l.length = 4 → ∃ a b c d, l = [a, b, c, d] := by
  intro l h
  cases l with
  | nil => cases h
  | cons a r => exact (list3 (Nat.succ.inj h)).elim fun b e => e.elim fun c e => e.elim fun d e => ⟨a, b, c, d, congrArg _ e⟩
theorem list5 {α : Type} : ∀ {l : List α}, l.length = 5 → ∃ a b c d e, l = [a, b, c, d, e] := by
  intro l h
  cases l with
  | nil => cases h
  | cons a r => exact (list4 (Nat.succ.inj h)).elim fun b e => e.elim fun c e => e.elim fun d e => e.elim fun f e => ⟨a, b, c, d, f, congrArg _ e⟩
/-- a number, or the spare one where it is nought -/
def pickF (x y : Int) : Int := if x = 0 then y else x
theorem ints1 {vs : List Value} {a : Int} (h : IntsAre vs [a]) : ∃ t, vs = [.int a t] :=
  h.cons_inv.elim fun t h => h.elim fun _ h => ⟨t, h.1.trans (congrArg _ h.2.nil_inv)⟩
theorem ints2 {vs : List Value} {a b : Int} (h : IntsAre vs [a, b]) : ∃ t u, vs = [.int a t, .int b u] :=
  h.cons_inv.elim fun t h => h.elim fun _ h => (ints1 h.2).elim fun u e => ⟨t, u, h.1.trans (congrArg _ e)⟩
theorem ints3 {vs : List Value} {a b c : Int} (h : IntsAre vs [a, b, c]) : ∃ t u v, vs = [.int a t, .int b u, .int c v] :=
  h.cons_inv.elim fun t h => h.elim fun _ h => (ints2 h.2).elim fun u e => e.elim fun v e => ⟨t, u, v, h.1.trans (congrArg _ e)⟩
theorem ints4 {vs : List Value} {a b c d : Int} (h : IntsAre vs [a, b, c, d]) : ∃ t u v x, vs = [.int a t, .int b u, .int c v, .int d x] :=
  h.cons_inv.elim fun t h => h.elim fun _ h => (ints3 h.2).elim fun u e => e.elim fun v e => e.elim fun x e => ⟨t, u, v, x, h.1.trans (congrArg _ e)⟩
theorem ints_snoc {us : List Value} {fs : List Int} {i : Nat} {n : Int} {t : Tok} (h : IntsAre us (fs.take i)) (e : fs[i]? = some n) : IntsAre (us ++ [.int n t]) (fs.take (i + 1)) := by
  rw [List.take_add_one, e]
  exact h.append (.cons _ _ .nil)
theorem pick_at {fs sp : List Int} {i : Nat} {x y : Int} (h : fs[i]? = some x) (h' : sp[i]? = some y) : (List.zipWith pickF fs sp)[i]? = some (pickF x y) := by
  rw [List.getElem?_zipWith, h, h']
theorem pick_bases {ns : List Int} (hb : ∀ x ∈ ns, intBits x ≤ 1048576) : ∃ b0 b1 b2, List.zipWith pickF (filled ns 0 [-40, 30, -50]) [-40, 30, -50] = [b0, b1, b2] ∧ b0 ≠ 0 ∧ b1 ≠ 0 ∧ b2 ≠ 0 ∧ intBits b0 ≤ 1048576 ∧ intBits b1 ≤ 1048576 ∧ intBits b2 ≤ 1048576 := by
  have hs : ∀ x ∈ ([-40, 30, -50] : List Int), intBits x ≤ 1048576 := by
    intro x hx
    simp only [List.mem_cons, List.not_mem_nil, or_false] at hx
    rcases hx with rfl | rfl | rfl <;> decide
  have hm := fun x (h : x ∈ filled ns 0 [-40, 30, -50]) => filled_bits hb hs h
  refine Mine.exand3_1 (list3 (filled_len ns 0 [-40, 30, -50])) fun a b c e => ?_
  rw [e] at hm ⊢
  refine ⟨pickF a (-40), pickF b 30, pickF c (-50), rfl, ?_, ?_, ?_, ?_, ?_, ?_⟩ <;> unfold pickF <;> split
  all_goals first | assumption | decide | exact hm _ (by simp)
/-- six numbers of a bounded size -/
structure Six (xs : List Int) : Prop where
  len : xs.length = 6
  bits : ∀ x ∈ xs, intBits x ≤ 2200000
theorem bits_add {x y : Int} {m n : Nat} (hx : intBits x ≤ m) (hy : intBits y ≤ n) : intBits (x + y) ≤ max m n + 1 := by
  rw [intBits_le_iff] at *
  have h1 := Nat.pow_le_pow_right (show 0 < 2 by decide) (Nat.le_max_left m n)
  have h2 := Nat.pow_le_pow_right (show 0 < 2 by decide) (Nat.le_max_right m n)
  have h3 : 2 ^ (max m n + 1) = 2 ^ max m n * 2 := Nat.pow_succ _ _
  rw [h3, Nat.mul_two]
  exact Nat.lt_of_le_of_lt (Int.natAbs_add_le x y) (Nat.add_lt_add (Nat.lt_of_lt_of_le hx h1) (Nat.lt_of_lt_of_le hy h2))
theorem bits_sub {x y : Int} {m n : Nat} (hx : intBits x ≤ m) (hy : intBits y ≤ n) : intBits (x - y) ≤ max m n + 1 := by
  rw [intBits_le_iff] at *
  have h1 := Nat.pow_le_pow_right (show 0 < 2 by decide) (Nat.le_max_left m n)
  have h2 := Nat.pow_le_pow_right (show 0 < 2 by decide) (Nat.le_max_right m n)
  have h3 : 2 ^ (max m n + 1) = 2 ^ max m n * 2 := Nat.pow_succ _ _
  rw [h3, Nat.mul_two]
  exact Nat.lt_of_le_of_lt (Int.natAbs_sub_le x y) (Nat.add_lt_add (Nat.lt_of_lt_of_le hx h1) (Nat.lt_of_lt_of_le hy h2))
theorem bits_mul {x y : Int} {m n : Nat} (hx : intBits x ≤ m) (hy : intBits y ≤ n) : intBits (x * y) ≤ m + n := by
  rw [intBits_le_iff] at *
  rw [Int.natAbs_mul, Nat.pow_add]
  exact Nat.mul_lt_mul'' hx hy
theorem bits_up {x : Int} {m n : Nat} (h : intBits x ≤ m) (hmn : m ≤ n) : intBits x ≤ n := Nat.le_trans h hmn
end
example {prog : Program} {w : World} {A : Around} {env : Env} {Q : Flow → Shared → Prop} {E : Value → Shared → Prop} {s : Shared} (h : Q .next s) : wpAny (model prog w) A (execs [] env) Q E s := by
  w_top off
  walk1
  exact h
section
theorem range4 : ∀ i : Nat, i < 4 → ([0, 1, 2, 3] : List Int)[i]? = some (0 + (i : Int)) := by decide
/-- the record of a row as made -/
def leafR (b0 b1 b2 x : Int) : Rc := ⟨true, x, q1 b0 x, q2 b0 b1 x, q3 b0 b1 b2 x⟩
theorem row_ent {w : World} {b0 b1 b2 w2 x th on la tw : Int} {tth ton tla ttw ta : Tok} {news : List (Addr × Obj)} {e dd : Addr} {o : Obj} {c : Nat} (hR : Row b0 b1 b2 x th on la tw) (he : (e, tup5 th tth on ton la tla tw ttw dd c) ∈ news) (hd : (dd, o) ∈ news)
    (ho : DictIs w o [(Str.ofString "a", .int x ta)]) (hs : (dd == sysModules) = false) : EntR w b0 b1 b2 w2 news e (leafR b0 b1 b2 x) := by
  refine Mine.exand2_3 hR fun up more h1 h2 h3 => ?_
  try clear hR
  refine Mine.exand0_2 (dm_fdiv h1) fun e1 e2 => ?_
  refine Mine.exand0_2 (dm_fdiv h2) fun e3 e4 => ?_
  refine Mine.exand0_2 (dm_fdiv h3) fun e5 e6 => ?_
  subst e1 e3 e5
  refine ⟨⟨tth, ton, tla, ttw, dd, c, ?_, o, _, hd, ho, ⟨rfl, ⟨ta, rfl⟩, trivial⟩, hs⟩, fun _ => ⟨rfl, rfl, rfl⟩⟩
  rw [e2, e4, e6] at he
  exact he
/-- what lies behind the five cells and the table of add_callers -/
def Gen (L : Addr) (news : List (Addr × Obj)) : Prop := ∀ p ∈ news, (@LT.lt Nat _ (L + 1 + 1 + 1 + 1 + 1) p.1 ∨ @LT.lt Nat _ p.1 L) ∧ @Ne Nat p.1 93
theorem Gen.off {L : Addr} {news : List (Addr × Obj)} (h : Gen L news) (p : Addr × Obj) (hp : p ∈ news) : p.1 ≠ L + 1 ∧ p.1 ≠ L + 1 + 1 ∧ p.1 ≠ L + 1 + 1 + 1 ∧ p.1 ≠ L + 1 + 1 + 1 + 1 ∧ p.1 ≠ L + 1 + 1 + 1 + 1 + 1 ∧ p.1 ≠ 93 := by
  refine Mine.exand0_2 (h p hp) fun h1 h2 => ?_
  refine ⟨?_, ?_, ?_, ?_, ?_, h2⟩ <;> (intro e; have e' : @Eq Nat p.1 _ := e; omega)
theorem Gen.new {L : Addr} {x : Addr × Obj} {news : List (Addr × Obj)} (h : Gen L news) (hL : @LT.lt Nat _ 93 L) (hx : @LT.lt Nat _ (L + 1 + 1 + 1 + 1 + 1) x.1) : Gen L (x :: news) := fun p hp => by
  rcases List.mem_cons.mp hp with rfl | hp
  · exact ⟨.inl hx, by omega⟩
  · exact h p hp
/-- the ledger's fixed head: the table of add_callers and the law's cells -/
def cells (L : Addr) (ps : Array Value) (oB oW oK oD oH : Obj) : List (Addr × Obj) := [(93, tabObj ps), (L + 1, oB), (L + 1 + 1, oW), (L + 1 + 1 + 1, oK), (L + 1 + 1 + 1 + 1, oD), (L + 1 + 1 + 1 + 1 + 1, oH)]
theorem StB.has {T1 T2 news : List (Addr × Obj)} (h : StB T1 T2 news) : (∃ o, ((30 : Addr), o) ∈ T1) ∧ ∃ o, ((37 : Addr), o) ∈ T2 := by
  rcases h with ⟨a, b, _⟩ | ⟨⟨q1, q2, q3, q4, e1, _⟩, ⟨r1, r2, r3, r4, e2, _⟩⟩
  · exact ⟨⟨_, by rw [show T1 = _ from a]; exact .head _⟩, ⟨_, by rw [show T2 = _ from b]; exact .head _⟩⟩
  · exact ⟨⟨_, by rw [e1]; exact .tail _ (.head _)⟩, ⟨_, by rw [e2]; exact .tail _ (.head _)⟩⟩
theorem notSys {d : Addr} (h : @LT.lt Nat _ 93 d) : (d == sysModules) = false := beq_eq_false_iff_ne.mpr fun e => by
  have e' : @Eq Nat d 1 := e
  omega
theorem line_snoc {w : World} {b0 b1 b2 w2 : Int} {own own' : List (Addr × Obj)} {ys : List Value} {rs : List Rc} {i : Nat} {r : Rc} {v : Value} (h : LineR w b0 b1 b2 w2 own ys (rs.take i)) (hs : ∀ p ∈ own, p ∈ own') (e : rs[i]? = some r) (hv : ∃ e, v = .ref e ∧ EntR w b0 b1 b2 w2 own' e r) :
    LineR w b0 b1 b2 w2 own' (ys ++ [v]) (rs.take (i + 1)) := by
  rw [List.take_add_one, e]
  exact (h.sub hs).append hv
theorem Gen.off1 {h₀ h : Heap} {L D : Addr} {o : Obj} {ps : Array Value} {oB oW oK oD oH : Obj} {gen : List (Addr × Obj)} (hG : Gen L gen) (N : News h₀ L h ((D, o) :: (cells L ps oB oW oK oD oH ++ gen))) (off : ∀ p ∈ cells L ps oB oW oK oD oH, p.1 ≠ D) : Gen L ((D, o) :: gen) := fun q hq => by
  rcases List.mem_cons.mp hq with rfl | hq
  · have n0 : ¬ @Eq Nat D L := (N _ (.head _)).2.1
    have a0 : ¬ @Eq Nat 93 D := off (93, tabObj ps) (.head _)
    have a1 : ¬ @Eq Nat (L + 1) D := off (L + 1, oB) (.tail _ (.head _))
    have a2 : ¬ @Eq Nat (L + 1 + 1) D := off (L + 1 + 1, oW) (.tail _ (.tail _ (.head _)))
    have a3 : ¬ @Eq Nat (L + 1 + 1 + 1) D := off (L + 1 + 1 + 1, oK) (.tail _ (.tail _ (.tail _ (.head _))))
    have a4 : ¬ @Eq Nat (L + 1 + 1 + 1 + 1) D := off (L + 1 + 1 + 1 + 1, oD) (.tail _ (.tail _ (.tail _ (.tail _ (.head _)))))
    have a5 : ¬ @Eq Nat (L + 1 + 1 + 1 + 1 + 1) D := off (L + 1 + 1 + 1 + 1 + 1, oH) (.tail _ (.tail _ (.tail _ (.tail _ (.tail _ (.head _))))))
    exact ⟨by dsimp only; omega, by dsimp only; omega⟩
  · exact hG q hq
theorem off1_mem {D : Addr} : ∀ {l : List (Addr × Obj)}, PyProof.Rows.LCg.Off1 D l → ∀ p ∈ l, p.1 ≠ D
  | [], _, _, h => nomatch h
  | _ :: _, x, p, h => by
    rcases List.mem_cons.mp h with rfl | h
    · exact x.1
    · exact off1_mem x.2 p h
/-- the blocks of a number -/
def blkL (b0 b1 b2 x : Int) : List Int := [x, q1 b0 x, q2 b0 b1 x, q3 b0 b1 b2 x]
theorem All2.append {α : Type} {R : Value → α → Prop} {v : Value} {a : α} (h : R v a) : ∀ {vs : List Value} {as : List α}, All2 R vs as → All2 R (vs ++ [v]) (as ++ [a]) := by
  intro vs
  induction vs with
  | nil => intro rs h'; cases rs with | nil => exact ⟨h, trivial⟩ | cons b m => exact h'.elim
  | cons a l ih => intro rs h'; cases rs with | nil => exact h'.elim | cons b m => exact ⟨h'.1, ih h'.2⟩
theorem all2_snoc {α : Type} {R R' : Value → α → Prop} {ys : List Value} {as : List α} {i : Nat} {a : α} {v : Value} (h : All2 R ys (as.take i)) (hR : ∀ v a, R v a → R' v a) (e : as[i]? = some a) (hv : R' v a) : All2 R' (ys ++ [v]) (as.take (i + 1)) := by
  rw [List.take_add_one, e]
  exact (h.mono hR).append hv
theorem BlkV.sub {news news' : List (Addr × Obj)} {v : Value} {D : List Int} (h : BlkV news v D) (hs : ∀ p ∈ news, p ∈ news') : BlkV news' v D := Mine.exand3_4 h fun l us k a b c d => ⟨l, us, k, a, hs _ b, c, d⟩
theorem upd_blocks {L : Addr} {ps : Array Value} {oB oW oK oD oH : Obj} {gen : List (Addr × Obj)} (hL : @LT.lt Nat _ 93 L) (hG : Gen L gen) : UpdF (L + 1 + 1 + 1) oK (cells L ps oB oW oK oD oH ++ gen) (fun o' => cells L ps oB oW o' oD oH ++ gen) := by
  refine .tail (fun e => ?_) (.tail (fun e => ?_) (.tail (fun e => ?_) (.head fun q hq => ?_)))
  · have e' : @Eq Nat 93 (L + 1 + 1 + 1) := e; omega
  · have e' : @Eq Nat (L + 1) (L + 1 + 1 + 1) := e; omega
  · have e' : @Eq Nat (L + 1 + 1) (L + 1 + 1 + 1) := e; omega
  · rcases List.mem_cons.mp hq with rfl | hq
    · intro e; have e' : @Eq Nat (L + 1 + 1 + 1 + 1) (L + 1 + 1 + 1) := e; omega
    rcases List.mem_cons.mp hq with rfl | hq
    · intro e; have e' : @Eq Nat (L + 1 + 1 + 1 + 1 + 1) (L + 1 + 1 + 1) := e; omega
    · exact (hG.off q hq).2.2.1
theorem upd_due {L : Addr} {ps : Array Value} {oB oW oK oD oH : Obj} {gen : List (Addr × Obj)} (hL : @LT.lt Nat _ 93 L) (hG : Gen L gen) : UpdF (L + 1 + 1 + 1 + 1) oD (cells L ps oB oW oK oD oH ++ gen) (fun o' => cells L ps oB oW oK o' oH ++ gen) := by
  refine .tail (fun e => ?_) (.tail (fun e => ?_) (.tail (fun e => ?_) (.tail (fun e => ?_) (.head fun q hq => ?_))))
  · have e' : @Eq Nat 93 (L + 1 + 1 + 1 + 1) := e; omega
  · have e' : @Eq Nat (L + 1) (L + 1 + 1 + 1 + 1) := e; omega
  · have e' : @Eq Nat (L + 1 + 1) (L + 1 + 1 + 1 + 1) := e; omega
  · have e' : @Eq Nat (L + 1 + 1 + 1) (L + 1 + 1 + 1 + 1) := e; omega
  · rcases List.mem_cons.mp hq with rfl | hq
    · intro e; have e' : @Eq Nat (L + 1 + 1 + 1 + 1 + 1) (L + 1 + 1 + 1 + 1) := e; omega
    · exact (hG.off q hq).2.2.2.1
theorem upd_whole {L : Addr} {ps : Array Value} {oB oW oK oD oH : Obj} {gen : List (Addr × Obj)} (hL : @LT.lt Nat _ 93 L) (hG : Gen L gen) : UpdF (L + 1 + 1 + 1 + 1 + 1) oH (cells L ps oB oW oK oD oH ++ gen) (fun o' => cells L ps oB oW oK oD o' ++ gen) := by
  refine .tail (fun e => ?_) (.tail (fun e => ?_) (.tail (fun e => ?_) (.tail (fun e => ?_) (.tail (fun e => ?_) (.head fun q hq => ?_)))))
  · have e' : @Eq Nat 93 (L + 1 + 1 + 1 + 1 + 1) := e; omega
  · have e' : @Eq Nat (L + 1) (L + 1 + 1 + 1 + 1 + 1) := e; omega
  · have e' : @Eq Nat (L + 1 + 1) (L + 1 + 1 + 1 + 1 + 1) := e; omega
  · have e' : @Eq Nat (L + 1 + 1 + 1) (L + 1 + 1 + 1 + 1 + 1) := e; omega
  · have e' : @Eq Nat (L + 1 + 1 + 1 + 1) (L + 1 + 1 + 1 + 1 + 1) := e; omega
  · exact (hG.off q hq).2.2.2.2.1
/-- from the head `D :: cells ++ gen` to `cells ++ D :: gen` -/
theorem cells_swap {h₀ h : Heap} {L D : Addr} {o : Obj} {cs gen : List (Addr × Obj)} (N : News h₀ L h ((D, o) :: (cs ++ gen))) : News h₀ L h (cs ++ ((D, o) :: gen)) := fun q hq => N q (by
  rcases List.mem_append.mp hq with hq | hq
  · exact .tail _ (List.mem_append_left _ hq)
  rcases List.mem_cons.mp hq with rfl | hq
  · exact .head _
  · exact .tail _ (List.mem_append_right _ hq))
/-- what is new above the whole ledger -/
theorem Gen.above {L D : Addr} {o : Obj} {ps : Array Value} {oB oW oK oD oH : Obj} {pre gen all : List (Addr × Obj)} (hL : @LT.lt Nat _ 93 L) (hG : Gen L gen) (l : AllLt D all) (hm : (L + 1 + 1 + 1 + 1 + 1, oH) ∈ all) : Gen L ((D, o) :: gen) :=
  hG.new hL (kst_ltOf l _ hm)
theorem due_ent {w : World} {b0 b1 b2 w2 x : Int} {r0 r1 r2 r3 ta : Tok} {news : List (Addr × Obj)} {e dd : Addr} {o : Obj} {c : Nat} (he : (e, tup5 (q2 b0 b1 x - b2 * q3 b0 b1 b2 x) r0 (x - b0 * q1 b0 x) r1 (q3 b0 b1 b2 x) r2 (q1 b0 x - b1 * q2 b0 b1 x) r3 dd c) ∈ news) (hd : (dd, o) ∈ news)
    (ho : DictIs w o [(Str.ofString "a", .int x ta)]) (hs : (dd == sysModules) = false) : EntR w b0 b1 b2 w2 news e (leafR b0 b1 b2 x) :=
  ⟨⟨r0, r1, r2, r3, dd, c, he, o, _, hd, ho, ⟨rfl, ⟨ta, rfl⟩, trivial⟩, hs⟩, fun _ => ⟨rfl, rfl, rfl⟩⟩
end
example {prog : Program} {w : World} {A : Around} {env : Env} {Q : Flow → Shared → Prop} {E : Value → Shared → Prop} {s : Shared} (h : Q .next s) : wpAny (model prog w) A (execs [] env) Q E s := by
  w_top off
  walk1
  exact h
section
theorem cells_off93 {L : Addr} {ps : Array Value} {c1 c2 c3 c4 c5 : Obj} {gen : List (Addr × Obj)} (hL : @LT.lt Nat _ 93 L) (hG : Gen L gen) : ∀ q ∈ (cells L ps c1 c2 c3 c4 c5 ++ gen).tail, q.1 ≠ 93 := fun q hq => by
  simp only [cells, List.cons_append, List.nil_append, List.tail_cons, List.mem_cons] at hq
  rcases hq with rfl | rfl | rfl | rfl | rfl | hq
  · exact Nat.ne_of_gt (Nat.lt_succ_of_lt hL)
  · exact Nat.ne_of_gt (Nat.lt_succ_of_lt (Nat.lt_succ_of_lt hL))
  · exact Nat.ne_of_gt (Nat.lt_succ_of_lt (Nat.lt_succ_of_lt (Nat.lt_succ_of_lt hL)))
  · exact Nat.ne_of_gt (Nat.lt_succ_of_lt (Nat.lt_succ_of_lt (Nat.lt_succ_of_lt (Nat.lt_succ_of_lt hL))))
  · exact Nat.ne_of_gt (Nat.lt_succ_of_lt (Nat.lt_succ_of_lt (Nat.lt_succ_of_lt (Nat.lt_succ_of_lt (Nat.lt_succ_of_lt hL)))))
  · exact (hG.off q hq).2.2.2.2.2
section
open PySem.Calls
variable {prog : Program} {w : World} {A : Around} {s : Shared} {news : List (Addr × Obj)} {h₀ : Heap} {L : Addr} {b0 b1 b2 w2 : Int}
theorem LineR.pair : ∀ {vs us : List Value} {rs : List Rc}, LineR w b0 b1 b2 w2 news vs rs → LineR w b0 b1 b2 w2 news us rs → ∀ j (h1 : j < vs.length) (h2 : j < us.length), ∃ e e' r, vs[j] = .ref e ∧ us[j] = .ref e' ∧ r ∈ rs ∧ EntR w b0 b1 b2 w2 news e r ∧ EntR w b0 b1 b2 w2 news e' r := by
  intro vs
  induction vs with
  | nil => intro us rs h h' j h1 h2; exact absurd h1 (Nat.not_lt_zero _)
  | cons a l ih =>
    intro us rs h h' j h1 h2
    cases us with
    | nil => exact absurd h2 (Nat.not_lt_zero _)
    | cons b m =>
      cases rs with
      | nil => exact h.elim
      | cons c r =>
        cases j with
        | zero => exact h.1.elim fun e x => h'.1.elim fun e' y => ⟨e, e', c, x.1, y.1, .head _, x.2, y.2⟩
        | succ j =>
          refine Mine.exand3_5 (ih h.2 h'.2 j (Nat.lt_of_succ_lt_succ h1) (Nat.lt_of_succ_lt_succ h2)) fun e e' q a b c d f => ?_
          exact ⟨e, e', q, a, b, .tail _ c, d, f⟩
theorem line_items (N : News h₀ L s.heap news) (hu : A.units + 40 < cLine) {vs us : List Value} {rs : List Rc} (h : LineR w b0 b1 b2 w2 news vs rs) (h' : LineR w b0 b1 b2 w2 news us rs) (hn : ∀ r ∈ rs, ((rcTab b0 b1 b2 w2 r).map (·.1)).Nodup) :
    ∀ j (h1 : j < vs.toArray.size) (h2 : j < us.toArray.size), EqW PySem.Challenge.rw_ph0128_01.row.prog w A.in1 s vs.toArray[j] us.toArray[j] := fun j h1 h2 => by
  refine Mine.exand3_5 (h.pair h' j (by simpa using h1) (by simpa using h2)) fun e e' r x y hr X Y => ?_
  rw [List.getElem_toArray, List.getElem_toArray, x, y]
  exact entEq N (show A.units + 1 + 32 < cLine by omega) (hn r hr) X.1 Y.1
theorem lineNe (N : News h₀ L s.heap news) (hu : A.units + 40 < cLine) {l b : Addr} {k k' : Nat} {vs us : List Value} {rs : List Rc} (hl : (l, listOf vs.toArray k) ∈ news) (hb : (b, listOf us.toArray k') ∈ news) (h : LineR w b0 b1 b2 w2 news vs rs) (h' : LineR w b0 b1 b2 w2 news us rs) (hn : ∀ r ∈ rs, ((rcTab b0 b1 b2 w2 r).map (·.1)).Nodup) {E Q : Value → Shared → Prop} (hq : Q (.bool false) s) :
    wpAny (model PySem.Challenge.rw_ph0128_01.row.prog w) A (compareOp .NotEq (.ref l) (.ref b)) Q E s :=
  RcW.listNe ⟨_, (N _ hl).1, rfl, _, rfl⟩ ⟨_, (N _ hb).1, rfl, _, rfl⟩ (by rw [List.size_toArray, List.size_toArray, h.length, h'.length]) (by omega) (line_items N hu h h' hn) E Q hq
theorem lineEq (N : News h₀ L s.heap news) (hu : A.units + 40 < cLine) {l b : Addr} {k k' : Nat} {vs us : List Value} {rs : List Rc} (hl : (l, listOf vs.toArray k) ∈ news) (hb : (b, listOf us.toArray k') ∈ news) (h : LineR w b0 b1 b2 w2 news vs rs) (h' : LineR w b0 b1 b2 w2 news us rs) (hn : ∀ r ∈ rs, ((rcTab b0 b1 b2 w2 r).map (·.1)).Nodup) {E Q : Value → Shared → Prop} (hq : Q (.bool true) s) :
    wpAny (model PySem.Challenge.rw_ph0128_01.row.prog w) A (compareOp .Eq (.ref l) (.ref b)) Q E s :=
  RcW.listEq ⟨_, (N _ hl).1, rfl, _, rfl⟩ ⟨_, (N _ hb).1, rfl, _, rfl⟩ (by rw [List.size_toArray, List.size_toArray, h.length, h'.length]) (by omega) (line_items N hu h h' hn) E Q hq
theorem leaf_nodup {b0 b1 b2 w2 : Int} {xs : List Int} : ∀ r ∈ xs.map (leafR b0 b1 b2), ((rcTab b0 b1 b2 w2 r).map (·.1)).Nodup := fun r hr => by
  refine Mine.exand1_2 (List.mem_map.mp hr) fun x _ ob19 => ?_
  subst ob19
  simp [rcTab, leafR]
/-- the rows' numbers, as _law_in_order reads them -/
theorem line_rows : ∀ {vs : List Value} {xs : List Int}, LineR w b0 b1 b2 w2 news vs (xs.map (leafR b0 b1 b2)) → All2 (RowV news) vs (xs.map fun x => (q2 b0 b1 x - b2 * q3 b0 b1 b2 x, x - b0 * q1 b0 x, q3 b0 b1 b2 x, q1 b0 x - b1 * q2 b0 b1 x)) := by
  intro vs
  induction vs with
  | nil => intro xs h; cases xs with | nil => trivial | cons b m => exact h.elim
  | cons a l ih => intro xs h; cases xs with | nil => exact h.elim | cons b m => exact ⟨h.1.elim fun e x => Mine.exand6_2 x.2.1 fun t1 t2 t3 t4 dd k he _ => ⟨e, t1, t2, t3, t4, dd, k, x.1, he⟩, ih h.2⟩
/-- TupleComp's word on two rows is that of their blocks -/
theorem order_at {xs : List Int} (h0 : b0 ≠ 0) (h1 : b1 ≠ 0) (h2 : b2 ≠ 0) {keys : Int} (hk0 : 0 ≤ keys) (hk4 : keys ≤ 4) (i j : Nat) (ri rj : Int × Int × Int × Int) (di dj : List Int)
    (a : (xs.map fun x => (q2 b0 b1 x - b2 * q3 b0 b1 b2 x, x - b0 * q1 b0 x, q3 b0 b1 b2 x, q1 b0 x - b1 * q2 b0 b1 x))[i]? = some ri) (b : (xs.map fun x => (q2 b0 b1 x - b2 * q3 b0 b1 b2 x, x - b0 * q1 b0 x, q3 b0 b1 b2 x, q1 b0 x - b1 * q2 b0 b1 x))[j]? = some rj)
    (c : (xs.map (blkL b0 b1 b2))[i]? = some di) (d : (xs.map (blkL b0 b1 b2))[j]? = some dj) :
    cmpF (RowOf ri) (RowOf rj) ((selOf b0 (b0 * b1) (b0 * b1 * b2)).take keys.toNat) = sideL di dj [1, b0, b0 * b1, b0 * b1 * b2] keys places := by
  rw [List.getElem?_map] at a b c d
  refine Mine.exand1_2 (Option.map_eq_some_iff.mp a) fun x hx ob29 => ?_
  subst ob29
  refine Mine.exand1_2 (Option.map_eq_some_iff.mp b) fun y hy ob39 => ?_
  subst ob39
  rw [hx] at c
  rw [hy] at d
  cases c
  cases d
  exact order_law (sign1 h0 h1 h2) (sign2 h0 h1 h2) (sign3 h0 h1 h2) keys hk0 hk4
end
theorem ints5 {vs : List Value} {a b c d e : Int} (h : IntsAre vs [a, b, c, d, e]) : ∃ t u v x y, vs = [.int a t, .int b u, .int c v, .int d x, .int e y] :=
  h.cons_inv.elim fun t h => h.elim fun _ h => (ints4 h.2).elim fun u e => e.elim fun v e => e.elim fun x e => e.elim fun y e => ⟨t, u, v, x, y, h.1.trans (congrArg _ e)⟩
theorem sum_bits : ∀ {xs : List Int} {n : Nat}, (∀ x ∈ xs, intBits x ≤ n) → intBits xs.sum ≤ n + xs.length
  | [], n, _ => by simp [Builtin.Int.intBits]
  | x :: r, n, h => by
    rw [List.sum_cons, List.length_cons]
    have h1 := h x (.head _)
    have h2 := sum_bits (xs := r) fun y hy => h y (.tail _ hy)
    exact bits_up (bits_add h1 h2) (by omega)
theorem Six.sum_bits {xs : List Int} (h : Six xs) : intBits xs.sum ≤ 2200006 := by
  have q := Mine.sum_bits h.bits
  rwa [h.len] at q
section
variable {prog : Program} {w : World} {A : Around} {E : Value → Shared → Prop} {s : Shared} {news : List (Addr × Obj)} {h₀ : Heap} {L : Addr}
theorem item_ints {value slice : Expr} {l : Addr} {vs : List Value} {zs : List Int} {n : Nat} {k : Int} {u : Tok} {Q : Value → Shared → Prop} (N : News h₀ L s.heap news) (hm : (l, listOf vs.toArray n) ∈ news) (I : IntsAre vs zs) (h0 : 0 ≤ k) (hk : k < (zs.length : Int)) (hz : zs.length ≤ 100) (h : ∀ t, Q (.int (zs.getD k.toNat 0) t) s)
    (hs : subscripted slice false (.ref l) (.int k u) = operate [.ref l, .int k u] (getItem (.ref l) (.int k u)) := by with_unfolding_all rfl) : wpAny (model prog w) A (subscriptTail value slice (.ref l) (.int k u)) Q E s := by
  have hlt : k.toNat < zs.length := by omega
  refine Mine.exand1_1 (I.get k.toNat (zs.getD k.toNat 0) (by rw [List.getD_eq_getElem?_getD, List.getElem?_eq_getElem hlt]; rfl)) fun t ht => ?_
  exact item_litK ⟨_, (N _ hm).1, rfl, _, rfl⟩ h0 (by omega) ht (h t) hs
end
/-- how much more the sum's blocks are, at place k -/
def upK (b0 b1 b2 : Int) (xs : List Int) (S k : Int) : Int := (blkL b0 b1 b2 S).getD k.toNat 0 - (xs.map fun x => (blkL b0 b1 b2 x).getD k.toNat 0).sum
theorem q_bits {b0 b1 b2 x : Int} {n : Nat} (z0 : b0 ≠ 0) (z1 : b1 ≠ 0) (z2 : b2 ≠ 0) (h : intBits x ≤ n) : intBits (q1 b0 x) ≤ n ∧ intBits (q2 b0 b1 x) ≤ n ∧ intBits (q3 b0 b1 b2 x) ≤ n := by
  have h1 : intBits (q1 b0 x) ≤ n := dm_bits (dm_of z0) h
  have h2 : intBits (q2 b0 b1 x) ≤ n := dm_bits (dm_of z1) h1
  exact ⟨h1, h2, dm_bits (dm_of z2) h2⟩
theorem Six.sumq_bits {xs : List Int} (h : Six xs) (f : Int → Int) (hf : ∀ x ∈ xs, intBits (f x) ≤ 2200000) : intBits (xs.map f).sum ≤ 2200006 := by
  have q := Mine.sum_bits (xs := xs.map f) (n := 2200000) fun y hy => by
    refine Mine.exand1_2 (List.mem_map.mp hy) fun x hx ob49 => ?_
    subst ob49
    exact hf x hx
  rwa [List.length_map, h.len] at q
theorem upK_bits {b0 b1 b2 S : Int} {xs : List Int} (z0 : b0 ≠ 0) (z1 : b1 ≠ 0) (z2 : b2 ≠ 0) (h : Six xs) (hS : intBits S ≤ 2200006) : intBits (upK b0 b1 b2 xs S 1) ≤ 2200007 ∧ intBits (upK b0 b1 b2 xs S 2) ≤ 2200007 ∧ intBits (upK b0 b1 b2 xs S 3) ≤ 2200007 := by
  refine Mine.exand0_3 (q_bits z0 z1 z2 hS) fun s1 s2 s3 => ?_
  have hx := fun x hx => q_bits (b0 := b0) (b1 := b1) (b2 := b2) z0 z1 z2 (h.bits x hx)
  exact ⟨bits_up (bits_sub s1 (h.sumq_bits (fun x => (blkL b0 b1 b2 x).getD 1 0) fun x m => (hx x m).1)) (by decide), bits_up (bits_sub s2 (h.sumq_bits (fun x => (blkL b0 b1 b2 x).getD 2 0) fun x m => (hx x m).2.1)) (by decide), bits_up (bits_sub s3 (h.sumq_bits (fun x => (blkL b0 b1 b2 x).getD 3 0) fun x m => (hx x m).2.2)) (by decide)⟩
/-- what the carries lose -/
def lostF (b0 b1 b2 : Int) (xs : List Int) (R0 R1 R2 R3 : Int) : Int := (xs.map fun x => (q2 b0 b1 x - b2 * q3 b0 b1 b2 x) + ((x - b0 * q1 b0 x) + (q3 b0 b1 b2 x + ((q1 b0 x - b1 * q2 b0 b1 x) + 0)))).sum - [R0, R1, R2, R3].sum
end
example {prog : Program} {w : World} {A : Around} {env : Env} {Q : Flow → Shared → Prop} {E : Value → Shared → Prop} {s : Shared} (h : Q .next s) : wpAny (model prog w) A (execs [] env) Q E s := by
  w_top off
  walk1
  exact h
section
theorem sum_places (b0 b1 b2 : Int) : ∀ xs : List Int, (xs.map fun x => (q2 b0 b1 x - b2 * q3 b0 b1 b2 x) + ((x - b0 * q1 b0 x) + (q3 b0 b1 b2 x + ((q1 b0 x - b1 * q2 b0 b1 x) + 0)))).sum =
    xs.sum + (xs.map fun x => q1 b0 x).sum * (1 - b0) + (xs.map fun x => q2 b0 b1 x).sum * (1 - b1) + (xs.map fun x => q3 b0 b1 b2 x).sum * (1 - b2)
  | [] => by simp
  | x :: r => by
    have ih := sum_places b0 b1 b2 r
    simp only [List.map_cons, List.sum_cons]
    rw [ih]
    generalize q1 b0 x = u1
    generalize q2 b0 b1 x = u2
    generalize q3 b0 b1 b2 x = u3
    generalize (List.map (fun x => q1 b0 x) r).sum = z1
    generalize (List.map (fun x => q2 b0 b1 x) r).sum = z2
    generalize (List.map (fun x => q3 b0 b1 b2 x) r).sum = z3
    grind
theorem lost_law (b0 b1 b2 : Int) (xs : List Int) : upK b0 b1 b2 xs xs.sum 1 * (b0 - 1) + upK b0 b1 b2 xs xs.sum 2 * (b1 - 1) + upK b0 b1 b2 xs xs.sum 3 * (b2 - 1) =
    lostF b0 b1 b2 xs (q2 b0 b1 xs.sum - b2 * q3 b0 b1 b2 xs.sum) (xs.sum - b0 * q1 b0 xs.sum) (q3 b0 b1 b2 xs.sum) (q1 b0 xs.sum - b1 * q2 b0 b1 xs.sum) := by
  have e1 : upK b0 b1 b2 xs xs.sum 1 = q1 b0 xs.sum - (xs.map fun x => q1 b0 x).sum := rfl
  have e2 : upK b0 b1 b2 xs xs.sum 2 = q2 b0 b1 xs.sum - (xs.map fun x => q2 b0 b1 x).sum := rfl
  have e3 : upK b0 b1 b2 xs xs.sum 3 = q3 b0 b1 b2 xs.sum - (xs.map fun x => q3 b0 b1 b2 x).sum := rfl
  rw [e1, e2, e3]
  unfold lostF
  rw [sum_places]
  simp only [List.sum_cons, List.sum_nil]
  generalize q1 b0 xs.sum = u1
  generalize q2 b0 b1 xs.sum = u2
  generalize q3 b0 b1 b2 xs.sum = u3
  generalize (List.map (fun x => q1 b0 x) xs).sum = z1
  generalize (List.map (fun x => q2 b0 b1 x) xs).sum = z2
  generalize (List.map (fun x => q3 b0 b1 b2 x) xs).sum = z3
  grind
theorem leaf_tot (b0 b1 b2 : Int) (xs : List Int) : Tot (xs.map (leafR b0 b1 b2)) xs.sum (xs.map fun x => q1 b0 x).sum (xs.map fun x => q2 b0 b1 x).sum (xs.map fun x => q3 b0 b1 b2 x).sum := by
  constructor <;> rw [List.map_map] <;> first | rfl | (congr 1; exact List.map_id _)
theorem GT.nil : GT #[] := .inl rfl
def cells5 (L : Addr) (oB oW oK oD oH : Obj) : List (Addr × Obj) := [(L + 1, oB), (L + 1 + 1, oW), (L + 1 + 1 + 1, oK), (L + 1 + 1 + 1 + 1, oD), (L + 1 + 1 + 1 + 1 + 1, oH)]
theorem cells5_off {L : Addr} {oB oW oK oD oH : Obj} {gen : List (Addr × Obj)} (hL : @LT.lt Nat _ 93 L) (hG : Gen L gen) : ∀ q ∈ cells5 L oB oW oK oD oH ++ gen, q.1 ≠ 93 := fun q hq => by
  rcases List.mem_append.mp hq with hq | hq
  · simp only [cells5, List.mem_cons, List.not_mem_nil, or_false] at hq
    rcases hq with rfl | rfl | rfl | rfl | rfl
    · intro e; have e' : @Eq Nat (L + 1) 93 := e; omega
    · intro e; have e' : @Eq Nat (L + 1 + 1) 93 := e; omega
    · intro e; have e' : @Eq Nat (L + 1 + 1 + 1) 93 := e; omega
    · intro e; have e' : @Eq Nat (L + 1 + 1 + 1 + 1) 93 := e; omega
    · intro e; have e' : @Eq Nat (L + 1 + 1 + 1 + 1 + 1) 93 := e; omega
  · exact (hG.off q hq).2.2.2.2.2
theorem Gen.app {L : Addr} {oB oW oK oD oH : Obj} {new gen : List (Addr × Obj)} (hL : @LT.lt Nat _ 93 L) (hG : Gen L gen) (l : ∀ q ∈ new, AllLt q.1 (cells5 L oB oW oK oD oH ++ gen)) : Gen L (new ++ gen) := fun q hq => by
  rcases List.mem_append.mp hq with hq | hq
  · have g : @LT.lt Nat _ (L + 1 + 1 + 1 + 1 + 1) q.1 := kst_ltOf (l q hq) (L + 1 + 1 + 1 + 1 + 1, oH) (List.mem_append_left _ (.tail _ (.tail _ (.tail _ (.tail _ (.head _))))))
    exact ⟨.inl g, by omega⟩
  · exact hG q hq
/-- the sum of the rows' things at place k -/
def placeSum (b0 b1 b2 : Int) (xs : List Int) (k : Int) : Int := (xs.map fun x => rowAt (q2 b0 b1 x - b2 * q3 b0 b1 b2 x) (x - b0 * q1 b0 x) (q3 b0 b1 b2 x) (q1 b0 x - b1 * q2 b0 b1 x) k).sum
theorem place0 (b0 b1 b2 : Int) (xs : List Int) : sumOf (fun r => q2 b0 b1 r.S - b2 * q3 b0 b1 b2 r.S) (xs.map (leafR b0 b1 b2)) = placeSum b0 b1 b2 xs 0 := by unfold sumOf placeSum; rw [List.map_map]; rfl
theorem place1 (b0 b1 b2 : Int) (xs : List Int) : sumOf (fun r => r.S - b0 * q1 b0 r.S) (xs.map (leafR b0 b1 b2)) = placeSum b0 b1 b2 xs 1 := by unfold sumOf placeSum; rw [List.map_map]; rfl
theorem place2 (b0 b1 b2 : Int) (xs : List Int) : sumOf (fun r => q3 b0 b1 b2 r.S) (xs.map (leafR b0 b1 b2)) = placeSum b0 b1 b2 xs 2 := by unfold sumOf placeSum; rw [List.map_map]; rfl
theorem place3 (b0 b1 b2 : Int) (xs : List Int) : sumOf (fun r => q1 b0 r.S - b1 * q2 b0 b1 r.S) (xs.map (leafR b0 b1 b2)) = placeSum b0 b1 b2 xs 3 := by unfold sumOf placeSum; rw [List.map_map]; rfl
theorem placeS (b0 b1 b2 : Int) (xs : List Int) : sumOf Rc.S (xs.map (leafR b0 b1 b2)) = xs.sum := by unfold sumOf; rw [List.map_map]; exact congrArg List.sum (List.map_id xs)
end
example {prog : Program} {w : World} {A : Around} {env : Env} {Q : Flow → Shared → Prop} {E : Value → Shared → Prop} {s : Shared} (h : Q .next s) : wpAny (model prog w) A (execs [] env) Q E s := by
  w_top off
  walk1
  exact h
section
theorem sum_lin (f g : Int → Int) (c : Int) : ∀ xs : List Int, (xs.map fun x => f x - c * g x).sum = (xs.map f).sum - c * (xs.map g).sum
  | [] => by simp
  | x :: r => by
    have ih := sum_lin f g c r
    simp only [List.map_cons, List.sum_cons, ih]
    rw [Int.mul_add]
    omega
theorem place_bits {b : Int} {f : Int → Int} {xs : List Int} (h : xs.length = 6) (hf : ∀ x ∈ xs, intBits (f x) ≤ 1048576) : intBits (xs.map f).sum ≤ 4000000 := by
  have q := sum_bits (xs := xs.map f) (n := 1048576) fun y hy => by
    refine Mine.exand1_2 (List.mem_map.mp hy) fun x hx ob19 => ?_
    subst ob19
    exact hf x hx
  rw [List.length_map, h] at q
  exact bits_up q (by decide)
theorem place_bits0 {b0 b1 b2 : Int} {xs : List Int} (z : b2 ≠ 0) (h : xs.length = 6) (q : intBits b2 ≤ 1048576) : intBits (placeSum b0 b1 b2 xs 0) ≤ 4000000 :=
  place_bits (b := b2) (f := fun x => q2 b0 b1 x - b2 * q3 b0 b1 b2 x) h fun x _ => dm_rest (dm_of (a := q2 b0 b1 x) z) q
theorem place_bits1 {b0 b1 b2 : Int} {xs : List Int} (z : b0 ≠ 0) (h : xs.length = 6) (q : intBits b0 ≤ 1048576) : intBits (placeSum b0 b1 b2 xs 1) ≤ 4000000 :=
  place_bits (b := b0) (f := fun x => x - b0 * q1 b0 x) h fun x _ => dm_rest (dm_of (a := x) z) q
theorem place_bits3 {b0 b1 b2 : Int} {xs : List Int} (z : b1 ≠ 0) (h : xs.length = 6) (q : intBits b1 ≤ 1048576) : intBits (placeSum b0 b1 b2 xs 3) ≤ 4000000 :=
  place_bits (b := b1) (f := fun x => q1 b0 x - b1 * q2 b0 b1 x) h fun x _ => dm_rest (dm_of (a := q1 b0 x) z) q
theorem whole_carry {b0 b1 b2 up one more two la th : Int} {xs : List Int} (h1 : DM (placeSum b0 b1 b2 xs 1) b0 up one) (h2 : DM (placeSum b0 b1 b2 xs 3 + up) b1 more two) (h3 : DM (placeSum b0 b1 b2 xs 0 + more) b2 la th) :
    up = upK b0 b1 b2 xs xs.sum 1 ∧ more = upK b0 b1 b2 xs xs.sum 2 ∧ la = upK b0 b1 b2 xs xs.sum 3 ∧ one = xs.sum - b0 * q1 b0 xs.sum ∧ two = q1 b0 xs.sum - b1 * q2 b0 b1 xs.sum ∧ th = q2 b0 b1 xs.sum - b2 * q3 b0 b1 b2 xs.sum ∧ placeSum b0 b1 b2 xs 2 + la = q3 b0 b1 b2 xs.sum := by
  have p0 : placeSum b0 b1 b2 xs 0 = (xs.map fun x => q2 b0 b1 x).sum - b2 * (xs.map fun x => q3 b0 b1 b2 x).sum := sum_lin _ _ _ xs
  have p1 : placeSum b0 b1 b2 xs 1 = xs.sum - b0 * (xs.map fun x => q1 b0 x).sum := by
    have := sum_lin (fun x => x) (fun x => q1 b0 x) b0 xs
    rw [show (xs.map fun x => x) = xs from List.map_id xs] at this
    exact this
  have p2 : placeSum b0 b1 b2 xs 2 = (xs.map fun x => q3 b0 b1 b2 x).sum := rfl
  have p3 : placeSum b0 b1 b2 xs 3 = (xs.map fun x => q1 b0 x).sum - b1 * (xs.map fun x => q2 b0 b1 x).sum := sum_lin _ _ _ xs
  have e1 : upK b0 b1 b2 xs xs.sum 1 = q1 b0 xs.sum - (xs.map fun x => q1 b0 x).sum := rfl
  have e2 : upK b0 b1 b2 xs xs.sum 2 = q2 b0 b1 xs.sum - (xs.map fun x => q2 b0 b1 x).sum := rfl
  have e3 : upK b0 b1 b2 xs xs.sum 3 = q3 b0 b1 b2 xs.sum - (xs.map fun x => q3 b0 b1 b2 x).sum := rfl
  rw [e1, e2, e3, p2]
  rw [p1] at h1
  rw [p3] at h2
  rw [p0] at h3
  clear e1 e2 e3 p0 p1 p2 p3
  generalize (xs.map fun x => q1 b0 x).sum = s1 at *
  generalize (xs.map fun x => q2 b0 b1 x).sum = s2 at *
  generalize (xs.map fun x => q3 b0 b1 b2 x).sum = s3 at *
  have g1 := dm_fdiv (dm_shift (k := s1) h1)
  rw [show xs.sum - b0 * s1 + b0 * s1 = xs.sum by omega] at g1
  have a1 : up + s1 = q1 b0 xs.sum := g1.1
  have o1 : one = xs.sum - b0 * q1 b0 xs.sum := g1.2
  rw [show s1 - b1 * s2 + up = q1 b0 xs.sum - b1 * s2 by omega] at h2
  have g2 := dm_fdiv (dm_shift (k := s2) h2)
  rw [show q1 b0 xs.sum - b1 * s2 + b1 * s2 = q1 b0 xs.sum by omega] at g2
  have a2 : more + s2 = q2 b0 b1 xs.sum := g2.1
  have o2 : two = q1 b0 xs.sum - b1 * q2 b0 b1 xs.sum := g2.2
  rw [show s2 - b2 * s3 + more = q2 b0 b1 xs.sum - b2 * s3 by omega] at h3
  have g3 := dm_fdiv (dm_shift (k := s3) h3)
  rw [show q2 b0 b1 xs.sum - b2 * s3 + b2 * s3 = q2 b0 b1 xs.sum by omega] at g3
  have a3 : la + s3 = q3 b0 b1 b2 xs.sum := g3.1
  have o3 : th = q2 b0 b1 xs.sum - b2 * q3 b0 b1 b2 xs.sum := g3.2
  exact ⟨by omega, by omega, by omega, o1, o2, o3, by omega⟩
theorem merged_one (S up more la w2 : Int) : merged' [(Str.ofString "a", .int S)] (carryT up more la w2) = fourT S up more (more * w2) la := by
  simp [carryT, fourT, merged', mergeC, cellAt', nab, nac, nad, nba, nbc, nbd, nca, ncb, ncd, nda, ndb, ndc]
theorem mergeOk_one (S up more la w2 : Int) : MergeOk [(Str.ofString "a", .int S)] (carryT up more la w2) :=
  mergeOk_of (fun p hp => by rw [List.mem_singleton.mp hp]; exact ⟨fun e => absurd e nac, fun _ => ⟨_, rfl⟩⟩) (kind_carry up more la w2) (show 1 ≤ 100 by decide) (show 3 ≤ 100 by decide)
end
example {prog : Program} {w : World} {A : Around} {env : Env} {Q : Flow → Shared → Prop} {E : Value → Shared → Prop} {s : Shared} (h : Q .next s) : wpAny (model prog w) A (execs [] env) Q E s := by
  w_top off
  walk1
  exact h
section
open PyProof.Rows in
theorem my_post {M : Model} {A : Around} {cd : Code} {s s₁ : Shared} {cw : ClaimW} {cl : Str → Option Addr} {mean : ExcName → Option Value} {args : List WData} {tabs : List (Addr × Addr)} (hT : TabsAt tabs s₁.heap) (hr : ∀ a x, cw.raises a x = false)
    (h : codeAny M A cd (fun r s' => GoodW cw cl mean args { s₁ with heap := ghostOf s₁.heap tabs } r { s' with gens := #[] } ∧ AllBare s'.gens ∧ GrownAll tabs s'.heap) s) : codeAny M A cd (GoodWG cw cl mean args s₁) s :=
  codeAny_mono h fun r s' hX => by
    refine Mine.exand0_3 hX fun ob19 hg hgr => ?_
    refine Mine.exand0_4 ob19 fun hc hk hos _ => ?_
    try clear ob19
    try clear hX
    have keep : ∀ b o, b ∉ tabs.map (·.2) → s₁.heap.get? b = some o → s'.heap.get? b = some o := fun b o hb e => hk b o (ghost_ne e hb)
    have grown : ∀ b o, b ∈ tabs.map (·.2) → s₁.heap.get? b = some o → isCodeTable s₁.heap b ∧ o = tabObj #[] ∧ ∃ ps, s'.heap.get? b = some (tabObj ps) := fun b o hb e => by
      refine Mine.exand1_2 (List.mem_map.mp hb) fun q hq ob29 => ?_
      subst ob29
      have e2 := (hT q hq).2
      rw [e] at e2
      exact ⟨((hT q hq).1.tab (hT q hq).2).isCodeTable, Option.some.inj e2, hgr.get q hq⟩
    refine ⟨?_, ⟨fun b o e => ?_, fun b o e => ?_⟩, hos, hg⟩
    · rcases hc with ⟨v, d, as, r1, r2, r3, r4, r5⟩ | ⟨e, ob, x, _, _, _, r4, _⟩
      · refine .inl ⟨v, d, as, r1, r2, r3, r4, fun q => ⟨(r5 q).1, fun a ha => ?_⟩⟩
        cases q1 : s₁.heap.get? a with
        | none => rfl
        | some o =>
          by_cases hb : a ∈ tabs.map (·.2)
          · obtain ⟨_, _, ps, hP⟩ := (grown a o hb q1)
            exact absurd ha (readsW_apart hP rfl r3)
          · have e3 := (r5 q).2 a ha
            rw [show (ghostOf s₁.heap tabs).get? a = some o from ghost_ne q1 hb] at e3
            cases e3
      · rw [hr] at r4; cases r4
    · by_cases hb : b ∈ tabs.map (·.2)
      · obtain ⟨ht, ob39, ps, hP⟩ := (grown b o hb e)
        subst ob39
        exact .inr (.inl ⟨ht, rfl, #[], ps, rfl, by rw [Array.empty_append]; exact hP⟩)
      · exact .inl (keep b o hb e)
    · by_cases hb : b ∈ tabs.map (·.2)
      · obtain ⟨_, _, ps, hP⟩ := (grown b o hb e)
        exact ⟨_, hP⟩
      · exact ⟨o, keep b o hb e⟩

theorem newsAdd {h₀ h : Heap} {L : Addr} {x : Addr × Obj} {all news : List (Addr × Obj)} (N : News h₀ L h all) (hx : x ∈ all) (N' : News h₀ L h news) : News h₀ L h (x :: news) := fun p hp => (List.mem_cons.mp hp).elim (fun e => e ▸ N x hx) (N' p)
/-- the law's own def -/
def lawDef : Option (List Stmt × Scope) := match PySem.Challenge.rw_ph0128_01.row.prog.main.body.drop 25 with
  | .FunctionDef _ _ b _ _ _ sc _ _ _ :: _ => some (b, sc)
  | _ => none
def lawBody : List Stmt := match lawDef with | some x => x.1 | none => []
def lawScope : Scope := match lawDef with | some x => x.2 | none => { kind := .function, names := [], isGenerator := false, isCoroutine := false, more := [] }
abbrev lawEnv (L fa : Addr) (cd : Value) : Env := envOfC (Str.ofString "law") lawScope L fa cd
abbrev lawA (L fa : Addr) (cd : Value) : Around := callerA.deeper (lawEnv L fa cd)
/-- what the law's walk may lean on -/
structure LawAt (w : World) (p : Program) (loose : List Str) (mean : ExcName → Option Value) (mg mb : Str → Option Value) (base : Heap) (L sl : Addr) (ns : List Int) (svs : List Value) : Prop where
  X : (hd.heap_1 w.params).In base
  T : Top p loose mean mg mb base
  B : Below callerA base [] base
  NS : base.NoSeer
  C1 : CodeHd base 34 30
  C2 : CodeHd base 41 37
  C3 : CodeHd base 97 93
  S : base.IsList sl svs.toArray
  I : IntsAre svs ns
  len : ns.length ≤ 63
  bits : ∀ x ∈ ns, intBits x ≤ 1048576
  low : @LT.lt Nat _ 93 L ∧ @LT.lt Nat _ 37 L ∧ @LT.lt Nat _ 30 L
def LawEnd (base : Heap) (L : Addr) (s : Shared) (Q : Flow → Shared → Prop) : Prop :=
  ∀ h tk gs m news ps, Fr base L h m → News base L h news → (93, tabObj ps) ∈ news → HotN news → AllBare gs → Q (.ret (.bool true)) { s with heap := h, toks := tk, gens := gs }
/-- the kinds of the law's names -/
theorem lk_script (L fa : Addr) (cd : Value) : (envX (Str.ofString "law") lawScope L fa cd (cellsFrom (L + 1) lawScope.names [])).kindOf (Str.ofString "script") = some .local := by kernel_rfl
theorem lk_spare (L fa : Addr) (cd : Value) : (envX (Str.ofString "law") lawScope L fa cd (cellsFrom (L + 1) lawScope.names [])).kindOf (Str.ofString "spare") = some .local := by kernel_rfl
theorem lk_drawn (L fa : Addr) (cd : Value) : (envX (Str.ofString "law") lawScope L fa cd (cellsFrom (L + 1) lawScope.names [])).kindOf (Str.ofString "drawn") = some .local := by kernel_rfl
theorem lk_numbers (L fa : Addr) (cd : Value) : (envX (Str.ofString "law") lawScope L fa cd (cellsFrom (L + 1) lawScope.names [])).kindOf (Str.ofString "numbers") = some .local := by kernel_rfl
theorem lk_draws (L fa : Addr) (cd : Value) : (envX (Str.ofString "law") lawScope L fa cd (cellsFrom (L + 1) lawScope.names [])).kindOf (Str.ofString "draws") = some .local := by kernel_rfl
theorem lk_rows (L fa : Addr) (cd : Value) : (envX (Str.ofString "law") lawScope L fa cd (cellsFrom (L + 1) lawScope.names [])).kindOf (Str.ofString "rows") = some .local := by kernel_rfl
theorem lk_up (L fa : Addr) (cd : Value) : (envX (Str.ofString "law") lawScope L fa cd (cellsFrom (L + 1) lawScope.names [])).kindOf (Str.ofString "up") = some .local := by kernel_rfl
theorem lk_table (L fa : Addr) (cd : Value) : (envX (Str.ofString "law") lawScope L fa cd (cellsFrom (L + 1) lawScope.names [])).kindOf (Str.ofString "table") = some .local := by kernel_rfl
theorem lk_row (L fa : Addr) (cd : Value) : (envX (Str.ofString "law") lawScope L fa cd (cellsFrom (L + 1) lawScope.names [])).kindOf (Str.ofString "row") = some .local := by kernel_rfl
theorem lk_lost (L fa : Addr) (cd : Value) : (envX (Str.ofString "law") lawScope L fa cd (cellsFrom (L + 1) lawScope.names [])).kindOf (Str.ofString "lost") = some .local := by kernel_rfl
theorem lk_added (L fa : Addr) (cd : Value) : (envX (Str.ofString "law") lawScope L fa cd (cellsFrom (L + 1) lawScope.names [])).kindOf (Str.ofString "added") = some .local := by kernel_rfl
theorem lk_bases (L fa : Addr) (cd : Value) : (envX (Str.ofString "law") lawScope L fa cd (cellsFrom (L + 1) lawScope.names [])).kindOf (Str.ofString "bases") = some .cell := by kernel_rfl
theorem lk_worths (L fa : Addr) (cd : Value) : (envX (Str.ofString "law") lawScope L fa cd (cellsFrom (L + 1) lawScope.names [])).kindOf (Str.ofString "worths") = some .cell := by kernel_rfl
theorem lk_whole (L fa : Addr) (cd : Value) : (envX (Str.ofString "law") lawScope L fa cd (cellsFrom (L + 1) lawScope.names [])).kindOf (Str.ofString "whole") = some .cell := by kernel_rfl
theorem lk_blocks (L fa : Addr) (cd : Value) : (envX (Str.ofString "law") lawScope L fa cd (cellsFrom (L + 1) lawScope.names [])).kindOf (Str.ofString "blocks") = some .cell := by kernel_rfl
theorem lk_due (L fa : Addr) (cd : Value) : (envX (Str.ofString "law") lawScope L fa cd (cellsFrom (L + 1) lawScope.names [])).kindOf (Str.ofString "due") = some .cell := by kernel_rfl
theorem lk_fun : lawScope.kind = .function := by kernel_rfl
theorem lc_bases (L : Addr) : (cellsFrom (L + 1) lawScope.names []).lookup (Str.ofString "bases") = some (L + 1) := by kernel_rfl
theorem lc_worths (L : Addr) : (cellsFrom (L + 1) lawScope.names []).lookup (Str.ofString "worths") = some (L + 1 + 1) := by kernel_rfl
theorem lc_blocks (L : Addr) : (cellsFrom (L + 1) lawScope.names []).lookup (Str.ofString "blocks") = some (L + 1 + 1 + 1) := by kernel_rfl
theorem lc_due (L : Addr) : (cellsFrom (L + 1) lawScope.names []).lookup (Str.ofString "due") = some (L + 1 + 1 + 1 + 1) := by kernel_rfl
theorem lc_whole (L : Addr) : (cellsFrom (L + 1) lawScope.names []).lookup (Str.ofString "whole") = some (L + 1 + 1 + 1 + 1 + 1) := by kernel_rfl
theorem ns_ghost {h : Heap} {tabs : List (Addr × Addr)} {a : Addr} {m : Str → Option Value} (hT : TabsAt tabs h) (x : h.Ns a m) : (ghostOf h tabs).Ns a m := by
  refine Mine.exand3_3 x fun o es ep e hd r => ?_
  try clear x
  exact ⟨o, es, ep, ghost_get hT e (fun q => by rw [q] at hd; cases hd), hd, r⟩
theorem noSeer_ghost {h : Heap} {tabs : List (Addr × Addr)} (hT : TabsAt tabs h) (x : h.NoSeer) : (ghostOf h tabs).NoSeer where
  statics := Mine.exand1_2 x.statics fun mc a b => ⟨mc, ns_ghost hT a, b⟩
  mods := Mine.exand1_2 x.mods fun mc a b => ⟨mc, ns_ghost hT a, b⟩
  imp := Mine.exand1_2 x.imp fun mc a b => ⟨mc, ns_ghost hT a, b⟩
  main := Mine.exand3_5 x.main fun mg bm ob a b c d e => ⟨mg, bm, ob, ns_ghost hT a, b, ghost_get hT c (fun q => by rw [q] at d; cases d), d, e⟩
theorem law_entry (H : ∀ (w : World) (p : Program) (loose : List Str) (mean : ExcName → Option Value) (mg mb : Str → Option Value) (base : Heap) (L sl fa : Addr) (cd : Value) (ns : List Int) (svs : List Value) (s : Shared) (c1 c2 c3 c4 c5 : Obj) (Q : Flow → Shared → Prop) (E : Value → Shared → Prop),
      LawAt w p loose mean mg mb base L sl ns svs → Fr base L s.heap (fun y => if y = Str.ofString "script" then some (.ref sl) else none) →
      News base L s.heap [(L + 1 + 1 + 1 + 1 + 1, c5), (L + 1 + 1 + 1 + 1, c4), (L + 1 + 1 + 1, c3), (L + 1 + 1, c2), (L + 1, c1), (93, tabObj #[]), (37, tabObj #[]), (30, tabObj #[])] → c1.data = .cell none → c2.data = .cell none → c3.data = .cell none → c4.data = .cell none → c5.data = .cell none →
      AllBare s.gens → LawEnd base L s Q → wpAny (model PySem.Challenge.rw_ph0128_01.row.prog w) (lawA L fa cd) (execs lawBody (lawEnv L fa cd)) Q E s) : PySem.Challenge.rw_ph0128_01.Holds := by
  refine Mine.hd ?_
  k_fill
  intro w s₀ s₁ mg mb G Y fa o pm cd doc dV kV ho hd hcd hD hmg hg args vals as hpre hlay hrd hwl hlo
  have KX := km_in_of Y
  km_tabs Y
  have X := (Ground.X G).1
  have V := (Ground.X G).2
  refine Ground.open G ?_
  intro T B D TE TW
  try (refine guard_noD D (by decide +kernel) ?_; clear D)
  have hT9 : TabsAt [(97, 93), (41, 37), (34, 30)] s₁.heap := fun q hq => by
    simp only [List.mem_cons, List.not_mem_nil, or_false] at hq
    rcases hq with rfl | rfl | rfl
    · exact tab_of (x := PySem.Str.ofString "add_callers") (c := 97) (P := 93) T KX rfl (by kernel_rfl)
    · exact ⟨codeHd_of_K KX (by kernel_rfl), hT8 37 (by k_mem)⟩
    · exact ⟨codeHd_of_K KX (by kernel_rfl), hT8 30 (by k_mem)⟩
  clear hmg
  wrow_args hpre hlay hrd hwl hlo
  all_goals (
    first | refine callC_kw (enter_call ?_) | refine enter_call ?_
    w_top on
    refine my_post hT9 (fun _ _ => rfl) ?_
    w_call any ho hd hcd hD T F
    clear hd
    kn_ghosts F T
    k_drop)
  all_goals try k_fold
  rename_i ns hs hl0 hlay hwa hwb ia ib sl svs ic hL ra wl1 rd0 hI hr0 hlen htt h0 tk0' c5 c4 c3 c2 c1 d5 d4 d3 d2 d1 X0 X1 T1 K1 F1 C3' C2' N1 l0
  have hMk := kstMark
  have NS1 := noSeer_ghost hT9 (Top.seer T (by decide +kernel))
  generalize hbase : ghostOf s₁.heap [(97, 93), (41, 37), (34, 30)] = base at *
  have F2 : Fr base s₁.heap.objs.size h0 (fun y => if y = Str.ofString "script" then some (.ref sl) else none) := fr_as F1 (by
    first
    | rfl
    | (with_unfolding_all rfl))
  clear F1
  replace d5 : c5.data = .cell none := d5
  replace d4 : c4.data = .cell none := d4
  replace d3 : c3.data = .cell none := d3
  replace d2 : c2.data = .cell none := d2
  replace d1 : c1.data = .cell none := d1
  clear X0
  have hbits : ∀ x ∈ ns, intBits x ≤ 1048576 := fun x hx => intBits_le_of_item hx hlay
  refine H w _ _ _ mg mb base s₁.heap.objs.size sl fa cd ns svs _ c1 c2 c3 c4 c5 _ _ ⟨X1, T1, K1, NS1, by assumption, by assumption, by assumption, by assumption, hI, by omega, hbits, l0⟩ F2 N1 d1 d2 d3 d4 d5 (AllBare.of_eq hg) ?_
  intro h tk gs m news ps F N h93 hot hb
  refine Mine.exand2_4 hot fun T1' T2' ob49 ob59 m1 m2 => ?_
  refine Mine.exand4_2 ob49 fun q1 q2 q3 q4 e1 _ => ?_
  try clear ob49
  refine Mine.exand4_2 ob59 fun r1 r2 r3 r4 e2 _ => ?_
  try clear ob59
  try clear hot
  exact ⟨goodW_bool F rfl (fun _ => rfl) (by wrow_post), hb, GrownAt.of N h93, GrownAt.of N (m2 _ (by rw [e2]; exact .tail _ (.head _))), GrownAt.of N (m1 _ (by rw [e1]; exact .tail _ (.head _))), trivial⟩
end
example {prog : Program} {w : World} {A : Around} {env : Env} {Q : Flow → Shared → Prop} {E : Value → Shared → Prop} {s : Shared} (h : Q .next s) : wpAny (model prog w) A (execs [] env) Q E s := by
  w_top off
  walk1
  exact h
section
open PyProof.Rows.LCg PyProof.Rows.LCp
section
variable {prog : Program} {w : World} {A : Around} {E : Value → Shared → Prop} {s : Shared} {h₀ : Heap} {L : Addr} {m : Str → Option Value} {env : Env}
/-- a list comprehension over a pair of names that has its iterable -/
def ZipComp (prog : Program) (w : World) (A : Around) (env : Env) (elt : Expr) (x x₂ : Str) (px px₂ tp : Pos) (tk : Nat) (iter : Expr) (scope : Scope) (cl : List (Str × Addr)) (pos : Pos) (Q : Value → Shared → Prop) (E : Value → Shared → Prop) (xv : Value) (s₁ : Shared) : Prop :=
  wpAny (model prog w) A (pyIter xv) (fun it s₂ => wpAny (model prog w) A (newList []) (fun acc s₃ =>
      wpAny (model prog w) A (newFunctionEnv scope env.globals cl [] env.qual none .none (some env)) (fun cenv s₄ =>
        codeAny (model prog w) A (.compStart (.ListComp elt [⟨.Tuple [.Name x px, .Name x₂ px₂] tk tp, iter, [], 0⟩] scope pos) 0 it acc { cenv with scope := relabel scope env }) (compPost (model prog w) A E none Q acc cenv.locals) s₄) E s₃) E s₂) E s₁
theorem ListComp_Z {elt iter : Expr} {x x₂ : Str} {px px₂ tp : Pos} {tk} {scope : Scope} {cl : List (Str × Addr)} {pos : Pos} {Q : Value → Shared → Prop}
    (hclos : closureFor scope env = pure cl) (hkind : scope.kind = .function)
    (hnames : ∀ y ∈ scope.names, y.2 = .local → scope.names.lookup y.1 = some .local)
    (h : wpAny (model prog w) A (eval iter env) (ZipComp prog w A env elt x x₂ px px₂ tp tk iter scope cl pos Q E) E s)
    (hs : ∀ x, foldedSetIterable iter env x = pure x := by intro _; rfl) :
    wpAny (model prog w) A (eval (.ListComp elt [⟨.Tuple [.Name x px, .Name x₂ px₂] tk tp, iter, [], 0⟩] scope pos) env) Q E s := by
  rw [eval_ListComp]
  exact wpAny_comprehension_free (use := none) rfl hs hclos hkind hnames h

theorem comp_zip {elt iter : Expr} {x x₂ : Str} {px px₂ tp : Pos} {tk} {scope : Scope} {cl : List (Str × Addr)} {pos : Pos} {Q : Value → Shared → Prop} {l1 l2 : Addr} {xs ys : Array Value} {k1 k2 : Nat} {news : List (Addr × Obj)} (hh : A.handled = none)
    (hcell : ∀ y ∈ scope.names, y.2 ≠ .cell) (hkind : scope.kind = .function) (hx : scope.names.lookup x = some .local) (hx₂ : scope.names.lookup x₂ = some .local) (hxx : x ≠ x₂)
    (F : Fr h₀ L s.heap m) (N : News h₀ L s.heap news) (hl1 : (l1, listOf xs k1) ∈ news) (hl2 : (l2, listOf ys k2) ∈ news) (hsz : ys.size = xs.size) (hle : xs.size ≤ sizeLine)
    (J : Nat → List Value → Prop) (h0 : J 0 [])
    (turn : ∀ i v₁ v₂ us C oC D m₂ own h tk (E' : Value → Shared → Prop), xs[i]? = some v₁ → ys[i]? = some v₂ → J i us → NsObj oC m₂ → m₂ x = some v₁ → m₂ x₂ = some v₂ → Fr h₀ L h m → News h₀ L h ((C, oC) :: (D, lst us) :: (own ++ news)) →
      wpAny (model prog w) A (eval elt (compEnvC scope cl C env)) (fun v s' => ∃ h' tk', s' = { s with heap := h', toks := tk' } ∧ Fr h₀ L h' m ∧ News h₀ L h' ((C, oC) :: (D, lst us) :: (own ++ news)) ∧ J (i + 1) (us ++ [v])) E' { s with heap := h, toks := tk })
    (done : ∀ D us h tk, J xs.size us → us.length = xs.size → Fr h₀ L h m → News h₀ L h ((D, lst us) :: news) → (∀ p ∈ news, p.1 < D) → Q (.ref D) { s with heap := h, toks := tk }) :
    wpAny (model prog w) A (call (.type "zip") [.ref l1, .ref l2]) (ZipComp prog w A env elt x x₂ px px₂ tp tk iter scope cl pos Q E) E s := by
  have a1 : l1 < s.heap.objs.size := Heap.lt_size (N _ hl1).1
  have a2 : l2 < s.heap.objs.size := Heap.lt_size (N _ hl2).1
  have hIL : L < s.heap.objs.size := F.ns.lt
  have hlt0 : ∀ p ∈ news, p.1 < s.heap.objs.size := fun p hp => Heap.lt_size (N p hp).1
  refine call_zip_2 ⟨_, (N _ hl1).1, rfl, _, rfl⟩ ⟨_, (N _ hl2).1, rfl, _, rfl⟩ fun h' hz hTI hTO hi1 hi2 hsz' hk => ?_
  generalize hn : s.heap.objs.size = n at *
  have D0 := zipApart_new a1 a2
  have W := WalksT.zip2 (prog := prog) (w := w) hh (n + 4) (n + 2) (n + 3) n (n + 1) l1 l2 D0 xs ys
  have hmin : min xs.size ys.size = xs.size := by rw [hsz]; exact Nat.min_self _
  rw [hmin] at W
  have fresh : ∀ b, n ≤ b → h₀.get? b = none := fun b hb => Heap.get?_none_of_le (Nat.le_trans F.above (Nat.le_trans (Nat.le_of_lt hIL) hb))
  have hLn : ∀ b, n ≤ b → L ≠ b := fun b hb e => Nat.lt_irrefl _ (Nat.lt_of_lt_of_le (e ▸ hIL) hb)
  have hwn : ∀ b ∈ [n + 4, n + 3, n, n + 1], n ≤ b ∧ b < n + 5 := fun b hb => by
    simp only [List.mem_cons, List.not_mem_nil, or_false] at hb
    rcases hb with rfl | rfl | rfl | rfl <;> exact ⟨by simp, by omega⟩
  have hfn : ∀ b ∈ [n + 4, n + 2, n + 3, n, n + 1, l1, l2], b < n + 5 := fun b hb => by
    simp only [List.mem_cons, List.not_mem_nil, or_false] at hb
    have a1' : @LT.lt Nat _ l1 n := a1
    have a2' : @LT.lt Nat _ l2 n := a2
    rcases hb with rfl | rfl | rfl | rfl | rfl | rfl | rfl
    · exact Nat.add_lt_add_left (by decide) n
    · exact Nat.add_lt_add_left (by decide) n
    · exact Nat.add_lt_add_left (by decide) n
    · exact Nat.lt_add_of_pos_right (by decide)
    · exact Nat.add_lt_add_left (by decide) n
    · exact Nat.lt_of_lt_of_le a1' (Nat.le_add_right _ _)
    · exact Nat.lt_of_lt_of_le a2' (Nat.le_add_right _ _)
  have hC5 : h'.objs.size = n + 5 := hsz'
  refine W.self 0 _ _ _ ⟨hz, hTI, ⟨_, _, hTO⟩, hi1, hi2, ⟨_, hk _ _ (N _ hl1).1, rfl, _, rfl⟩, ⟨_, hk _ _ (N _ hl2).1, rfl, _, rfl⟩⟩ ?_
  refine wpAny_newObj_type (wpAny_newFunctionEnv hcell (by intro y hy; simp at hy) (fun h₁ hns₁ hsb₁ => ?_) hkind)
  dsimp only at hns₁ hsb₁ ⊢
  generalize hH2 : h'.push { cls := .type "list", dict := none, data := .seq ([] : List Value).toArray } = H2 at hns₁ hsb₁ ⊢
  have hC : H2.objs.size = n + 6 := by rw [← hH2, Heap.size_push, hC5]
  rw [hC5]
  rw [hC] at hns₁ hsb₁ ⊢
  have hDC : n + 5 ≠ n + 6 := by omega
  have old : ∀ b o, b < n + 5 → h'.get? b = some o → h₁.get? b = some o := fun b o hb e => hsb₁.extBut b o (Nat.ne_of_lt (Nat.lt_succ_of_lt hb)) (Heap.get?_push_of_some _ (hH2 ▸ Heap.get?_push_of_some _ e))
  have hacc0 : H2.get? h'.objs.size = some (lst []) := hH2 ▸ Heap.get?_push_size _ rfl
  rw [hC5] at hacc0
  have hacc : h₁.get? (n + 5) = some (lst []) := hsb₁.extBut _ _ hDC (Heap.get?_push_of_some _ hacc0)
  have old' : ∀ b o, s.heap.get? b = some o → h₁.get? b = some o := fun b o e => old b o (Nat.lt_of_lt_of_le (hn ▸ Heap.lt_size e) (Nat.le_add_right _ _)) (hk b o e)
  have hLw : L ∉ [n + 4, n + 3, n, n + 1] := fun hb => hLn _ (hwn _ hb).1 rfl
  have hnw : ∀ p ∈ news, p.1 ∉ [n + 4, n + 3, n, n + 1] := fun p hp hb => Nat.lt_irrefl _ (Nat.lt_of_lt_of_le (hlt0 p hp) (hwn _ hb).1)
  have hst1 := W.frame 0 h' h₁ ⟨hz, hTI, ⟨_, _, hTO⟩, hi1, hi2, ⟨_, hk _ _ (N _ hl1).1, rfl, _, rfl⟩, ⟨_, hk _ _ (N _ hl2).1, rfl, _, rfl⟩⟩ fun b hb o e => old b o (hfn b hb) e
  have oldw : ∀ b o, h₀.get? b = some o → b ∉ [n + 4, n + 3, n, n + 1] := fun b o e hb => by rw [fresh b (hwn _ hb).1] at e; cases e
  have F1 : Fr h₀ L h₁ m := F.keeps old'
  have c5 : n + 5 ∉ [n + 4, n + 3, n, n + 1] := fun hb => Nat.lt_irrefl _ (hwn _ hb).2
  have c6 : n + 6 ∉ [n + 4, n + 3, n, n + 1] := fun hb => by have := (hwn _ hb).2; omega
  have f5 : ∀ b ∈ [n + 4, n + 2, n + 3, n, n + 1, l1, l2], b ≠ n + 5 := fun b hb => Nat.ne_of_lt (hfn b hb)
  have f6 : ∀ b ∈ [n + 4, n + 2, n + 3, n, n + 1, l1, l2], b ≠ n + 6 := fun b hb => Nat.ne_of_lt (Nat.lt_succ_of_lt (hfn b hb))
  have hn5 : ∀ p ∈ news, p.1 ≠ n + 5 := fun p hp => Nat.ne_of_lt (Nat.lt_of_lt_of_le (hlt0 p hp) (Nat.le_add_right _ _))
  have hn6 : ∀ p ∈ news, p.1 ≠ n + 6 := fun p hp => Nat.ne_of_lt (Nat.lt_of_lt_of_le (hlt0 p hp) (Nat.le_add_right _ _))
  have loop : ∀ s₃ : Shared, s₃ = { s with heap := h₁, toks := s.toks + ([] : List (Str × Value)).length } →
      codeAny (model prog w) A (.compLoop (.ListComp elt [⟨.Tuple [.Name x px, .Name x₂ px₂] tk tp, iter, [], 0⟩] scope pos) 0 (.ref (n + 4)) (.ref (n + 5)) (compEnvC scope cl (n + 6) env))
        (compPost (model prog w) A E none Q (.ref (n + 5)) (n + 6)) s₃ := by
    rintro s₃ rfl
    let I9 : Nat → Shared → Prop := fun k s' => ∃ h'' tk i us m', s' = { s with heap := h'', toks := tk } ∧ i ≤ xs.size ∧ k = xs.size + 1 - i ∧ us.length = i ∧ (IsZip h'' (n + 4) (n + 2) (n + 3) .none ∧ IsPair h'' (n + 2) (.ref n) (.ref (n + 1)) ∧ (∃ a b, IsPair h'' (n + 3) a b) ∧ h''.IsListIter n l1 i ∧ h''.IsListIter (n + 1) l2 i ∧ h''.IsList l1 xs ∧ h''.IsList l2 ys) ∧
        Fr h₀ L h'' m ∧ h''.Ns (n + 6) m' ∧ News h₀ L h'' ((n + 5, lst us) :: news) ∧ J i us
    refine codeAny_compLoop_pair I9 ?_ (xs.size + 1)
      ⟨h₁, _, 0, [], _, rfl, Nat.zero_le _, rfl, rfl, hst1, F1, hns₁, fun p hp => ?_, h0⟩
    · intro k s' ob19
      refine Mine.exand5_9 ob19 fun H tk' i us m' ob29 hi ob39 hul hst' F' hn' N' hJ => ?_
      subst ob29
      subst ob39
      try clear ob19
      have nxt : ∀ h₁ : Heap, (∀ b o, b ∉ [n + 4, n + 3, n, n + 1] → H.get? b = some o → h₁.get? b = some o) → Fr h₀ L h₁ m ∧ News h₀ L h₁ ((n + 5, lst us) :: news) ∧ h₁.Ns (n + 6) m' := fun h₁ hk₁ =>
        ⟨⟨F'.ns.at' fun o e => hk₁ _ o hLw e, fun b o e => hk₁ b o (oldw b o e) (F'.keep b o e), F'.above⟩, fun p hp => ⟨hk₁ _ _ (by
          rcases List.mem_cons.mp hp with rfl | hp
          · exact c5
          · exact hnw p hp) (N' p hp).1, (N' p hp).2⟩, hn'.at' fun o e => hk₁ _ o c6 e⟩
      by_cases hlt : i < xs.size
      · refine W.item i _ _ _ hlt hst' fun T vals h₁ tk₁ hPt _ hT hMid hk₁ => ?_
        refine Mine.exand2_3 hPt fun v0 v1 hx' hy' ob49 => ?_
        subst ob49
        try clear hPt
        dsimp only
        refine W.go _ _ _ i T _ _ _ hMid fun h₂ hst₂ hk₂ => ?_
        have ht₂ : h₂.IsTuple T #[v0, v1] := hT.at fun o e => hk₂ T o (W.apart i T h₁ hMid) e
        refine wpAny_assign_Tuple hh ht₂ rfl rfl fun h₃ hx₃ => ?_
        replace hx₃ : Heap.ExtBut h₂.objs.size h₂ h₃ := hx₃
        have up₃ : ∀ b o, h₂.get? b = some o → h₃.get? b = some o := fun b o e => hx₃ b o (Nat.ne_of_lt (Heap.lt_size e)) e
        refine Mine.exand0_3 (nxt h₃ fun b o hb e => up₃ b o (hk₂ b o hb (hk₁ b o hb e))) fun F₃ N₃ C₃ => ?_
        show wpAny _ A (do holding [v1] (assign (.Name x px) (compEnvC scope cl (n + 6) env) v0); do holding [] (assign (.Name x₂ px₂) (compEnvC scope cl (n + 6) env) v1); pure ()) _ _ _
        have hkc : ((compEnvC scope cl (n + 6) env).scope.kind == .class || ((compEnvC scope cl (n + 6) env).scope.kind == .module && (compEnvC scope cl (n + 6) env).locals != (compEnvC scope cl (n + 6) env).globals)) = false := by simp [compEnvC, relabel, hkind]
        refine wpAny_bind (wpAny_holding (wpAny_assign_Name (wpAny_storeName_local (lookup_relabel_local hx) C₃ (fun h₄ hn₄ hs₄ => ?_) hkc)))
        replace hs₄ : Heap.SameBut (n + 6) h₃ h₄ := hs₄
        have n6 : h₀.get? (n + 6) = none := fresh _ (Nat.le_add_right _ _)
        have n5 : h₀.get? (n + 5) = none := fresh _ (Nat.le_add_right _ _)
        have L6 : n + 6 ≠ L := (hLn _ (Nat.le_add_right _ _)).symm
        have L5 : n + 5 ≠ L := (hLn _ (Nat.le_add_right _ _)).symm
        refine wpAny_bind (wpAny_holding (wpAny_assign_Name (wpAny_storeName_local (lookup_relabel_local hx₂) hn₄ (fun h₅ hn₅ hs₅ => wpAny_pure ?_) hkc)))
        replace hs₅ : Heap.SameBut (n + 6) h₄ h₅ := hs₅
        have up5 : ∀ b o, b ≠ n + 6 → h₃.get? b = some o → h₅.get? b = some o := fun b o hb e => hs₅.extBut b o hb (hs₄.extBut b o hb e)
        have F₅ : Fr h₀ L h₅ m := (F₃.change hs₄ L6 n6).change hs₅ L6 n6
        have N₅ : News h₀ L h₅ ((n + 5, lst us) :: news) := fun p hp => ⟨up5 _ _ (by
          rcases List.mem_cons.mp hp with rfl | hp
          · exact hDC
          · exact hn6 p hp) (N₃ p hp).1, (N₃ p hp).2⟩
        have hst₅ := W.frame (i + 1) h₂ h₅ hst₂ fun b hb o e => up5 b o (f6 b hb) (up₃ b o e)
        refine Mine.exand1_2 (ns_obj hn₅) fun oC eC hoC => ?_
        refine Mine.exand0_7 (id hst₅) fun q1 q2 ob59 ob69 ob79 q6 q7 => ?_
        refine Mine.exand2_1 ob59 fun aa bb q3 => ?_
        try clear ob59
        refine Mine.exand1_3 ob69 fun o4 q4 q4c q4d => ?_
        try clear ob69
        refine Mine.exand1_3 ob79 fun o5 q5 q5c q5d => ?_
        try clear ob79
        have ob89 : ∃ oz, h₅.get? (n + 4) = some oz ∧ ∀ h : Heap, h.get? (n + 4) = some oz → IsZip h (n + 4) (n + 2) (n + 3) .none := ⟨_, q1, fun _ e => e⟩
        refine Mine.exand1_2 ob89 fun oz ez bz => ?_
        try clear ob89
        have ob99 : ∃ oz, h₅.get? (n + 2) = some oz ∧ ∀ h : Heap, h.get? (n + 2) = some oz → IsPair h (n + 2) (.ref n) (.ref (n + 1)) := ⟨_, q2, fun _ e => e⟩
        refine Mine.exand1_2 ob99 fun o2 e2 b2 => ?_
        try clear ob99
        have ob109 : ∃ oz, h₅.get? (n + 3) = some oz ∧ ∀ h : Heap, h.get? (n + 3) = some oz → IsPair h (n + 3) aa bb := ⟨_, q3, fun _ e => e⟩
        refine Mine.exand1_2 ob109 fun o3 e3 b3 => ?_
        try clear ob109
        have ledg : ∀ b o, n ≤ b → h₅.get? b = some o → h₅.get? b = some o ∧ b ≠ L ∧ h₀.get? b = none := fun b o hb e => ⟨e, (hLn b hb).symm, fresh b hb⟩
        have N5 : News h₀ L h₅ ((n + 6, oC) :: (n + 5, lst us) :: ([(n + 4, oz), (n + 2, o2), (n + 3, o3), (n, o4), (n + 1, o5)] ++ news)) := fun p hp => by
          simp only [List.mem_cons, List.cons_append, List.nil_append] at hp
          rcases hp with rfl | rfl | rfl | rfl | rfl | rfl | rfl | hp
          · exact ledg _ _ (Nat.le_add_right _ _) eC
          · exact N₅ _ (.head _)
          · exact ledg _ _ (Nat.le_add_right _ _) ez
          · exact ledg _ _ (Nat.le_add_right _ _) e2
          · exact ledg _ _ (Nat.le_add_right _ _) e3
          · exact ledg _ _ (Nat.le_refl _) q4
          · exact ledg _ _ (Nat.le_add_right _ _) q5
          · exact N₅ p (.tail _ hp)
        refine wpAny_mono (turn i v0 v1 us (n + 6) oC (n + 5) _ _ h₅ _ _ hx' hy' hJ hoC (by simp [hxx]) (by simp) F₅ N5) (fun y s₆ h₆ => ?_) fun _ _ e => e
        refine Mine.exand2_4 h₆ fun h6 tk6 ob119 F6 N6 J6 => ?_
        subst ob119
        try clear h₆
        refine append_at (hsz := by show us.toArray.size ≤ sizeLine; rw [List.size_toArray, hul]; exact Nat.le_trans hi hle) (N6 _ (.tail _ (.head _))).1 fun h7 hs7 hD7 => ?_
        have k7 : ∀ p, p ∈ ((n + 4, oz) :: (n + 2, o2) :: (n + 3, o3) :: (n, o4) :: (n + 1, o5) :: news) → h7.get? p.1 = some p.2 := fun p hp => hs7.extBut _ _ (by
          rcases List.mem_cons.mp hp with rfl | hp
          · exact f5 _ (by simp)
          rcases List.mem_cons.mp hp with rfl | hp
          · exact f5 _ (by simp)
          rcases List.mem_cons.mp hp with rfl | hp
          · exact f5 _ (by simp)
          rcases List.mem_cons.mp hp with rfl | hp
          · exact f5 _ (by simp)
          rcases List.mem_cons.mp hp with rfl | hp
          · exact f5 _ (by simp)
          · exact hn5 p hp) (N6 _ (.tail _ (.tail _ hp))).1
        refine ⟨xs.size + 1 - (i + 1), by omega, h7, tk6, i + 1, us ++ [y], _, rfl, hlt, rfl, by rw [List.length_append, List.length_singleton, hul],
          ⟨bz _ (k7 _ (.head _)), b2 _ (k7 _ (.tail _ (.head _))), ⟨aa, bb, b3 _ (k7 _ (.tail _ (.tail _ (.head _))))⟩, ⟨o4, k7 _ (.tail _ (.tail _ (.tail _ (.head _)))), q4c, q4d⟩, ⟨o5, k7 _ (.tail _ (.tail _ (.tail _ (.tail _ (.head _))))), q5c, q5d⟩,
            ⟨_, k7 _ (.tail _ (.tail _ (.tail _ (.tail _ (.tail _ hl1))))), rfl, _, rfl⟩, ⟨_, k7 _ (.tail _ (.tail _ (.tail _ (.tail _ (.tail _ hl2))))), rfl, _, rfl⟩⟩,
          F6.change hs7 L5 n5, (hoC.ns (N6 _ (.head _)).1).sameBut hs7 (Ne.symm hDC), fun p hp => ?_, J6⟩
        rcases List.mem_cons.mp hp with rfl | hp
        · exact ⟨hD7.trans (congrArg some (lst_snoc us y)), L5, n5⟩
        · exact ⟨k7 p (.tail _ (.tail _ (.tail _ (.tail _ (.tail _ hp))))), (N6 p (.tail _ (.tail _ (List.mem_append_right _ hp)))).2⟩
      · obtain rfl : i = xs.size := Nat.le_antisymm hi (Nat.not_lt.mp hlt)
        refine W.done _ _ _ hst' fun h₂ tk₂ hk₂ => ?_
        refine Mine.exand0_3 (nxt h₂ hk₂) fun F₂ N₂ C₂ => ?_
        refine ⟨m', C₂, fun h'' hs'' => done _ us h'' tk₂ hJ hul (F₂.change hs'' ((hLn _ (Nat.le_add_right _ _)).symm) (fresh _ (Nat.le_add_right _ _))) (fun p hp => ⟨hs''.extBut _ _ ?_ (N₂ p hp).1, (N₂ p hp).2⟩) fun p hp => Nat.lt_of_lt_of_le (hlt0 p hp) (Nat.le_add_right _ _)⟩
        rcases List.mem_cons.mp hp with rfl | hp
        · exact hDC
        · exact hn6 p hp
    · rcases List.mem_cons.mp hp with rfl | hp
      · exact ⟨hacc, (hLn _ (Nat.le_add_right _ _)).symm, fresh _ (Nat.le_add_right _ _)⟩
      · exact ⟨old' _ _ (N p hp).1, (N p hp).2⟩
  exact codeAny_compStart_list (loop _ rfl) (W.self 0 _ _ _ hst1 (loop _ rfl))
end
end
example {prog : Program} {w : World} {A : Around} {env : Env} {Q : Flow → Shared → Prop} {E : Value → Shared → Prop} {s : Shared} (h : Q .next s) : wpAny (model prog w) A (execs [] env) Q E s := by
  w_top off
  walk1
  exact h
section
open PyProof.Rows.LCg
section
variable {prog : Program} {w : World} {A : Around} {E : Value → Shared → Prop} {s : Shared} {h₀ : Heap} {L : Addr} {m : Str → Option Value} {env : Env}
/-- a comprehension by turns, by what holds between the turns -/
theorem compRest_ind {elt : Expr} {x : Str} {scope : Scope} {cl : List (Str × Addr)} {S : List (Addr × Obj) → Prop} {P : Nat → Value → Prop} {Fin : List Value → List (Addr × Obj) → Prop} {n : Nat} (J : Nat → List Value → List (Addr × Obj) → Prop)
    (turn : ∀ i ys news v I oI C oC D m₂ h tk (E' : Value → Shared → Prop), i < n → P i v → J i ys news → NsObj oC m₂ → m₂ x = some v → Fr h₀ L h m → News h₀ L h ((I, oI) :: (C, oC) :: (D, lst ys) :: news) → Off3 I C D news → ((@Ne Nat I C) ∧ (@Ne Nat I D) ∧ (@Ne Nat C D)) →
      wpAny (model prog w) A (eval elt (compEnvC scope cl C env)) (CompEnd h₀ L m { s with heap := h, toks := tk } I oI C oC D (lst ys) S (fun y news' => Stop (J (i + 1) (ys ++ [y]) news'))) E' { s with heap := h, toks := tk })
    (done : ∀ ys news, J n ys news → Fin ys news) : ∀ k i ys news, i + k = n → J i ys news → CompRest prog w A h₀ L m env elt x scope cl s S P Fin k i ys news := by
  intro k
  induction k with
  | zero => intro i ys news e hJ; exact CompRest.zero (done _ _ (by rw [← e]; exact hJ))
  | succ k ih =>
    intro i ys news e hJ
    refine CompRest.succ fun v I oI C oC D m₂ h tk E' hv ho hx F N off ne => ?_
    refine wpAny_mono (turn i ys news v I oI C oC D m₂ h tk E' (by omega) hv hJ ho hx F N off ne) (fun y s₂ p => ?_) fun _ _ e => e
    refine Mine.exand3_6 p fun h' tk' news' e' F' N' off' hS r => ?_
    try clear p
    exact ⟨h', tk', news', e', F', N', off', hS, ih (i + 1) (ys ++ [y]) news' (by omega) r⟩

theorem newEnv_cell1 {M : Model} {scope : Scope} {globals : Addr} {x : Str} {cl : List (Str × Addr)} {qual : Str} {Q : Env → Shared → Prop} (hcf : ∀ n, cellsFrom n scope.names cl = (x, n) :: cl)
    (hpc : ∀ h, pushCells h scope.names = h.push { cls := .type "cell", data := .cell none })
    (h : Q { scope, locals := s.heap.objs.size, globals, cells := (x, s.heap.objs.size + 1) :: cl, qual, func := none, code := env.code, frame := env.frame, builtins := env.builtins }
      { s with heap := (s.heap.push { cls := .type "dict", data := .dict #[] }).push { cls := .type "cell", data := .cell none } }) :
    wpAny M A (newFunctionEnv scope globals cl [] qual none .none (some env)) Q E s := by
  simp only [newFunctionEnv, Option.isSome_some, if_true]
  refine wpAny_bind (wpAny_alloc ?_)
  refine wpAny_bind (wpAny_layCells _ (fun name kind cells => by cases hkc : kind == NameKind.cell <;> simp [hkc]) _ _ _ _ ?_)
  rw [show ({ s with heap := s.heap.push { cls := .type "dict", data := .dict #[] } } : Shared).heap.objs.size = s.heap.objs.size + 1 from Heap.size_push ..]
  rw [hcf]
  show wpAny M A _ _ E { s with heap := pushCells (s.heap.push { cls := .type "dict", data := .dict #[] }) scope.names }
  rw [hpc]
  simp only [List.forIn_nil]
  exact wpAny_bind (wpAny_pure (wpAny_pure h))

end
end
example {prog : Program} {w : World} {A : Around} {env : Env} {Q : Flow → Shared → Prop} {E : Value → Shared → Prop} {s : Shared} (h : Q .next s) : wpAny (model prog w) A (execs [] env) Q E s := by
  w_top off
  walk1
  exact h
section
open PyProof.Rows.LCg
section
variable {prog : Program} {w : World} {A : Around} {E : Value → Shared → Prop} {s : Shared} {h₀ : Heap} {L : Addr} {m : Str → Option Value} {env : Env}
/-- a list comprehension whose one name is a cell of its own (a block within reads it) -/
theorem block_C2 {elt iter : Expr} {x : Str} {px : Pos} {scope : Scope} {cl : List (Str × Addr)} {pos : Pos} {s₂ : Shared} {I : Addr} {fp : List Addr} {n : Nat} {P : Nat → Value → Prop} {St : Nat → Heap → Prop} {news : List (Addr × Obj)} {RR : Value → Addr → Result → Shared → Prop}
    (W : Walks prog w A I fp [I] n P St) (hsz : n ≤ sizeLine) (hIo : ∀ i h, St i h → ∃ o, h.get? I = some o)
    (hcf : ∀ n, cellsFrom n scope.names cl = (x, n) :: cl) (hpc : ∀ h, pushCells h scope.names = h.push { cls := .type "cell", data := .cell none }) (hkind : scope.kind = .function)
    (hxk : ∀ c C, (compEnvC scope ((x, c) :: cl) C env).kindOf x = some .cell) (hst : St 0 s₂.heap) (hfp : ∀ b ∈ fp, b = I ∨ ∃ o, (b, o) ∈ news)
    (F : Fr h₀ L s₂.heap m) (N : News h₀ L s₂.heap news) (hIL : L ≠ I) (hI₀ : h₀.get? I = none) (hIlt : I < s₂.heap.objs.size) (off : ∀ p ∈ news, p.1 ≠ I)
    (J : Nat → List Value → Prop) (h0 : J 0 [])
    (turn : ∀ i v us oI C oC c oc D h tk (E' : Value → Shared → Prop), i < n → P i v → J i us → oc.data = .cell (some v) → Fr h₀ L h m → News h₀ L h ((I, oI) :: (C, oC) :: (c, oc) :: (D, lst us) :: news) →
      wpAny (model prog w) A (eval elt (compEnvC scope ((x, c) :: cl) C env)) (fun y s' => ∃ h' tk', s' = { s₂ with heap := h', toks := tk' } ∧ Fr h₀ L h' m ∧ News h₀ L h' ((I, oI) :: (C, oC) :: (c, oc) :: (D, lst us) :: news) ∧ Stop (J (i + 1) (us ++ [y]))) E' { s₂ with heap := h, toks := tk })
    (done : ∀ D C us h tk m', J n us → us.length = n → Fr h₀ L h m → News h₀ L h ((D, lst us) :: news) → h.Ns C m' → h₀.get? C = none → C ≠ L → D ≠ C → (∀ p ∈ news, p.1 ≠ C) → (∀ p ∈ news, p.1 < D) → RR (.ref D) C (.ok .next) { s₂ with heap := h, toks := tk }) :
    wpAny (model prog w) A (newList []) (fun acc s₃ => wpAny (model prog w) A (newFunctionEnv scope env.globals cl [] env.qual none .none (some env)) (fun cenv s₄ =>
      codeAny (model prog w) A (.compStart (.ListComp elt [⟨.Name x px, iter, [], 0⟩] scope pos) 0 (.ref I) acc { cenv with scope := relabel scope env }) (RR acc cenv.locals) s₄) E s₃) E s₂ := by
  refine wpAny_newObj_type (newEnv_cell1 hcf hpc ?_)
  dsimp only
  generalize hz : s₂.heap.objs.size = z
  have hI : I < z := hz ▸ hIlt
  have hLz : L < z := hz ▸ F.ns.lt
  have hnz : ∀ p ∈ news, p.1 < z := fun p hp => hz ▸ Heap.lt_size (N p hp).1
  have fresh : ∀ b, z ≤ b → h₀.get? b = none := fun b hb => Heap.get?_none_of_le (Nat.le_trans F.above (Nat.le_trans (Nat.le_of_lt hLz) hb))
  generalize hH1 : s₂.heap.push { cls := .type "list", dict := none, data := .seq ([] : List Value).toArray } = H1
  have z1 : H1.objs.size = z + 1 := by rw [← hH1, Heap.size_push, hz]
  rw [z1]
  have old1 : ∀ b o, s₂.heap.get? b = some o → H1.get? b = some o := fun b o e => hH1 ▸ Heap.get?_push_of_some _ e
  have hD1 : H1.get? z = some (lst []) := by rw [← hz, ← hH1]; exact Heap.get?_push_size _ rfl
  generalize hH2 : H1.push { cls := .type "dict", data := .dict #[] } = H2
  have z2 : H2.objs.size = z + 2 := by rw [← hH2, Heap.size_push, z1]
  have old2 : ∀ b o, H1.get? b = some o → H2.get? b = some o := fun b o e => hH2 ▸ Heap.get?_push_of_some _ e
  have hC2 : H2.Ns (z + 1) (fun _ => none) := by rw [← z1, ← hH2]; exact Heap.Ns.new H1 (.type "dict")
  generalize hH3 : H2.push { cls := .type "cell", data := .cell none } = H3
  have old3 : ∀ b o, H2.get? b = some o → H3.get? b = some o := fun b o e => hH3 ▸ Heap.get?_push_of_some _ e
  have hc3 : H3.IsCell (z + 2) none := ⟨_, by rw [← z2, ← hH3]; exact Heap.get?_push_size _ rfl, rfl⟩
  have old : ∀ b o, s₂.heap.get? b = some o → H3.get? b = some o := fun b o e => old3 _ _ (old2 _ _ (old1 _ _ e))
  have hst3 : St 0 H3 := W.frame _ _ _ hst fun b _ o e => old b o e
  have hfz : ∀ b ∈ fp, b < z := fun b hb => (hfp b hb).elim (fun e => e ▸ hI) fun ⟨o, hm⟩ => hnz _ hm
  have dz : h₀.get? z = none := fresh _ (Nat.le_refl _)
  have dz1 : h₀.get? (z + 1) = none := fresh _ (Nat.le_add_right _ _)
  have dz2 : h₀.get? (z + 2) = none := fresh _ (Nat.le_add_right _ _)
  have Lz : z ≠ L := Nat.ne_of_gt hLz
  have Lz1 : z + 1 ≠ L := Nat.ne_of_gt (Nat.lt_succ_of_lt hLz)
  have Lz2 : z + 2 ≠ L := Nat.ne_of_gt (Nat.lt_succ_of_lt (Nat.lt_succ_of_lt hLz))
  have e01 : z ≠ z + 1 := by omega
  have e02 : z ≠ z + 2 := by omega
  have e12 : z + 1 ≠ z + 2 := by omega
  have lz : ∀ b, b < z → b ≠ z ∧ b ≠ z + 1 ∧ b ≠ z + 2 := fun b hb => ⟨Nat.ne_of_lt hb, Nat.ne_of_lt (Nat.lt_succ_of_lt hb), Nat.ne_of_lt (Nat.lt_succ_of_lt (Nat.lt_succ_of_lt hb))⟩
  have loop : ∀ s₃ : Shared, s₃ = { s₂ with heap := H3 } →
      codeAny (model prog w) A (.compLoop (.ListComp elt [⟨.Name x px, iter, [], 0⟩] scope pos) 0 (.ref I) (.ref z) (compEnvC scope ((x, z + 2) :: cl) (z + 1) env)) (RR (.ref z) (z + 1)) s₃ := by
    rintro s₃ rfl
    let I9 : Nat → Shared → Prop := fun k s' => ∃ h' tk i us m' vc, s' = { s₂ with heap := h', toks := tk } ∧ i ≤ n ∧ k = n + 1 - i ∧ us.length = i ∧ St i h' ∧ Fr h₀ L h' m ∧ h'.Ns (z + 1) m' ∧ h'.IsCell (z + 2) vc ∧ News h₀ L h' ((z, lst us) :: news) ∧ J i us
    refine codeAny_compLoop_tests I9 ?_ (n + 1)
      ⟨H3, s₂.toks, 0, [], _, _, rfl, Nat.zero_le _, rfl, rfl, hst3, F.keeps old, hC2.keeps old3, hc3, fun p hp => ?_, h0⟩
    · intro k s' ob19
      refine Mine.exand6_10 ob19 fun h' tk i us m' vc ob29 hi ob39 hul hst' F' hn' hc' N' hJ => ?_
      subst ob29
      subst ob39
      try clear ob19
      by_cases hlt : i < n
      · refine W.item i _ _ _ hlt hst' fun v h₂ tk₂ hPv hst₂ hk₂ => ?_
        have kI : ∀ b o, b ≠ I → h'.get? b = some o → h₂.get? b = some o := fun b o hb e => hk₂ b o (by simpa using hb) e
        have I1 : z + 1 ≠ I := Nat.ne_of_gt (Nat.lt_succ_of_lt hI)
        have I2 : z + 2 ≠ I := Nat.ne_of_gt (Nat.lt_succ_of_lt (Nat.lt_succ_of_lt hI))
        have I0 : z ≠ I := Nat.ne_of_gt hI
        refine Mine.exand1_2 hc' fun oc0 ec0 dc0 => ?_
        try clear hc'
        have hc₂ : h₂.IsCell (z + 2) vc := ⟨oc0, kI _ _ I2 ec0, dc0⟩
        refine wpAny_assign_Name (wpAny_storeName_cell (c := z + 2) hkind (hxk _ _) (by simp [compEnvC]) hc₂ fun h₃ hc₃ hs₃ => ?_)
        refine wpAny_tests_nil ?_
        simp only [if_true]
        have k3 : ∀ b o, b ≠ I → b ≠ z + 2 → h'.get? b = some o → h₃.get? b = some o := fun b o h1 h2 e => hs₃.extBut b o h2 (kI b o h1 e)
        have hst₃ : St (i + 1) h₃ := W.frame _ _ _ hst₂ fun b hb o e => hs₃.extBut b o (lz b (hfz b hb)).2.2 e
        refine Mine.exand1_1 (hIo _ _ hst₃) fun oI heI => ?_
        refine Mine.exand1_2 (ns_obj (hn'.at' fun o e => k3 _ o I1 e12 e)) fun oC heC hoC => ?_
        refine Mine.exand1_2 hc₃ fun oc hec hdc => ?_
        try clear hc₃
        have F₃ : Fr h₀ L h₃ m := (fr_but F' hk₂ hIL hI₀).change hs₃ Lz2 dz2
        have N₃ : News h₀ L h₃ ((I, oI) :: (z + 1, oC) :: (z + 2, oc) :: (z, lst us) :: news) := fun p hp => by
          simp only [List.mem_cons] at hp
          rcases hp with rfl | rfl | rfl | rfl | hp
          · exact ⟨heI, Ne.symm hIL, hI₀⟩
          · exact ⟨heC, Lz1, dz1⟩
          · exact ⟨hec, Lz2, dz2⟩
          · exact ⟨k3 _ _ I0 e02 (N' _ (.head _)).1, Lz, dz⟩
          · exact ⟨k3 _ _ (off p hp) (lz _ (hnz p hp)).2.2 (N' p (.tail _ hp)).1, (N' p (.tail _ hp)).2⟩
        refine wpAny_mono (turn i v us oI (z + 1) oC (z + 2) oc z h₃ _ _ hlt hPv hJ hdc F₃ N₃) (fun y s₄ hp₄ => ?_) fun _ _ e => e
        refine Mine.exand2_4 hp₄ fun h₄ tk₄ ob49 F₄ N₄ J₄ => ?_
        subst ob49
        try clear hp₄
        refine append_at (hsz := by show us.toArray.size ≤ sizeLine; rw [List.size_toArray, hul]; exact Nat.le_trans hi hsz) (N₄ _ (.tail _ (.tail _ (.tail _ (.head _))))).1 fun h₅ hs₅ hD₅ => ?_
        have k5 : ∀ b o, b ≠ z → h₄.get? b = some o → h₅.get? b = some o := fun b o hb e => hs₅.extBut b o hb e
        refine ⟨n + 1 - (i + 1), by omega, h₅, tk₄, i + 1, us ++ [y], _, _, rfl, hlt, rfl, by rw [List.length_append, List.length_singleton, hul], W.frame _ _ _ hst₃ fun b hb o e => ?_, F₄.change hs₅ Lz dz,
          (hoC.ns (N₄ _ (.tail _ (.head _))).1).sameBut hs₅ (Ne.symm e01), ⟨oc, k5 _ _ (Ne.symm e02) (N₄ _ (.tail _ (.tail _ (.head _)))).1, hdc⟩, fun p hp => ?_, J₄⟩
        · rcases hfp b hb with rfl | ⟨o', hm⟩
          · rw [heI] at e; cases e
            exact k5 _ _ (lz _ hI).1 (N₄ _ (.head _)).1
          · have q := (N₃ _ (.tail _ (.tail _ (.tail _ (.tail _ hm))))).1
            rw [e] at q; cases q
            exact k5 _ _ (lz _ (hnz _ hm)).1 (N₄ _ (.tail _ (.tail _ (.tail _ (.tail _ hm))))).1
        · rcases List.mem_cons.mp hp with rfl | hp
          · exact ⟨hD₅.trans (congrArg some (lst_snoc us y)), Lz, dz⟩
          · exact ⟨k5 _ _ (lz _ (hnz p hp)).1 (N₄ p (.tail _ (.tail _ (.tail _ (.tail _ hp))))).1, (N₄ p (.tail _ (.tail _ (.tail _ (.tail _ hp))))).2⟩
      · obtain rfl : i = n := Nat.le_antisymm hi (Nat.not_lt.mp hlt)
        refine W.done _ _ _ hst' fun h₂ tk₂ hk₂ => ?_
        have kI : ∀ b o, b ≠ I → h'.get? b = some o → h₂.get? b = some o := fun b o hb e => hk₂ b o (by simpa using hb) e
        have I1 : z + 1 ≠ I := Nat.ne_of_gt (Nat.lt_succ_of_lt hI)
        refine done z (z + 1) us h₂ tk₂ m' hJ hul (fr_but F' hk₂ hIL hI₀) (fun p hp => ?_) (hn'.at' fun o e => kI _ o I1 e) dz1 Lz1 e01 (fun p hp => (lz _ (hnz p hp)).2.1) fun p hp => hnz p hp
        rcases List.mem_cons.mp hp with rfl | hp
        · exact ⟨kI _ _ (Nat.ne_of_gt hI) (N' _ (.head _)).1, Lz, dz⟩
        · exact ⟨kI _ _ (off p hp) (N' p (.tail _ hp)).1, (N' p (.tail _ hp)).2⟩
    · rcases List.mem_cons.mp hp with rfl | hp
      · exact ⟨old3 _ _ (old2 _ _ hD1), Lz, dz⟩
      · exact ⟨old _ _ (N p hp).1, (N p hp).2⟩
  exact codeAny_compStart_list (loop _ rfl) (W.self 0 _ _ _ hst3 (loop _ rfl))

/-- such a comprehension that has its iterable -/
def CompC (prog : Program) (w : World) (A : Around) (E : Value → Shared → Prop) (env : Env) (elt : Expr) (x : Str) (px : Pos) (iter : Expr) (scope : Scope) (cl : List (Str × Addr)) (pos : Pos) (RR : Value → Addr → Result → Shared → Prop) (xv : Value) (s₁ : Shared) : Prop :=
  wpAny (model prog w) A (pyIter xv) (fun it s₂ => wpAny (model prog w) A (newList []) (fun acc s₃ => wpAny (model prog w) A (newFunctionEnv scope env.globals cl [] env.qual none .none (some env)) (fun cenv s₄ =>
      codeAny (model prog w) A (.compStart (.ListComp elt [⟨.Name x px, iter, [], 0⟩] scope pos) 0 it acc { cenv with scope := relabel scope env }) (RR acc cenv.locals) s₄) E s₃) E s₂) E s₁
theorem ListComp_C {elt iter : Expr} {x : Str} {px : Pos} {scope : Scope} {cl : List (Str × Addr)} {pos : Pos} {Q : Value → Shared → Prop} (hclos : closureFor scope env = pure cl) (hkind : scope.kind = .function)
    (hnames : ∀ y ∈ scope.names, y.2 = .local → scope.names.lookup y.1 = some .local)
    (h : wpAny (model prog w) A (eval iter env) (CompC prog w A E env elt x px iter scope cl pos (compPost (model prog w) A E none Q)) E s)
    (hs : ∀ x, foldedSetIterable iter env x = pure x := by intro _; rfl) :
    wpAny (model prog w) A (eval (.ListComp elt [⟨.Name x px, iter, [], 0⟩] scope pos) env) Q E s := by
  rw [eval_ListComp]
  exact wpAny_comprehension_free (use := none) rfl hs hclos hkind hnames h
theorem Assign_ListComp_C {elt iter : Expr} {x y : Str} {px py : Pos} {scope : Scope} {cl : List (Str × Addr)} {pos spos : Pos} {Q : Flow → Shared → Prop}
    (hsw : swapsWith (.ListComp elt [⟨.Name x px, iter, [], 0⟩] scope pos) (some (.Name y py)) spos.line env = pure true)
    (hclos : closureFor scope env = pure cl) (hkind : scope.kind = .function) (hnames : ∀ z ∈ scope.names, z.2 = .local → scope.names.lookup z.1 = some .local)
    (h : wpAny (model prog w) A (eval iter env) (CompC prog w A E env elt x px iter scope cl pos (compPost (model prog w) A E (some (assign (.Name y py) env)) (fun _ s' => Q .next s'))) E s)
    (hs : ∀ x, foldedSetIterable iter env x = pure x := by intro _; rfl) :
    wpAny (model prog w) A (exec (.Assign [.Name y py] (.ListComp elt [⟨.Name x px, iter, [], 0⟩] scope pos) spos) env) Q E s := by
  rw [exec_Assign_Name_used _ _ _ _ hsw]
  refine wpAny_bind (wpAny_standAt (wpAny_bind ?_))
  show wpAny _ A (do let _ ← comprehension (.ListComp elt [⟨.Name x px, iter, [], 0⟩] scope pos) scope env _ (newList []) false (eval iter env) (some (assign (.Name y py) env))) _ _ s
  exact wpAny_bind (wpAny_mono (wpAny_comprehension_free (use := some (assign (.Name y py) env)) (Q := fun _ s' => Q .next s') rfl hs hclos hkind hnames h) (fun _ s' hq => wpAny_pure (wpAny_pure hq)) fun _ _ e => e)

/-- over a tuple on the ledger -/
theorem compC_tuple {elt iter : Expr} {x : Str} {px : Pos} {scope : Scope} {cl : List (Str × Addr)} {pos : Pos} {tl : Addr} {items : Array Value} {kt : Nat} {news : List (Addr × Obj)} {RR : Value → Addr → Result → Shared → Prop} (hh : A.handled = none) (hsz : items.size ≤ sizeLine)
    (hcf : ∀ n, cellsFrom n scope.names cl = (x, n) :: cl) (hpc : ∀ h, pushCells h scope.names = h.push { cls := .type "cell", data := .cell none }) (hkind : scope.kind = .function)
    (hxk : ∀ c C, (compEnvC scope ((x, c) :: cl) C env).kindOf x = some .cell) (F : Fr h₀ L s.heap m) (N : News h₀ L s.heap news) (ht : (tl, ({ cls := .type "tuple", data := .seq items kt } : Obj)) ∈ news)
    (J : Nat → List Value → Prop) (h0 : J 0 [])
    (turn : ∀ i v us I oI C oC c oc D h tk (E' : Value → Shared → Prop), i < items.size → items[i]? = some v → J i us → oc.data = .cell (some v) → Fr h₀ L h m → News h₀ L h ((I, oI) :: (C, oC) :: (c, oc) :: (D, lst us) :: news) →
      wpAny (model prog w) A (eval elt (compEnvC scope ((x, c) :: cl) C env)) (fun y s' => ∃ h' tk', s' = { s with heap := h', toks := tk' } ∧ Fr h₀ L h' m ∧ News h₀ L h' ((I, oI) :: (C, oC) :: (c, oc) :: (D, lst us) :: news) ∧ Stop (J (i + 1) (us ++ [y]))) E' { s with heap := h, toks := tk })
    (done : ∀ D C us h tk m', J items.size us → us.length = items.size → Fr h₀ L h m → News h₀ L h ((D, lst us) :: news) → h.Ns C m' → h₀.get? C = none → C ≠ L → D ≠ C → (∀ p ∈ news, p.1 ≠ C) → (∀ p ∈ news, p.1 < D) → RR (.ref D) C (.ok .next) { s with heap := h, toks := tk }) :
    CompC prog w A E env elt x px iter scope cl pos RR (.ref tl) s := by
  have htl : tl < s.heap.objs.size := Heap.lt_size (N _ ht).1
  refine wpAny_pyIter_tuple ⟨_, (N _ ht).1, rfl, _, rfl⟩ ?_
  have up : ∀ b o, s.heap.get? b = some o → (s.heap.push { cls := .type "tuple_iterator", data := .fields #[.ref tl, .int 0 0] }).get? b = some o := fun b o e => Heap.get?_push_of_some _ e
  refine block_C2 (fp := [s.heap.objs.size, tl]) (Walks.tuple hh s.heap.objs.size tl (Nat.ne_of_lt htl) items) hsz (fun i h st => by obtain ⟨o, e, _⟩ := st.1; exact ⟨o, e⟩) hcf hpc hkind hxk ⟨⟨_, Heap.get?_push_size _ rfl, rfl, rfl⟩, ⟨_, up _ _ (N _ ht).1, rfl, _, rfl⟩⟩ (fun b hb => ?_)
    (F.keeps up) (N.grown up) (Nat.ne_of_lt F.ns.lt) (next_is_new F) (by rw [Heap.size_push]; exact Nat.lt_succ_self _) (fun p hp => Nat.ne_of_lt (Heap.lt_size (N p hp).1)) J h0 (fun i v us => turn i v us _) done
  rcases List.mem_cons.mp hb with rfl | hb
  · exact .inl rfl
  · exact .inr ⟨_, by rw [List.mem_singleton.mp hb]; exact ht⟩
/-- over a range from nought -/
theorem compC_range {elt iter : Expr} {x : Str} {px : Pos} {scope : Scope} {cl : List (Str × Addr)} {pos : Pos} {r : Addr} {a b : Int} {t u v : Tok} {n : Nat} {news : List (Addr × Obj)} {RR : Value → Addr → Result → Shared → Prop} (hh : A.handled = none) (hsz : n ≤ sizeLine)
    (hcf : ∀ n, cellsFrom n scope.names cl = (x, n) :: cl) (hpc : ∀ h, pushCells h scope.names = h.push { cls := .type "cell", data := .cell none }) (hkind : scope.kind = .function)
    (hxk : ∀ c C, (compEnvC scope ((x, c) :: cl) C env).kindOf x = some .cell) (F : Fr h₀ L s.heap m) (N : News h₀ L s.heap news) (hr : IsRange s.heap r a b 1 t u v) (hsm : Builtin.Range.small a b 1 = true) (hn : Builtin.Range.rangeSize a b 1 = ((n : Nat) : Int))
    (J : Nat → List Value → Prop) (h0 : J 0 [])
    (turn : ∀ i v us I oI C oC c oc D h tk (E' : Value → Shared → Prop), i < n → (∃ t, v = .int (a + (i : Int)) t) → J i us → oc.data = .cell (some v) → Fr h₀ L h m → News h₀ L h ((I, oI) :: (C, oC) :: (c, oc) :: (D, lst us) :: news) →
      wpAny (model prog w) A (eval elt (compEnvC scope ((x, c) :: cl) C env)) (fun y s' => ∃ h' tk', s' = { s with heap := h', toks := tk' } ∧ Fr h₀ L h' m ∧ News h₀ L h' ((I, oI) :: (C, oC) :: (c, oc) :: (D, lst us) :: news) ∧ Stop (J (i + 1) (us ++ [y]))) E' { s with heap := h, toks := tk })
    (done : ∀ D C us h tk m', J n us → us.length = n → Fr h₀ L h m → News h₀ L h ((D, lst us) :: news) → h.Ns C m' → h₀.get? C = none → C ≠ L → D ≠ C → (∀ p ∈ news, p.1 ≠ C) → (∀ p ∈ news, p.1 < D) → RR (.ref D) C (.ok .next) { s with heap := h, toks := tk }) :
    CompC prog w A E env elt x px iter scope cl pos RR (.ref r) s := by
  refine wpAny_pyIter_range hr hsm ?_
  refine block_C2 (fp := [s.heap.objs.size]) (range_walks hh a n) hsz (fun i h st => ⟨_, st⟩) hcf hpc hkind hxk (by show IsRangeIter _ _ _ _ _; rw [hn]; simpa using Heap.get?_push_size _ rfl) (fun b hb => .inl (List.mem_singleton.mp hb))
    (F.keeps fun _ _ e => Heap.get?_push_of_some _ e) (N.grown fun _ _ e => Heap.get?_push_of_some _ e) (Nat.ne_of_lt F.ns.lt) (next_is_new F) ?_ (fun p hp => Nat.ne_of_lt (Heap.lt_size (N p hp).1)) J h0 (fun i v us => turn i v us _) done
  show s.heap.objs.size < (s.heap.push _).objs.size
  rw [Heap.size_push]; exact Nat.lt_succ_self _
theorem post_eval {C D : Addr} {us : List Value} {h : Heap} {tk : Nat} {m' : Str → Option Value} {news : List (Addr × Obj)} {Q : Value → Shared → Prop} (F : Fr h₀ L h m) (N : News h₀ L h ((D, lst us) :: news)) (hns : h.Ns C m') (hC0 : h₀.get? C = none) (hCL : C ≠ L) (hDC : D ≠ C) (hnC : ∀ p ∈ news, p.1 ≠ C)
    (fin : ∀ h' tk', Fr h₀ L h' m → News h₀ L h' ((D, lst us) :: news) → Q (.ref D) { s with heap := h', toks := tk' }) : compPost (model prog w) A E none Q (.ref D) C (.ok .next) { s with heap := h, toks := tk } := by
  refine ⟨m', hns, fun h'' hs'' => fin h'' tk (F.change hs'' hCL hC0) fun p hp => ⟨hs''.extBut _ _ ?_ (N p hp).1, (N p hp).2⟩⟩
  rcases List.mem_cons.mp hp with rfl | hp
  · exact hDC
  · exact hnC p hp
theorem post_assign {y : Str} {py : Pos} {C D : Addr} {us : List Value} {h : Heap} {tk : Nat} {m' : Str → Option Value} {news : List (Addr × Obj)} {Q : Shared → Prop} (hLe : env.locals = L) (hy : env.kindOf y = some .local) (hp : (env.scope.kind == .class || (env.scope.kind == .module && env.locals != env.globals)) = false)
    (F : Fr h₀ L h m) (N : News h₀ L h ((D, lst us) :: news)) (hns : h.Ns C m') (hC0 : h₀.get? C = none) (hCL : C ≠ L) (hDC : D ≠ C) (hnC : ∀ p ∈ news, p.1 ≠ C)
    (fin : ∀ h' tk', Fr h₀ L h' (fun z => if z = y then some (.ref D) else m z) → News h₀ L h' ((D, lst us) :: news) → Q { s with heap := h', toks := tk' }) :
    compPost (model prog w) A E (some (assign (.Name y py) env)) (fun _ s' => Q s') (.ref D) C (.ok .next) { s with heap := h, toks := tk } := by
  subst hLe
  show wpAny _ A (assign (.Name y py) env (.ref D)) _ _ _
  refine wpAny_assign_Name (wpAny_storeName_local hy F.ns (fun h₂ hn₂ hs₂ => ?_) hp)
  have hL₀ : h₀.get? env.locals = none := Heap.get?_none_of_le F.above
  have F₂ : Fr h₀ env.locals h₂ (fun z => if z = y then some (.ref D) else m z) := ⟨hn₂, fun b o e => hs₂.extBut b o (fun q => by rw [q, hL₀] at e; cases e) (F.keep b o e), F.above⟩
  refine ⟨m', hns.sameBut hs₂ hCL, fun h'' hs'' => fin h'' _ (F₂.change hs'' hCL hC0) fun p hp => ?_⟩
  have z : h₂.get? p.1 = some p.2 := hs₂.extBut _ _ (N p hp).2.1 (N p hp).1
  refine ⟨hs''.extBut _ _ ?_ z, (N p hp).2⟩
  rcases List.mem_cons.mp hp with rfl | hp
  · exact hDC
  · exact hnC p hp
theorem sum_tup {t : Addr} {vs : List Value} {ns : List Int} {k : Nat} {news : List (Addr × Obj)} {Q : Value → Shared → Prop} (hh : A.handled = none) (F : Fr h₀ L s.heap m) (N : News h₀ L s.heap news) (hm : (t, ({ cls := .type "tuple", data := .seq vs.toArray k } : Obj)) ∈ news) (hi : IntsAre vs ns)
    (h : ∀ h' tk t', Fr h₀ L h' m → News h₀ L h' news → Q (.int ns.sum t') { s with heap := h', toks := tk }) : wpAny (model prog w) A (call (.builtin "sum") [.ref t]) Q E s := by
  have ht : s.heap.IsTuple t vs.toArray := ⟨_, (N _ hm).1, rfl, k, rfl⟩
  refine Mine.exand1_1 hi.allInts.items fun xs hx => ?_
  have e : numsOf vs.toArray.toList = ns := hi.numsOf
  rw [hx] at ht e
  rw [nums_intItems] at e
  exact PySem.W.ktm_sumG hh ht fun h' tk t' hk => by
    rw [preSum_eq, List.take_of_length_le (by simp), e]
    exact h h' tk t' (F.keeps hk) (N.grown hk)
theorem sliceApplied_4 {sl : Addr} {u : Tok} {Q : Int × Int × Nat → Shared → Prop} (hs : s.heap.IsSliceOf sl .none (.int 4 u) .none) (h : Q ((0 : Int), 1, 4) s) : wpAny (model prog w) A (Builtin.Slice.sliceApplied (.ref sl) (pure (5 : Int))) Q E s := by
  refine Mine.exand1_3 (id hs) fun os hos hcs hds => ?_
  unfold Builtin.Slice.sliceApplied Builtin.Slice.sliceFields
  refine wpAny_bind (wpAny_bind (wpAny_field hos hds (x := .none) rfl (wpAny_bind (wpAny_field hos hds (x := .int 4 u) rfl (wpAny_bind (wpAny_field hos hds (x := .none) rfl (wpAny_pure ?_)))))))
  refine wpAny_bind (slicePart_none ?_)
  show wpAny _ _ (if ((1 : Int) == 0) = true then _ else _) _ _ s
  rw [if_neg (by decide)]
  refine wpAny_bind (slicePart_none (wpAny_bind (slicePart_int (wpAny_bind (wpAny_pure ?_)))))
  show wpAny _ _ (match Builtin.Slice.sliceAdjust none (some (4 : Int)) 1 (5 : Int) with | (lo, hi) => pure (lo, (1 : Int), Builtin.Slice.slicePlaces lo hi 1)) _ _ s
  rw [show Builtin.Slice.sliceAdjust none (some (4 : Int)) 1 (5 : Int) = (0, 4) from by decide]
  show wpAny _ _ (pure ((0 : Int), (1 : Int), Builtin.Slice.slicePlaces (0 : Int) (4 : Int) 1)) _ _ s
  rw [show Builtin.Slice.slicePlaces (0 : Int) (4 : Int) 1 = 4 from by decide]
  exact wpAny_pure h
/-- the first four of a tuple of five -/
theorem cut4 {t sl : Addr} {a b c d e : Value} {u : Tok} {Q : Value → Shared → Prop} (ht : IsTup s.heap t #[a, b, c, d, e]) (hs : s.heap.IsSliceOf sl .none (.int 4 u) .none)
    (h : Q (.ref s.heap.objs.size) { s with heap := s.heap.push { cls := .type "tuple", data := .seq #[a, b, c, d] } }) : wpAny (model prog w) A (getItem (.ref t) (.ref sl)) Q E s := by
  refine Mine.exand1_3 (id hs) fun os hos hcs hds => ?_
  have hTs : s.TypeIs (.ref sl) "slice" := ⟨os, hos, hcs⟩
  unfold getItem
  try with_reducible refine wpAny_holding ?_
  first | refine wpAny_bind (wpAny_pure ?_) | skip
  refine wpAny_bind (wpAny_sequenceKey ht.typeIs (by decide) ?_)
  refine wpAny_bind (wpAny_callSpecial?_slot (name := Str.ofString "__getitem__") ht.typeIs slot_tuple_getitem
    (wpAny_call_entry slot_tuple_getitem ht.typeIs entry_tuple_getitem ?_ (args_tuple_getitem _ _)))
  show wpAny _ _ (Builtin.Tuple.tupleItemsOf (.ref t) >>= _) _ _ s
  refine wpAny_bind (tupleItemsOf_ ht ?_)
  refine wpAny_bind (wpAny_typeOf hTs ?_)
  rw [if_pos (by decide)]
  refine wpAny_bind (sliceApplied_4 hs ?_)
  show wpAny _ _ (if ((0 : Int) == 0 && (1 : Int) == 1 && (4 : Nat) == 5) = true then _ else _) _ _ s
  rw [if_neg (by decide)]
  have hsz : sizeOk (.seq #[a, b, c, d]) := show 4 ≤ sizeLine by decide
  first
    | exact wpAny_bind (m := Builtin.Tuple.tupleExact _) (wpAny_newObj_type (wpAny_pure ⟨_, rfl, wpAny_pure h⟩) hsz)
    | exact wpAny_bind (m := Builtin.Tuple.tupleExact _) (wpAny_newObj_type (wpAny_bind (wpAny_pure (wpAny_pure ⟨_, rfl, wpAny_pure h⟩))) hsz)
    | exact wpAny_bind (wpAny_bind (m := Builtin.Tuple.tupleExact _) (wpAny_newObj_type (wpAny_pure (wpAny_pure ⟨_, rfl, wpAny_pure h⟩)) hsz))
    | exact wpAny_bind (wpAny_bind (m := Builtin.Tuple.tupleExact _) (wpAny_newObj_type (wpAny_pure ⟨_, rfl, wpAny_pure h⟩) hsz))
theorem cut4_tail {value slice : Expr} {t : Addr} {a b c d e : Value} {k : Nat} {u : Tok} {news : List (Addr × Obj)} {Q : Value → Shared → Prop} (F : Fr h₀ L s.heap m) (N : News h₀ L s.heap news) (hm : (t, ({ cls := .type "tuple", data := .seq #[a, b, c, d, e] k } : Obj)) ∈ news)
    (h : ∀ D h', Fr h₀ L h' m → News h₀ L h' ((D, { cls := .type "tuple", data := .seq #[a, b, c, d] }) :: news) → (∀ p ∈ news, p.1 < D) → Q (.ref D) { s with heap := h' })
    (hs : subscripted slice false (.ref t) (.ref s.heap.objs.size) = operate [.ref s.heap.objs.size, .ref t] (getItem (.ref t) (.ref s.heap.objs.size)) := by with_unfolding_all rfl)
    (hg : ∀ r, letTemporaryGo value (.ref t) r = pure () := by intro _; with_unfolding_all rfl) :
    wpAny (model prog w) A (subscriptTail value slice (.ref t) (.ref s.heap.objs.size)) Q E { s with heap := s.heap.push { cls := .type "slice", data := .fields #[.none, .int 4 u, .none] } } := by
  have ht' : IsTup (s.heap.push { cls := .type "slice", data := .fields #[.none, .int 4 u, .none] }) t #[a, b, c, d, e] := ⟨_, Heap.get?_push_of_some _ (N _ hm).1, rfl, k, rfl⟩
  refine subscriptTail_ops (s := { s with heap := s.heap.push { cls := .type "slice", data := .fields #[.none, .int 4 u, .none] } }) ht'.typeIs slot_tuple_getitem.lookup (cut4 ht' (Heap.IsSliceOf.new ..) ?_) hs hg
  have N1 := News.push (F.push { cls := .type "slice", data := .fields #[.none, .int 4 u, .none] }) (N.grown fun _ _ e => Heap.get?_push_of_some _ e) { cls := .type "tuple", data := .seq #[a, b, c, d] }
  exact h _ _ ((F.push _).push _) N1 fun p hp => by
    show p.1 < (s.heap.push _).objs.size
    rw [Heap.size_push]
    exact Nat.lt_succ_of_lt (Heap.lt_size (N p hp).1)
end
end
example {prog : Program} {w : World} {A : Around} {env : Env} {Q : Flow → Shared → Prop} {E : Value → Shared → Prop} {s : Shared} (h : Q .next s) : wpAny (model prog w) A (execs [] env) Q E s := by
  w_top off
  walk1
  exact h
section
open PyProof.Rows.LCg PyProof.Rows.LCt
section
variable {prog : Program} {w : World} {A : Around} {E : Value → Shared → Prop} {s : Shared} {h₀ : Heap} {L : Addr} {m : Str → Option Value} {env : Env}
/-- a comprehension whose test lets nothing through -/
theorem compRestT_none {ct elt : Expr} {x : Str} {scope : Scope} {cl : List (Str × Addr)} {S : List (Addr × Obj) → Prop} {P : Nat → Value → Prop} {Fin : List Value → List (Addr × Obj) → Prop} {n : Nat} (J : Nat → List (Addr × Obj) → Prop)
    (turn : ∀ i news v I oI C oC D m₂ h tk (E' : Value → Shared → Prop), i < n → P i v → J i news → NsObj oC m₂ → m₂ x = some v → Fr h₀ L h m → News h₀ L h ((I, oI) :: (C, oC) :: (D, lst []) :: news) → Off3 I C D news → ((@Ne Nat I C) ∧ (@Ne Nat I D) ∧ (@Ne Nat C D)) →
      wpAny (model prog w) A (isTrue ct (compEnvC scope cl C env) (eval ct (compEnvC scope cl C env))) (fun ok s' => ok = false ∧ CompEnd h₀ L m { s with heap := h, toks := tk } I oI C oC D (lst []) S (fun _ news' => Stop (J (i + 1) news')) Value.none s') E' { s with heap := h, toks := tk })
    (done : ∀ news, J n news → Fin [] news) : ∀ k i news, i + k = n → J i news → CompRestT prog w A h₀ L m env ct elt x scope cl s S P Fin k i [] news := by
  intro k
  induction k with
  | zero => intro i news e hJ; exact CompRestT.zero (done _ (by rw [← e]; exact hJ))
  | succ k ih =>
    intro i news e hJ
    refine CompRestT.succ fun v I oI C oC D m₂ h tk E' hv ho hx F N off ne => ?_
    refine wpAny_mono (turn i news v I oI C oC D m₂ h tk E' (by omega) hv hJ ho hx F N off ne) (fun ok s₂ p => ?_) fun _ _ e => e
    refine Mine.exand0_2 p fun ob19 ob29 => ?_
    subst ob19
    refine Mine.exand3_6 ob29 fun h' tk' news' e' F' N' off' hS r => ?_
    try clear ob29
    try clear p
    simp only [Bool.false_eq_true, if_false]
    exact ⟨h', tk', news', e', F', N', off', hS, ih (i + 1) news' (by omega) r⟩
end
end
section
local macro_rules | `(tactic| walk_at "storeName") => `(tactic| (k_here; k_dflt (k_extra "Ksc"; intro h' o' F' N' d'; (try dsimp only at N'))))
example {prog : Program} {w : World} {A : Around} {env : Env} {Q : Flow → Shared → Prop} {E : Value → Shared → Prop} {s : Shared} (h : Q .next s) : wpAny (model prog w) A (execs [] env) Q E s := by
  w_top off
  walk1
  exact h
section
open PyProof.Rows.LCg
theorem conv_body {l l' : List Stmt} {P : List Stmt → Prop} (e : l = l') (h : P l') : P l := e ▸ h
theorem seg1 {w p loose mean mg mb} {base : Heap} {L sl fa : Addr} {cd : Value} {ns : List Int} {svs : List Value} {s : Shared} {c1 c2 c3 c4 c5 : Obj} {Q : Flow → Shared → Prop} {E : Value → Shared → Prop}
    (A1 : LawAt w p loose mean mg mb base L sl ns svs) (F : Fr base L s.heap (fun y => if y = Str.ofString "script" then some (.ref sl) else none))
    (N : News base L s.heap [(L + 1 + 1 + 1 + 1 + 1, c5), (L + 1 + 1 + 1 + 1, c4), (L + 1 + 1 + 1, c3), (L + 1 + 1, c2), (L + 1, c1), (93, tabObj #[]), (37, tabObj #[]), (30, tabObj #[])]) (d1 : c1.data = .cell none) (d2 : c2.data = .cell none) (d3 : c3.data = .cell none) (d4 : c4.data = .cell none) (d5 : c5.data = .cell none)
    (next : ∀ (b0 b1 b2 : Int) (t0 t1 t2 v0 v1 v2 v3 : Tok) (bl wl lsp : Addr) (kb kw : Nat) (oB oW : Obj) (h : Heap) (tk : Nat), b0 ≠ 0 → b1 ≠ 0 → b2 ≠ 0 → intBits b0 ≤ 1048576 → intBits b1 ≤ 1048576 → intBits b2 ≤ 1048576 →
      oB.data = .cell (some (.ref bl)) → oW.data = .cell (some (.ref wl)) → (@LT.lt Nat _ (L + 1 + 1 + 1 + 1 + 1) bl ∧ @LT.lt Nat _ bl wl) → Fr base L h (fun y => if y = Str.ofString "spare" then some (.ref lsp) else if y = Str.ofString "script" then some (.ref sl) else none) →
      News base L h [(wl, lst4 1 v0 b0 v1 (b0 * b1) v2 (b0 * b1 * b2) v3 kw), (bl, lst3 b0 t0 b1 t1 b2 t2 kb), (L + 1 + 1 + 1 + 1 + 1, c5), (L + 1 + 1 + 1 + 1, c4), (L + 1 + 1 + 1, c3), (L + 1 + 1, oW), (L + 1, oB), (93, tabObj #[]), (37, tabObj #[]), (30, tabObj #[])] →
      wpAny (model PySem.Challenge.rw_ph0128_01.row.prog w) (lawA L fa cd) (execs (lawBody.drop 3) (lawEnv L fa cd)) Q E { s with heap := h, toks := tk })
    : wpAny (model PySem.Challenge.rw_ph0128_01.row.prog w) (lawA L fa cd) (execs lawBody (lawEnv L fa cd)) Q E s := by
  obtain ⟨sh, sg, sd, st, so⟩ := s
  try clear s
  dsimp only at F N next
  obtain ⟨X1, T1, K1, NS, C1, C2, C3, hS, hI, hlen, hbits, l0⟩ := A1
  try clear A1
  revert X1
  k_fill
  intro X1
  have hMk := kstMark
  k_with_none
  k_with "binaryOp Add int int" => (refine add_N ?_)
  k_with "binaryOp Sub int int" => (refine sub_N ?_)
  k_with "inplaceOp Add int int" => (refine iadd_N ?_)
  k_with "inplaceOp Sub int int" => (refine isub_N ?_)
  k_with "binaryOp BitOr int int" => (refine or_N ?_)
  k_with "unaryOp USub int" => (refine neg_N ?_)
  k_with "storeName" => (k_here; k_dflt (refine' storeX_N ?F ?N ?eg ?ed ?eo ?_ ?a ?b; (case F => k_asm); (case N => k_asm); (case a => rfl); (case b => rfl); (case eg => first | (dsimp only; done) | exact rfl); (case ed => first | (dsimp only; done) | exact rfl); (case eo => first | (dsimp only; done) | exact rfl); k_whole; intro _ _ _; (try k_sweep)))
  k_with "MineLt" => (first | with_reducible assumption | ((with_reducible rename _ ∧ _ => hC9); first | exact hC9.1 | exact hC9.2.1 | exact hC9.2.2.1 | exact hC9.2.2.2.1 | exact hC9.2.2.2.2.1 | exact hC9.2.2.2.2.2.1 | exact hC9.2.2.2.2.2.2.1 | exact hC9.2.2.2.2.2.2.2.1 | exact hC9.2.2.2.2.2.2.2.2.1 | exact hC9.2.2.2.2.2.2.2.2.2.1 | exact hC9.2.2.2.2.2.2.2.2.2.2.1 | exact hC9.2.2.2.2.2.2.2.2.2.2.2.1 | exact hC9.2.2.2.2.2.2.2.2.2.2.2.2.1 | exact hC9.2.2.2.2.2.2.2.2.2.2.2.2.2.1) | exact And.left (by with_reducible assumption) | exact Nat.lt_succ_self _)
  k_with "binaryOp LShift int int" => (refine' lshift_N ?hn ?hz ?_; (case hn => k_extra "nn"); (case hz => k_extra "shl"); (try k_extra "tidy"))
  k_with "inplaceOp LShift int int" => (refine' ilshift_N ?hn ?hz ?_; (case hn => k_extra "nn"); (case hz => k_extra "shl"); (try k_extra "tidy"))
  k_with "binaryOp RShift int int" => (refine' rshift_N ?hn ?_; (case hn => k_extra "nn"); (try k_extra "tidy"))
  k_with "inplaceOp RShift int int" => (refine' irshift_N ?hn ?_; (case hn => k_extra "nn"); (try k_extra "tidy"))
  k_with "binaryOp BitAnd int int" => (refine and_N ?_; (try k_extra "tidy"))
  k_with "binaryOp Mult int int" => (refine' mul_N ?_ ?hm; (case hm => k_extra "mul"); (try k_extra "tidy"))
  k_with "Kdm" => (refine' divmod_N ?F ?N ?hb ?_ ?hp; (case F => k_asm); (case N => k_asm); (case hb => k_extra "div0"); (case hp => k_extra "pylong"))
  k_with "call ref" => (k_extra "my call")
  k_with "ite" => (k_extra "decide")
  k_with "binaryOp FloorDiv int int" => (refine' floordiv_N ?hb ?_ ?hp; (case hb => k_extra "div0"); (case hp => k_extra "pylong"); (try k_extra "tidy"))
  k_with "binaryOp BitXor int int" => (refine xor_N ?_; (try k_extra "tidy"))
  k_with "subscriptTail Name Constant ref int" => (k_here; (with_reducible show wpAny _ _ (subscriptTail _ _ (Value.ref _) (Value.int _ _)) _ _ _); (with_unfolding_all refine' item_litK ?k1 ?k2 ?k3 ?k4 ?_ ?k6; (case k1 => is_list); (case k2 => decide); (case k3 => decide); (case k4 => rfl); (case k6 => with_unfolding_all rfl); k_whole))
  k_with "subscriptTail Name Name ref int" => (k_here; (with_reducible show wpAny _ _ (subscriptTail _ _ (Value.ref _) (Value.int _ _)) _ _ _); (with_unfolding_all refine' item_litK ?k1 ?k2 ?k3 ?k4 ?_ ?k6; (case k1 => is_list); (case k2 => decide); (case k3 => decide); (case k4 => rfl); (case k6 => with_unfolding_all rfl); k_whole))
  k_with "subscriptTail Name BinOp ref int" => (k_here; (with_reducible show wpAny _ _ (subscriptTail _ _ (Value.ref _) (Value.int _ _)) _ _ _); (with_unfolding_all refine' item_litK ?k1 ?k2 ?k3 ?k4 ?_ ?k6; (case k1 => is_list); (case k2 => decide); (case k3 => decide); (case k4 => rfl); (case k6 => with_unfolding_all rfl); k_whole))
  k_with "UnrEnd" => k_dflt (refine' unr_close ?uF ?uN ?uP ?uO ?_; (case uF => assumption); (case uN => assumption); (case uP => first | exact Pull.head | exact Pull.tail Pull.head | exact Pull.tail (Pull.tail Pull.head) | exact Pull.tail (Pull.tail (Pull.tail Pull.head)) | exact Pull.tail (Pull.tail (Pull.tail (Pull.tail Pull.head)))); (case uO => k_all); k_whole)
  k_with "pyIter ref" => k_dflt (k_extra "iter")
  k_with "storeName" => (k_here; k_dflt (refine' storeX_N ?F ?N ?eg ?ed ?eo ?_ ?ka ?kb; (case eg => first | (dsimp only; done) | exact rfl); (case ed => first | (dsimp only; done) | exact rfl); (case eo => first | (dsimp only; done) | exact rfl); (case kb => with_reducible (first | exact lk_script _ _ _ | exact lk_spare _ _ _ | exact lk_drawn _ _ _ | exact lk_numbers _ _ _ | exact lk_draws _ _ _ | exact lk_rows _ _ _ | exact lk_up _ _ _ | exact lk_table _ _ _ | exact lk_row _ _ _ | exact lk_lost _ _ _ | exact lk_added _ _ _)); (case ka => exact lk_fun); (case F => k_asm); (case N => k_asm); k_whole; intro _ _ _))
  k_with "eval Name" => (k_here; k_dflt (first | (refine' nameX_L ?F ?v ?_ ?ka ?kb; (case kb => with_reducible (first | exact lk_script _ _ _ | exact lk_spare _ _ _ | exact lk_drawn _ _ _ | exact lk_numbers _ _ _ | exact lk_draws _ _ _ | exact lk_rows _ _ _ | exact lk_up _ _ _ | exact lk_table _ _ _ | exact lk_row _ _ _ | exact lk_lost _ _ _ | exact lk_added _ _ _)); (case ka => exact lk_fun); (case F => k_asm); (case v => rfl); k_whole) | (refine' nameX_C ?N ?c ?m ?d ?_ ?ka ?kb; (case kb => with_reducible (first | exact lk_bases _ _ _ | exact lk_worths _ _ _ | exact lk_blocks _ _ _ | exact lk_due _ _ _ | exact lk_whole _ _ _)); (case ka => exact lk_fun); (case N => k_asm); (case c => with_reducible (first | exact lc_bases _ | exact lc_worths _ | exact lc_blocks _ | exact lc_due _ | exact lc_whole _)); (case m => k_mem); (case d => k_asm); k_whole) | (refine' nameX_K ?F ?X ?T ?e ?_ ?ka ?kb; (case kb => kernel_rfl); (case ka => exact lk_fun); (case F => k_asm); (case X => k_asm); (case T => k_asm); (case e => k_is); k_whole) | (refine' nameX_B ?F ?X ?T ?e ?v ?n ?_ ?ka ?kb; (case kb => kernel_rfl); (case ka => exact lk_fun); (case F => k_asm); (case X => k_asm); (case T => k_asm); (case e => k_is); (case v => boot_fast); (case n => decide); k_whole)))
  k_with "lkc" => with_reducible (first | exact lk_bases _ _ _ | exact lk_worths _ _ _ | exact lk_blocks _ _ _ | exact lk_due _ _ _ | exact lk_whole _ _ _)
  k_with "lcc" => with_reducible (first | exact lc_bases _ | exact lc_worths _ | exact lc_blocks _ | exact lc_due _ | exact lc_whole _)
  k_with "Ksc" => (refine' storeX_C ?F ?N ?c ?U ?d ?_ ?ka ?kb; (case kb => k_extra "lkc"); (case ka => exact lk_fun); (case F => k_asm); (case N => k_asm); (case c => k_extra "lcc"); (case U => k_updF); (case d => k_asm); k_whole)
  k_with "call type:zip" => (k_here; k_dflt (k_extra "zip"))
  k_with "call ref" => (k_extra "my call")
  k_with "callWith ref" => (k_here; k_dflt (refine' callWith_K ?k1 ?k2 ?_; (case k1 => k_asm); (case k2 => k_is); k_whole))
  k_with "exec Assign" => (k_extra "asg")
  k_with "exec Assign cons ListComp" => (k_extra "asg")
  k_with "eval ListComp" => (k_extra "comp")
  k_with "execs cons" => (k_extra "seq")
  k_with "CompSrc" => (k_extra "src")
  k_with "CompEnd" => (k_extra "cend")
  k_with "compareOp NotEq ref ref" => (k_here; k_dflt (k_extra "ne"))
  k_with "compareOp Eq ref ref" => (k_here; k_dflt (k_extra "eq"))
  k_with "subscriptTail Name Name ref int" => (k_here; (with_reducible show wpAny _ _ (subscriptTail _ _ (Value.ref _) (Value.int _ _)) _ _ _); k_dflt (k_extra "tail"))
  k_with "call builtin:sum" => (k_here; k_dflt (k_extra "sum"))
  k_with "subscriptTail Name Slice ref ref" => (k_here; k_dflt (k_extra "cut"))
  k_with "CompSrcT" => (k_extra "src")
  k_with "decide" => fail
  k_with "mul" => first | exact IntMulOk.of_le (m := 1048576) (n := 1048576) (by assumption) (by assumption) (by decide) | exact IntMulOk.of_le (m := 2097152) (n := 1048576) (by assumption) (by assumption) (by decide)
  k_with "asg" => ((with_reducible show wpAny _ _ (exec (Stmt.Assign _ (Expr.ListComp _ _ _ _) _) _) _ _ _); refine stop_intro ?_)
  k_with "seq" => ((with_reducible show wpAny _ _ (execs (Stmt.Assign [Expr.Name (Str.ofString "drawn") _] _ _ :: _) _) _ _ _); refine stop_intro ?_)
  k_with "comp" => refine stop_intro ?_
  k_with "my call" =>
    first
      | (k_dflt (refine' fill ns svs hI hlen 0 (by decide) _ sl _ _ [-40, 30, -50] (.cons _ _ (.cons _ _ (.cons _ _ .nil))) (by decide) _ _ _ _ _ _ _ _ _ _ _ base base L _ _ _ _ _ X1 ?kB ?kF ?kN hS ?hP T1 ?hk ?hdp ?hu ?_)
         (case kN => k_asm)
         (case hP => k_mem)
         (case kB => k_asm)
         (case kF => k_asm)
         (case hk => kernel_rfl)
         (case hdp => ktr_room)
         (case hu => ktr_units)
         intro D9 us9 k9 h9 tk9 I9 l9 F9 N9
         simp only [AllLt] at l9)
      | (k_dflt (refine' fill ns svs hI hlen 3 (by decide) _ sl _ _ [100, -5000, 70000, 107] (.cons _ _ (.cons _ _ (.cons _ _ (.cons _ _ .nil)))) (by decide) _ _ _ _ _ _ _ _ _ _ _ base base L _ _ _ _ _ X1 ?kB ?kF ?kN hS ?hP T1 ?hk ?hdp ?hu ?_)
         (case kN => k_asm)
         (case hP => k_mem)
         (case kB => k_asm)
         (case kF => k_asm)
         (case hk => kernel_rfl)
         (case hdp => ktr_room)
         (case hu => ktr_units)
         intro D9 us9 k9 h9 tk9 I9 l9 F9 N9
         simp only [AllLt] at l9)
      | (k_dflt (refine' fill ns svs hI hlen 7 (by decide) _ sl _ _ [2, 4, 12, 0, 1] (.cons _ _ (.cons _ _ (.cons _ _ (.cons _ _ (.cons _ _ .nil))))) (by decide) _ _ _ _ _ _ _ _ _ _ _ base base L _ _ _ _ _ X1 ?kB ?kF ?kN hS ?hP T1 ?hk ?hdp ?hu ?_)
         (case kN => k_asm)
         (case hP => k_mem)
         (case kB => k_asm)
         (case kF => k_asm)
         (case hk => kernel_rfl)
         (case hdp => ktr_room)
         (case hu => ktr_units)
         intro D9 us9 k9 h9 tk9 I9 l9 F9 N9
         simp only [AllLt] at l9)
      | refine stop_intro ?_
  k_steps
  unfold Stop
  refine wpAny_Assign_Name ?_ ?hs
  case hs => with_unfolding_all rfl
  refine ListComp_Z (cl := []) ?hc ?hk ?hn ?_ ?hf
  case hc => with_unfolding_all rfl
  case hk => with_unfolding_all rfl
  case hn => with_unfolding_all decide
  case hf => (intro _; with_unfolding_all rfl)
  k_with "zip" => refine stop_intro ?_
  k_steps
  rename_i lsp h1 F1 N1 l1 h2 F2 N2
  unfold Stop
  clear F1 N1 F2 N2
  have e9 : us9.length = 3 := by rw [I9.length, filled_len]; rfl
  have Isp : IntsAre [.int (-40) (st + 1), .int 30 (st + 1 + 1), .int (-50) (st + 1 + 1 + 1 + 1)] [-40, 30, -50] := .cons _ _ (.cons _ _ (.cons _ _ .nil))
  refine comp_zip rfl ?hcell rfl rfl rfl ?hxx F9 N9 (.head _) (.tail _ (.head _)) ?hsz ?hle (fun i us => IntsAre us ((List.zipWith pickF (filled ns 0 [-40, 30, -50]) [-40, 30, -50]).take i)) .nil ?turn ?done
  case hcell => with_unfolding_all decide
  case hxx => decide
  case hsz => show 3 = _; rw [List.size_toArray, e9]
  case hle => rw [List.size_toArray, e9]; decide
  case turn =>
    intro i v1 v2 us C oC D m2 own h tk E' hv1 hv2 J ho hx1 hx2 F N
    first | (refine' turn_N ?eg ?ed ?eo ?_; (case eg => first | (dsimp only; done) | exact rfl); (case ed => first | (dsimp only; done) | exact rfl); (case eo => first | (dsimp only; done) | exact rfl)) | refine post_let ?_
    intro qT
    rw [List.getElem?_toArray] at hv1 hv2
    refine Mine.exand2_2 (I9.at _ _ hv1) fun x tx ob19 hx => ?_
    subst ob19
    refine Mine.exand2_2 (Isp.at i _ hv2) fun y ty ob29 hy => ?_
    subst ob29
    have hp := pick_at hx hy
    k_steps
    all_goals first | exact F | exact N | exact ints_snoc J (by rw [hp]; unfold pickF; first | rw [if_neg (by assumption)] | rw [if_pos (by assumption)])
  case done =>
    intro D us h tk J hul F N hlt
    refine Mine.exand3_7 (pick_bases hbits) fun b0 b1 b2 eb z0 z1 z2 q0 q1 q2 => ?_
    rw [eb, List.size_toArray, e9] at J
    refine Mine.exand3_1 (ints3 (show IntsAre us [b0, b1, b2] from J)) fun t0 t1 t2 ob39 => ?_
    subst ob39
    have hlt' : AllLt D _ := allLt_of hlt
    simp only [AllLt] at hlt'
    have w2b : intBits (b0 * b1) ≤ 2097152 := bits_mul q0 q1
    have w3b : intBits (b0 * b1 * b2) ≤ 3145728 := bits_mul w2b q2
    clear eb J hul hlt Isp I9 e9
    k_steps
    rename_i h3 oB dB wl h4 F4 N4 l4 h5 oW F5 N5 dW
    unfold Stop
    exact next b0 b1 b2 _ _ _ _ _ _ _ D wl lsp _ _ oB oW _ _ z0 z1 z2 q0 q1 q2 dB dW ⟨hlt'.2.2.1, l4.1⟩ F5 (newsAdd N5 (.head _) (newsAdd N5 (.tail _ (.head _)) fun p hp => N5 p (.tail _ (.tail _ (.tail _ (.tail _ hp))))))
end
example {prog : Program} {w : World} {A : Around} {env : Env} {Q : Flow → Shared → Prop} {E : Value → Shared → Prop} {s : Shared} (h : Q .next s) : wpAny (model prog w) A (execs [] env) Q E s := by
  w_top off
  walk1
  exact h
section
theorem seg2 {w p loose mean mg mb} {base : Heap} {L sl fa : Addr} {cd : Value} {ns : List Int} {svs : List Value} {s : Shared} {c3 c4 c5 oB oW : Obj} {Q : Flow → Shared → Prop} {E : Value → Shared → Prop} {b0 b1 b2 : Int} {t0 t1 t2 v0 v1 v2 v3 : Tok} {bl wl lsp : Addr} {kb kw : Nat}
    (A1 : LawAt w p loose mean mg mb base L sl ns svs) (q0 : intBits b0 ≤ 1048576) (q1 : intBits b1 ≤ 1048576) (q2 : intBits b2 ≤ 1048576) (dB : oB.data = .cell (some (.ref bl))) (dW : oW.data = .cell (some (.ref wl))) (low : @LT.lt Nat _ (L + 1 + 1 + 1 + 1 + 1) bl ∧ @LT.lt Nat _ bl wl)
    (F : Fr base L s.heap (fun y => if y = Str.ofString "spare" then some (.ref lsp) else if y = Str.ofString "script" then some (.ref sl) else none))
    (N : News base L s.heap [(wl, lst4 1 v0 b0 v1 (b0 * b1) v2 (b0 * b1 * b2) v3 kw), (bl, lst3 b0 t0 b1 t1 b2 t2 kb), (L + 1 + 1 + 1 + 1 + 1, c5), (L + 1 + 1 + 1 + 1, c4), (L + 1 + 1 + 1, c3), (L + 1 + 1, oW), (L + 1, oB), (93, tabObj #[]), (37, tabObj #[]), (30, tabObj #[])])
    (next : ∀ (xs ds : List Int) (nvs dvs : List Value) (nl dl : Addr) (kn kd : Nat) (M : Str → Option Value) (h : Heap) (tk : Nat), Six xs → IntsAre nvs xs → IntsAre dvs ds → ds.length = 5 → (@LT.lt Nat _ wl nl ∧ @LT.lt Nat _ nl dl) →
      Fr base L h (fun y => if y = Str.ofString "draws" then some (.ref dl) else if y = Str.ofString "numbers" then some (.ref nl) else M y) →
      News base L h [(dl, listOf dvs.toArray kd), (nl, listOf nvs.toArray kn), (wl, lst4 1 v0 b0 v1 (b0 * b1) v2 (b0 * b1 * b2) v3 kw), (bl, lst3 b0 t0 b1 t1 b2 t2 kb), (L + 1 + 1 + 1 + 1 + 1, c5), (L + 1 + 1 + 1 + 1, c4), (L + 1 + 1 + 1, c3), (L + 1 + 1, oW), (L + 1, oB), (93, tabObj #[]), (37, tabObj #[]), (30, tabObj #[])] →
      wpAny (model PySem.Challenge.rw_ph0128_01.row.prog w) (lawA L fa cd) (execs (lawBody.drop 6) (lawEnv L fa cd)) Q E { s with heap := h, toks := tk })
    : wpAny (model PySem.Challenge.rw_ph0128_01.row.prog w) (lawA L fa cd) (execs (lawBody.drop 3) (lawEnv L fa cd)) Q E s := by
  obtain ⟨sh, sg, sd, st, so⟩ := s
  try clear s
  dsimp only at F N next
  obtain ⟨X1, T1, K1, NS, C1, C2, C3, hS, hI, hlen, hbits, l0⟩ := A1
  try clear A1
  revert X1
  k_fill
  intro X1
  have hMk := kstMark
  k_with_none
  k_with "binaryOp Add int int" => (refine add_N ?_)
  k_with "binaryOp Sub int int" => (refine sub_N ?_)
  k_with "inplaceOp Add int int" => (refine iadd_N ?_)
  k_with "inplaceOp Sub int int" => (refine isub_N ?_)
  k_with "binaryOp BitOr int int" => (refine or_N ?_)
  k_with "unaryOp USub int" => (refine neg_N ?_)
  k_with "storeName" => (k_here; k_dflt (refine' storeX_N ?F ?N ?eg ?ed ?eo ?_ ?a ?b; (case F => k_asm); (case N => k_asm); (case a => rfl); (case b => rfl); (case eg => first | (dsimp only; done) | exact rfl); (case ed => first | (dsimp only; done) | exact rfl); (case eo => first | (dsimp only; done) | exact rfl); k_whole; intro _ _ _; (try k_sweep)))
  k_with "MineLt" => (first | with_reducible assumption | ((with_reducible rename _ ∧ _ => hC9); first | exact hC9.1 | exact hC9.2.1 | exact hC9.2.2.1 | exact hC9.2.2.2.1 | exact hC9.2.2.2.2.1 | exact hC9.2.2.2.2.2.1 | exact hC9.2.2.2.2.2.2.1 | exact hC9.2.2.2.2.2.2.2.1 | exact hC9.2.2.2.2.2.2.2.2.1 | exact hC9.2.2.2.2.2.2.2.2.2.1 | exact hC9.2.2.2.2.2.2.2.2.2.2.1 | exact hC9.2.2.2.2.2.2.2.2.2.2.2.1 | exact hC9.2.2.2.2.2.2.2.2.2.2.2.2.1 | exact hC9.2.2.2.2.2.2.2.2.2.2.2.2.2.1) | exact And.left (by with_reducible assumption) | exact Nat.lt_succ_self _)
  k_with "binaryOp LShift int int" => (refine' lshift_N ?hn ?hz ?_; (case hn => k_extra "nn"); (case hz => k_extra "shl"); (try k_extra "tidy"))
  k_with "inplaceOp LShift int int" => (refine' ilshift_N ?hn ?hz ?_; (case hn => k_extra "nn"); (case hz => k_extra "shl"); (try k_extra "tidy"))
  k_with "binaryOp RShift int int" => (refine' rshift_N ?hn ?_; (case hn => k_extra "nn"); (try k_extra "tidy"))
  k_with "inplaceOp RShift int int" => (refine' irshift_N ?hn ?_; (case hn => k_extra "nn"); (try k_extra "tidy"))
  k_with "binaryOp BitAnd int int" => (refine and_N ?_; (try k_extra "tidy"))
  k_with "binaryOp Mult int int" => (refine' mul_N ?_ ?hm; (case hm => k_extra "mul"); (try k_extra "tidy"))
  k_with "Kdm" => (refine' divmod_N ?F ?N ?hb ?_ ?hp; (case F => k_asm); (case N => k_asm); (case hb => k_extra "div0"); (case hp => k_extra "pylong"))
  k_with "call ref" => (k_extra "my call")
  k_with "ite" => (k_extra "decide")
  k_with "binaryOp FloorDiv int int" => (refine' floordiv_N ?hb ?_ ?hp; (case hb => k_extra "div0"); (case hp => k_extra "pylong"); (try k_extra "tidy"))
  k_with "binaryOp BitXor int int" => (refine xor_N ?_; (try k_extra "tidy"))
  k_with "subscriptTail Name Constant ref int" => (k_here; (with_reducible show wpAny _ _ (subscriptTail _ _ (Value.ref _) (Value.int _ _)) _ _ _); (with_unfolding_all refine' item_litK ?k1 ?k2 ?k3 ?k4 ?_ ?k6; (case k1 => is_list); (case k2 => decide); (case k3 => decide); (case k4 => rfl); (case k6 => with_unfolding_all rfl); k_whole))
  k_with "subscriptTail Name Name ref int" => (k_here; (with_reducible show wpAny _ _ (subscriptTail _ _ (Value.ref _) (Value.int _ _)) _ _ _); (with_unfolding_all refine' item_litK ?k1 ?k2 ?k3 ?k4 ?_ ?k6; (case k1 => is_list); (case k2 => decide); (case k3 => decide); (case k4 => rfl); (case k6 => with_unfolding_all rfl); k_whole))
  k_with "subscriptTail Name BinOp ref int" => (k_here; (with_reducible show wpAny _ _ (subscriptTail _ _ (Value.ref _) (Value.int _ _)) _ _ _); (with_unfolding_all refine' item_litK ?k1 ?k2 ?k3 ?k4 ?_ ?k6; (case k1 => is_list); (case k2 => decide); (case k3 => decide); (case k4 => rfl); (case k6 => with_unfolding_all rfl); k_whole))
  k_with "UnrEnd" => k_dflt (refine' unr_close ?uF ?uN ?uP ?uO ?_; (case uF => assumption); (case uN => assumption); (case uP => first | exact Pull.head | exact Pull.tail Pull.head | exact Pull.tail (Pull.tail Pull.head) | exact Pull.tail (Pull.tail (Pull.tail Pull.head)) | exact Pull.tail (Pull.tail (Pull.tail (Pull.tail Pull.head)))); (case uO => k_all); k_whole)
  k_with "pyIter ref" => k_dflt (k_extra "iter")
  k_with "storeName" => (k_here; k_dflt (refine' storeX_N ?F ?N ?eg ?ed ?eo ?_ ?ka ?kb; (case eg => first | (dsimp only; done) | exact rfl); (case ed => first | (dsimp only; done) | exact rfl); (case eo => first | (dsimp only; done) | exact rfl); (case kb => with_reducible (first | exact lk_script _ _ _ | exact lk_spare _ _ _ | exact lk_drawn _ _ _ | exact lk_numbers _ _ _ | exact lk_draws _ _ _ | exact lk_rows _ _ _ | exact lk_up _ _ _ | exact lk_table _ _ _ | exact lk_row _ _ _ | exact lk_lost _ _ _ | exact lk_added _ _ _)); (case ka => exact lk_fun); (case F => k_asm); (case N => k_asm); k_whole; intro _ _ _))
  k_with "eval Name" => (k_here; k_dflt (first | (refine' nameX_L ?F ?v ?_ ?ka ?kb; (case kb => with_reducible (first | exact lk_script _ _ _ | exact lk_spare _ _ _ | exact lk_drawn _ _ _ | exact lk_numbers _ _ _ | exact lk_draws _ _ _ | exact lk_rows _ _ _ | exact lk_up _ _ _ | exact lk_table _ _ _ | exact lk_row _ _ _ | exact lk_lost _ _ _ | exact lk_added _ _ _)); (case ka => exact lk_fun); (case F => k_asm); (case v => rfl); k_whole) | (refine' nameX_C ?N ?c ?m ?d ?_ ?ka ?kb; (case kb => with_reducible (first | exact lk_bases _ _ _ | exact lk_worths _ _ _ | exact lk_blocks _ _ _ | exact lk_due _ _ _ | exact lk_whole _ _ _)); (case ka => exact lk_fun); (case N => k_asm); (case c => with_reducible (first | exact lc_bases _ | exact lc_worths _ | exact lc_blocks _ | exact lc_due _ | exact lc_whole _)); (case m => k_mem); (case d => k_asm); k_whole) | (refine' nameX_K ?F ?X ?T ?e ?_ ?ka ?kb; (case kb => kernel_rfl); (case ka => exact lk_fun); (case F => k_asm); (case X => k_asm); (case T => k_asm); (case e => k_is); k_whole) | (refine' nameX_B ?F ?X ?T ?e ?v ?n ?_ ?ka ?kb; (case kb => kernel_rfl); (case ka => exact lk_fun); (case F => k_asm); (case X => k_asm); (case T => k_asm); (case e => k_is); (case v => boot_fast); (case n => decide); k_whole)))
  k_with "lkc" => with_reducible (first | exact lk_bases _ _ _ | exact lk_worths _ _ _ | exact lk_blocks _ _ _ | exact lk_due _ _ _ | exact lk_whole _ _ _)
  k_with "lcc" => with_reducible (first | exact lc_bases _ | exact lc_worths _ | exact lc_blocks _ | exact lc_due _ | exact lc_whole _)
  k_with "Ksc" => (refine' storeX_C ?F ?N ?c ?U ?d ?_ ?ka ?kb; (case kb => k_extra "lkc"); (case ka => exact lk_fun); (case F => k_asm); (case N => k_asm); (case c => k_extra "lcc"); (case U => k_updF); (case d => k_asm); k_whole)
  k_with "call type:zip" => (k_here; k_dflt (k_extra "zip"))
  k_with "call ref" => (k_extra "my call")
  k_with "callWith ref" => (k_here; k_dflt (refine' callWith_K ?k1 ?k2 ?_; (case k1 => k_asm); (case k2 => k_is); k_whole))
  k_with "exec Assign" => (k_extra "asg")
  k_with "exec Assign cons ListComp" => (k_extra "asg")
  k_with "eval ListComp" => (k_extra "comp")
  k_with "execs cons" => (k_extra "seq")
  k_with "CompSrc" => (k_extra "src")
  k_with "CompEnd" => (k_extra "cend")
  k_with "compareOp NotEq ref ref" => (k_here; k_dflt (k_extra "ne"))
  k_with "compareOp Eq ref ref" => (k_here; k_dflt (k_extra "eq"))
  k_with "subscriptTail Name Name ref int" => (k_here; (with_reducible show wpAny _ _ (subscriptTail _ _ (Value.ref _) (Value.int _ _)) _ _ _); k_dflt (k_extra "tail"))
  k_with "call builtin:sum" => (k_here; k_dflt (k_extra "sum"))
  k_with "subscriptTail Name Slice ref ref" => (k_here; k_dflt (k_extra "cut"))
  k_with "CompSrcT" => (k_extra "src")
  k_with "decide" => fail
  k_with "asg" => ((with_reducible show wpAny _ _ (exec (Stmt.Assign _ (Expr.ListComp _ _ _ _) _) _) _ _ _); refine stop_intro ?_)
  k_with "seq" => ((with_reducible show wpAny _ _ (execs (Stmt.Assign [Expr.Name (Str.ofString "rows") _] _ _ :: _) _) _ _ _); refine stop_intro ?_)
  k_with "my call" =>
    first
      | (k_dflt (refine' fill ns svs hI hlen 3 (by decide) _ sl _ _ [100, -5000, 70000, 107] (.cons _ _ (.cons _ _ (.cons _ _ (.cons _ _ .nil)))) (by decide) _ _ _ _ _ _ _ _ _ _ _ base base L _ _ _ _ _ X1 ?kB ?kF ?kN hS ?hP T1 ?hk ?hdp ?hu ?_)
         (case kN => k_asm)
         (case hP => k_mem)
         (case kB => k_asm)
         (case kF => k_asm)
         (case hk => kernel_rfl)
         (case hdp => ktr_room)
         (case hu => ktr_units)
         intro D9 us9 k9 h9 tk9 I9 l9 F9 N9
         simp only [AllLt] at l9
         refine Mine.exand4_1 (list4 (filled_len ns 3 [100, -5000, 70000, 107])) fun n0 n1 n2 n3 e9 => ?_
         have hb9 := fun x (h : x ∈ filled ns 3 [100, -5000, 70000, 107]) => filled_bits hbits (by decide) h
         rw [e9] at I9 hb9
         refine Mine.exand4_1 (ints4 I9) fun u0 u1 u2 u3 ob19 => ?_
         subst ob19
         clear e9)
      | (k_dflt (refine' fill ns svs hI hlen 0 (by decide) _ sl _ _ [-40, 30, -50] (.cons _ _ (.cons _ _ (.cons _ _ .nil))) (by decide) _ _ _ _ _ _ _ _ _ _ _ base base L _ _ _ _ _ X1 ?kB ?kF ?kN hS ?hP T1 ?hk ?hdp ?hu ?_)
         (case kN => k_asm)
         (case hP => k_mem)
         (case kB => k_asm)
         (case kF => k_asm)
         (case hk => kernel_rfl)
         (case hdp => ktr_room)
         (case hu => ktr_units)
         intro D9 us9 k9 h9 tk9 I9 l9 F9 N9
         simp only [AllLt] at l9)
      | (k_dflt (refine' fill ns svs hI hlen 3 (by decide) _ sl _ _ [100, -5000, 70000, 107] (.cons _ _ (.cons _ _ (.cons _ _ (.cons _ _ .nil)))) (by decide) _ _ _ _ _ _ _ _ _ _ _ base base L _ _ _ _ _ X1 ?kB ?kF ?kN hS ?hP T1 ?hk ?hdp ?hu ?_)
         (case kN => k_asm)
         (case hP => k_mem)
         (case kB => k_asm)
         (case kF => k_asm)
         (case hk => kernel_rfl)
         (case hdp => ktr_room)
         (case hu => ktr_units)
         intro D9 us9 k9 h9 tk9 I9 l9 F9 N9
         simp only [AllLt] at l9)
      | (k_dflt (refine' fill ns svs hI hlen 7 (by decide) _ sl _ _ [2, 4, 12, 0, 1] (.cons _ _ (.cons _ _ (.cons _ _ (.cons _ _ (.cons _ _ .nil))))) (by decide) _ _ _ _ _ _ _ _ _ _ _ base base L _ _ _ _ _ X1 ?kB ?kF ?kN hS ?hP T1 ?hk ?hdp ?hu ?_)
         (case kN => k_asm)
         (case hP => k_mem)
         (case kB => k_asm)
         (case kF => k_asm)
         (case hk => kernel_rfl)
         (case hdp => ktr_room)
         (case hu => ktr_units)
         intro D9 us9 k9 h9 tk9 I9 l9 F9 N9
         simp only [AllLt] at l9)
      | refine stop_intro ?_
  have w2b : intBits (b0 * b1) ≤ 2097152 := bits_mul q0 q1
  k_steps
  unfold Stop
  (rename Fr _ _ _ _ => Ff)
  (rename News _ _ _ _ => Nf)
  refine next [n0, n1, n2, n3, n0 + b0, n1 - b0 * b1] _ _ us9 _ D9 _ _ _ _ _ ⟨rfl, fun x hx => ?_⟩ (.cons _ _ (.cons _ _ (.cons _ _ (.cons _ _ (.cons _ _ (.cons _ _ .nil)))))) I9 (filled_len _ _ _) ⟨by omega, by omega⟩ Ff (newsAdd Nf (.head _) (newsAdd Nf (.tail _ (.tail _ (.head _))) fun p hp => Nf p (.tail _ (.tail _ (.tail _ (.tail _ (.tail _ (.tail _ hp))))))))
  have hn0 := hb9 n0 (by simp)
  have hn1 := hb9 n1 (by simp)
  simp only [List.mem_cons, List.not_mem_nil, or_false] at hx
  rcases hx with rfl | rfl | rfl | rfl | rfl | rfl
  · exact bits_up hn0 (by decide)
  · exact bits_up hn1 (by decide)
  · exact bits_up (hb9 _ (by simp)) (by decide)
  · exact bits_up (hb9 _ (by simp)) (by decide)
  · exact bits_up (bits_add hn0 q0) (by decide)
  · exact bits_up (bits_sub hn1 w2b) (by decide)
end
example {prog : Program} {w : World} {A : Around} {env : Env} {Q : Flow → Shared → Prop} {E : Value → Shared → Prop} {s : Shared} (h : Q .next s) : wpAny (model prog w) A (execs [] env) Q E s := by
  w_top off
  walk1
  exact h
section
open PyProof.Rows.LCg
theorem seg3 {w p loose mean mg mb} {base : Heap} {L sl fa : Addr} {cd : Value} {ns : List Int} {svs : List Value} {s : Shared} {c3 c4 c5 oB oW : Obj} {Q : Flow → Shared → Prop} {E : Value → Shared → Prop} {b0 b1 b2 : Int} {t0 t1 t2 v0 v1 v2 v3 : Tok} {bl wl nl dl : Addr} {kb kw kn kd : Nat} {M : Str → Option Value} {xs : List Int} {nvs dvs : List Value}
    (A1 : LawAt w p loose mean mg mb base L sl ns svs) (z0 : b0 ≠ 0) (z1 : b1 ≠ 0) (z2 : b2 ≠ 0) (q0 : intBits b0 ≤ 1048576) (q1' : intBits b1 ≤ 1048576) (q2' : intBits b2 ≤ 1048576) (dB : oB.data = .cell (some (.ref bl))) (low : @LT.lt Nat _ (L + 1 + 1 + 1 + 1 + 1) bl ∧ @LT.lt Nat _ bl wl ∧ @LT.lt Nat _ wl nl ∧ @LT.lt Nat _ nl dl)
    (hxs : Six xs) (In : IntsAre nvs xs)
    (F : Fr base L s.heap (fun y => if y = Str.ofString "draws" then some (.ref dl) else if y = Str.ofString "numbers" then some (.ref nl) else M y))
    (N : News base L s.heap [(dl, listOf dvs.toArray kd), (nl, listOf nvs.toArray kn), (wl, lst4 1 v0 b0 v1 (b0 * b1) v2 (b0 * b1 * b2) v3 kw), (bl, lst3 b0 t0 b1 t1 b2 t2 kb), (L + 1 + 1 + 1 + 1 + 1, c5), (L + 1 + 1 + 1 + 1, c4), (L + 1 + 1 + 1, c3), (L + 1 + 1, oW), (L + 1, oB), (93, tabObj #[]), (37, tabObj #[]), (30, tabObj #[])])
    (next : ∀ (rl : Addr) (rvs : List Value) (kr : Nat) (h : Heap) (tk : Nat) (gen : List (Addr × Obj)), Gen L gen → HotN gen → (rl, listOf rvs.toArray kr) ∈ gen → LineR w b0 b1 b2 (b0 * b1) gen rvs (xs.map (leafR b0 b1 b2)) →
      (dl, listOf dvs.toArray kd) ∈ gen → (nl, listOf nvs.toArray kn) ∈ gen → (wl, lst4 1 v0 b0 v1 (b0 * b1) v2 (b0 * b1 * b2) v3 kw) ∈ gen → (bl, lst3 b0 t0 b1 t1 b2 t2 kb) ∈ gen →
      Fr base L h (fun y => if y = Str.ofString "rows" then some (.ref rl) else if y = Str.ofString "draws" then some (.ref dl) else if y = Str.ofString "numbers" then some (.ref nl) else M y) → News base L h (cells L #[] oB oW c3 c4 c5 ++ gen) →
      wpAny (model PySem.Challenge.rw_ph0128_01.row.prog w) (lawA L fa cd) (execs (lawBody.drop 7) (lawEnv L fa cd)) Q E { s with heap := h, toks := tk })
    : wpAny (model PySem.Challenge.rw_ph0128_01.row.prog w) (lawA L fa cd) (execs (lawBody.drop 6) (lawEnv L fa cd)) Q E s := by
  obtain ⟨sh, sg, sd, st, so⟩ := s
  try clear s
  dsimp only at F N next
  obtain ⟨X1, T1, K1, NS, C1, C2, C3, hS, hI, hlen, hbits, l0⟩ := A1
  try clear A1
  revert X1
  k_fill
  intro X1
  have hMk := kstMark
  k_with_none
  k_with "binaryOp Add int int" => (refine add_N ?_)
  k_with "binaryOp Sub int int" => (refine sub_N ?_)
  k_with "inplaceOp Add int int" => (refine iadd_N ?_)
  k_with "inplaceOp Sub int int" => (refine isub_N ?_)
  k_with "binaryOp BitOr int int" => (refine or_N ?_)
  k_with "unaryOp USub int" => (refine neg_N ?_)
  k_with "storeName" => (k_here; k_dflt (refine' storeX_N ?F ?N ?eg ?ed ?eo ?_ ?a ?b; (case F => k_asm); (case N => k_asm); (case a => rfl); (case b => rfl); (case eg => first | (dsimp only; done) | exact rfl); (case ed => first | (dsimp only; done) | exact rfl); (case eo => first | (dsimp only; done) | exact rfl); k_whole; intro _ _ _; (try k_sweep)))
  k_with "MineLt" => (first | with_reducible assumption | ((with_reducible rename _ ∧ _ => hC9); first | exact hC9.1 | exact hC9.2.1 | exact hC9.2.2.1 | exact hC9.2.2.2.1 | exact hC9.2.2.2.2.1 | exact hC9.2.2.2.2.2.1 | exact hC9.2.2.2.2.2.2.1 | exact hC9.2.2.2.2.2.2.2.1 | exact hC9.2.2.2.2.2.2.2.2.1 | exact hC9.2.2.2.2.2.2.2.2.2.1 | exact hC9.2.2.2.2.2.2.2.2.2.2.1 | exact hC9.2.2.2.2.2.2.2.2.2.2.2.1 | exact hC9.2.2.2.2.2.2.2.2.2.2.2.2.1 | exact hC9.2.2.2.2.2.2.2.2.2.2.2.2.2.1) | exact And.left (by with_reducible assumption) | exact Nat.lt_succ_self _)
  k_with "binaryOp LShift int int" => (refine' lshift_N ?hn ?hz ?_; (case hn => k_extra "nn"); (case hz => k_extra "shl"); (try k_extra "tidy"))
  k_with "inplaceOp LShift int int" => (refine' ilshift_N ?hn ?hz ?_; (case hn => k_extra "nn"); (case hz => k_extra "shl"); (try k_extra "tidy"))
  k_with "binaryOp RShift int int" => (refine' rshift_N ?hn ?_; (case hn => k_extra "nn"); (try k_extra "tidy"))
  k_with "inplaceOp RShift int int" => (refine' irshift_N ?hn ?_; (case hn => k_extra "nn"); (try k_extra "tidy"))
  k_with "binaryOp BitAnd int int" => (refine and_N ?_; (try k_extra "tidy"))
  k_with "binaryOp Mult int int" => (refine' mul_N ?_ ?hm; (case hm => k_extra "mul"); (try k_extra "tidy"))
  k_with "Kdm" => (refine' divmod_N ?F ?N ?hb ?_ ?hp; (case F => k_asm); (case N => k_asm); (case hb => k_extra "div0"); (case hp => k_extra "pylong"))
  k_with "call ref" => (k_extra "my call")
  k_with "ite" => (k_extra "decide")
  k_with "binaryOp FloorDiv int int" => (refine' floordiv_N ?hb ?_ ?hp; (case hb => k_extra "div0"); (case hp => k_extra "pylong"); (try k_extra "tidy"))
  k_with "binaryOp BitXor int int" => (refine xor_N ?_; (try k_extra "tidy"))
  k_with "subscriptTail Name Constant ref int" => (k_here; (with_reducible show wpAny _ _ (subscriptTail _ _ (Value.ref _) (Value.int _ _)) _ _ _); (with_unfolding_all refine' item_litK ?k1 ?k2 ?k3 ?k4 ?_ ?k6; (case k1 => is_list); (case k2 => decide); (case k3 => decide); (case k4 => rfl); (case k6 => with_unfolding_all rfl); k_whole))
  k_with "subscriptTail Name Name ref int" => (k_here; (with_reducible show wpAny _ _ (subscriptTail _ _ (Value.ref _) (Value.int _ _)) _ _ _); (with_unfolding_all refine' item_litK ?k1 ?k2 ?k3 ?k4 ?_ ?k6; (case k1 => is_list); (case k2 => decide); (case k3 => decide); (case k4 => rfl); (case k6 => with_unfolding_all rfl); k_whole))
  k_with "subscriptTail Name BinOp ref int" => (k_here; (with_reducible show wpAny _ _ (subscriptTail _ _ (Value.ref _) (Value.int _ _)) _ _ _); (with_unfolding_all refine' item_litK ?k1 ?k2 ?k3 ?k4 ?_ ?k6; (case k1 => is_list); (case k2 => decide); (case k3 => decide); (case k4 => rfl); (case k6 => with_unfolding_all rfl); k_whole))
  k_with "UnrEnd" => k_dflt (refine' unr_close ?uF ?uN ?uP ?uO ?_; (case uF => assumption); (case uN => assumption); (case uP => first | exact Pull.head | exact Pull.tail Pull.head | exact Pull.tail (Pull.tail Pull.head) | exact Pull.tail (Pull.tail (Pull.tail Pull.head)) | exact Pull.tail (Pull.tail (Pull.tail (Pull.tail Pull.head)))); (case uO => k_all); k_whole)
  k_with "pyIter ref" => k_dflt (k_extra "iter")
  k_with "storeName" => (k_here; k_dflt (refine' storeX_N ?F ?N ?eg ?ed ?eo ?_ ?ka ?kb; (case eg => first | (dsimp only; done) | exact rfl); (case ed => first | (dsimp only; done) | exact rfl); (case eo => first | (dsimp only; done) | exact rfl); (case kb => with_reducible (first | exact lk_script _ _ _ | exact lk_spare _ _ _ | exact lk_drawn _ _ _ | exact lk_numbers _ _ _ | exact lk_draws _ _ _ | exact lk_rows _ _ _ | exact lk_up _ _ _ | exact lk_table _ _ _ | exact lk_row _ _ _ | exact lk_lost _ _ _ | exact lk_added _ _ _)); (case ka => exact lk_fun); (case F => k_asm); (case N => k_asm); k_whole; intro _ _ _))
  k_with "eval Name" => (k_here; k_dflt (first | (refine' nameX_L ?F ?v ?_ ?ka ?kb; (case kb => with_reducible (first | exact lk_script _ _ _ | exact lk_spare _ _ _ | exact lk_drawn _ _ _ | exact lk_numbers _ _ _ | exact lk_draws _ _ _ | exact lk_rows _ _ _ | exact lk_up _ _ _ | exact lk_table _ _ _ | exact lk_row _ _ _ | exact lk_lost _ _ _ | exact lk_added _ _ _)); (case ka => exact lk_fun); (case F => k_asm); (case v => rfl); k_whole) | (refine' nameX_C ?N ?c ?m ?d ?_ ?ka ?kb; (case kb => with_reducible (first | exact lk_bases _ _ _ | exact lk_worths _ _ _ | exact lk_blocks _ _ _ | exact lk_due _ _ _ | exact lk_whole _ _ _)); (case ka => exact lk_fun); (case N => k_asm); (case c => with_reducible (first | exact lc_bases _ | exact lc_worths _ | exact lc_blocks _ | exact lc_due _ | exact lc_whole _)); (case m => k_mem); (case d => k_asm); k_whole) | (refine' nameX_K ?F ?X ?T ?e ?_ ?ka ?kb; (case kb => kernel_rfl); (case ka => exact lk_fun); (case F => k_asm); (case X => k_asm); (case T => k_asm); (case e => k_is); k_whole) | (refine' nameX_B ?F ?X ?T ?e ?v ?n ?_ ?ka ?kb; (case kb => kernel_rfl); (case ka => exact lk_fun); (case F => k_asm); (case X => k_asm); (case T => k_asm); (case e => k_is); (case v => boot_fast); (case n => decide); k_whole)))
  k_with "lkc" => with_reducible (first | exact lk_bases _ _ _ | exact lk_worths _ _ _ | exact lk_blocks _ _ _ | exact lk_due _ _ _ | exact lk_whole _ _ _)
  k_with "lcc" => with_reducible (first | exact lc_bases _ | exact lc_worths _ | exact lc_blocks _ | exact lc_due _ | exact lc_whole _)
  k_with "Ksc" => (refine' storeX_C ?F ?N ?c ?U ?d ?_ ?ka ?kb; (case kb => k_extra "lkc"); (case ka => exact lk_fun); (case F => k_asm); (case N => k_asm); (case c => k_extra "lcc"); (case U => k_updF); (case d => k_asm); k_whole)
  k_with "call type:zip" => (k_here; k_dflt (k_extra "zip"))
  k_with "call ref" => (k_extra "my call")
  k_with "callWith ref" => (k_here; k_dflt (refine' callWith_K ?k1 ?k2 ?_; (case k1 => k_asm); (case k2 => k_is); k_whole))
  k_with "exec Assign" => (k_extra "asg")
  k_with "exec Assign cons ListComp" => (k_extra "asg")
  k_with "eval ListComp" => (k_extra "comp")
  k_with "execs cons" => (k_extra "seq")
  k_with "CompSrc" => (k_extra "src")
  k_with "CompEnd" => (k_extra "cend")
  k_with "compareOp NotEq ref ref" => (k_here; k_dflt (k_extra "ne"))
  k_with "compareOp Eq ref ref" => (k_here; k_dflt (k_extra "eq"))
  k_with "subscriptTail Name Name ref int" => (k_here; (with_reducible show wpAny _ _ (subscriptTail _ _ (Value.ref _) (Value.int _ _)) _ _ _); k_dflt (k_extra "tail"))
  k_with "call builtin:sum" => (k_here; k_dflt (k_extra "sum"))
  k_with "subscriptTail Name Slice ref ref" => (k_here; k_dflt (k_extra "cut"))
  k_with "CompSrcT" => (k_extra "src")
  k_with "decide" => fail
  k_with "asg" => ((with_reducible show wpAny _ _ (exec (Stmt.Assign _ (Expr.ListComp _ _ _ _) _) _) _ _ _); refine stop_intro ?_)
  k_with "src" => refine stop_intro ?_
  k_with "cend" => refine stop_intro ?_
  k_with "my call" => refine stop_intro ?_
  have ob19 : ∃ fx : List (Addr × Obj), fx = [(dl, listOf dvs.toArray kd), (nl, listOf nvs.toArray kn), (wl, lst4 1 v0 b0 v1 (b0 * b1) v2 (b0 * b1 * b2) v3 kw), (bl, lst3 b0 t0 b1 t1 b2 t2 kb)] := ⟨_, rfl⟩
  refine Mine.exand1_1 ob19 fun fx hfx => ?_
  try clear ob19
  have hnl : (nl, listOf nvs.toArray kn) ∈ fx := by rw [hfx]; simp
  have hbl : (bl, lst3 b0 t0 b1 t1 b2 t2 kb) ∈ fx := by rw [hfx]; simp
  have far : Gen L ([] ++ ([(30, tabObj #[])] ++ ([(37, tabObj #[])] ++ fx))) := by
    rw [hfx]
    intro q hq
    simp only [List.mem_cons, List.cons_append, List.nil_append, List.not_mem_nil, or_false] at hq
    rcases hq with rfl | rfl | rfl | rfl | rfl | rfl <;> (dsimp only; omega)
  have N1 : News base L sh (cells L #[] oB oW c3 c4 c5 ++ ([] ++ ([(30, tabObj #[])] ++ ([(37, tabObj #[])] ++ fx)))) := by
    refine newsSub N ?_
    rw [hfx]
    dsimp only [cells, List.cons_append, List.nil_append]
    iterate 12 refine List.forall_mem_cons.mpr ⟨by k_mem, ?_⟩
    exact fun q hq => absurd hq List.not_mem_nil
  clear N
  k_steps
  unfold Stop
  refine Assign_ListComp_U (F₀ := F) (cl := [(Str.ofString "bases", L + 1)]) rfl ?hsw ?hclos ?hcell ?hkind ?hnames ?hx ?hy ?hp ?_ ?hs
  case hsw => with_unfolding_all rfl
  case hclos => with_unfolding_all rfl
  case hcell => decide
  case hkind => rfl
  case hnames => decide
  case hx => rfl
  case hy => exact lk_rows _ _ _
  case hp => rfl
  case hs => (intro _; rfl)
  k_steps
  unfold Stop
  have hsz : nvs.toArray.size = 6 := by rw [List.size_toArray, In.length]; exact hxs.len
  refine CompSrc.ledger rfl F N1 (List.mem_append_right _ (List.mem_append_right _ (List.mem_append_right _ (List.mem_append_right _ hnl)))) (by rw [hsz]; decide) fun g => ?_
  refine compRest_ind (fun i ys nw => ∃ T1' T2' own, nw = cells L #[] oB oW c3 c4 c5 ++ (own ++ (T1' ++ (T2' ++ fx))) ∧ StB T1' T2' (cells L #[] oB oW c3 c4 c5 ++ (own ++ fx)) ∧ (0 < i → Hot1 T1' ∧ Hot2 T2') ∧ Gen L (own ++ (T1' ++ (T2' ++ fx))) ∧ LineR w b0 b1 b2 (b0 * b1) own ys ((xs.map (leafR b0 b1 b2)).take i)) ?turn ?done nvs.toArray.size 0 [] _ (Nat.zero_add _) ?h0
  case h0 =>
    refine ⟨[(30, tabObj #[])], [(37, tabObj #[])], [], rfl, .inl ⟨rfl, rfl, fun q hq => ?_⟩, fun h => absurd h (by decide), far, trivial⟩
    rw [hfx] at hq
    simp only [cells, List.mem_cons, List.cons_append, List.nil_append, List.not_mem_nil, or_false] at hq
    rcases hq with rfl | rfl | rfl | rfl | rfl | rfl | rfl | rfl | rfl | rfl <;> (refine ⟨?_, ?_⟩ <;> (intro e; have e' : @Eq Nat _ _ := e; dsimp only at e'; omega))
  case turn =>
    intro i ys nw v I oI C oC D m2 h tk E' hi hv J ho hx F' N' off ne
    first | (refine' turn_N ?eg ?ed ?eo ?_; (case eg => first | (dsimp only; done) | exact rfl); (case ed => first | (dsimp only; done) | exact rfl); (case eo => first | (dsimp only; done) | exact rfl)) | refine post_let ?_
    intro qT
    refine Mine.exand3_5 J fun T1' T2' own ob29 hSt hH hG hLine => ?_
    subst ob29
    try clear J
    rw [List.getElem?_toArray] at hv
    refine Mine.exand2_2 (In.at _ _ hv) fun x tx ob39 hxi => ?_
    subst ob39
    have hbx := bits_up (hxs.bits x (List.mem_of_getElem? hxi)) (show 2200000 ≤ 4194304 by decide)
    have N2 : News base L h ((I, oI) :: (C, oC) :: (D, lst ys) :: (93, tabObj #[]) :: (L + 1, oB) :: (L + 1 + 1, oW) :: (L + 1 + 1 + 1, c3) :: (L + 1 + 1 + 1 + 1, c4) :: (L + 1 + 1 + 1 + 1 + 1, c5) :: (own ++ (T1' ++ (T2' ++ fx)))) := N'
    clear N'
    k_steps
    unfold Stop
    have offm := off.mem
    have hrest : ∀ q ∈ T1' ++ (T2' ++ ((I, oI) :: (C, oC) :: (D, lst ys) :: (cells L #[] oB oW c3 c4 c5 ++ (own ++ fx)))), q ∈ (I, oI) :: (C, oC) :: (D, lst ys) :: (93, tabObj #[]) :: (L + 1, oB) :: (L + 1 + 1, oW) :: (L + 1 + 1 + 1, c3) :: (L + 1 + 1 + 1 + 1, c4) :: (L + 1 + 1 + 1 + 1 + 1, c5) :: (own ++ (T1' ++ (T2' ++ fx))) := fun q hq => by
      show q ∈ (I, oI) :: (C, oC) :: (D, lst ys) :: (cells L #[] oB oW c3 c4 c5 ++ (own ++ (T1' ++ (T2' ++ fx))))
      simp only [List.mem_append, List.mem_cons] at hq ⊢
      grind
    have hSt2 : StB T1' T2' ((I, oI) :: (C, oC) :: (D, lst ys) :: (cells L #[] oB oW c3 c4 c5 ++ (own ++ fx))) := by
      rcases hSt with ⟨a1, a2, a3⟩ | a
      · have m30 : ((30 : Addr), tabObj #[]) ∈ cells L #[] oB oW c3 c4 c5 ++ (own ++ (T1' ++ (T2' ++ fx))) := List.mem_append_right _ (List.mem_append_right _ (List.mem_append_left _ (by rw [show T1' = _ from a1]; exact .head _)))
        have m37 : ((37 : Addr), tabObj #[]) ∈ cells L #[] oB oW c3 c4 c5 ++ (own ++ (T1' ++ (T2' ++ fx))) := List.mem_append_right _ (List.mem_append_right _ (List.mem_append_right _ (List.mem_append_left _ (by rw [show T2' = _ from a2]; exact .head _))))
        refine .inl ⟨a1, a2, fun q hq => ?_⟩
        rcases List.mem_cons.mp hq with rfl | hq
        · exact ⟨Ne.symm (offm _ m30).1, Ne.symm (offm _ m37).1⟩
        rcases List.mem_cons.mp hq with rfl | hq
        · exact ⟨Ne.symm (offm _ m30).2.1, Ne.symm (offm _ m37).2.1⟩
        rcases List.mem_cons.mp hq with rfl | hq
        · exact ⟨Ne.symm (offm _ m30).2.2, Ne.symm (offm _ m37).2.2⟩
        · exact a3 q hq
      · exact .inr a
    k_dflt (refine' row x b0 b1 b2 tx t0 t1 t2 z0 z1 z2 hbx (bits_up q0 (by decide)) (bits_up q1' (by decide)) (bits_up q2' (by decide)) _ _ _ _ _ _ _ _ _ _ base base L _ T1' T2' ((I, oI) :: (C, oC) :: (D, lst ys) :: (cells L #[] oB oW c3 c4 c5 ++ (own ++ fx))) _ _ _ bl kb K1 F' X1 (newsSub N2 hrest) hSt2 ?hbl T1 C1 C2 ?hk ?hdp ?hu ?_)
    case hbl => exact .tail _ (.tail _ (.tail _ (List.mem_append_right _ (List.mem_append_right _ hbl))))
    case hk => exact lk_fun
    case hdp => ktr_room
    case hu => ktr_units
    intro th on la tw tth ton tla ttw D9 dd o9 cc ta U1 U2 h9 tk9 hR ho9 H1 H2 Eq9 W1 W2 F9 N9 l1 l2 l3
    have lI := kst_ltOf l2
    have g1 : @LT.lt Nat _ (L + 1 + 1 + 1 + 1 + 1) dd := lI (L + 1 + 1 + 1 + 1 + 1, c5) (.tail _ (.tail _ (.tail _ (List.mem_append_left _ (by simp [cells])))))
    have gI : @LT.lt Nat _ I dd := lI (I, oI) (.head _)
    have gC : @LT.lt Nat _ C dd := lI (C, oC) (.tail _ (.head _))
    have gD : @LT.lt Nat _ D dd := lI (D, lst ys) (.tail _ (.tail _ (.head _)))
    have l3' : @LT.lt Nat _ dd D9 := l3
    have offT : ∀ (P : Addr) (U T : List (Addr × Obj)), NewT P T U ((I, oI) :: (C, oC) :: (D, lst ys) :: (cells L #[] oB oW c3 c4 c5 ++ (own ++ fx))) → (∀ q ∈ T, q ∈ own ++ (T1' ++ (T2' ++ fx))) → (P ≠ I ∧ P ≠ C ∧ P ≠ D) → (@LT.lt Nat _ P L) → @Ne Nat P 93 →
        ∀ q ∈ U, (q.1 ≠ I ∧ q.1 ≠ C ∧ q.1 ≠ D) ∧ ((@LT.lt Nat _ (L + 1 + 1 + 1 + 1 + 1) q.1 ∨ @LT.lt Nat _ q.1 L) ∧ @Ne Nat q.1 93) := fun P U T W hT hP hPL hP93 q hq => by
      rcases W q hq with h | h | h
      · exact ⟨offm q (List.mem_append_right _ (hT q h)), hG q (hT q h)⟩
      · rw [h]; exact ⟨hP, .inr hPL, hP93⟩
      · have l := kst_ltOf h
        have e1 : @LT.lt Nat _ I q.1 := l (I, oI) (.head _)
        have e2 : @LT.lt Nat _ C q.1 := l (C, oC) (.tail _ (.head _))
        have e3 : @LT.lt Nat _ D q.1 := l (D, lst ys) (.tail _ (.tail _ (.head _)))
        have e4 : @LT.lt Nat _ (L + 1 + 1 + 1 + 1 + 1) q.1 := l (L + 1 + 1 + 1 + 1 + 1, c5) (.tail _ (.tail _ (.tail _ (List.mem_append_left _ (by simp [cells])))))
        exact ⟨⟨Nat.ne_of_gt e1, Nat.ne_of_gt e2, Nat.ne_of_gt e3⟩, .inl e4, by omega⟩
    refine Mine.exand0_2 hSt.has fun ob49 ob59 => ?_
    refine Mine.exand1_1 ob49 fun o30 m30 => ?_
    try clear ob49
    refine Mine.exand1_1 ob59 fun o37 m37 => ?_
    try clear ob59
    have n30 := offm _ (List.mem_append_right _ (List.mem_append_right _ (List.mem_append_left _ m30)))
    have n37 := offm _ (List.mem_append_right _ (List.mem_append_right _ (List.mem_append_right _ (List.mem_append_left _ m37))))
    have u1 := offT 30 U1 T1' W1 (fun q hq => List.mem_append_right _ (List.mem_append_left _ hq)) ⟨Ne.symm (Ne.symm n30.1), n30.2.1, n30.2.2⟩ l0.2.2 (by decide)
    have u2 := offT 37 U2 T2' W2 (fun q hq => List.mem_append_right _ (List.mem_append_right _ (List.mem_append_left _ hq))) n37 l0.2.1 (by decide)
    refine CompEnd.intro F9 N9 (cells L #[] oB oW c3 c4 c5 ++ (((D9, tup5 th tth on ton la tla tw ttw dd cc) :: (dd, o9) :: own) ++ (U1 ++ (U2 ++ fx)))) (fun q hq => ?_) (Off3.of fun q hq => ?_)
      (.inr ⟨_, List.mem_append_right _ (List.mem_append_right _ (List.mem_append_right _ (List.mem_append_right _ hnl))), rfl, _, rfl⟩)
      ⟨U1, U2, (D9, tup5 th tth on ton la tla tw ttw dd cc) :: (dd, o9) :: own, rfl, .inr ⟨H1, H2⟩, fun _ => ⟨H1, H2⟩, fun q hq => ?_,
        line_snoc hLine (fun q hq => .tail _ (.tail _ hq)) (by rw [List.getElem?_map, hxi]; rfl) ⟨D9, rfl, row_ent hR (.head _) (.tail _ (.head _)) ho9 (notSys (by omega))⟩⟩
    · simp only [List.mem_append, List.mem_cons] at hq ⊢
      grind
    · rcases List.mem_append.mp hq with hq | hq
      · exact offm q (List.mem_append_left _ hq)
      rcases List.mem_append.mp hq with hq | hq
      · rcases List.mem_cons.mp hq with rfl | hq
        · exact ⟨Nat.ne_of_gt (Nat.lt_trans gI l3'), Nat.ne_of_gt (Nat.lt_trans gC l3'), Nat.ne_of_gt (Nat.lt_trans gD l3')⟩
        rcases List.mem_cons.mp hq with rfl | hq
        · exact ⟨Nat.ne_of_gt gI, Nat.ne_of_gt gC, Nat.ne_of_gt gD⟩
        · exact offm q (List.mem_append_right _ (List.mem_append_left _ hq))
      rcases List.mem_append.mp hq with hq | hq
      · exact (u1 q hq).1
      rcases List.mem_append.mp hq with hq | hq
      · exact (u2 q hq).1
      · exact offm q (List.mem_append_right _ (List.mem_append_right _ (List.mem_append_right _ (List.mem_append_right _ hq))))
    · rcases List.mem_append.mp hq with hq | hq
      · rcases List.mem_cons.mp hq with rfl | hq
        · exact ⟨.inl (Nat.lt_trans g1 l3'), by dsimp only; omega⟩
        rcases List.mem_cons.mp hq with rfl | hq
        · exact ⟨.inl g1, by dsimp only; omega⟩
        · exact hG q (List.mem_append_left _ hq)
      rcases List.mem_append.mp hq with hq | hq
      · exact (u1 q hq).2
      rcases List.mem_append.mp hq with hq | hq
      · exact (u2 q hq).2
      · exact hG q (List.mem_append_right _ (List.mem_append_right _ (List.mem_append_right _ hq)))
  case done =>
    intro ys nw J
    refine Mine.exand3_5 J fun T1' T2' own ob69 hSt hH hG hLine => ?_
    subst ob69
    try clear J
    rw [hsz] at hH hLine
    refine Mine.exand0_2 (hH (by decide)) fun H1 H2 => ?_
    unfold FinA
    intro D h tk F' N' o1
    refine next D ys ys.length _ _ ((D, lst ys) :: (own ++ (T1' ++ (T2' ++ fx)))) (hG.off1 N' fun q hq => off1_mem o1 q (List.mem_append_left _ hq)) ⟨T1', T2', H1, H2, fun q hq => .tail _ (List.mem_append_right _ (List.mem_append_left _ hq)), fun q hq => .tail _ (List.mem_append_right _ (List.mem_append_right _ (List.mem_append_left _ hq)))⟩
      (.head _) (LineR.sub (fun q hq => .tail _ (List.mem_append_left _ hq)) (by rw [List.take_of_length_le (by rw [List.length_map, hxs.len]; exact Nat.le_refl _)] at hLine; exact hLine))
      (.tail _ (List.mem_append_right _ (List.mem_append_right _ (List.mem_append_right _ (by rw [hfx]; exact .head _))))) (.tail _ (List.mem_append_right _ (List.mem_append_right _ (List.mem_append_right _ hnl))))
      (.tail _ (List.mem_append_right _ (List.mem_append_right _ (List.mem_append_right _ (by rw [hfx]; exact .tail _ (.tail _ (.head _))))))) (.tail _ (List.mem_append_right _ (List.mem_append_right _ (List.mem_append_right _ hbl)))) F' (newsSub N' fun q hq => ?_)
    rcases List.mem_append.mp hq with hq | hq
    · exact .tail _ (List.mem_append_left _ hq)
    rcases List.mem_cons.mp hq with rfl | hq
    · exact .head _
    · exact .tail _ (List.mem_append_right _ hq)
end
example {prog : Program} {w : World} {A : Around} {env : Env} {Q : Flow → Shared → Prop} {E : Value → Shared → Prop} {s : Shared} (h : Q .next s) : wpAny (model prog w) A (execs [] env) Q E s := by
  w_top off
  walk1
  exact h
section
open PyProof.Rows.LCg
theorem seg4 {w p loose mean mg mb} {base : Heap} {L sl fa : Addr} {cd : Value} {ns : List Int} {svs : List Value} {s : Shared} {c3 c4 c5 oB oW : Obj} {Q : Flow → Shared → Prop} {E : Value → Shared → Prop} {b0 b1 b2 : Int} {t0 t1 t2 v0 v1 v2 v3 : Tok} {bl wl nl dl rl : Addr} {kb kw kn : Nat} {M : Str → Option Value} {xs : List Int} {nvs : List Value} {gen : List (Addr × Obj)}
    (A1 : LawAt w p loose mean mg mb base L sl ns svs) (z0 : b0 ≠ 0) (z1 : b1 ≠ 0) (z2 : b2 ≠ 0) (q0 : intBits b0 ≤ 1048576) (q1' : intBits b1 ≤ 1048576) (q2' : intBits b2 ≤ 1048576) (dB : oB.data = .cell (some (.ref bl))) (dW : oW.data = .cell (some (.ref wl))) (d3 : c3.data = .cell none)
    (hxs : Six xs) (In : IntsAre nvs xs) (hG : Gen L gen) (hnl : (nl, listOf nvs.toArray kn) ∈ gen) (hwl : (wl, lst4 1 v0 b0 v1 (b0 * b1) v2 (b0 * b1 * b2) v3 kw) ∈ gen) (hbl : (bl, lst3 b0 t0 b1 t1 b2 t2 kb) ∈ gen)
    (F : Fr base L s.heap (fun y => if y = Str.ofString "rows" then some (.ref rl) else if y = Str.ofString "draws" then some (.ref dl) else if y = Str.ofString "numbers" then some (.ref nl) else M y)) (N : News base L s.heap (cells L #[] oB oW c3 c4 c5 ++ gen))
    (next : ∀ (kl : Addr) (kvs : List Value) (kk : Nat) (oK : Obj) (h : Heap) (tk : Nat) (gen' : List (Addr × Obj)), Gen L gen' → (∀ q ∈ gen, q ∈ gen') → (kl, listOf kvs.toArray kk) ∈ gen' → All2 (BlkV gen') kvs (xs.map (blkL b0 b1 b2)) → oK.data = .cell (some (.ref kl)) →
      Fr base L h (fun y => if y = Str.ofString "rows" then some (.ref rl) else if y = Str.ofString "draws" then some (.ref dl) else if y = Str.ofString "numbers" then some (.ref nl) else M y) → News base L h (cells L #[] oB oW oK c4 c5 ++ gen') →
      wpAny (model PySem.Challenge.rw_ph0128_01.row.prog w) (lawA L fa cd) (execs (lawBody.drop 8) (lawEnv L fa cd)) Q E { s with heap := h, toks := tk })
    : wpAny (model PySem.Challenge.rw_ph0128_01.row.prog w) (lawA L fa cd) (execs (lawBody.drop 7) (lawEnv L fa cd)) Q E s := by
  obtain ⟨sh, sg, sd, st, so⟩ := s
  try clear s
  dsimp only at F N next
  obtain ⟨X1, T1, K1, NS, C1, C2, C3, hS, hI, hlen, hbits, l0⟩ := A1
  try clear A1
  revert X1
  k_fill
  intro X1
  have hMk := kstMark
  k_with_none
  k_with "binaryOp Add int int" => (refine add_N ?_)
  k_with "binaryOp Sub int int" => (refine sub_N ?_)
  k_with "inplaceOp Add int int" => (refine iadd_N ?_)
  k_with "inplaceOp Sub int int" => (refine isub_N ?_)
  k_with "binaryOp BitOr int int" => (refine or_N ?_)
  k_with "unaryOp USub int" => (refine neg_N ?_)
  k_with "storeName" => (k_here; k_dflt (refine' storeX_N ?F ?N ?eg ?ed ?eo ?_ ?a ?b; (case F => k_asm); (case N => k_asm); (case a => rfl); (case b => rfl); (case eg => first | (dsimp only; done) | exact rfl); (case ed => first | (dsimp only; done) | exact rfl); (case eo => first | (dsimp only; done) | exact rfl); k_whole; intro _ _ _; (try k_sweep)))
  k_with "MineLt" => (first | with_reducible assumption | ((with_reducible rename _ ∧ _ => hC9); first | exact hC9.1 | exact hC9.2.1 | exact hC9.2.2.1 | exact hC9.2.2.2.1 | exact hC9.2.2.2.2.1 | exact hC9.2.2.2.2.2.1 | exact hC9.2.2.2.2.2.2.1 | exact hC9.2.2.2.2.2.2.2.1 | exact hC9.2.2.2.2.2.2.2.2.1 | exact hC9.2.2.2.2.2.2.2.2.2.1 | exact hC9.2.2.2.2.2.2.2.2.2.2.1 | exact hC9.2.2.2.2.2.2.2.2.2.2.2.1 | exact hC9.2.2.2.2.2.2.2.2.2.2.2.2.1 | exact hC9.2.2.2.2.2.2.2.2.2.2.2.2.2.1) | exact And.left (by with_reducible assumption) | exact Nat.lt_succ_self _)
  k_with "binaryOp LShift int int" => (refine' lshift_N ?hn ?hz ?_; (case hn => k_extra "nn"); (case hz => k_extra "shl"); (try k_extra "tidy"))
  k_with "inplaceOp LShift int int" => (refine' ilshift_N ?hn ?hz ?_; (case hn => k_extra "nn"); (case hz => k_extra "shl"); (try k_extra "tidy"))
  k_with "binaryOp RShift int int" => (refine' rshift_N ?hn ?_; (case hn => k_extra "nn"); (try k_extra "tidy"))
  k_with "inplaceOp RShift int int" => (refine' irshift_N ?hn ?_; (case hn => k_extra "nn"); (try k_extra "tidy"))
  k_with "binaryOp BitAnd int int" => (refine and_N ?_; (try k_extra "tidy"))
  k_with "binaryOp Mult int int" => (refine' mul_N ?_ ?hm; (case hm => k_extra "mul"); (try k_extra "tidy"))
  k_with "Kdm" => (refine' divmod_N ?F ?N ?hb ?_ ?hp; (case F => k_asm); (case N => k_asm); (case hb => k_extra "div0"); (case hp => k_extra "pylong"))
  k_with "call ref" => (k_extra "my call")
  k_with "ite" => (k_extra "decide")
  k_with "binaryOp FloorDiv int int" => (refine' floordiv_N ?hb ?_ ?hp; (case hb => k_extra "div0"); (case hp => k_extra "pylong"); (try k_extra "tidy"))
  k_with "binaryOp BitXor int int" => (refine xor_N ?_; (try k_extra "tidy"))
  k_with "subscriptTail Name Constant ref int" => (k_here; (with_reducible show wpAny _ _ (subscriptTail _ _ (Value.ref _) (Value.int _ _)) _ _ _); (with_unfolding_all refine' item_litK ?k1 ?k2 ?k3 ?k4 ?_ ?k6; (case k1 => is_list); (case k2 => decide); (case k3 => decide); (case k4 => rfl); (case k6 => with_unfolding_all rfl); k_whole))
  k_with "subscriptTail Name Name ref int" => (k_here; (with_reducible show wpAny _ _ (subscriptTail _ _ (Value.ref _) (Value.int _ _)) _ _ _); (with_unfolding_all refine' item_litK ?k1 ?k2 ?k3 ?k4 ?_ ?k6; (case k1 => is_list); (case k2 => decide); (case k3 => decide); (case k4 => rfl); (case k6 => with_unfolding_all rfl); k_whole))
  k_with "subscriptTail Name BinOp ref int" => (k_here; (with_reducible show wpAny _ _ (subscriptTail _ _ (Value.ref _) (Value.int _ _)) _ _ _); (with_unfolding_all refine' item_litK ?k1 ?k2 ?k3 ?k4 ?_ ?k6; (case k1 => is_list); (case k2 => decide); (case k3 => decide); (case k4 => rfl); (case k6 => with_unfolding_all rfl); k_whole))
  k_with "UnrEnd" => k_dflt (refine' unr_close ?uF ?uN ?uP ?uO ?_; (case uF => assumption); (case uN => assumption); (case uP => first | exact Pull.head | exact Pull.tail Pull.head | exact Pull.tail (Pull.tail Pull.head) | exact Pull.tail (Pull.tail (Pull.tail Pull.head)) | exact Pull.tail (Pull.tail (Pull.tail (Pull.tail Pull.head)))); (case uO => k_all); k_whole)
  k_with "pyIter ref" => k_dflt (k_extra "iter")
  k_with "storeName" => (k_here; k_dflt (refine' storeX_N ?F ?N ?eg ?ed ?eo ?_ ?ka ?kb; (case eg => first | (dsimp only; done) | exact rfl); (case ed => first | (dsimp only; done) | exact rfl); (case eo => first | (dsimp only; done) | exact rfl); (case kb => with_reducible (first | exact lk_script _ _ _ | exact lk_spare _ _ _ | exact lk_drawn _ _ _ | exact lk_numbers _ _ _ | exact lk_draws _ _ _ | exact lk_rows _ _ _ | exact lk_up _ _ _ | exact lk_table _ _ _ | exact lk_row _ _ _ | exact lk_lost _ _ _ | exact lk_added _ _ _)); (case ka => exact lk_fun); (case F => k_asm); (case N => k_asm); k_whole; intro _ _ _))
  k_with "eval Name" => (k_here; k_dflt (first | (refine' nameX_L ?F ?v ?_ ?ka ?kb; (case kb => with_reducible (first | exact lk_script _ _ _ | exact lk_spare _ _ _ | exact lk_drawn _ _ _ | exact lk_numbers _ _ _ | exact lk_draws _ _ _ | exact lk_rows _ _ _ | exact lk_up _ _ _ | exact lk_table _ _ _ | exact lk_row _ _ _ | exact lk_lost _ _ _ | exact lk_added _ _ _)); (case ka => exact lk_fun); (case F => k_asm); (case v => rfl); k_whole) | (refine' nameX_C ?N ?c ?m ?d ?_ ?ka ?kb; (case kb => with_reducible (first | exact lk_bases _ _ _ | exact lk_worths _ _ _ | exact lk_blocks _ _ _ | exact lk_due _ _ _ | exact lk_whole _ _ _)); (case ka => exact lk_fun); (case N => k_asm); (case c => with_reducible (first | exact lc_bases _ | exact lc_worths _ | exact lc_blocks _ | exact lc_due _ | exact lc_whole _)); (case m => k_mem); (case d => k_asm); k_whole) | (refine' nameX_K ?F ?X ?T ?e ?_ ?ka ?kb; (case kb => kernel_rfl); (case ka => exact lk_fun); (case F => k_asm); (case X => k_asm); (case T => k_asm); (case e => k_is); k_whole) | (refine' nameX_B ?F ?X ?T ?e ?v ?n ?_ ?ka ?kb; (case kb => kernel_rfl); (case ka => exact lk_fun); (case F => k_asm); (case X => k_asm); (case T => k_asm); (case e => k_is); (case v => boot_fast); (case n => decide); k_whole)))
  k_with "lkc" => with_reducible (first | exact lk_bases _ _ _ | exact lk_worths _ _ _ | exact lk_blocks _ _ _ | exact lk_due _ _ _ | exact lk_whole _ _ _)
  k_with "lcc" => with_reducible (first | exact lc_bases _ | exact lc_worths _ | exact lc_blocks _ | exact lc_due _ | exact lc_whole _)
  k_with "Ksc" => (refine' storeX_C ?F ?N ?c ?U ?d ?_ ?ka ?kb; (case kb => k_extra "lkc"); (case ka => exact lk_fun); (case F => k_asm); (case N => k_asm); (case c => k_extra "lcc"); (case U => k_updF); (case d => k_asm); k_whole)
  k_with "call type:zip" => (k_here; k_dflt (k_extra "zip"))
  k_with "call ref" => (k_extra "my call")
  k_with "callWith ref" => (k_here; k_dflt (refine' callWith_K ?k1 ?k2 ?_; (case k1 => k_asm); (case k2 => k_is); k_whole))
  k_with "exec Assign" => (k_extra "asg")
  k_with "exec Assign cons ListComp" => (k_extra "asg")
  k_with "eval ListComp" => (k_extra "comp")
  k_with "execs cons" => (k_extra "seq")
  k_with "CompSrc" => (k_extra "src")
  k_with "CompEnd" => (k_extra "cend")
  k_with "compareOp NotEq ref ref" => (k_here; k_dflt (k_extra "ne"))
  k_with "compareOp Eq ref ref" => (k_here; k_dflt (k_extra "eq"))
  k_with "subscriptTail Name Name ref int" => (k_here; (with_reducible show wpAny _ _ (subscriptTail _ _ (Value.ref _) (Value.int _ _)) _ _ _); k_dflt (k_extra "tail"))
  k_with "call builtin:sum" => (k_here; k_dflt (k_extra "sum"))
  k_with "subscriptTail Name Slice ref ref" => (k_here; k_dflt (k_extra "cut"))
  k_with "CompSrcT" => (k_extra "src")
  k_with "decide" => fail
  k_with "asg" => ((with_reducible show wpAny _ _ (exec (Stmt.Assign _ (Expr.ListComp _ _ _ _) _) _) _ _ _); refine stop_intro ?_)
  k_with "src" => refine stop_intro ?_
  k_with "cend" => refine stop_intro ?_
  k_with "my call" => refine stop_intro ?_
  have w2b : intBits (b0 * b1) ≤ 2097152 := bits_mul q0 q1'
  have w3b : intBits (b0 * b1 * b2) ≤ 3145728 := bits_mul w2b q2'
  have y2 : b0 * b1 ≠ 0 := Int.mul_ne_zero z0 z1
  have y3 : b0 * b1 * b2 ≠ 0 := Int.mul_ne_zero y2 z2
  k_steps
  unfold Stop
  refine wpAny_Assign_Name ?_ ?hsa
  case hsa => with_unfolding_all rfl
  refine ListComp_U (F₀ := F) (cl := [(Str.ofString "worths", L + 1 + 1), (Str.ofString "bases", L + 1)]) ?hclos ?hcell ?hkind ?hnames ?hx ?_ ?hs
  case hclos => with_unfolding_all rfl
  case hcell => decide
  case hkind => rfl
  case hnames => decide
  case hx => rfl
  case hs => (intro _; rfl)
  k_steps
  unfold Stop
  have hsz : nvs.toArray.size = 6 := by rw [List.size_toArray, In.length]; exact hxs.len
  refine CompSrc.ledger rfl F N (List.mem_append_right _ hnl) (by rw [hsz]; decide) fun g => ?_
  refine compRest_ind (fun i ys nw => ∃ own, nw = cells L #[] oB oW c3 c4 c5 ++ (own ++ gen) ∧ Gen L (own ++ gen) ∧ All2 (BlkV own) ys ((xs.map (blkL b0 b1 b2)).take i)) ?turn ?done nvs.toArray.size 0 [] _ (Nat.zero_add _) ⟨[], rfl, hG, trivial⟩
  case turn =>
    intro i ys nw v I oI C oC D m2 h tk E' hi hv J ho hx F' N' off ne
    first | (refine' turn_N ?eg ?ed ?eo ?_; (case eg => first | (dsimp only; done) | exact rfl); (case ed => first | (dsimp only; done) | exact rfl); (case eo => first | (dsimp only; done) | exact rfl)) | refine post_let ?_
    intro qT
    refine Mine.exand1_3 J fun own ob19 hG' hA => ?_
    subst ob19
    try clear J
    rw [List.getElem?_toArray] at hv
    refine Mine.exand2_2 (In.at _ _ hv) fun x tx ob29 hxi => ?_
    subst ob29
    have N2 : News base L h ((I, oI) :: (C, oC) :: (D, lst ys) :: (93, tabObj #[]) :: (L + 1, oB) :: (L + 1 + 1, oW) :: (L + 1 + 1 + 1, c3) :: (L + 1 + 1 + 1 + 1, c4) :: (L + 1 + 1 + 1 + 1 + 1, c5) :: (own ++ gen)) := N'
    clear N'
    k_steps
    unfold Stop
    k_dflt (refine' Gives.use (blocks x b0 b1 b2 b0 (b0 * b1) (b0 * b1 * b2) tx t0 t1 t2 v0 v1 v2 v3 bl wl kb kw (bits_up q0 (by decide)) (bits_up q1' (by decide)) (bits_up q2' (by decide)) (bits_up q0 (by decide)) (bits_up w2b (by decide)) (bits_up w3b (by decide)) z0 y2 y3) K1 F' X1 N2 ?hP T1 NS C1 C2 ?hk ?hdp ?hu ?_)
    case hP => exact ⟨by repeat (first | exact List.mem_append_right _ hbl | refine List.mem_cons_of_mem _ ?_), by repeat (first | exact List.mem_append_right _ hwl | refine List.mem_cons_of_mem _ ?_)⟩
    case hk => exact lk_fun
    case hdp => ktr_room
    case hu => ktr_units
    intro v9 new9 h9 tk9 ob39
    refine Mine.exand3_4 ob39 fun D9 us9 k9 ob49 ob59 I9 l9 => ?_
    subst ob49
    subst ob59
    try clear ob39
    intro F9 N9
    have lI := kst_ltOf l9
    refine Mine.exand0_3 (blocks_q z0 z1 z2 (S := x)) fun e1 e2 e3 => ?_
    rw [e1, e2, e3] at I9
    have offm := off.mem
    have g1 : @LT.lt Nat _ I D9 := lI (I, oI) (.head _)
    have g2 : @LT.lt Nat _ C D9 := lI (C, oC) (.tail _ (.head _))
    have g3 : @LT.lt Nat _ D D9 := lI (D, lst ys) (.tail _ (.tail _ (.head _)))
    have g4 : @LT.lt Nat _ (L + 1 + 1 + 1 + 1 + 1) D9 := lI (L + 1 + 1 + 1 + 1 + 1, c5) (by simp)
    refine CompEnd.intro F9 N9 (cells L #[] oB oW c3 c4 c5 ++ (((D9, listOf us9.toArray k9) :: own) ++ gen)) (fun q hq => ?_) (Off3.of fun q hq => ?_)
      (.inr ⟨_, List.mem_append_right _ (List.mem_append_right _ hnl), rfl, _, rfl⟩)
      ⟨(D9, listOf us9.toArray k9) :: own, rfl, hG'.new l0.1 g4, all2_snoc hA (fun v a h => h.sub fun q hq => .tail _ hq) (by rw [List.getElem?_map, hxi]; rfl) ⟨D9, us9, k9, rfl, .head _, I9, rfl⟩⟩
    · simp only [cells, List.mem_append, List.mem_cons, List.cons_append, List.nil_append] at hq ⊢
      grind
    · rcases List.mem_append.mp hq with hq | hq
      · exact offm q (List.mem_append_left _ hq)
      rcases List.mem_cons.mp hq with rfl | hq
      · exact ⟨Nat.ne_of_gt g1, Nat.ne_of_gt g2, Nat.ne_of_gt g3⟩
      · exact offm q (List.mem_append_right _ hq)
  case done =>
    intro ys nw J
    refine Mine.exand1_3 J fun own ob69 hG' hA => ?_
    subst ob69
    try clear J
    unfold FinE
    intro D h tk F' N' o1
    have hG2 := hG'.off1 N' fun q hq => off1_mem o1 q (List.mem_append_left _ hq)
    refine storeX_C F' (cells_swap N') (lc_blocks L) (upd_blocks l0.1 hG2) d3 (fun h' o' F2 N2 d2 => ?_) lk_fun (lk_blocks L fa cd)
    refine next D ys ys.length o' _ _ _ hG2 (fun q hq => .tail _ (List.mem_append_right _ hq)) (.head _) ?_ d2 F2 N2
    rw [List.take_of_length_le (by rw [hsz, List.length_map, hxs.len]; exact Nat.le_refl _)] at hA
    exact hA.mono fun v a h => h.sub fun q hq => .tail _ (List.mem_append_left _ hq)
end
example {prog : Program} {w : World} {A : Around} {env : Env} {Q : Flow → Shared → Prop} {E : Value → Shared → Prop} {s : Shared} (h : Q .next s) : wpAny (model prog w) A (execs [] env) Q E s := by
  w_top off
  walk1
  exact h
section
open PyProof.Rows.LCg
theorem seg5 {w p loose mean mg mb} {base : Heap} {L sl fa : Addr} {cd : Value} {ns : List Int} {svs : List Value} {s : Shared} {oK c4 c5 oB oW : Obj} {Q : Flow → Shared → Prop} {E : Value → Shared → Prop} {b0 b1 b2 : Int} {t0 t1 t2 : Tok} {bl kl nl dl rl : Addr} {kb kk : Nat} {M : Str → Option Value} {xs : List Int} {kvs : List Value} {gen : List (Addr × Obj)}
    (A1 : LawAt w p loose mean mg mb base L sl ns svs) (z0 : b0 ≠ 0) (z1 : b1 ≠ 0) (z2 : b2 ≠ 0) (q0 : intBits b0 ≤ 1048576) (q1' : intBits b1 ≤ 1048576) (q2' : intBits b2 ≤ 1048576) (dB : oB.data = .cell (some (.ref bl))) (dK : oK.data = .cell (some (.ref kl))) (d4 : c4.data = .cell none)
    (hxs : Six xs) (hA : All2 (BlkV gen) kvs (xs.map (blkL b0 b1 b2))) (hG : Gen L gen) (hkl : (kl, listOf kvs.toArray kk) ∈ gen) (hbl : (bl, lst3 b0 t0 b1 t1 b2 t2 kb) ∈ gen)
    (F : Fr base L s.heap (fun y => if y = Str.ofString "rows" then some (.ref rl) else if y = Str.ofString "draws" then some (.ref dl) else if y = Str.ofString "numbers" then some (.ref nl) else M y)) (N : News base L s.heap (cells L #[] oB oW oK c4 c5 ++ gen))
    (next : ∀ (ul : Addr) (uvs : List Value) (ku : Nat) (oD : Obj) (h : Heap) (tk : Nat) (gen' : List (Addr × Obj)), Gen L gen' → (∀ q ∈ gen, q ∈ gen') → (ul, listOf uvs.toArray ku) ∈ gen' → LineR w b0 b1 b2 (b0 * b1) gen' uvs (xs.map (leafR b0 b1 b2)) → oD.data = .cell (some (.ref ul)) →
      Fr base L h (fun y => if y = Str.ofString "rows" then some (.ref rl) else if y = Str.ofString "draws" then some (.ref dl) else if y = Str.ofString "numbers" then some (.ref nl) else M y) → News base L h (cells L #[] oB oW oK oD c5 ++ gen') →
      wpAny (model PySem.Challenge.rw_ph0128_01.row.prog w) (lawA L fa cd) (execs (lawBody.drop 9) (lawEnv L fa cd)) Q E { s with heap := h, toks := tk })
    : wpAny (model PySem.Challenge.rw_ph0128_01.row.prog w) (lawA L fa cd) (execs (lawBody.drop 8) (lawEnv L fa cd)) Q E s := by
  obtain ⟨sh, sg, sd, st, so⟩ := s
  try clear s
  dsimp only at F N next
  obtain ⟨X1, T1, K1, NS, C1, C2, C3, hS, hI, hlen, hbits, l0⟩ := A1
  try clear A1
  revert X1
  k_fill
  intro X1
  have hMk := kstMark
  k_with_none
  k_with "binaryOp Add int int" => (refine add_N ?_)
  k_with "binaryOp Sub int int" => (refine sub_N ?_)
  k_with "inplaceOp Add int int" => (refine iadd_N ?_)
  k_with "inplaceOp Sub int int" => (refine isub_N ?_)
  k_with "binaryOp BitOr int int" => (refine or_N ?_)
  k_with "unaryOp USub int" => (refine neg_N ?_)
  k_with "storeName" => (k_here; k_dflt (refine' storeX_N ?F ?N ?eg ?ed ?eo ?_ ?a ?b; (case F => k_asm); (case N => k_asm); (case a => rfl); (case b => rfl); (case eg => first | (dsimp only; done) | exact rfl); (case ed => first | (dsimp only; done) | exact rfl); (case eo => first | (dsimp only; done) | exact rfl); k_whole; intro _ _ _; (try k_sweep)))
  k_with "MineLt" => (first | with_reducible assumption | ((with_reducible rename _ ∧ _ => hC9); first | exact hC9.1 | exact hC9.2.1 | exact hC9.2.2.1 | exact hC9.2.2.2.1 | exact hC9.2.2.2.2.1 | exact hC9.2.2.2.2.2.1 | exact hC9.2.2.2.2.2.2.1 | exact hC9.2.2.2.2.2.2.2.1 | exact hC9.2.2.2.2.2.2.2.2.1 | exact hC9.2.2.2.2.2.2.2.2.2.1 | exact hC9.2.2.2.2.2.2.2.2.2.2.1 | exact hC9.2.2.2.2.2.2.2.2.2.2.2.1 | exact hC9.2.2.2.2.2.2.2.2.2.2.2.2.1 | exact hC9.2.2.2.2.2.2.2.2.2.2.2.2.2.1) | exact And.left (by with_reducible assumption) | exact Nat.lt_succ_self _)
  k_with "binaryOp LShift int int" => (refine' lshift_N ?hn ?hz ?_; (case hn => k_extra "nn"); (case hz => k_extra "shl"); (try k_extra "tidy"))
  k_with "inplaceOp LShift int int" => (refine' ilshift_N ?hn ?hz ?_; (case hn => k_extra "nn"); (case hz => k_extra "shl"); (try k_extra "tidy"))
  k_with "binaryOp RShift int int" => (refine' rshift_N ?hn ?_; (case hn => k_extra "nn"); (try k_extra "tidy"))
  k_with "inplaceOp RShift int int" => (refine' irshift_N ?hn ?_; (case hn => k_extra "nn"); (try k_extra "tidy"))
  k_with "binaryOp BitAnd int int" => (refine and_N ?_; (try k_extra "tidy"))
  k_with "binaryOp Mult int int" => (refine' mul_N ?_ ?hm; (case hm => k_extra "mul"); (try k_extra "tidy"))
  k_with "Kdm" => (refine' divmod_N ?F ?N ?hb ?_ ?hp; (case F => k_asm); (case N => k_asm); (case hb => k_extra "div0"); (case hp => k_extra "pylong"))
  k_with "call ref" => (k_extra "my call")
  k_with "ite" => (k_extra "decide")
  k_with "binaryOp FloorDiv int int" => (refine' floordiv_N ?hb ?_ ?hp; (case hb => k_extra "div0"); (case hp => k_extra "pylong"); (try k_extra "tidy"))
  k_with "binaryOp BitXor int int" => (refine xor_N ?_; (try k_extra "tidy"))
  k_with "subscriptTail Name Constant ref int" => (k_here; (with_reducible show wpAny _ _ (subscriptTail _ _ (Value.ref _) (Value.int _ _)) _ _ _); (with_unfolding_all refine' item_litK ?k1 ?k2 ?k3 ?k4 ?_ ?k6; (case k1 => is_list); (case k2 => decide); (case k3 => decide); (case k4 => rfl); (case k6 => with_unfolding_all rfl); k_whole))
  k_with "subscriptTail Name Name ref int" => (k_here; (with_reducible show wpAny _ _ (subscriptTail _ _ (Value.ref _) (Value.int _ _)) _ _ _); (with_unfolding_all refine' item_litK ?k1 ?k2 ?k3 ?k4 ?_ ?k6; (case k1 => is_list); (case k2 => decide); (case k3 => decide); (case k4 => rfl); (case k6 => with_unfolding_all rfl); k_whole))
  k_with "subscriptTail Name BinOp ref int" => (k_here; (with_reducible show wpAny _ _ (subscriptTail _ _ (Value.ref _) (Value.int _ _)) _ _ _); (with_unfolding_all refine' item_litK ?k1 ?k2 ?k3 ?k4 ?_ ?k6; (case k1 => is_list); (case k2 => decide); (case k3 => decide); (case k4 => rfl); (case k6 => with_unfolding_all rfl); k_whole))
  k_with "UnrEnd" => k_dflt (refine' unr_close ?uF ?uN ?uP ?uO ?_; (case uF => assumption); (case uN => assumption); (case uP => first | exact Pull.head | exact Pull.tail Pull.head | exact Pull.tail (Pull.tail Pull.head) | exact Pull.tail (Pull.tail (Pull.tail Pull.head)) | exact Pull.tail (Pull.tail (Pull.tail (Pull.tail Pull.head)))); (case uO => k_all); k_whole)
  k_with "pyIter ref" => k_dflt (k_extra "iter")
  k_with "storeName" => (k_here; k_dflt (refine' storeX_N ?F ?N ?eg ?ed ?eo ?_ ?ka ?kb; (case eg => first | (dsimp only; done) | exact rfl); (case ed => first | (dsimp only; done) | exact rfl); (case eo => first | (dsimp only; done) | exact rfl); (case kb => with_reducible (first | exact lk_script _ _ _ | exact lk_spare _ _ _ | exact lk_drawn _ _ _ | exact lk_numbers _ _ _ | exact lk_draws _ _ _ | exact lk_rows _ _ _ | exact lk_up _ _ _ | exact lk_table _ _ _ | exact lk_row _ _ _ | exact lk_lost _ _ _ | exact lk_added _ _ _)); (case ka => exact lk_fun); (case F => k_asm); (case N => k_asm); k_whole; intro _ _ _))
  k_with "eval Name" => (k_here; k_dflt (first | (refine' nameX_L ?F ?v ?_ ?ka ?kb; (case kb => with_reducible (first | exact lk_script _ _ _ | exact lk_spare _ _ _ | exact lk_drawn _ _ _ | exact lk_numbers _ _ _ | exact lk_draws _ _ _ | exact lk_rows _ _ _ | exact lk_up _ _ _ | exact lk_table _ _ _ | exact lk_row _ _ _ | exact lk_lost _ _ _ | exact lk_added _ _ _)); (case ka => exact lk_fun); (case F => k_asm); (case v => rfl); k_whole) | (refine' nameX_C ?N ?c ?m ?d ?_ ?ka ?kb; (case kb => with_reducible (first | exact lk_bases _ _ _ | exact lk_worths _ _ _ | exact lk_blocks _ _ _ | exact lk_due _ _ _ | exact lk_whole _ _ _)); (case ka => exact lk_fun); (case N => k_asm); (case c => with_reducible (first | exact lc_bases _ | exact lc_worths _ | exact lc_blocks _ | exact lc_due _ | exact lc_whole _)); (case m => k_mem); (case d => k_asm); k_whole) | (refine' nameX_K ?F ?X ?T ?e ?_ ?ka ?kb; (case kb => kernel_rfl); (case ka => exact lk_fun); (case F => k_asm); (case X => k_asm); (case T => k_asm); (case e => k_is); k_whole) | (refine' nameX_B ?F ?X ?T ?e ?v ?n ?_ ?ka ?kb; (case kb => kernel_rfl); (case ka => exact lk_fun); (case F => k_asm); (case X => k_asm); (case T => k_asm); (case e => k_is); (case v => boot_fast); (case n => decide); k_whole)))
  k_with "lkc" => with_reducible (first | exact lk_bases _ _ _ | exact lk_worths _ _ _ | exact lk_blocks _ _ _ | exact lk_due _ _ _ | exact lk_whole _ _ _)
  k_with "lcc" => with_reducible (first | exact lc_bases _ | exact lc_worths _ | exact lc_blocks _ | exact lc_due _ | exact lc_whole _)
  k_with "Ksc" => (refine' storeX_C ?F ?N ?c ?U ?d ?_ ?ka ?kb; (case kb => k_extra "lkc"); (case ka => exact lk_fun); (case F => k_asm); (case N => k_asm); (case c => k_extra "lcc"); (case U => k_updF); (case d => k_asm); k_whole)
  k_with "call type:zip" => (k_here; k_dflt (k_extra "zip"))
  k_with "call ref" => (k_extra "my call")
  k_with "callWith ref" => (k_here; k_dflt (refine' callWith_K ?k1 ?k2 ?_; (case k1 => k_asm); (case k2 => k_is); k_whole))
  k_with "exec Assign" => (k_extra "asg")
  k_with "exec Assign cons ListComp" => (k_extra "asg")
  k_with "eval ListComp" => (k_extra "comp")
  k_with "execs cons" => (k_extra "seq")
  k_with "CompSrc" => (k_extra "src")
  k_with "CompEnd" => (k_extra "cend")
  k_with "compareOp NotEq ref ref" => (k_here; k_dflt (k_extra "ne"))
  k_with "compareOp Eq ref ref" => (k_here; k_dflt (k_extra "eq"))
  k_with "subscriptTail Name Name ref int" => (k_here; (with_reducible show wpAny _ _ (subscriptTail _ _ (Value.ref _) (Value.int _ _)) _ _ _); k_dflt (k_extra "tail"))
  k_with "call builtin:sum" => (k_here; k_dflt (k_extra "sum"))
  k_with "subscriptTail Name Slice ref ref" => (k_here; k_dflt (k_extra "cut"))
  k_with "CompSrcT" => (k_extra "src")
  k_with "decide" => fail
  k_with "asg" => ((with_reducible show wpAny _ _ (exec (Stmt.Assign _ (Expr.ListComp _ _ _ _) _) _) _ _ _); refine stop_intro ?_)
  k_with "src" => refine stop_intro ?_
  k_with "cend" => refine stop_intro ?_
  k_with "my call" => refine stop_intro ?_
  have N0 : News base L sh ((93, tabObj #[]) :: (L + 1, oB) :: (L + 1 + 1, oW) :: (L + 1 + 1 + 1, oK) :: (L + 1 + 1 + 1 + 1, c4) :: (L + 1 + 1 + 1 + 1 + 1, c5) :: gen) := N
  k_steps
  unfold Stop
  refine wpAny_Assign_Name ?_ ?hsa
  case hsa => with_unfolding_all rfl
  refine ListComp_U (F₀ := F) (cl := [(Str.ofString "bases", L + 1)]) ?hclos ?hcell ?hkind ?hnames ?hx ?_ ?hs
  case hclos => with_unfolding_all rfl
  case hcell => decide
  case hkind => rfl
  case hnames => decide
  case hx => rfl
  case hs => (intro _; rfl)
  k_steps
  unfold Stop
  have hsz : kvs.toArray.size = 6 := by rw [List.size_toArray, hA.length, List.length_map]; exact hxs.len
  refine CompSrc.ledger rfl F N (List.mem_append_right _ hkl) (by rw [hsz]; decide) fun g => ?_
  refine compRest_ind (fun i ys nw => ∃ own, nw = cells L #[] oB oW oK c4 c5 ++ (own ++ gen) ∧ Gen L (own ++ gen) ∧ LineR w b0 b1 b2 (b0 * b1) own ys ((xs.map (leafR b0 b1 b2)).take i)) ?turn ?done kvs.toArray.size 0 [] _ (Nat.zero_add _) ⟨[], rfl, hG, trivial⟩
  case turn =>
    intro i ys nw v I oI C oC D m2 h tk E' hi hv J ho hx F' N' off ne
    first | (refine' turn_N ?eg ?ed ?eo ?_; (case eg => first | (dsimp only; done) | exact rfl); (case ed => first | (dsimp only; done) | exact rfl); (case eo => first | (dsimp only; done) | exact rfl)) | refine post_let ?_
    intro qT
    refine Mine.exand1_3 J fun own ob19 hG' hLn => ?_
    subst ob19
    try clear J
    rw [List.getElem?_toArray] at hv
    refine Mine.exand1_2 (hA.get hv) fun bx hbx ob29 => ?_
    refine Mine.exand3_4 ob29 fun tl us kt ob39 htl hI4 _hl4 => ?_
    subst ob39
    try clear ob29
    rw [List.getElem?_map] at hbx
    refine Mine.exand1_2 (Option.map_eq_some_iff.mp hbx) fun x hxi ob49 => ?_
    subst ob49
    refine Mine.exand4_1 (ints4 hI4) fun u0 u1 u2 u3 ob59 => ?_
    subst ob59
    have hb0 := bits_up (hxs.bits x (List.mem_of_getElem? hxi)) (show 2200000 ≤ 4194304 by decide)
    have hb1 : intBits (q1 b0 x) ≤ 4194304 := dm_bits (dm_of z0) hb0
    have hb2 : intBits (q2 b0 b1 x) ≤ 4194304 := dm_bits (dm_of z1) hb1
    have hb3 : intBits (q3 b0 b1 b2 x) ≤ 4194304 := dm_bits (dm_of z2) hb2
    have N2 : News base L h ((tl, lst4 x u0 (q1 b0 x) u1 (q2 b0 b1 x) u2 (q3 b0 b1 b2 x) u3 kt) :: (I, oI) :: (C, oC) :: (D, lst ys) :: (93, tabObj #[]) :: (L + 1, oB) :: (L + 1 + 1, oW) :: (L + 1 + 1 + 1, oK) :: (L + 1 + 1 + 1 + 1, c4) :: (L + 1 + 1 + 1 + 1 + 1, c5) :: (own ++ gen)) :=
      newsCons N' (show (tl, listOf #[.int x u0, .int (q1 b0 x) u1, .int (q2 b0 b1 x) u2, .int (q3 b0 b1 b2 x) u3] kt) ∈ (I, oI) :: (C, oC) :: (D, lst ys) :: (93, tabObj #[]) :: (L + 1, oB) :: (L + 1 + 1, oW) :: (L + 1 + 1 + 1, oK) :: (L + 1 + 1 + 1 + 1, c4) :: (L + 1 + 1 + 1 + 1 + 1, c5) :: (own ++ gen) by repeat (first | exact List.mem_append_right _ htl | refine List.mem_cons_of_mem _ ?_))
    clear N' N
    k_steps
    unfold Stop
    k_dflt (refine' Gives.use (parts x (q1 b0 x) (q2 b0 b1 x) (q3 b0 b1 b2 x) b0 b1 b2 u0 u1 u2 u3 t0 t1 t2 tl bl kt kb hb1 hb2 hb3 (bits_up q0 (by decide)) (bits_up q1' (by decide)) (bits_up q2' (by decide))) K1 F' X1 N2 ?hP T1 NS C1 C2 ?hk ?hdp ?hu ?_)
    case hP => exact ⟨.head _, by repeat (first | exact List.mem_append_right _ hbl | refine List.mem_cons_of_mem _ ?_)⟩
    case hk => exact lk_fun
    case hdp => ktr_room
    case hu => ktr_units
    intro v9 new9 h9 tk9 ob69
    refine Mine.exand6_3 ob69 fun D9 r0 r1 r2 r3 k9 ob79 ob89 l9 => ?_
    subst ob79
    subst ob89
    try clear ob69
    intro F9 N9
    simp only [List.cons_append, List.nil_append] at N9
    simp only [AllLt] at l9
    k_steps
    rename_i dd h1 o1 lo hd1 l1 h2 o2 hd hf D1 h3 l2 D2 h4 F4 N4 l3
    unfold Stop
    have offm := off.mem
    have g4 : @LT.lt Nat _ (L + 1 + 1 + 1 + 1 + 1) dd := by first | exact l1.2.2.2.2.2.2.2.2.2.2.1 | omega
    have g5 : @LT.lt Nat _ (L + 1 + 1 + 1 + 1 + 1) D2 := by first | exact l3.2.2.2.2.2.2.2.2.2.2.2.2.1 | omega
    have k1 : @LT.lt Nat _ I dd ∧ @LT.lt Nat _ C dd ∧ @LT.lt Nat _ D dd := ⟨l1.2.2.1, l1.2.2.2.1, l1.2.2.2.2.1⟩
    have k2 : @LT.lt Nat _ I D2 ∧ @LT.lt Nat _ C D2 ∧ @LT.lt Nat _ D D2 := ⟨l3.2.2.2.2.1, l3.2.2.2.2.2.1, l3.2.2.2.2.2.2.1⟩
    refine CompEnd.intro F4 N4 (cells L #[] oB oW oK c4 c5 ++ (((D2, tup5 (q2 b0 b1 x - b2 * q3 b0 b1 b2 x) r0 (x - b0 * q1 b0 x) r1 (q3 b0 b1 b2 x) r2 (q1 b0 x - b1 * q2 b0 b1 x) r3 dd 0) :: (dd, o2) :: own) ++ gen)) (fun q hq => ?_) (Off3.of fun q hq => ?_)
      (.inr ⟨_, List.mem_append_right _ (List.mem_append_right _ hkl), rfl, _, rfl⟩)
      ⟨(D2, tup5 (q2 b0 b1 x - b2 * q3 b0 b1 b2 x) r0 (x - b0 * q1 b0 x) r1 (q3 b0 b1 b2 x) r2 (q1 b0 x - b1 * q2 b0 b1 x) r3 dd 0) :: (dd, o2) :: own, rfl, (hG'.new (x := (dd, o2)) l0.1 g4).new l0.1 g5, line_snoc (r := leafR b0 b1 b2 x) hLn (fun q hq => .tail _ (.tail _ hq)) (by rw [List.getElem?_map, hxi]; rfl) ⟨D2, rfl, due_ent (.head _) (.tail _ (.head _)) hd lo⟩⟩
    · simp only [cells, List.mem_append, List.mem_cons, List.cons_append, List.nil_append] at hq ⊢
      grind
    · rcases List.mem_append.mp hq with hq | hq
      · exact offm q (List.mem_append_left _ hq)
      rcases List.mem_cons.mp hq with rfl | hq
      · exact ⟨Nat.ne_of_gt k2.1, Nat.ne_of_gt k2.2.1, Nat.ne_of_gt k2.2.2⟩
      rcases List.mem_cons.mp hq with rfl | hq
      · exact ⟨Nat.ne_of_gt k1.1, Nat.ne_of_gt k1.2.1, Nat.ne_of_gt k1.2.2⟩
      · exact offm q (List.mem_append_right _ hq)
  case done =>
    intro ys nw J
    refine Mine.exand1_3 J fun own ob99 hG' hLn => ?_
    subst ob99
    try clear J
    unfold FinE
    intro D h tk F' N' o1
    have hG2 := hG'.off1 N' fun q hq => off1_mem o1 q (List.mem_append_left _ hq)
    refine storeX_C F' (cells_swap N') (lc_due L) (upd_due l0.1 hG2) d4 (fun h' o' F2 N2 d2 => ?_) lk_fun (lk_due L fa cd)
    refine next D ys ys.length o' _ _ _ hG2 (fun q hq => .tail _ (List.mem_append_right _ hq)) (.head _) ?_ d2 F2 N2
    rw [List.take_of_length_le (by rw [hsz, List.length_map, hxs.len]; exact Nat.le_refl _)] at hLn
    exact hLn.sub fun q hq => .tail _ (List.mem_append_left _ hq)
end
example {prog : Program} {w : World} {A : Around} {env : Env} {Q : Flow → Shared → Prop} {E : Value → Shared → Prop} {s : Shared} (h : Q .next s) : wpAny (model prog w) A (execs [] env) Q E s := by
  w_top off
  walk1
  exact h
section
theorem seg6 {w p loose mean mg mb} {base : Heap} {L sl fa : Addr} {cd : Value} {ns : List Int} {svs : List Value} {s : Shared} {oK oD c5 oB oW : Obj} {Q : Flow → Shared → Prop} {E : Value → Shared → Prop} {b0 b1 b2 : Int} {v0 v1 v2 v3 : Tok} {wl kl ul nl dl rl : Addr} {kw kk ku kr kd : Nat} {M : Str → Option Value} {xs ds : List Int} {kvs uvs rvs dvs : List Value} {gen : List (Addr × Obj)}
    (A1 : LawAt w p loose mean mg mb base L sl ns svs) (z0 : b0 ≠ 0) (z1 : b1 ≠ 0) (z2 : b2 ≠ 0) (dW : oW.data = .cell (some (.ref wl))) (dK : oK.data = .cell (some (.ref kl))) (dD : oD.data = .cell (some (.ref ul)))
    (hxs : Six xs) (Id : IntsAre dvs ds) (hds : ds.length = 5) (hR : LineR w b0 b1 b2 (b0 * b1) gen rvs (xs.map (leafR b0 b1 b2))) (hU : LineR w b0 b1 b2 (b0 * b1) gen uvs (xs.map (leafR b0 b1 b2))) (hA : All2 (BlkV gen) kvs (xs.map (blkL b0 b1 b2))) (hG : Gen L gen)
    (hrl : (rl, listOf rvs.toArray kr) ∈ gen) (hul : (ul, listOf uvs.toArray ku) ∈ gen) (hkl : (kl, listOf kvs.toArray kk) ∈ gen) (hwl : (wl, lst4 1 v0 b0 v1 (b0 * b1) v2 (b0 * b1 * b2) v3 kw) ∈ gen) (hdl : (dl, listOf dvs.toArray kd) ∈ gen)
    (F : Fr base L s.heap (fun y => if y = Str.ofString "rows" then some (.ref rl) else if y = Str.ofString "draws" then some (.ref dl) else if y = Str.ofString "numbers" then some (.ref nl) else M y)) (N : News base L s.heap (cells L #[] oB oW oK oD c5 ++ gen)) (hb : AllBare s.gens)
    (next : ∀ (h : Heap) (tk : Nat) (gs : Array GenState), AllBare gs → Fr base L h (fun y => if y = Str.ofString "rows" then some (.ref rl) else if y = Str.ofString "draws" then some (.ref dl) else if y = Str.ofString "numbers" then some (.ref nl) else M y) → News base L h (cells L #[] oB oW oK oD c5 ++ gen) →
      wpAny (model PySem.Challenge.rw_ph0128_01.row.prog w) (lawA L fa cd) (execs (lawBody.drop 10) (lawEnv L fa cd)) Q E { s with heap := h, toks := tk, gens := gs })
    : wpAny (model PySem.Challenge.rw_ph0128_01.row.prog w) (lawA L fa cd) (execs (lawBody.drop 9) (lawEnv L fa cd)) Q E s := by
  obtain ⟨sh, sg, sd, st, so⟩ := s
  try clear s
  dsimp only at F N next hb
  obtain ⟨X1, T1, K1, NS, C1, C2, C3, hS, hI, hlen, hbits, l0⟩ := A1
  try clear A1
  revert X1
  k_fill
  intro X1
  have hMk := kstMark
  refine Mine.exand5_1 (list5 hds) fun d0 d1 d2 d3 d4 ob19 => ?_
  subst ob19
  refine Mine.exand5_1 (ints5 Id) fun e0 e1 e2 e3 e4 ob29 => ?_
  subst ob29
  k_with_none
  k_with "binaryOp Add int int" => (refine add_N ?_)
  k_with "binaryOp Sub int int" => (refine sub_N ?_)
  k_with "inplaceOp Add int int" => (refine iadd_N ?_)
  k_with "inplaceOp Sub int int" => (refine isub_N ?_)
  k_with "binaryOp BitOr int int" => (refine or_N ?_)
  k_with "unaryOp USub int" => (refine neg_N ?_)
  k_with "storeName" => (k_here; k_dflt (refine' storeX_N ?F ?N ?eg ?ed ?eo ?_ ?a ?b; (case F => k_asm); (case N => k_asm); (case a => rfl); (case b => rfl); (case eg => first | (dsimp only; done) | exact rfl); (case ed => first | (dsimp only; done) | exact rfl); (case eo => first | (dsimp only; done) | exact rfl); k_whole; intro _ _ _; (try k_sweep)))
  k_with "MineLt" => (first | with_reducible assumption | ((with_reducible rename _ ∧ _ => hC9); first | exact hC9.1 | exact hC9.2.1 | exact hC9.2.2.1 | exact hC9.2.2.2.1 | exact hC9.2.2.2.2.1 | exact hC9.2.2.2.2.2.1 | exact hC9.2.2.2.2.2.2.1 | exact hC9.2.2.2.2.2.2.2.1 | exact hC9.2.2.2.2.2.2.2.2.1 | exact hC9.2.2.2.2.2.2.2.2.2.1 | exact hC9.2.2.2.2.2.2.2.2.2.2.1 | exact hC9.2.2.2.2.2.2.2.2.2.2.2.1 | exact hC9.2.2.2.2.2.2.2.2.2.2.2.2.1 | exact hC9.2.2.2.2.2.2.2.2.2.2.2.2.2.1) | exact And.left (by with_reducible assumption) | exact Nat.lt_succ_self _)
  k_with "binaryOp LShift int int" => (refine' lshift_N ?hn ?hz ?_; (case hn => k_extra "nn"); (case hz => k_extra "shl"); (try k_extra "tidy"))
  k_with "inplaceOp LShift int int" => (refine' ilshift_N ?hn ?hz ?_; (case hn => k_extra "nn"); (case hz => k_extra "shl"); (try k_extra "tidy"))
  k_with "binaryOp RShift int int" => (refine' rshift_N ?hn ?_; (case hn => k_extra "nn"); (try k_extra "tidy"))
  k_with "inplaceOp RShift int int" => (refine' irshift_N ?hn ?_; (case hn => k_extra "nn"); (try k_extra "tidy"))
  k_with "binaryOp BitAnd int int" => (refine and_N ?_; (try k_extra "tidy"))
  k_with "binaryOp Mult int int" => (refine' mul_N ?_ ?hm; (case hm => k_extra "mul"); (try k_extra "tidy"))
  k_with "Kdm" => (refine' divmod_N ?F ?N ?hb ?_ ?hp; (case F => k_asm); (case N => k_asm); (case hb => k_extra "div0"); (case hp => k_extra "pylong"))
  k_with "call ref" => (k_extra "my call")
  k_with "ite" => (k_extra "decide")
  k_with "binaryOp FloorDiv int int" => (refine' floordiv_N ?hb ?_ ?hp; (case hb => k_extra "div0"); (case hp => k_extra "pylong"); (try k_extra "tidy"))
  k_with "binaryOp BitXor int int" => (refine xor_N ?_; (try k_extra "tidy"))
  k_with "subscriptTail Name Constant ref int" => (k_here; (with_reducible show wpAny _ _ (subscriptTail _ _ (Value.ref _) (Value.int _ _)) _ _ _); (with_unfolding_all refine' item_litK ?k1 ?k2 ?k3 ?k4 ?_ ?k6; (case k1 => is_list); (case k2 => decide); (case k3 => decide); (case k4 => rfl); (case k6 => with_unfolding_all rfl); k_whole))
  k_with "subscriptTail Name Name ref int" => (k_here; (with_reducible show wpAny _ _ (subscriptTail _ _ (Value.ref _) (Value.int _ _)) _ _ _); (with_unfolding_all refine' item_litK ?k1 ?k2 ?k3 ?k4 ?_ ?k6; (case k1 => is_list); (case k2 => decide); (case k3 => decide); (case k4 => rfl); (case k6 => with_unfolding_all rfl); k_whole))
  k_with "subscriptTail Name BinOp ref int" => (k_here; (with_reducible show wpAny _ _ (subscriptTail _ _ (Value.ref _) (Value.int _ _)) _ _ _); (with_unfolding_all refine' item_litK ?k1 ?k2 ?k3 ?k4 ?_ ?k6; (case k1 => is_list); (case k2 => decide); (case k3 => decide); (case k4 => rfl); (case k6 => with_unfolding_all rfl); k_whole))
  k_with "UnrEnd" => k_dflt (refine' unr_close ?uF ?uN ?uP ?uO ?_; (case uF => assumption); (case uN => assumption); (case uP => first | exact Pull.head | exact Pull.tail Pull.head | exact Pull.tail (Pull.tail Pull.head) | exact Pull.tail (Pull.tail (Pull.tail Pull.head)) | exact Pull.tail (Pull.tail (Pull.tail (Pull.tail Pull.head)))); (case uO => k_all); k_whole)
  k_with "pyIter ref" => k_dflt (k_extra "iter")
  k_with "storeName" => (k_here; k_dflt (refine' storeX_N ?F ?N ?eg ?ed ?eo ?_ ?ka ?kb; (case eg => first | (dsimp only; done) | exact rfl); (case ed => first | (dsimp only; done) | exact rfl); (case eo => first | (dsimp only; done) | exact rfl); (case kb => with_reducible (first | exact lk_script _ _ _ | exact lk_spare _ _ _ | exact lk_drawn _ _ _ | exact lk_numbers _ _ _ | exact lk_draws _ _ _ | exact lk_rows _ _ _ | exact lk_up _ _ _ | exact lk_table _ _ _ | exact lk_row _ _ _ | exact lk_lost _ _ _ | exact lk_added _ _ _)); (case ka => exact lk_fun); (case F => k_asm); (case N => k_asm); k_whole; intro _ _ _))
  k_with "eval Name" => (k_here; k_dflt (first | (refine' nameX_L ?F ?v ?_ ?ka ?kb; (case kb => with_reducible (first | exact lk_script _ _ _ | exact lk_spare _ _ _ | exact lk_drawn _ _ _ | exact lk_numbers _ _ _ | exact lk_draws _ _ _ | exact lk_rows _ _ _ | exact lk_up _ _ _ | exact lk_table _ _ _ | exact lk_row _ _ _ | exact lk_lost _ _ _ | exact lk_added _ _ _)); (case ka => exact lk_fun); (case F => k_asm); (case v => rfl); k_whole) | (refine' nameX_C ?N ?c ?m ?d ?_ ?ka ?kb; (case kb => with_reducible (first | exact lk_bases _ _ _ | exact lk_worths _ _ _ | exact lk_blocks _ _ _ | exact lk_due _ _ _ | exact lk_whole _ _ _)); (case ka => exact lk_fun); (case N => k_asm); (case c => with_reducible (first | exact lc_bases _ | exact lc_worths _ | exact lc_blocks _ | exact lc_due _ | exact lc_whole _)); (case m => k_mem); (case d => k_asm); k_whole) | (refine' nameX_K ?F ?X ?T ?e ?_ ?ka ?kb; (case kb => kernel_rfl); (case ka => exact lk_fun); (case F => k_asm); (case X => k_asm); (case T => k_asm); (case e => k_is); k_whole) | (refine' nameX_B ?F ?X ?T ?e ?v ?n ?_ ?ka ?kb; (case kb => kernel_rfl); (case ka => exact lk_fun); (case F => k_asm); (case X => k_asm); (case T => k_asm); (case e => k_is); (case v => boot_fast); (case n => decide); k_whole)))
  k_with "lkc" => with_reducible (first | exact lk_bases _ _ _ | exact lk_worths _ _ _ | exact lk_blocks _ _ _ | exact lk_due _ _ _ | exact lk_whole _ _ _)
  k_with "lcc" => with_reducible (first | exact lc_bases _ | exact lc_worths _ | exact lc_blocks _ | exact lc_due _ | exact lc_whole _)
  k_with "Ksc" => (refine' storeX_C ?F ?N ?c ?U ?d ?_ ?ka ?kb; (case kb => k_extra "lkc"); (case ka => exact lk_fun); (case F => k_asm); (case N => k_asm); (case c => k_extra "lcc"); (case U => k_updF); (case d => k_asm); k_whole)
  k_with "call type:zip" => (k_here; k_dflt (k_extra "zip"))
  k_with "call ref" => (k_extra "my call")
  k_with "callWith ref" => (k_here; k_dflt (refine' callWith_K ?k1 ?k2 ?_; (case k1 => k_asm); (case k2 => k_is); k_whole))
  k_with "exec Assign" => (k_extra "asg")
  k_with "exec Assign cons ListComp" => (k_extra "asg")
  k_with "eval ListComp" => (k_extra "comp")
  k_with "execs cons" => (k_extra "seq")
  k_with "CompSrc" => (k_extra "src")
  k_with "CompEnd" => (k_extra "cend")
  k_with "compareOp NotEq ref ref" => (k_here; k_dflt (k_extra "ne"))
  k_with "compareOp Eq ref ref" => (k_here; k_dflt (k_extra "eq"))
  k_with "subscriptTail Name Name ref int" => (k_here; (with_reducible show wpAny _ _ (subscriptTail _ _ (Value.ref _) (Value.int _ _)) _ _ _); k_dflt (k_extra "tail"))
  k_with "call builtin:sum" => (k_here; k_dflt (k_extra "sum"))
  k_with "subscriptTail Name Slice ref ref" => (k_here; k_dflt (k_extra "cut"))
  k_with "CompSrcT" => (k_extra "src")
  k_with "decide" => fail
  k_with "ne" => refine stop_intro ?_
  k_with "seq" => ((with_reducible show wpAny _ _ (execs (Stmt.Assign [Expr.Name (Str.ofString "whole") _] _ _ :: _) _) _ _ _); refine stop_intro ?_)
  k_with "my call" => refine stop_intro ?_
  have N0 : News base L sh ((dl, listOf #[.int d0 e0, .int d1 e1, .int d2 e2, .int d3 e3, .int d4 e4] kd) :: (93, tabObj #[]) :: (L + 1, oB) :: (L + 1 + 1, oW) :: (L + 1 + 1 + 1, oK) :: (L + 1 + 1 + 1 + 1, oD) :: (L + 1 + 1 + 1 + 1 + 1, c5) :: gen) := by
    have q := newsCons N (List.mem_append_right _ hdl)
    exact q
  have up : ∀ q ∈ gen, q ∈ (dl, listOf #[.int d0 e0, .int d1 e1, .int d2 e2, .int d3 e3, .int d4 e4] kd) :: (93, tabObj #[]) :: (L + 1, oB) :: (L + 1 + 1, oW) :: (L + 1 + 1 + 1, oK) :: (L + 1 + 1 + 1 + 1, oD) :: (L + 1 + 1 + 1 + 1 + 1, c5) :: gen := fun q hq => by
    repeat (first | exact hq | refine List.mem_cons_of_mem _ ?_)
  clear N
  k_steps
  unfold Stop
  refine lineNe N0 (by ktr_units) (up _ hrl) (up _ hul) (hR.sub up) (hU.sub up) leaf_nodup ?_
  k_steps
  unfold Stop
  k_dflt (refine' GivesS.use (in_order rl kl wl rvs kvs _ _ b0 (b0 * b1) (b0 * b1 * b2) 4 v0 v1 v2 v3 _ kr kk kw (by decide) (by decide) (by rw [List.length_map, List.length_map]) (fun i j ri rj di dj a b c d => order_at z0 z1 z2 (by decide) (by decide) i j ri rj di dj a b c d)) K1 F X1 N0 hb ⟨up _ hrl, up _ hkl, up _ hwl, line_rows (hR.sub up), hA.mono fun v a h => h.sub up⟩ T1 NS C1 C2 C3 ?hk ?hdp ?hu ?_)
  case hk => exact lk_fun
  case hdp => ktr_room
  case hu => ktr_units
  rintro v6 h6 tk6 gs6 rfl G6 F6 N6
  k_steps
  unfold Stop
  have f0 : 0 ≤ d0.fmod 4 := Int.fmod_nonneg_of_pos _ (by decide)
  have f4 : d0.fmod 4 ≤ 4 := Int.le_of_lt (Int.fmod_lt_of_pos _ (by decide))
  k_dflt (refine' GivesS.use (in_order rl kl wl rvs kvs _ _ b0 (b0 * b1) (b0 * b1 * b2) (d0.fmod 4) v0 v1 v2 v3 _ kr kk kw f0 f4 (by rw [List.length_map, List.length_map]) (fun i j ri rj di dj a b c d => order_at z0 z1 z2 f0 f4 i j ri rj di dj a b c d)) K1 F6 X1 N6 G6 ⟨up _ hrl, up _ hkl, up _ hwl, line_rows (hR.sub up), hA.mono fun v a h => h.sub up⟩ T1 NS C1 C2 C3 ?hk ?hdp ?hu ?_)
  case hk => exact lk_fun
  case hdp => ktr_room
  case hu => ktr_units
  rintro v7 h7 tk7 gs7 rfl G7 F7 N7
  k_steps
  unfold Stop
  exact next _ _ _ G7 F7 (newsSub N7 fun q hq => .tail _ hq)
end
example {prog : Program} {w : World} {A : Around} {env : Env} {Q : Flow → Shared → Prop} {E : Value → Shared → Prop} {s : Shared} (h : Q .next s) : wpAny (model prog w) A (execs [] env) Q E s := by
  w_top off
  walk1
  exact h
section
theorem seg7 {w p loose mean mg mb} {base : Heap} {L sl fa : Addr} {cd : Value} {ns : List Int} {svs : List Value} {s : Shared} {oK oD c5 oB oW : Obj} {Q : Flow → Shared → Prop} {E : Value → Shared → Prop} {b0 b1 b2 : Int} {t0 t1 t2 v0 v1 v2 v3 : Tok} {bl wl nl dl rl : Addr} {kb kw kn : Nat} {M : Str → Option Value} {xs : List Int} {nvs : List Value} {gen : List (Addr × Obj)}
    (A1 : LawAt w p loose mean mg mb base L sl ns svs) (z0 : b0 ≠ 0) (z1 : b1 ≠ 0) (z2 : b2 ≠ 0) (q0 : intBits b0 ≤ 1048576) (q1' : intBits b1 ≤ 1048576) (q2' : intBits b2 ≤ 1048576) (dB : oB.data = .cell (some (.ref bl))) (dW : oW.data = .cell (some (.ref wl))) (d5 : c5.data = .cell none)
    (hxs : Six xs) (In : IntsAre nvs xs) (hG : Gen L gen) (hnl : (nl, listOf nvs.toArray kn) ∈ gen) (hwl : (wl, lst4 1 v0 b0 v1 (b0 * b1) v2 (b0 * b1 * b2) v3 kw) ∈ gen) (hbl : (bl, lst3 b0 t0 b1 t1 b2 t2 kb) ∈ gen)
    (F : Fr base L s.heap (fun y => if y = Str.ofString "rows" then some (.ref rl) else if y = Str.ofString "draws" then some (.ref dl) else if y = Str.ofString "numbers" then some (.ref nl) else M y)) (N : News base L s.heap (cells L #[] oB oW oK oD c5 ++ gen))
    (next : ∀ (hl : Addr) (u0 u1 u2 u3 : Tok) (kh : Nat) (oH : Obj) (h : Heap) (tk : Nat) (gen' : List (Addr × Obj)), Gen L gen' → (∀ q ∈ gen, q ∈ gen') → (hl, lst4 xs.sum u0 (q1 b0 xs.sum) u1 (q2 b0 b1 xs.sum) u2 (q3 b0 b1 b2 xs.sum) u3 kh) ∈ gen' → oH.data = .cell (some (.ref hl)) →
      Fr base L h (fun y => if y = Str.ofString "rows" then some (.ref rl) else if y = Str.ofString "draws" then some (.ref dl) else if y = Str.ofString "numbers" then some (.ref nl) else M y) → News base L h (cells L #[] oB oW oK oD oH ++ gen') →
      wpAny (model PySem.Challenge.rw_ph0128_01.row.prog w) (lawA L fa cd) (execs (lawBody.drop 11) (lawEnv L fa cd)) Q E { s with heap := h, toks := tk })
    : wpAny (model PySem.Challenge.rw_ph0128_01.row.prog w) (lawA L fa cd) (execs (lawBody.drop 10) (lawEnv L fa cd)) Q E s := by
  obtain ⟨sh, sg, sd, st, so⟩ := s
  try clear s
  dsimp only at F N next
  obtain ⟨X1, T1, K1, NS, C1, C2, C3, hS, hI, hlen, hbits, l0⟩ := A1
  try clear A1
  revert X1
  k_fill
  intro X1
  have hMk := kstMark
  k_with_none
  k_with "binaryOp Add int int" => (refine add_N ?_)
  k_with "binaryOp Sub int int" => (refine sub_N ?_)
  k_with "inplaceOp Add int int" => (refine iadd_N ?_)
  k_with "inplaceOp Sub int int" => (refine isub_N ?_)
  k_with "binaryOp BitOr int int" => (refine or_N ?_)
  k_with "unaryOp USub int" => (refine neg_N ?_)
  k_with "storeName" => (k_here; k_dflt (refine' storeX_N ?F ?N ?eg ?ed ?eo ?_ ?a ?b; (case F => k_asm); (case N => k_asm); (case a => rfl); (case b => rfl); (case eg => first | (dsimp only; done) | exact rfl); (case ed => first | (dsimp only; done) | exact rfl); (case eo => first | (dsimp only; done) | exact rfl); k_whole; intro _ _ _; (try k_sweep)))
  k_with "MineLt" => (first | with_reducible assumption | ((with_reducible rename _ ∧ _ => hC9); first | exact hC9.1 | exact hC9.2.1 | exact hC9.2.2.1 | exact hC9.2.2.2.1 | exact hC9.2.2.2.2.1 | exact hC9.2.2.2.2.2.1 | exact hC9.2.2.2.2.2.2.1 | exact hC9.2.2.2.2.2.2.2.1 | exact hC9.2.2.2.2.2.2.2.2.1 | exact hC9.2.2.2.2.2.2.2.2.2.1 | exact hC9.2.2.2.2.2.2.2.2.2.2.1 | exact hC9.2.2.2.2.2.2.2.2.2.2.2.1 | exact hC9.2.2.2.2.2.2.2.2.2.2.2.2.1 | exact hC9.2.2.2.2.2.2.2.2.2.2.2.2.2.1) | exact And.left (by with_reducible assumption) | exact Nat.lt_succ_self _)
  k_with "binaryOp LShift int int" => (refine' lshift_N ?hn ?hz ?_; (case hn => k_extra "nn"); (case hz => k_extra "shl"); (try k_extra "tidy"))
  k_with "inplaceOp LShift int int" => (refine' ilshift_N ?hn ?hz ?_; (case hn => k_extra "nn"); (case hz => k_extra "shl"); (try k_extra "tidy"))
  k_with "binaryOp RShift int int" => (refine' rshift_N ?hn ?_; (case hn => k_extra "nn"); (try k_extra "tidy"))
  k_with "inplaceOp RShift int int" => (refine' irshift_N ?hn ?_; (case hn => k_extra "nn"); (try k_extra "tidy"))
  k_with "binaryOp BitAnd int int" => (refine and_N ?_; (try k_extra "tidy"))
  k_with "binaryOp Mult int int" => (refine' mul_N ?_ ?hm; (case hm => k_extra "mul"); (try k_extra "tidy"))
  k_with "Kdm" => (refine' divmod_N ?F ?N ?hb ?_ ?hp; (case F => k_asm); (case N => k_asm); (case hb => k_extra "div0"); (case hp => k_extra "pylong"))
  k_with "call ref" => (k_extra "my call")
  k_with "ite" => (k_extra "decide")
  k_with "binaryOp FloorDiv int int" => (refine' floordiv_N ?hb ?_ ?hp; (case hb => k_extra "div0"); (case hp => k_extra "pylong"); (try k_extra "tidy"))
  k_with "binaryOp BitXor int int" => (refine xor_N ?_; (try k_extra "tidy"))
  k_with "subscriptTail Name Constant ref int" => (k_here; (with_reducible show wpAny _ _ (subscriptTail _ _ (Value.ref _) (Value.int _ _)) _ _ _); (with_unfolding_all refine' item_litK ?k1 ?k2 ?k3 ?k4 ?_ ?k6; (case k1 => is_list); (case k2 => decide); (case k3 => decide); (case k4 => rfl); (case k6 => with_unfolding_all rfl); k_whole))
  k_with "subscriptTail Name Name ref int" => (k_here; (with_reducible show wpAny _ _ (subscriptTail _ _ (Value.ref _) (Value.int _ _)) _ _ _); (with_unfolding_all refine' item_litK ?k1 ?k2 ?k3 ?k4 ?_ ?k6; (case k1 => is_list); (case k2 => decide); (case k3 => decide); (case k4 => rfl); (case k6 => with_unfolding_all rfl); k_whole))
  k_with "subscriptTail Name BinOp ref int" => (k_here; (with_reducible show wpAny _ _ (subscriptTail _ _ (Value.ref _) (Value.int _ _)) _ _ _); (with_unfolding_all refine' item_litK ?k1 ?k2 ?k3 ?k4 ?_ ?k6; (case k1 => is_list); (case k2 => decide); (case k3 => decide); (case k4 => rfl); (case k6 => with_unfolding_all rfl); k_whole))
  k_with "UnrEnd" => k_dflt (refine' unr_close ?uF ?uN ?uP ?uO ?_; (case uF => assumption); (case uN => assumption); (case uP => first | exact Pull.head | exact Pull.tail Pull.head | exact Pull.tail (Pull.tail Pull.head) | exact Pull.tail (Pull.tail (Pull.tail Pull.head)) | exact Pull.tail (Pull.tail (Pull.tail (Pull.tail Pull.head)))); (case uO => k_all); k_whole)
  k_with "pyIter ref" => k_dflt (k_extra "iter")
  k_with "storeName" => (k_here; k_dflt (refine' storeX_N ?F ?N ?eg ?ed ?eo ?_ ?ka ?kb; (case eg => first | (dsimp only; done) | exact rfl); (case ed => first | (dsimp only; done) | exact rfl); (case eo => first | (dsimp only; done) | exact rfl); (case kb => with_reducible (first | exact lk_script _ _ _ | exact lk_spare _ _ _ | exact lk_drawn _ _ _ | exact lk_numbers _ _ _ | exact lk_draws _ _ _ | exact lk_rows _ _ _ | exact lk_up _ _ _ | exact lk_table _ _ _ | exact lk_row _ _ _ | exact lk_lost _ _ _ | exact lk_added _ _ _)); (case ka => exact lk_fun); (case F => k_asm); (case N => k_asm); k_whole; intro _ _ _))
  k_with "eval Name" => (k_here; k_dflt (first | (refine' nameX_L ?F ?v ?_ ?ka ?kb; (case kb => with_reducible (first | exact lk_script _ _ _ | exact lk_spare _ _ _ | exact lk_drawn _ _ _ | exact lk_numbers _ _ _ | exact lk_draws _ _ _ | exact lk_rows _ _ _ | exact lk_up _ _ _ | exact lk_table _ _ _ | exact lk_row _ _ _ | exact lk_lost _ _ _ | exact lk_added _ _ _)); (case ka => exact lk_fun); (case F => k_asm); (case v => rfl); k_whole) | (refine' nameX_C ?N ?c ?m ?d ?_ ?ka ?kb; (case kb => with_reducible (first | exact lk_bases _ _ _ | exact lk_worths _ _ _ | exact lk_blocks _ _ _ | exact lk_due _ _ _ | exact lk_whole _ _ _)); (case ka => exact lk_fun); (case N => k_asm); (case c => with_reducible (first | exact lc_bases _ | exact lc_worths _ | exact lc_blocks _ | exact lc_due _ | exact lc_whole _)); (case m => k_mem); (case d => k_asm); k_whole) | (refine' nameX_K ?F ?X ?T ?e ?_ ?ka ?kb; (case kb => kernel_rfl); (case ka => exact lk_fun); (case F => k_asm); (case X => k_asm); (case T => k_asm); (case e => k_is); k_whole) | (refine' nameX_B ?F ?X ?T ?e ?v ?n ?_ ?ka ?kb; (case kb => kernel_rfl); (case ka => exact lk_fun); (case F => k_asm); (case X => k_asm); (case T => k_asm); (case e => k_is); (case v => boot_fast); (case n => decide); k_whole)))
  k_with "lkc" => with_reducible (first | exact lk_bases _ _ _ | exact lk_worths _ _ _ | exact lk_blocks _ _ _ | exact lk_due _ _ _ | exact lk_whole _ _ _)
  k_with "lcc" => with_reducible (first | exact lc_bases _ | exact lc_worths _ | exact lc_blocks _ | exact lc_due _ | exact lc_whole _)
  k_with "Ksc" => (refine' storeX_C ?F ?N ?c ?U ?d ?_ ?ka ?kb; (case kb => k_extra "lkc"); (case ka => exact lk_fun); (case F => k_asm); (case N => k_asm); (case c => k_extra "lcc"); (case U => k_updF); (case d => k_asm); k_whole)
  k_with "call type:zip" => (k_here; k_dflt (k_extra "zip"))
  k_with "call ref" => (k_extra "my call")
  k_with "callWith ref" => (k_here; k_dflt (refine' callWith_K ?k1 ?k2 ?_; (case k1 => k_asm); (case k2 => k_is); k_whole))
  k_with "exec Assign" => (k_extra "asg")
  k_with "exec Assign cons ListComp" => (k_extra "asg")
  k_with "eval ListComp" => (k_extra "comp")
  k_with "execs cons" => (k_extra "seq")
  k_with "CompSrc" => (k_extra "src")
  k_with "CompEnd" => (k_extra "cend")
  k_with "compareOp NotEq ref ref" => (k_here; k_dflt (k_extra "ne"))
  k_with "compareOp Eq ref ref" => (k_here; k_dflt (k_extra "eq"))
  k_with "subscriptTail Name Name ref int" => (k_here; (with_reducible show wpAny _ _ (subscriptTail _ _ (Value.ref _) (Value.int _ _)) _ _ _); k_dflt (k_extra "tail"))
  k_with "call builtin:sum" => (k_here; k_dflt (k_extra "sum"))
  k_with "subscriptTail Name Slice ref ref" => (k_here; k_dflt (k_extra "cut"))
  k_with "CompSrcT" => (k_extra "src")
  k_with "decide" => fail
  k_with "seq" => ((with_reducible show wpAny _ _ (execs (Stmt.Assign [Expr.Name (Str.ofString "up") _] _ _ :: _) _) _ _ _); refine stop_intro ?_)
  k_with "my call" => refine stop_intro ?_
  have w2b : intBits (b0 * b1) ≤ 2097152 := bits_mul q0 q1'
  have w3b : intBits (b0 * b1 * b2) ≤ 3145728 := bits_mul w2b q2'
  have y2 : b0 * b1 ≠ 0 := Int.mul_ne_zero z0 z1
  have y3 : b0 * b1 * b2 ≠ 0 := Int.mul_ne_zero y2 z2
  have N0 : News base L sh ((nl, listOf nvs.toArray kn) :: (93, tabObj #[]) :: (L + 1, oB) :: (L + 1 + 1, oW) :: (L + 1 + 1 + 1, oK) :: (L + 1 + 1 + 1 + 1, oD) :: (L + 1 + 1 + 1 + 1 + 1, c5) :: gen) := by
    have q := newsCons N (List.mem_append_right _ hnl)
    exact q
  clear N
  k_steps
  unfold Stop
  (rename Fr _ _ _ _ => F1)
  (rename News _ _ _ _ => N1)
  k_dflt (refine' Gives.use (blocks xs.sum b0 b1 b2 b0 (b0 * b1) (b0 * b1 * b2) _ t0 t1 t2 v0 v1 v2 v3 bl wl kb kw (bits_up q0 (by decide)) (bits_up q1' (by decide)) (bits_up q2' (by decide)) (bits_up q0 (by decide)) (bits_up w2b (by decide)) (bits_up w3b (by decide)) z0 y2 y3) K1 F1 X1 N1 ?hP T1 NS C1 C2 ?hk ?hdp ?hu ?_)
  case hP => exact ⟨by repeat (first | exact hbl | refine List.mem_cons_of_mem _ ?_), by repeat (first | exact hwl | refine List.mem_cons_of_mem _ ?_)⟩
  case hk => exact lk_fun
  case hdp => ktr_room
  case hu => ktr_units
  intro v9 new9 h9 tk9 ob19
  refine Mine.exand3_4 ob19 fun D9 us9 k9 ob29 ob39 I9 l9 => ?_
  subst ob29
  subst ob39
  try clear ob19
  intro F9 N9
  refine Mine.exand0_3 (blocks_q z0 z1 z2 (S := xs.sum)) fun e1 e2 e3 => ?_
  rw [e1, e2, e3] at I9
  refine Mine.exand4_1 (ints4 I9) fun u0 u1 u2 u3 ob49 => ?_
  subst ob49
  have g4 : @LT.lt Nat _ (L + 1 + 1 + 1 + 1 + 1) D9 := kst_ltOf l9 (L + 1 + 1 + 1 + 1 + 1, c5) (by simp)
  have hG2 : Gen L ((D9, lst4 xs.sum u0 (q1 b0 xs.sum) u1 (q2 b0 b1 xs.sum) u2 (q3 b0 b1 b2 xs.sum) u3 k9) :: gen) := hG.new l0.1 g4
  have N10 : News base L h9 (cells L #[] oB oW oK oD c5 ++ ((D9, lst4 xs.sum u0 (q1 b0 xs.sum) u1 (q2 b0 b1 xs.sum) u2 (q3 b0 b1 b2 xs.sum) u3 k9) :: gen)) := newsSub N9 fun q hq => by
    simp only [cells, List.mem_append, List.mem_cons, List.cons_append, List.nil_append] at hq ⊢
    grind
  refine storeX_C F9 N10 (lc_whole L) (upd_whole l0.1 hG2) d5 (fun h' o' F2 N2 d2 => ?_) lk_fun (lk_whole L fa cd)
  exact next D9 u0 u1 u2 u3 k9 o' _ _ _ hG2 (fun q hq => .tail _ hq) (.head _) d2 F2 N2
end
example {prog : Program} {w : World} {A : Around} {env : Env} {Q : Flow → Shared → Prop} {E : Value → Shared → Prop} {s : Shared} (h : Q .next s) : wpAny (model prog w) A (execs [] env) Q E s := by
  w_top off
  walk1
  exact h
section
open PyProof.Rows.LCg
theorem seg8 {w p loose mean mg mb} {base : Heap} {L sl fa : Addr} {cd : Value} {ns : List Int} {svs : List Value} {s : Shared} {oK oD oH oB oW : Obj} {Q : Flow → Shared → Prop} {E : Value → Shared → Prop} {b0 b1 b2 S : Int} {u0 u1 u2 u3 : Tok} {kl hl nl dl rl : Addr} {kh kk : Nat} {M : Str → Option Value} {xs : List Int} {kvs : List Value} {gen : List (Addr × Obj)}
    (A1 : LawAt w p loose mean mg mb base L sl ns svs) (dK : oK.data = .cell (some (.ref kl))) (dH : oH.data = .cell (some (.ref hl)))
    (hxs : Six xs) (hA : All2 (BlkV gen) kvs (xs.map (blkL b0 b1 b2))) (hG : Gen L gen) (hkl : (kl, listOf kvs.toArray kk) ∈ gen) (hhl : (hl, lst4 S u0 (q1 b0 S) u1 (q2 b0 b1 S) u2 (q3 b0 b1 b2 S) u3 kh) ∈ gen)
    (F : Fr base L s.heap (fun y => if y = Str.ofString "rows" then some (.ref rl) else if y = Str.ofString "draws" then some (.ref dl) else if y = Str.ofString "numbers" then some (.ref nl) else M y)) (N : News base L s.heap (cells L #[] oB oW oK oD oH ++ gen))
    (next : ∀ (upl : Addr) (p0 p1 p2 : Tok) (kp : Nat) (h : Heap) (tk : Nat) (gen' : List (Addr × Obj)), Gen L gen' → (∀ q ∈ gen, q ∈ gen') → (upl, lst3 (upK b0 b1 b2 xs S 1) p0 (upK b0 b1 b2 xs S 2) p1 (upK b0 b1 b2 xs S 3) p2 kp) ∈ gen' →
      Fr base L h (fun y => if y = Str.ofString "up" then some (.ref upl) else if y = Str.ofString "rows" then some (.ref rl) else if y = Str.ofString "draws" then some (.ref dl) else if y = Str.ofString "numbers" then some (.ref nl) else M y) → News base L h (cells L #[] oB oW oK oD oH ++ gen') →
      wpAny (model PySem.Challenge.rw_ph0128_01.row.prog w) (lawA L fa cd) (execs (lawBody.drop 12) (lawEnv L fa cd)) Q E { s with heap := h, toks := tk })
    : wpAny (model PySem.Challenge.rw_ph0128_01.row.prog w) (lawA L fa cd) (execs (lawBody.drop 11) (lawEnv L fa cd)) Q E s := by
  obtain ⟨sh, sg, sd, st, so⟩ := s
  try clear s
  dsimp only at F N next
  obtain ⟨X1, T1, K1, NS, C1, C2, C3, hS, hI, hlen, hbits, l0⟩ := A1
  try clear A1
  revert X1
  k_fill
  intro X1
  have hMk := kstMark
  k_with_none
  k_with "binaryOp Add int int" => (refine add_N ?_)
  k_with "binaryOp Sub int int" => (refine sub_N ?_)
  k_with "inplaceOp Add int int" => (refine iadd_N ?_)
  k_with "inplaceOp Sub int int" => (refine isub_N ?_)
  k_with "binaryOp BitOr int int" => (refine or_N ?_)
  k_with "unaryOp USub int" => (refine neg_N ?_)
  k_with "storeName" => (k_here; k_dflt (refine' storeX_N ?F ?N ?eg ?ed ?eo ?_ ?a ?b; (case F => k_asm); (case N => k_asm); (case a => rfl); (case b => rfl); (case eg => first | (dsimp only; done) | exact rfl); (case ed => first | (dsimp only; done) | exact rfl); (case eo => first | (dsimp only; done) | exact rfl); k_whole; intro _ _ _; (try k_sweep)))
  k_with "MineLt" => (first | with_reducible assumption | ((with_reducible rename _ ∧ _ => hC9); first | exact hC9.1 | exact hC9.2.1 | exact hC9.2.2.1 | exact hC9.2.2.2.1 | exact hC9.2.2.2.2.1 | exact hC9.2.2.2.2.2.1 | exact hC9.2.2.2.2.2.2.1 | exact hC9.2.2.2.2.2.2.2.1 | exact hC9.2.2.2.2.2.2.2.2.1 | exact hC9.2.2.2.2.2.2.2.2.2.1 | exact hC9.2.2.2.2.2.2.2.2.2.2.1 | exact hC9.2.2.2.2.2.2.2.2.2.2.2.1 | exact hC9.2.2.2.2.2.2.2.2.2.2.2.2.1 | exact hC9.2.2.2.2.2.2.2.2.2.2.2.2.2.1) | exact And.left (by with_reducible assumption) | exact Nat.lt_succ_self _)
  k_with "binaryOp LShift int int" => (refine' lshift_N ?hn ?hz ?_; (case hn => k_extra "nn"); (case hz => k_extra "shl"); (try k_extra "tidy"))
  k_with "inplaceOp LShift int int" => (refine' ilshift_N ?hn ?hz ?_; (case hn => k_extra "nn"); (case hz => k_extra "shl"); (try k_extra "tidy"))
  k_with "binaryOp RShift int int" => (refine' rshift_N ?hn ?_; (case hn => k_extra "nn"); (try k_extra "tidy"))
  k_with "inplaceOp RShift int int" => (refine' irshift_N ?hn ?_; (case hn => k_extra "nn"); (try k_extra "tidy"))
  k_with "binaryOp BitAnd int int" => (refine and_N ?_; (try k_extra "tidy"))
  k_with "binaryOp Mult int int" => (refine' mul_N ?_ ?hm; (case hm => k_extra "mul"); (try k_extra "tidy"))
  k_with "Kdm" => (refine' divmod_N ?F ?N ?hb ?_ ?hp; (case F => k_asm); (case N => k_asm); (case hb => k_extra "div0"); (case hp => k_extra "pylong"))
  k_with "call ref" => (k_extra "my call")
  k_with "ite" => (k_extra "decide")
  k_with "binaryOp FloorDiv int int" => (refine' floordiv_N ?hb ?_ ?hp; (case hb => k_extra "div0"); (case hp => k_extra "pylong"); (try k_extra "tidy"))
  k_with "binaryOp BitXor int int" => (refine xor_N ?_; (try k_extra "tidy"))
  k_with "subscriptTail Name Constant ref int" => (k_here; (with_reducible show wpAny _ _ (subscriptTail _ _ (Value.ref _) (Value.int _ _)) _ _ _); (with_unfolding_all refine' item_litK ?k1 ?k2 ?k3 ?k4 ?_ ?k6; (case k1 => is_list); (case k2 => decide); (case k3 => decide); (case k4 => rfl); (case k6 => with_unfolding_all rfl); k_whole))
  k_with "subscriptTail Name Name ref int" => (k_here; (with_reducible show wpAny _ _ (subscriptTail _ _ (Value.ref _) (Value.int _ _)) _ _ _); (with_unfolding_all refine' item_litK ?k1 ?k2 ?k3 ?k4 ?_ ?k6; (case k1 => is_list); (case k2 => decide); (case k3 => decide); (case k4 => rfl); (case k6 => with_unfolding_all rfl); k_whole))
  k_with "subscriptTail Name BinOp ref int" => (k_here; (with_reducible show wpAny _ _ (subscriptTail _ _ (Value.ref _) (Value.int _ _)) _ _ _); (with_unfolding_all refine' item_litK ?k1 ?k2 ?k3 ?k4 ?_ ?k6; (case k1 => is_list); (case k2 => decide); (case k3 => decide); (case k4 => rfl); (case k6 => with_unfolding_all rfl); k_whole))
  k_with "UnrEnd" => k_dflt (refine' unr_close ?uF ?uN ?uP ?uO ?_; (case uF => assumption); (case uN => assumption); (case uP => first | exact Pull.head | exact Pull.tail Pull.head | exact Pull.tail (Pull.tail Pull.head) | exact Pull.tail (Pull.tail (Pull.tail Pull.head)) | exact Pull.tail (Pull.tail (Pull.tail (Pull.tail Pull.head)))); (case uO => k_all); k_whole)
  k_with "pyIter ref" => k_dflt (k_extra "iter")
  k_with "storeName" => (k_here; k_dflt (refine' storeX_N ?F ?N ?eg ?ed ?eo ?_ ?ka ?kb; (case eg => first | (dsimp only; done) | exact rfl); (case ed => first | (dsimp only; done) | exact rfl); (case eo => first | (dsimp only; done) | exact rfl); (case kb => with_reducible (first | exact lk_script _ _ _ | exact lk_spare _ _ _ | exact lk_drawn _ _ _ | exact lk_numbers _ _ _ | exact lk_draws _ _ _ | exact lk_rows _ _ _ | exact lk_up _ _ _ | exact lk_table _ _ _ | exact lk_row _ _ _ | exact lk_lost _ _ _ | exact lk_added _ _ _)); (case ka => exact lk_fun); (case F => k_asm); (case N => k_asm); k_whole; intro _ _ _))
  k_with "eval Name" => (k_here; k_dflt (first | (refine' nameX_L ?F ?v ?_ ?ka ?kb; (case kb => with_reducible (first | exact lk_script _ _ _ | exact lk_spare _ _ _ | exact lk_drawn _ _ _ | exact lk_numbers _ _ _ | exact lk_draws _ _ _ | exact lk_rows _ _ _ | exact lk_up _ _ _ | exact lk_table _ _ _ | exact lk_row _ _ _ | exact lk_lost _ _ _ | exact lk_added _ _ _)); (case ka => exact lk_fun); (case F => k_asm); (case v => rfl); k_whole) | (refine' nameX_C ?N ?c ?m ?d ?_ ?ka ?kb; (case kb => with_reducible (first | exact lk_bases _ _ _ | exact lk_worths _ _ _ | exact lk_blocks _ _ _ | exact lk_due _ _ _ | exact lk_whole _ _ _)); (case ka => exact lk_fun); (case N => k_asm); (case c => with_reducible (first | exact lc_bases _ | exact lc_worths _ | exact lc_blocks _ | exact lc_due _ | exact lc_whole _)); (case m => k_mem); (case d => k_asm); k_whole) | (refine' nameX_K ?F ?X ?T ?e ?_ ?ka ?kb; (case kb => kernel_rfl); (case ka => exact lk_fun); (case F => k_asm); (case X => k_asm); (case T => k_asm); (case e => k_is); k_whole) | (refine' nameX_B ?F ?X ?T ?e ?v ?n ?_ ?ka ?kb; (case kb => kernel_rfl); (case ka => exact lk_fun); (case F => k_asm); (case X => k_asm); (case T => k_asm); (case e => k_is); (case v => boot_fast); (case n => decide); k_whole)))
  k_with "lkc" => with_reducible (first | exact lk_bases _ _ _ | exact lk_worths _ _ _ | exact lk_blocks _ _ _ | exact lk_due _ _ _ | exact lk_whole _ _ _)
  k_with "lcc" => with_reducible (first | exact lc_bases _ | exact lc_worths _ | exact lc_blocks _ | exact lc_due _ | exact lc_whole _)
  k_with "Ksc" => (refine' storeX_C ?F ?N ?c ?U ?d ?_ ?ka ?kb; (case kb => k_extra "lkc"); (case ka => exact lk_fun); (case F => k_asm); (case N => k_asm); (case c => k_extra "lcc"); (case U => k_updF); (case d => k_asm); k_whole)
  k_with "call type:zip" => (k_here; k_dflt (k_extra "zip"))
  k_with "call ref" => (k_extra "my call")
  k_with "callWith ref" => (k_here; k_dflt (refine' callWith_K ?k1 ?k2 ?_; (case k1 => k_asm); (case k2 => k_is); k_whole))
  k_with "exec Assign" => (k_extra "asg")
  k_with "exec Assign cons ListComp" => (k_extra "asg")
  k_with "eval ListComp" => (k_extra "comp")
  k_with "execs cons" => (k_extra "seq")
  k_with "CompSrc" => (k_extra "src")
  k_with "CompEnd" => (k_extra "cend")
  k_with "compareOp NotEq ref ref" => (k_here; k_dflt (k_extra "ne"))
  k_with "compareOp Eq ref ref" => (k_here; k_dflt (k_extra "eq"))
  k_with "subscriptTail Name Name ref int" => (k_here; (with_reducible show wpAny _ _ (subscriptTail _ _ (Value.ref _) (Value.int _ _)) _ _ _); k_dflt (k_extra "tail"))
  k_with "call builtin:sum" => (k_here; k_dflt (k_extra "sum"))
  k_with "subscriptTail Name Slice ref ref" => (k_here; k_dflt (k_extra "cut"))
  k_with "CompSrcT" => (k_extra "src")
  k_with "decide" => fail
  k_with "asg" => ((with_reducible show wpAny _ _ (exec (Stmt.Assign _ (Expr.ListComp _ _ _ _) _) _) _ _ _); refine stop_intro ?_)
  k_with "comp" => refine stop_intro ?_
  k_with "tail" => refine stop_intro ?_
  k_with "src" => refine stop_intro ?_
  k_with "cend" => refine stop_intro ?_
  have N0 : News base L sh ((93, tabObj #[]) :: (L + 1, oB) :: (L + 1 + 1, oW) :: (L + 1 + 1 + 1, oK) :: (L + 1 + 1 + 1 + 1, oD) :: (L + 1 + 1 + 1 + 1 + 1, oH) :: gen) := N
  k_steps
  unfold Stop
  refine Assign_ListComp_C (cl := [(Str.ofString "whole", L + 1 + 1 + 1 + 1 + 1), (Str.ofString "blocks", L + 1 + 1 + 1)]) ?hsw ?hclos ?hkind ?hnames ?_ ?hs
  case hsw => with_unfolding_all rfl
  case hclos => with_unfolding_all rfl
  case hkind => rfl
  case hnames => decide
  case hs => (intro _; rfl)
  k_steps
  (rename Fr _ _ _ _ => F1)
  (rename News _ _ _ _ => N1)
  rename_i tl h1 l1
  have Ik : IntsAre [.int 1 st, .int 2 (st + 1), .int 3 (st + 1 + 1)] [1, 2, 3] := .cons _ _ (.cons _ _ (.cons _ _ .nil))
  have hcsz : kvs.toArray.size = 6 := by rw [List.size_toArray, hA.length, List.length_map]; exact hxs.len
  refine compC_tuple rfl ?hsz3 (by intro n; rfl) (by intro h; rfl) rfl (by intro c C; rfl) F1 N1 (.head _) (fun i us => IntsAre us (([1, 2, 3] : List Int).map (upK b0 b1 b2 xs S) |>.take i)) .nil ?turn ?done
  case hsz3 => (show 3 ≤ sizeLine; decide)
  case turn =>
    intro i v us I oI C oC c oc D h tk E' hi hv J dc F N
    first | (refine' turn_N ?eg ?ed ?eo ?_; (case eg => first | (dsimp only; done) | exact rfl); (case ed => first | (dsimp only; done) | exact rfl); (case eo => first | (dsimp only; done) | exact rfl)) | refine post_let ?_
    intro qT
    rw [List.getElem?_toArray] at hv
    refine Mine.exand2_2 (Ik.at _ _ hv) fun k tk' ob19 hk => ?_
    subst ob19
    have hk0 : 0 ≤ k ∧ k < 4 := by
      have := List.mem_of_getElem? hk
      simp only [List.mem_cons, List.not_mem_nil, or_false] at this
      omega
    have N2 : News base L h ((hl, lst4 S u0 (q1 b0 S) u1 (q2 b0 b1 S) u2 (q3 b0 b1 b2 S) u3 kh) :: (kl, listOf kvs.toArray kk) :: (I, oI) :: (C, oC) :: (c, oc) :: (D, lst us) :: (tl, { cls := Value.type "tuple", data := Data.seq #[Value.int 1 st, Value.int 2 (st + 1), Value.int 3 (st + 1 + 1)] }) :: (93, tabObj #[]) :: (L + 1, oB) :: (L + 1 + 1, oW) :: (L + 1 + 1 + 1, oK) :: (L + 1 + 1 + 1 + 1, oD) :: (L + 1 + 1 + 1 + 1 + 1, oH) :: gen) :=
      newsAdd N (by repeat (first | exact hhl | refine List.mem_cons_of_mem _ ?_)) (newsAdd N (by repeat (first | exact hkl | refine List.mem_cons_of_mem _ ?_)) N)
    have IS : IntsAre [.int S u0, .int (q1 b0 S) u1, .int (q2 b0 b1 S) u2, .int (q3 b0 b1 b2 S) u3] (blkL b0 b1 b2 S) := .cons _ _ (.cons _ _ (.cons _ _ (.cons _ _ .nil)))
    k_steps
    unfold Stop
    refine item_ints N2 (.head _) IS hk0.1 hk0.2 (show 4 ≤ 100 by decide) fun tS => ?_
    k_steps
    unfold Stop
    refine ListComp_U (F₀ := F) (cl := [(Str.ofString "k", c)]) ?hclos ?hcell ?hkind ?hnames ?hx ?_ ?hs
    case hclos => with_unfolding_all rfl
    case hcell => decide
    case hkind => rfl
    case hnames => decide
    case hx => rfl
    case hs => (intro _; rfl)
    k_steps
    unfold Stop
    refine CompSrc.ledger rfl F N2 (.tail _ (.head _)) (by rw [hcsz]; decide) fun g => ?_
    refine compRest_ind (fun i ys nw => nw = (hl, lst4 S u0 (q1 b0 S) u1 (q2 b0 b1 S) u2 (q3 b0 b1 b2 S) u3 kh) :: (kl, listOf kvs.toArray kk) :: (I, oI) :: (C, oC) :: (c, oc) :: (D, lst us) :: (tl, { cls := Value.type "tuple", data := Data.seq #[Value.int 1 st, Value.int 2 (st + 1), Value.int 3 (st + 1 + 1)] }) :: (93, tabObj #[]) :: (L + 1, oB) :: (L + 1 + 1, oW) :: (L + 1 + 1 + 1, oK) :: (L + 1 + 1 + 1 + 1, oD) :: (L + 1 + 1 + 1 + 1 + 1, oH) :: gen ∧
      IntsAre ys ((xs.map fun x => (blkL b0 b1 b2 x).getD k.toNat 0).take i)) ?turn2 ?done2 kvs.toArray.size 0 [] _ (Nat.zero_add _) ⟨rfl, .nil⟩
    case turn2 =>
      intro i2 ys nw v2 I2 oI2 C2 oC2 D2 m2 h2 tk2 E2 hi2 hv2 J2 ho2 hx2 F2 N3 off2 ne2
      first | (refine' turn_N ?eg ?ed ?eo ?_; (case eg => first | (dsimp only; done) | exact rfl); (case ed => first | (dsimp only; done) | exact rfl); (case eo => first | (dsimp only; done) | exact rfl)) | refine post_let ?_
      intro qT
      refine Mine.exand0_2 J2 fun ob29 IY => ?_
      subst ob29
      try clear J2
      rw [List.getElem?_toArray] at hv2
      refine Mine.exand1_2 (hA.get hv2) fun bx hbx ob39 => ?_
      refine Mine.exand3_4 ob39 fun t2 ws kt ob49 ht2 hI4 hl4 => ?_
      subst ob49
      try clear ob39
      rw [List.getElem?_map] at hbx
      refine Mine.exand1_2 (Option.map_eq_some_iff.mp hbx) fun x hxi ob59 => ?_
      subst ob59
      have N4 := newsCons N3 (show (t2, listOf ws.toArray kt) ∈ _ by repeat (first | exact ht2 | refine List.mem_cons_of_mem _ ?_))
      clear N2 N3
      k_steps
      unfold Stop
      refine item_ints N4 (.head _) hI4 hk0.1 hk0.2 (by rw [hl4]; decide) fun tx => ?_
      k_steps
      unfold Stop
      exact CompEnd.intro F2 N4 _ (fun q hq => .tail _ hq) off2 (.inr ⟨_, .tail _ (.head _), rfl, _, rfl⟩) ⟨rfl, ints_snoc IY (by rw [List.getElem?_map, hxi]; rfl)⟩
    case done2 =>
      intro ys nw J2
      refine Mine.exand0_2 J2 fun ob69 IY => ?_
      subst ob69
      try clear J2
      rw [hcsz, List.take_of_length_le (by rw [List.length_map, hxs.len]; exact Nat.le_refl _)] at IY
      unfold FinE
      intro D2 h2 tk2 F2 N3 o1
      clear N2 N
      k_steps
      · k_asm
      · exact newsSub (by k_asm) fun q hq => .tail _ (.tail _ (.tail _ hq))
      · exact stop_intro (ints_snoc J (by rw [List.getElem?_map, hk]; rfl))
  case done =>
    intro D C us h tk m' J hul F N hns hC0 hCL hDC hnC hlt
    refine post_assign rfl (lk_up L fa cd) rfl F N hns hC0 hCL hDC hnC fun h' tk' F' N' => ?_
    refine Mine.exand3_1 (ints3 (show IntsAre us [upK b0 b1 b2 xs S 1, upK b0 b1 b2 xs S 2, upK b0 b1 b2 xs S 3] from J)) fun p0 p1 p2 ob79 => ?_
    subst ob79
    have g4 : @LT.lt Nat _ (L + 1 + 1 + 1 + 1 + 1) D := hlt (L + 1 + 1 + 1 + 1 + 1, oH) (by simp)
    refine next D p0 p1 p2 3 _ _ ((D, lst3 (upK b0 b1 b2 xs S 1) p0 (upK b0 b1 b2 xs S 2) p1 (upK b0 b1 b2 xs S 3) p2 3) :: gen) (hG.new l0.1 g4) (fun q hq => .tail _ hq) (.head _) F' (newsSub N' fun q hq => ?_)
    simp only [cells, List.mem_cons, List.cons_append, List.nil_append] at hq ⊢
    rcases hq with hq | hq | hq | hq | hq | hq | hq | hq
    · exact .inr (.inr (.inl hq))
    · exact .inr (.inr (.inr (.inl hq)))
    · exact .inr (.inr (.inr (.inr (.inl hq))))
    · exact .inr (.inr (.inr (.inr (.inr (.inl hq)))))
    · exact .inr (.inr (.inr (.inr (.inr (.inr (.inl hq))))))
    · exact .inr (.inr (.inr (.inr (.inr (.inr (.inr (.inl hq)))))))
    · exact .inl hq
    · exact .inr (.inr (.inr (.inr (.inr (.inr (.inr (.inr hq)))))))
end
example {prog : Program} {w : World} {A : Around} {env : Env} {Q : Flow → Shared → Prop} {E : Value → Shared → Prop} {s : Shared} (h : Q .next s) : wpAny (model prog w) A (execs [] env) Q E s := by
  w_top off
  walk1
  exact h
section
theorem seg9 {w p loose mean mg mb} {base : Heap} {L sl fa : Addr} {cd : Value} {ns : List Int} {svs : List Value} {s : Shared} {oK oD oH oB oW : Obj} {Q : Flow → Shared → Prop} {E : Value → Shared → Prop} {b0 b1 b2 S U1 U2 U3 w1 w2 w3 : Int} {u0 u1 u2 u3 t0 t1 t2 v0 v1 v2 v3 p0 p1 p2 : Tok} {bl wl hl upl nl dl rl : Addr} {kh kp kb kw : Nat} {M : Str → Option Value} {gen : List (Addr × Obj)}
    (A1 : LawAt w p loose mean mg mb base L sl ns svs) (z0 : b0 ≠ 0) (z1 : b1 ≠ 0) (z2 : b2 ≠ 0) (q0 : intBits b0 ≤ 1048576) (q1' : intBits b1 ≤ 1048576) (q2' : intBits b2 ≤ 1048576) (w2b : intBits w2 ≤ 2097152) (hSb : intBits S ≤ 2200006) (hU2 : intBits U2 ≤ 2200007)
    (dB : oB.data = .cell (some (.ref bl))) (dW : oW.data = .cell (some (.ref wl))) (dH : oH.data = .cell (some (.ref hl))) (hG : Gen L gen)
    (hhl : (hl, lst4 S u0 (q1 b0 S) u1 (q2 b0 b1 S) u2 (q3 b0 b1 b2 S) u3 kh) ∈ gen) (hwl : (wl, lst4 1 v0 w1 v1 w2 v2 w3 v3 kw) ∈ gen) (hbl : (bl, lst3 b0 t0 b1 t1 b2 t2 kb) ∈ gen) (hup : (upl, lst3 U1 p0 U2 p1 U3 p2 kp) ∈ gen)
    (F : Fr base L s.heap (fun y => if y = Str.ofString "up" then some (.ref upl) else if y = Str.ofString "rows" then some (.ref rl) else if y = Str.ofString "draws" then some (.ref dl) else if y = Str.ofString "numbers" then some (.ref nl) else M y)) (N : News base L s.heap (cells L #[] oB oW oK oD oH ++ gen))
    (next : ∀ (tl rw : Addr) (r0 r1 r2 r3 : Tok) (kr : Nat) (h : Heap) (tk : Nat) (gen' : List (Addr × Obj)), Gen L gen' → (∀ q ∈ gen, q ∈ gen') → TabAtL w gen' tl (fourT S U1 U2 (U2 * w2) U3) → (rw, tup4 (q2 b0 b1 S - b2 * q3 b0 b1 b2 S) r0 (S - b0 * q1 b0 S) r1 (q3 b0 b1 b2 S) r2 (q1 b0 S - b1 * q2 b0 b1 S) r3 kr) ∈ gen' →
      Fr base L h (fun y => if y = Str.ofString "row" then some (.ref rw) else if y = Str.ofString "table" then some (.ref tl) else if y = Str.ofString "up" then some (.ref upl) else if y = Str.ofString "rows" then some (.ref rl) else if y = Str.ofString "draws" then some (.ref dl) else if y = Str.ofString "numbers" then some (.ref nl) else M y) → News base L h (cells L #[] oB oW oK oD oH ++ gen') →
      wpAny (model PySem.Challenge.rw_ph0128_01.row.prog w) (lawA L fa cd) (execs (lawBody.drop 14) (lawEnv L fa cd)) Q E { s with heap := h, toks := tk })
    : wpAny (model PySem.Challenge.rw_ph0128_01.row.prog w) (lawA L fa cd) (execs (lawBody.drop 12) (lawEnv L fa cd)) Q E s := by
  obtain ⟨sh, sg, sd, st, so⟩ := s
  try clear s
  dsimp only at F N next
  obtain ⟨X1, T1, K1, NS, C1, C2, C3, hS, hI, hlen, hbits, l0⟩ := A1
  try clear A1
  revert X1
  k_fill
  intro X1
  have hMk := kstMark
  k_with_none
  k_with "binaryOp Add int int" => (refine add_N ?_)
  k_with "binaryOp Sub int int" => (refine sub_N ?_)
  k_with "inplaceOp Add int int" => (refine iadd_N ?_)
  k_with "inplaceOp Sub int int" => (refine isub_N ?_)
  k_with "binaryOp BitOr int int" => (refine or_N ?_)
  k_with "unaryOp USub int" => (refine neg_N ?_)
  k_with "storeName" => (k_here; k_dflt (refine' storeX_N ?F ?N ?eg ?ed ?eo ?_ ?a ?b; (case F => k_asm); (case N => k_asm); (case a => rfl); (case b => rfl); (case eg => first | (dsimp only; done) | exact rfl); (case ed => first | (dsimp only; done) | exact rfl); (case eo => first | (dsimp only; done) | exact rfl); k_whole; intro _ _ _; (try k_sweep)))
  k_with "MineLt" => (first | with_reducible assumption | ((with_reducible rename _ ∧ _ => hC9); first | exact hC9.1 | exact hC9.2.1 | exact hC9.2.2.1 | exact hC9.2.2.2.1 | exact hC9.2.2.2.2.1 | exact hC9.2.2.2.2.2.1 | exact hC9.2.2.2.2.2.2.1 | exact hC9.2.2.2.2.2.2.2.1 | exact hC9.2.2.2.2.2.2.2.2.1 | exact hC9.2.2.2.2.2.2.2.2.2.1 | exact hC9.2.2.2.2.2.2.2.2.2.2.1 | exact hC9.2.2.2.2.2.2.2.2.2.2.2.1 | exact hC9.2.2.2.2.2.2.2.2.2.2.2.2.1 | exact hC9.2.2.2.2.2.2.2.2.2.2.2.2.2.1) | exact And.left (by with_reducible assumption) | exact Nat.lt_succ_self _)
  k_with "binaryOp LShift int int" => (refine' lshift_N ?hn ?hz ?_; (case hn => k_extra "nn"); (case hz => k_extra "shl"); (try k_extra "tidy"))
  k_with "inplaceOp LShift int int" => (refine' ilshift_N ?hn ?hz ?_; (case hn => k_extra "nn"); (case hz => k_extra "shl"); (try k_extra "tidy"))
  k_with "binaryOp RShift int int" => (refine' rshift_N ?hn ?_; (case hn => k_extra "nn"); (try k_extra "tidy"))
  k_with "inplaceOp RShift int int" => (refine' irshift_N ?hn ?_; (case hn => k_extra "nn"); (try k_extra "tidy"))
  k_with "binaryOp BitAnd int int" => (refine and_N ?_; (try k_extra "tidy"))
  k_with "binaryOp Mult int int" => (refine' mul_N ?_ ?hm; (case hm => k_extra "mul"); (try k_extra "tidy"))
  k_with "Kdm" => (refine' divmod_N ?F ?N ?hb ?_ ?hp; (case F => k_asm); (case N => k_asm); (case hb => k_extra "div0"); (case hp => k_extra "pylong"))
  k_with "call ref" => (k_extra "my call")
  k_with "ite" => (k_extra "decide")
  k_with "binaryOp FloorDiv int int" => (refine' floordiv_N ?hb ?_ ?hp; (case hb => k_extra "div0"); (case hp => k_extra "pylong"); (try k_extra "tidy"))
  k_with "binaryOp BitXor int int" => (refine xor_N ?_; (try k_extra "tidy"))
  k_with "subscriptTail Name Constant ref int" => (k_here; (with_reducible show wpAny _ _ (subscriptTail _ _ (Value.ref _) (Value.int _ _)) _ _ _); (with_unfolding_all refine' item_litK ?k1 ?k2 ?k3 ?k4 ?_ ?k6; (case k1 => is_list); (case k2 => decide); (case k3 => decide); (case k4 => rfl); (case k6 => with_unfolding_all rfl); k_whole))
  k_with "subscriptTail Name Name ref int" => (k_here; (with_reducible show wpAny _ _ (subscriptTail _ _ (Value.ref _) (Value.int _ _)) _ _ _); (with_unfolding_all refine' item_litK ?k1 ?k2 ?k3 ?k4 ?_ ?k6; (case k1 => is_list); (case k2 => decide); (case k3 => decide); (case k4 => rfl); (case k6 => with_unfolding_all rfl); k_whole))
  k_with "subscriptTail Name BinOp ref int" => (k_here; (with_reducible show wpAny _ _ (subscriptTail _ _ (Value.ref _) (Value.int _ _)) _ _ _); (with_unfolding_all refine' item_litK ?k1 ?k2 ?k3 ?k4 ?_ ?k6; (case k1 => is_list); (case k2 => decide); (case k3 => decide); (case k4 => rfl); (case k6 => with_unfolding_all rfl); k_whole))
  k_with "UnrEnd" => k_dflt (refine' unr_close ?uF ?uN ?uP ?uO ?_; (case uF => assumption); (case uN => assumption); (case uP => first | exact Pull.head | exact Pull.tail Pull.head | exact Pull.tail (Pull.tail Pull.head) | exact Pull.tail (Pull.tail (Pull.tail Pull.head)) | exact Pull.tail (Pull.tail (Pull.tail (Pull.tail Pull.head)))); (case uO => k_all); k_whole)
  k_with "pyIter ref" => k_dflt (k_extra "iter")
  k_with "storeName" => (k_here; k_dflt (refine' storeX_N ?F ?N ?eg ?ed ?eo ?_ ?ka ?kb; (case eg => first | (dsimp only; done) | exact rfl); (case ed => first | (dsimp only; done) | exact rfl); (case eo => first | (dsimp only; done) | exact rfl); (case kb => with_reducible (first | exact lk_script _ _ _ | exact lk_spare _ _ _ | exact lk_drawn _ _ _ | exact lk_numbers _ _ _ | exact lk_draws _ _ _ | exact lk_rows _ _ _ | exact lk_up _ _ _ | exact lk_table _ _ _ | exact lk_row _ _ _ | exact lk_lost _ _ _ | exact lk_added _ _ _)); (case ka => exact lk_fun); (case F => k_asm); (case N => k_asm); k_whole; intro _ _ _))
  k_with "eval Name" => (k_here; k_dflt (first | (refine' nameX_L ?F ?v ?_ ?ka ?kb; (case kb => with_reducible (first | exact lk_script _ _ _ | exact lk_spare _ _ _ | exact lk_drawn _ _ _ | exact lk_numbers _ _ _ | exact lk_draws _ _ _ | exact lk_rows _ _ _ | exact lk_up _ _ _ | exact lk_table _ _ _ | exact lk_row _ _ _ | exact lk_lost _ _ _ | exact lk_added _ _ _)); (case ka => exact lk_fun); (case F => k_asm); (case v => rfl); k_whole) | (refine' nameX_C ?N ?c ?m ?d ?_ ?ka ?kb; (case kb => with_reducible (first | exact lk_bases _ _ _ | exact lk_worths _ _ _ | exact lk_blocks _ _ _ | exact lk_due _ _ _ | exact lk_whole _ _ _)); (case ka => exact lk_fun); (case N => k_asm); (case c => with_reducible (first | exact lc_bases _ | exact lc_worths _ | exact lc_blocks _ | exact lc_due _ | exact lc_whole _)); (case m => k_mem); (case d => k_asm); k_whole) | (refine' nameX_K ?F ?X ?T ?e ?_ ?ka ?kb; (case kb => kernel_rfl); (case ka => exact lk_fun); (case F => k_asm); (case X => k_asm); (case T => k_asm); (case e => k_is); k_whole) | (refine' nameX_B ?F ?X ?T ?e ?v ?n ?_ ?ka ?kb; (case kb => kernel_rfl); (case ka => exact lk_fun); (case F => k_asm); (case X => k_asm); (case T => k_asm); (case e => k_is); (case v => boot_fast); (case n => decide); k_whole)))
  k_with "lkc" => with_reducible (first | exact lk_bases _ _ _ | exact lk_worths _ _ _ | exact lk_blocks _ _ _ | exact lk_due _ _ _ | exact lk_whole _ _ _)
  k_with "lcc" => with_reducible (first | exact lc_bases _ | exact lc_worths _ | exact lc_blocks _ | exact lc_due _ | exact lc_whole _)
  k_with "Ksc" => (refine' storeX_C ?F ?N ?c ?U ?d ?_ ?ka ?kb; (case kb => k_extra "lkc"); (case ka => exact lk_fun); (case F => k_asm); (case N => k_asm); (case c => k_extra "lcc"); (case U => k_updF); (case d => k_asm); k_whole)
  k_with "call type:zip" => (k_here; k_dflt (k_extra "zip"))
  k_with "call ref" => (k_extra "my call")
  k_with "callWith ref" => (k_here; k_dflt (refine' callWith_K ?k1 ?k2 ?_; (case k1 => k_asm); (case k2 => k_is); k_whole))
  k_with "exec Assign" => (k_extra "asg")
  k_with "exec Assign cons ListComp" => (k_extra "asg")
  k_with "eval ListComp" => (k_extra "comp")
  k_with "execs cons" => (k_extra "seq")
  k_with "CompSrc" => (k_extra "src")
  k_with "CompEnd" => (k_extra "cend")
  k_with "compareOp NotEq ref ref" => (k_here; k_dflt (k_extra "ne"))
  k_with "compareOp Eq ref ref" => (k_here; k_dflt (k_extra "eq"))
  k_with "subscriptTail Name Name ref int" => (k_here; (with_reducible show wpAny _ _ (subscriptTail _ _ (Value.ref _) (Value.int _ _)) _ _ _); k_dflt (k_extra "tail"))
  k_with "call builtin:sum" => (k_here; k_dflt (k_extra "sum"))
  k_with "subscriptTail Name Slice ref ref" => (k_here; k_dflt (k_extra "cut"))
  k_with "CompSrcT" => (k_extra "src")
  k_with "decide" => fail
  k_with "seq" => ((with_reducible show wpAny _ _ (execs (Stmt.Assign [Expr.Name (Str.ofString "lost") _] _ _ :: _) _) _ _ _); refine stop_intro ?_)
  k_with "my call" => refine stop_intro ?_
  k_with "mul" => exact IntMulOk.of_le (m := 2200007) (n := 2097152) (by assumption) (by assumption) (by decide)
  have N0 : News base L sh ((hl, lst4 S u0 (q1 b0 S) u1 (q2 b0 b1 S) u2 (q3 b0 b1 b2 S) u3 kh) :: (wl, lst4 1 v0 w1 v1 w2 v2 w3 v3 kw) :: (upl, lst3 U1 p0 U2 p1 U3 p2 kp) :: (93, tabObj #[]) :: (L + 1, oB) :: (L + 1 + 1, oW) :: (L + 1 + 1 + 1, oK) :: (L + 1 + 1 + 1 + 1, oD) :: (L + 1 + 1 + 1 + 1 + 1, oH) :: gen) :=
    newsAdd N (List.mem_append_right _ hhl) (newsAdd N (List.mem_append_right _ hwl) (newsAdd N (List.mem_append_right _ hup) N))
  clear N
  k_steps
  rename_i td h1 o1 lo hd1 l1 cp h2 F2 N2 l2 h3 o2 F3 N3 hd h4 F4 N4
  unfold Stop
  refine Mine.exand0_3 (q_bits z0 z1 z2 hSb) fun g1 g2 g3 => ?_
  k_dflt (refine' Gives.use (parts S (q1 b0 S) (q2 b0 b1 S) (q3 b0 b1 b2 S) b0 b1 b2 u0 u1 u2 u3 t0 t1 t2 hl bl kh kb (bits_up g1 (by decide)) (bits_up g2 (by decide)) (bits_up g3 (by decide)) (bits_up q0 (by decide)) (bits_up q1' (by decide)) (bits_up q2' (by decide))) K1 F4 X1 N4 ?hP T1 NS C1 C2 ?hk ?hdp ?hu ?_)
  case hP => exact ⟨.tail _ (.tail _ (.head _)), by repeat (first | exact hbl | refine List.mem_cons_of_mem _ ?_)⟩
  case hk => exact lk_fun
  case hdp => ktr_room
  case hu => ktr_units
  intro v9 new9 h9 tk9 ob19
  refine Mine.exand6_3 ob19 fun D9 r0 r1 r2 r3 k9 ob29 ob39 l9 => ?_
  subst ob29
  subst ob39
  try clear ob19
  intro F9 N9
  simp only [List.cons_append, List.nil_append] at N9
  have e1 : @LT.lt Nat _ (L + 1 + 1 + 1 + 1 + 1) td := by omega
  have e2 : @LT.lt Nat _ (L + 1 + 1 + 1 + 1 + 1) cp := by omega
  have e3 : @LT.lt Nat _ (L + 1 + 1 + 1 + 1 + 1) D9 := kst_ltOf l9 (L + 1 + 1 + 1 + 1 + 1, oH) (by simp)
  k_steps
  (rename Fr _ _ _ _ => F5)
  (rename News _ _ _ _ => N5)
  unfold Stop
  refine next td D9 r0 r1 r2 r3 k9 _ _ ((D9, tup4 (q2 b0 b1 S - b2 * q3 b0 b1 b2 S) r0 (S - b0 * q1 b0 S) r1 (q3 b0 b1 b2 S) r2 (q1 b0 S - b1 * q2 b0 b1 S) r3 k9) :: (cp, tup2 U2 p1 (U2 * w2) (st + 1 + 1 + 1 + 1 + 1 + 1 + 1 + 1) 0) :: (td, o2) :: gen) (((hG.new (x := (td, o2)) l0.1 e1).new (x := (cp, _)) l0.1 e2).new l0.1 e3) (fun q hq => .tail _ (.tail _ (.tail _ hq)))
    ⟨o2, _, .tail _ (.tail _ (.head _)), hd, ⟨rfl, ⟨_, rfl⟩, rfl, ⟨_, rfl⟩, rfl, ⟨cp, _, _, _, rfl, .tail _ (.head _)⟩, rfl, ⟨_, rfl⟩, trivial⟩, lo⟩ (.head _) F5 (newsSub N5 fun q hq => ?_)
  simp only [cells, List.mem_cons, List.cons_append, List.nil_append] at hq
  rcases hq with rfl | rfl | rfl | rfl | rfl | rfl | rfl | rfl | rfl | hq
  all_goals (repeat (first | exact hq | exact List.mem_cons_self | refine List.mem_cons_of_mem _ ?_))
end
example {prog : Program} {w : World} {A : Around} {env : Env} {Q : Flow → Shared → Prop} {E : Value → Shared → Prop} {s : Shared} (h : Q .next s) : wpAny (model prog w) A (execs [] env) Q E s := by
  w_top off
  walk1
  exact h
section
open PyProof.Rows.LCg
theorem seg10 {w p loose mean mg mb} {base : Heap} {L sl fa : Addr} {cd : Value} {ns : List Int} {svs : List Value} {s : Shared} {oK oD oH oB oW : Obj} {Q : Flow → Shared → Prop} {E : Value → Shared → Prop} {b0 b1 b2 R0 R1 R2 R3 : Int} {r0 r1 r2 r3 : Tok} {ul rw : Addr} {ku kr : Nat} {M : Str → Option Value} {xs : List Int} {uvs : List Value} {gen : List (Addr × Obj)}
    (A1 : LawAt w p loose mean mg mb base L sl ns svs) (dD : oD.data = .cell (some (.ref ul))) (hxs : Six xs) (hU : LineR w b0 b1 b2 (b0 * b1) gen uvs (xs.map (leafR b0 b1 b2))) (hG : Gen L gen) (hul : (ul, listOf uvs.toArray ku) ∈ gen) (hrw : (rw, tup4 R0 r0 R1 r1 R2 r2 R3 r3 kr) ∈ gen)
    (F : Fr base L s.heap (fun y => if y = Str.ofString "row" then some (.ref rw) else M y)) (N : News base L s.heap (cells L #[] oB oW oK oD oH ++ gen))
    (next : ∀ (tl : Tok) (h : Heap) (tk : Nat), Fr base L h (fun y => if y = Str.ofString "lost" then some (.int (lostF b0 b1 b2 xs R0 R1 R2 R3) tl) else if y = Str.ofString "row" then some (.ref rw) else M y) → News base L h (cells L #[] oB oW oK oD oH ++ gen) →
      wpAny (model PySem.Challenge.rw_ph0128_01.row.prog w) (lawA L fa cd) (execs (lawBody.drop 15) (lawEnv L fa cd)) Q E { s with heap := h, toks := tk })
    : wpAny (model PySem.Challenge.rw_ph0128_01.row.prog w) (lawA L fa cd) (execs (lawBody.drop 14) (lawEnv L fa cd)) Q E s := by
  obtain ⟨sh, sg, sd, st, so⟩ := s
  try clear s
  dsimp only at F N next
  obtain ⟨X1, T1, K1, NS, C1, C2, C3, hS, hI, hlen, hbits, l0⟩ := A1
  try clear A1
  revert X1
  k_fill
  intro X1
  have hMk := kstMark
  k_with_none
  k_with "binaryOp Add int int" => (refine add_N ?_)
  k_with "binaryOp Sub int int" => (refine sub_N ?_)
  k_with "inplaceOp Add int int" => (refine iadd_N ?_)
  k_with "inplaceOp Sub int int" => (refine isub_N ?_)
  k_with "binaryOp BitOr int int" => (refine or_N ?_)
  k_with "unaryOp USub int" => (refine neg_N ?_)
  k_with "storeName" => (k_here; k_dflt (refine' storeX_N ?F ?N ?eg ?ed ?eo ?_ ?a ?b; (case F => k_asm); (case N => k_asm); (case a => rfl); (case b => rfl); (case eg => first | (dsimp only; done) | exact rfl); (case ed => first | (dsimp only; done) | exact rfl); (case eo => first | (dsimp only; done) | exact rfl); k_whole; intro _ _ _; (try k_sweep)))
  k_with "MineLt" => (first | with_reducible assumption | ((with_reducible rename _ ∧ _ => hC9); first | exact hC9.1 | exact hC9.2.1 | exact hC9.2.2.1 | exact hC9.2.2.2.1 | exact hC9.2.2.2.2.1 | exact hC9.2.2.2.2.2.1 | exact hC9.2.2.2.2.2.2.1 | exact hC9.2.2.2.2.2.2.2.1 | exact hC9.2.2.2.2.2.2.2.2.1 | exact hC9.2.2.2.2.2.2.2.2.2.1 | exact hC9.2.2.2.2.2.2.2.2.2.2.1 | exact hC9.2.2.2.2.2.2.2.2.2.2.2.1 | exact hC9.2.2.2.2.2.2.2.2.2.2.2.2.1 | exact hC9.2.2.2.2.2.2.2.2.2.2.2.2.2.1) | exact And.left (by with_reducible assumption) | exact Nat.lt_succ_self _)
  k_with "binaryOp LShift int int" => (refine' lshift_N ?hn ?hz ?_; (case hn => k_extra "nn"); (case hz => k_extra "shl"); (try k_extra "tidy"))
  k_with "inplaceOp LShift int int" => (refine' ilshift_N ?hn ?hz ?_; (case hn => k_extra "nn"); (case hz => k_extra "shl"); (try k_extra "tidy"))
  k_with "binaryOp RShift int int" => (refine' rshift_N ?hn ?_; (case hn => k_extra "nn"); (try k_extra "tidy"))
  k_with "inplaceOp RShift int int" => (refine' irshift_N ?hn ?_; (case hn => k_extra "nn"); (try k_extra "tidy"))
  k_with "binaryOp BitAnd int int" => (refine and_N ?_; (try k_extra "tidy"))
  k_with "binaryOp Mult int int" => (refine' mul_N ?_ ?hm; (case hm => k_extra "mul"); (try k_extra "tidy"))
  k_with "Kdm" => (refine' divmod_N ?F ?N ?hb ?_ ?hp; (case F => k_asm); (case N => k_asm); (case hb => k_extra "div0"); (case hp => k_extra "pylong"))
  k_with "call ref" => (k_extra "my call")
  k_with "ite" => (k_extra "decide")
  k_with "binaryOp FloorDiv int int" => (refine' floordiv_N ?hb ?_ ?hp; (case hb => k_extra "div0"); (case hp => k_extra "pylong"); (try k_extra "tidy"))
  k_with "binaryOp BitXor int int" => (refine xor_N ?_; (try k_extra "tidy"))
  k_with "subscriptTail Name Constant ref int" => (k_here; (with_reducible show wpAny _ _ (subscriptTail _ _ (Value.ref _) (Value.int _ _)) _ _ _); (with_unfolding_all refine' item_litK ?k1 ?k2 ?k3 ?k4 ?_ ?k6; (case k1 => is_list); (case k2 => decide); (case k3 => decide); (case k4 => rfl); (case k6 => with_unfolding_all rfl); k_whole))
  k_with "subscriptTail Name Name ref int" => (k_here; (with_reducible show wpAny _ _ (subscriptTail _ _ (Value.ref _) (Value.int _ _)) _ _ _); (with_unfolding_all refine' item_litK ?k1 ?k2 ?k3 ?k4 ?_ ?k6; (case k1 => is_list); (case k2 => decide); (case k3 => decide); (case k4 => rfl); (case k6 => with_unfolding_all rfl); k_whole))
  k_with "subscriptTail Name BinOp ref int" => (k_here; (with_reducible show wpAny _ _ (subscriptTail _ _ (Value.ref _) (Value.int _ _)) _ _ _); (with_unfolding_all refine' item_litK ?k1 ?k2 ?k3 ?k4 ?_ ?k6; (case k1 => is_list); (case k2 => decide); (case k3 => decide); (case k4 => rfl); (case k6 => with_unfolding_all rfl); k_whole))
  k_with "UnrEnd" => k_dflt (refine' unr_close ?uF ?uN ?uP ?uO ?_; (case uF => assumption); (case uN => assumption); (case uP => first | exact Pull.head | exact Pull.tail Pull.head | exact Pull.tail (Pull.tail Pull.head) | exact Pull.tail (Pull.tail (Pull.tail Pull.head)) | exact Pull.tail (Pull.tail (Pull.tail (Pull.tail Pull.head)))); (case uO => k_all); k_whole)
  k_with "pyIter ref" => k_dflt (k_extra "iter")
  k_with "storeName" => (k_here; k_dflt (refine' storeX_N ?F ?N ?eg ?ed ?eo ?_ ?ka ?kb; (case eg => first | (dsimp only; done) | exact rfl); (case ed => first | (dsimp only; done) | exact rfl); (case eo => first | (dsimp only; done) | exact rfl); (case kb => with_reducible (first | exact lk_script _ _ _ | exact lk_spare _ _ _ | exact lk_drawn _ _ _ | exact lk_numbers _ _ _ | exact lk_draws _ _ _ | exact lk_rows _ _ _ | exact lk_up _ _ _ | exact lk_table _ _ _ | exact lk_row _ _ _ | exact lk_lost _ _ _ | exact lk_added _ _ _)); (case ka => exact lk_fun); (case F => k_asm); (case N => k_asm); k_whole; intro _ _ _))
  k_with "eval Name" => (k_here; k_dflt (first | (refine' nameX_L ?F ?v ?_ ?ka ?kb; (case kb => with_reducible (first | exact lk_script _ _ _ | exact lk_spare _ _ _ | exact lk_drawn _ _ _ | exact lk_numbers _ _ _ | exact lk_draws _ _ _ | exact lk_rows _ _ _ | exact lk_up _ _ _ | exact lk_table _ _ _ | exact lk_row _ _ _ | exact lk_lost _ _ _ | exact lk_added _ _ _)); (case ka => exact lk_fun); (case F => k_asm); (case v => rfl); k_whole) | (refine' nameX_C ?N ?c ?m ?d ?_ ?ka ?kb; (case kb => with_reducible (first | exact lk_bases _ _ _ | exact lk_worths _ _ _ | exact lk_blocks _ _ _ | exact lk_due _ _ _ | exact lk_whole _ _ _)); (case ka => exact lk_fun); (case N => k_asm); (case c => with_reducible (first | exact lc_bases _ | exact lc_worths _ | exact lc_blocks _ | exact lc_due _ | exact lc_whole _)); (case m => k_mem); (case d => k_asm); k_whole) | (refine' nameX_K ?F ?X ?T ?e ?_ ?ka ?kb; (case kb => kernel_rfl); (case ka => exact lk_fun); (case F => k_asm); (case X => k_asm); (case T => k_asm); (case e => k_is); k_whole) | (refine' nameX_B ?F ?X ?T ?e ?v ?n ?_ ?ka ?kb; (case kb => kernel_rfl); (case ka => exact lk_fun); (case F => k_asm); (case X => k_asm); (case T => k_asm); (case e => k_is); (case v => boot_fast); (case n => decide); k_whole)))
  k_with "lkc" => with_reducible (first | exact lk_bases _ _ _ | exact lk_worths _ _ _ | exact lk_blocks _ _ _ | exact lk_due _ _ _ | exact lk_whole _ _ _)
  k_with "lcc" => with_reducible (first | exact lc_bases _ | exact lc_worths _ | exact lc_blocks _ | exact lc_due _ | exact lc_whole _)
  k_with "Ksc" => (refine' storeX_C ?F ?N ?c ?U ?d ?_ ?ka ?kb; (case kb => k_extra "lkc"); (case ka => exact lk_fun); (case F => k_asm); (case N => k_asm); (case c => k_extra "lcc"); (case U => k_updF); (case d => k_asm); k_whole)
  k_with "call type:zip" => (k_here; k_dflt (k_extra "zip"))
  k_with "call ref" => (k_extra "my call")
  k_with "callWith ref" => (k_here; k_dflt (refine' callWith_K ?k1 ?k2 ?_; (case k1 => k_asm); (case k2 => k_is); k_whole))
  k_with "exec Assign" => (k_extra "asg")
  k_with "exec Assign cons ListComp" => (k_extra "asg")
  k_with "eval ListComp" => (k_extra "comp")
  k_with "execs cons" => (k_extra "seq")
  k_with "CompSrc" => (k_extra "src")
  k_with "CompEnd" => (k_extra "cend")
  k_with "compareOp NotEq ref ref" => (k_here; k_dflt (k_extra "ne"))
  k_with "compareOp Eq ref ref" => (k_here; k_dflt (k_extra "eq"))
  k_with "subscriptTail Name Name ref int" => (k_here; (with_reducible show wpAny _ _ (subscriptTail _ _ (Value.ref _) (Value.int _ _)) _ _ _); k_dflt (k_extra "tail"))
  k_with "call builtin:sum" => (k_here; k_dflt (k_extra "sum"))
  k_with "subscriptTail Name Slice ref ref" => (k_here; k_dflt (k_extra "cut"))
  k_with "CompSrcT" => (k_extra "src")
  k_with "decide" => fail
  k_with "comp" => refine stop_intro ?_
  k_with "cut" => refine stop_intro ?_
  k_with "src" => refine stop_intro ?_
  k_with "cend" => refine stop_intro ?_
  k_with "seq" => ((with_reducible show wpAny _ _ (execs (Stmt.If _ _ _ _ :: _) _) _ _ _); refine stop_intro ?_)
  have N0 : News base L sh ((rw, tup4 R0 r0 R1 r1 R2 r2 R3 r3 kr) :: (ul, listOf uvs.toArray ku) :: (93, tabObj #[]) :: (L + 1, oB) :: (L + 1 + 1, oW) :: (L + 1 + 1 + 1, oK) :: (L + 1 + 1 + 1 + 1, oD) :: (L + 1 + 1 + 1 + 1 + 1, oH) :: gen) :=
    newsAdd N (List.mem_append_right _ hrw) (newsAdd N (List.mem_append_right _ hul) N)
  clear N
  k_with "sum" => ((with_reducible show wpAny _ _ (call _ [Value.ref rw]) _ _ _); refine stop_intro ?_)
  have Irw : IntsAre [.int R0 r0, .int R1 r1, .int R2 r2, .int R3 r3] [R0, R1, R2, R3] := .cons _ _ (.cons _ _ (.cons _ _ (.cons _ _ .nil)))
  k_steps
  (rename Fr _ _ _ _ => F1)
  (rename News _ _ _ _ => N1)
  unfold Stop
  refine ListComp_U (F₀ := F1) (cl := []) ?hclos ?hcell ?hkind ?hnames ?hx ?_ ?hs
  case hclos => with_unfolding_all rfl
  case hcell => decide
  case hkind => rfl
  case hnames => decide
  case hx => rfl
  case hs => (intro _; rfl)
  k_steps
  unfold Stop
  have hsz : uvs.toArray.size = 6 := by rw [List.size_toArray, hU.length, List.length_map]; exact hxs.len
  refine CompSrc.ledger rfl F1 N1 (.tail _ (.head _)) (by rw [hsz]; decide) fun g => ?_
  refine compRest_ind (fun i ys nw => nw = (rw, tup4 R0 r0 R1 r1 R2 r2 R3 r3 kr) :: (ul, listOf uvs.toArray ku) :: (93, tabObj #[]) :: (L + 1, oB) :: (L + 1 + 1, oW) :: (L + 1 + 1 + 1, oK) :: (L + 1 + 1 + 1 + 1, oD) :: (L + 1 + 1 + 1 + 1 + 1, oH) :: gen ∧
    IntsAre ys ((xs.map fun x => ([q2 b0 b1 x - b2 * q3 b0 b1 b2 x, x - b0 * q1 b0 x, q3 b0 b1 b2 x, q1 b0 x - b1 * q2 b0 b1 x] : List Int).sum).take i)) ?turn ?done uvs.toArray.size 0 [] _ (Nat.zero_add _) ⟨rfl, .nil⟩
  case turn =>
    intro i ys nw v I oI C oC D m2 h tk E' hi hv J ho hx F' N' off ne
    first | (refine' turn_N ?eg ?ed ?eo ?_; (case eg => first | (dsimp only; done) | exact rfl); (case ed => first | (dsimp only; done) | exact rfl); (case eo => first | (dsimp only; done) | exact rfl)) | refine post_let ?_
    intro qT
    refine Mine.exand0_2 J fun ob19 IY => ?_
    subst ob19
    try clear J
    rw [List.getElem?_toArray] at hv
    refine Mine.exand2_3 (hU.get hv) fun r e hr ob29 ob39 => ?_
    subst ob29
    refine Mine.exand0_2 ob39 fun ob49 _ => ?_
    refine Mine.exand6_2 ob49 fun t1 t2 t3 t4 dd kt he _ => ?_
    try clear ob49
    try clear ob39
    rw [List.getElem?_map] at hr
    refine Mine.exand1_2 (Option.map_eq_some_iff.mp hr) fun x hxi ob59 => ?_
    subst ob59
    have N4 := newsCons N' (show (e, _) ∈ _ by repeat (first | exact he | refine List.mem_cons_of_mem _ ?_))
    clear N'
    k_steps
    unfold Stop
    refine cut4_tail F' N4 (.head _) fun D5 h5 F5 N5 l5 => ?_
    clear l5
    k_steps
    unfold Stop
    exact CompEnd.intro (by k_asm) (by k_asm) _ (fun q hq => .tail _ (.tail _ hq)) off (.inr ⟨_, .tail _ (.head _), rfl, _, rfl⟩) ⟨rfl, ints_snoc IY (by rw [List.getElem?_map, hxi]; rfl)⟩
  case done =>
    intro ys nw J
    refine Mine.exand0_2 J fun ob69 IY => ?_
    subst ob69
    try clear J
    rw [hsz, List.take_of_length_le (by rw [List.length_map, hxs.len]; exact Nat.le_refl _)] at IY
    unfold FinE
    intro D h tk F' N' o1
    clear N1
    k_steps
    unfold Stop
    refine sum_tup rfl (by k_asm) (by k_asm) (by k_mem) Irw fun h6 tk6 t6 F6 N6 => ?_
    k_steps
    unfold Stop
    exact next _ _ _ (by k_asm) (newsSub (by k_asm) fun q hq => .tail _ (.tail _ (.tail _ hq)))
end
example {prog : Program} {w : World} {A : Around} {env : Env} {Q : Flow → Shared → Prop} {E : Value → Shared → Prop} {s : Shared} (h : Q .next s) : wpAny (model prog w) A (execs [] env) Q E s := by
  w_top off
  walk1
  exact h
section
theorem seg11 {w p loose mean mg mb} {base : Heap} {L sl fa : Addr} {cd : Value} {ns : List Int} {svs : List Value} {s : Shared} {oK oD oH oB oW : Obj} {Q : Flow → Shared → Prop} {E : Value → Shared → Prop} {b0 b1 b2 : Int} {t0 t1 t2 v0 v1 v2 v3 r0 r1 r2 r3 tlo : Tok} {bl wl rl dl rw tb upl : Addr} {kb kw kr kd krr : Nat} {M : Str → Option Value} {xs ds : List Int} {rvs dvs : List Value} {gen : List (Addr × Obj)} {ps : Array Value}
    (A1 : LawAt w p loose mean mg mb base L sl ns svs) (z0 : b0 ≠ 0) (z1 : b1 ≠ 0) (z2 : b2 ≠ 0) (q0 : intBits b0 ≤ 1048576) (q1' : intBits b1 ≤ 1048576) (q2' : intBits b2 ≤ 1048576) (dB : oB.data = .cell (some (.ref bl))) (dW : oW.data = .cell (some (.ref wl)))
    (hxs : Six xs) (Id : IntsAre dvs ds) (hds : ds.length = 5) (hR : LineR w b0 b1 b2 (b0 * b1) gen rvs (xs.map (leafR b0 b1 b2))) (hG : Gen L gen) (hot : HotN gen) (hT : GT ps) (hTab : TabAtL w gen tb (fourT xs.sum (upK b0 b1 b2 xs xs.sum 1) (upK b0 b1 b2 xs xs.sum 2) (upK b0 b1 b2 xs xs.sum 2 * (b0 * b1)) (upK b0 b1 b2 xs xs.sum 3)))
    (hrl : (rl, listOf rvs.toArray kr) ∈ gen) (hdl : (dl, listOf dvs.toArray kd) ∈ gen) (hwl : (wl, lst4 1 v0 b0 v1 (b0 * b1) v2 (b0 * b1 * b2) v3 kw) ∈ gen) (hbl : (bl, lst3 b0 t0 b1 t1 b2 t2 kb) ∈ gen)
    (hrw : (rw, tup4 (q2 b0 b1 xs.sum - b2 * q3 b0 b1 b2 xs.sum) r0 (xs.sum - b0 * q1 b0 xs.sum) r1 (q3 b0 b1 b2 xs.sum) r2 (q1 b0 xs.sum - b1 * q2 b0 b1 xs.sum) r3 krr) ∈ gen)
    (F : Fr base L s.heap (fun y => if y = Str.ofString "lost" then some (.int (lostF b0 b1 b2 xs (q2 b0 b1 xs.sum - b2 * q3 b0 b1 b2 xs.sum) (xs.sum - b0 * q1 b0 xs.sum) (q3 b0 b1 b2 xs.sum) (q1 b0 xs.sum - b1 * q2 b0 b1 xs.sum)) tlo) else if y = Str.ofString "row" then some (.ref rw) else if y = Str.ofString "table" then some (.ref tb) else if y = Str.ofString "up" then some (.ref upl) else if y = Str.ofString "rows" then some (.ref rl) else if y = Str.ofString "draws" then some (.ref dl) else M y))
    (N : News base L s.heap (cells L ps oB oW oK oD oH ++ gen)) (hb : AllBare s.gens)
    (next : ∀ (h : Heap) (tk : Nat) (gs : Array GenState) (ps' : Array Value), GT ps' → AllBare gs →
      Fr base L h (fun y => if y = Str.ofString "lost" then some (.int (lostF b0 b1 b2 xs (q2 b0 b1 xs.sum - b2 * q3 b0 b1 b2 xs.sum) (xs.sum - b0 * q1 b0 xs.sum) (q3 b0 b1 b2 xs.sum) (q1 b0 xs.sum - b1 * q2 b0 b1 xs.sum)) tlo) else if y = Str.ofString "row" then some (.ref rw) else if y = Str.ofString "table" then some (.ref tb) else if y = Str.ofString "up" then some (.ref upl) else if y = Str.ofString "rows" then some (.ref rl) else if y = Str.ofString "draws" then some (.ref dl) else M y) →
      News base L h (cells L ps' oB oW oK oD oH ++ gen) → wpAny (model PySem.Challenge.rw_ph0128_01.row.prog w) (lawA L fa cd) (execs (lawBody.drop 16) (lawEnv L fa cd)) Q E { s with heap := h, toks := tk, gens := gs })
    : wpAny (model PySem.Challenge.rw_ph0128_01.row.prog w) (lawA L fa cd) (execs (lawBody.drop 15) (lawEnv L fa cd)) Q E s := by
  obtain ⟨sh, sg, sd, st, so⟩ := s
  try clear s
  dsimp only at F N hb next
  obtain ⟨X1, T1, K1, NS, C1, C2, C3, hS, hI, hlen, hbits, l0⟩ := A1
  try clear A1
  revert X1
  k_fill
  intro X1
  have hMk := kstMark
  k_with_none
  k_with "binaryOp Add int int" => (refine add_N ?_)
  k_with "binaryOp Sub int int" => (refine sub_N ?_)
  k_with "inplaceOp Add int int" => (refine iadd_N ?_)
  k_with "inplaceOp Sub int int" => (refine isub_N ?_)
  k_with "binaryOp BitOr int int" => (refine or_N ?_)
  k_with "unaryOp USub int" => (refine neg_N ?_)
  k_with "storeName" => (k_here; k_dflt (refine' storeX_N ?F ?N ?eg ?ed ?eo ?_ ?a ?b; (case F => k_asm); (case N => k_asm); (case a => rfl); (case b => rfl); (case eg => first | (dsimp only; done) | exact rfl); (case ed => first | (dsimp only; done) | exact rfl); (case eo => first | (dsimp only; done) | exact rfl); k_whole; intro _ _ _; (try k_sweep)))
  k_with "MineLt" => (first | with_reducible assumption | ((with_reducible rename _ ∧ _ => hC9); first | exact hC9.1 | exact hC9.2.1 | exact hC9.2.2.1 | exact hC9.2.2.2.1 | exact hC9.2.2.2.2.1 | exact hC9.2.2.2.2.2.1 | exact hC9.2.2.2.2.2.2.1 | exact hC9.2.2.2.2.2.2.2.1 | exact hC9.2.2.2.2.2.2.2.2.1 | exact hC9.2.2.2.2.2.2.2.2.2.1 | exact hC9.2.2.2.2.2.2.2.2.2.2.1 | exact hC9.2.2.2.2.2.2.2.2.2.2.2.1 | exact hC9.2.2.2.2.2.2.2.2.2.2.2.2.1 | exact hC9.2.2.2.2.2.2.2.2.2.2.2.2.2.1) | exact And.left (by with_reducible assumption) | exact Nat.lt_succ_self _)
  k_with "binaryOp LShift int int" => (refine' lshift_N ?hn ?hz ?_; (case hn => k_extra "nn"); (case hz => k_extra "shl"); (try k_extra "tidy"))
  k_with "inplaceOp LShift int int" => (refine' ilshift_N ?hn ?hz ?_; (case hn => k_extra "nn"); (case hz => k_extra "shl"); (try k_extra "tidy"))
  k_with "binaryOp RShift int int" => (refine' rshift_N ?hn ?_; (case hn => k_extra "nn"); (try k_extra "tidy"))
  k_with "inplaceOp RShift int int" => (refine' irshift_N ?hn ?_; (case hn => k_extra "nn"); (try k_extra "tidy"))
  k_with "binaryOp BitAnd int int" => (refine and_N ?_; (try k_extra "tidy"))
  k_with "binaryOp Mult int int" => (refine' mul_N ?_ ?hm; (case hm => k_extra "mul"); (try k_extra "tidy"))
  k_with "Kdm" => (refine' divmod_N ?F ?N ?hb ?_ ?hp; (case F => k_asm); (case N => k_asm); (case hb => k_extra "div0"); (case hp => k_extra "pylong"))
  k_with "call ref" => (k_extra "my call")
  k_with "ite" => (k_extra "decide")
  k_with "binaryOp FloorDiv int int" => (refine' floordiv_N ?hb ?_ ?hp; (case hb => k_extra "div0"); (case hp => k_extra "pylong"); (try k_extra "tidy"))
  k_with "binaryOp BitXor int int" => (refine xor_N ?_; (try k_extra "tidy"))
  k_with "subscriptTail Name Constant ref int" => (k_here; (with_reducible show wpAny _ _ (subscriptTail _ _ (Value.ref _) (Value.int _ _)) _ _ _); (with_unfolding_all refine' item_litK ?k1 ?k2 ?k3 ?k4 ?_ ?k6; (case k1 => is_list); (case k2 => decide); (case k3 => decide); (case k4 => rfl); (case k6 => with_unfolding_all rfl); k_whole))
  k_with "subscriptTail Name Name ref int" => (k_here; (with_reducible show wpAny _ _ (subscriptTail _ _ (Value.ref _) (Value.int _ _)) _ _ _); (with_unfolding_all refine' item_litK ?k1 ?k2 ?k3 ?k4 ?_ ?k6; (case k1 => is_list); (case k2 => decide); (case k3 => decide); (case k4 => rfl); (case k6 => with_unfolding_all rfl); k_whole))
  k_with "subscriptTail Name BinOp ref int" => (k_here; (with_reducible show wpAny _ _ (subscriptTail _ _ (Value.ref _) (Value.int _ _)) _ _ _); (with_unfolding_all refine' item_litK ?k1 ?k2 ?k3 ?k4 ?_ ?k6; (case k1 => is_list); (case k2 => decide); (case k3 => decide); (case k4 => rfl); (case k6 => with_unfolding_all rfl); k_whole))
  k_with "UnrEnd" => k_dflt (refine' unr_close ?uF ?uN ?uP ?uO ?_; (case uF => assumption); (case uN => assumption); (case uP => first | exact Pull.head | exact Pull.tail Pull.head | exact Pull.tail (Pull.tail Pull.head) | exact Pull.tail (Pull.tail (Pull.tail Pull.head)) | exact Pull.tail (Pull.tail (Pull.tail (Pull.tail Pull.head)))); (case uO => k_all); k_whole)
  k_with "pyIter ref" => k_dflt (k_extra "iter")
  k_with "storeName" => (k_here; k_dflt (refine' storeX_N ?F ?N ?eg ?ed ?eo ?_ ?ka ?kb; (case eg => first | (dsimp only; done) | exact rfl); (case ed => first | (dsimp only; done) | exact rfl); (case eo => first | (dsimp only; done) | exact rfl); (case kb => with_reducible (first | exact lk_script _ _ _ | exact lk_spare _ _ _ | exact lk_drawn _ _ _ | exact lk_numbers _ _ _ | exact lk_draws _ _ _ | exact lk_rows _ _ _ | exact lk_up _ _ _ | exact lk_table _ _ _ | exact lk_row _ _ _ | exact lk_lost _ _ _ | exact lk_added _ _ _)); (case ka => exact lk_fun); (case F => k_asm); (case N => k_asm); k_whole; intro _ _ _))
  k_with "eval Name" => (k_here; k_dflt (first | (refine' nameX_L ?F ?v ?_ ?ka ?kb; (case kb => with_reducible (first | exact lk_script _ _ _ | exact lk_spare _ _ _ | exact lk_drawn _ _ _ | exact lk_numbers _ _ _ | exact lk_draws _ _ _ | exact lk_rows _ _ _ | exact lk_up _ _ _ | exact lk_table _ _ _ | exact lk_row _ _ _ | exact lk_lost _ _ _ | exact lk_added _ _ _)); (case ka => exact lk_fun); (case F => k_asm); (case v => rfl); k_whole) | (refine' nameX_C ?N ?c ?m ?d ?_ ?ka ?kb; (case kb => with_reducible (first | exact lk_bases _ _ _ | exact lk_worths _ _ _ | exact lk_blocks _ _ _ | exact lk_due _ _ _ | exact lk_whole _ _ _)); (case ka => exact lk_fun); (case N => k_asm); (case c => with_reducible (first | exact lc_bases _ | exact lc_worths _ | exact lc_blocks _ | exact lc_due _ | exact lc_whole _)); (case m => k_mem); (case d => k_asm); k_whole) | (refine' nameX_K ?F ?X ?T ?e ?_ ?ka ?kb; (case kb => kernel_rfl); (case ka => exact lk_fun); (case F => k_asm); (case X => k_asm); (case T => k_asm); (case e => k_is); k_whole) | (refine' nameX_B ?F ?X ?T ?e ?v ?n ?_ ?ka ?kb; (case kb => kernel_rfl); (case ka => exact lk_fun); (case F => k_asm); (case X => k_asm); (case T => k_asm); (case e => k_is); (case v => boot_fast); (case n => decide); k_whole)))
  k_with "lkc" => with_reducible (first | exact lk_bases _ _ _ | exact lk_worths _ _ _ | exact lk_blocks _ _ _ | exact lk_due _ _ _ | exact lk_whole _ _ _)
  k_with "lcc" => with_reducible (first | exact lc_bases _ | exact lc_worths _ | exact lc_blocks _ | exact lc_due _ | exact lc_whole _)
  k_with "Ksc" => (refine' storeX_C ?F ?N ?c ?U ?d ?_ ?ka ?kb; (case kb => k_extra "lkc"); (case ka => exact lk_fun); (case F => k_asm); (case N => k_asm); (case c => k_extra "lcc"); (case U => k_updF); (case d => k_asm); k_whole)
  k_with "call type:zip" => (k_here; k_dflt (k_extra "zip"))
  k_with "call ref" => (k_extra "my call")
  k_with "callWith ref" => (k_here; k_dflt (refine' callWith_K ?k1 ?k2 ?_; (case k1 => k_asm); (case k2 => k_is); k_whole))
  k_with "exec Assign" => (k_extra "asg")
  k_with "exec Assign cons ListComp" => (k_extra "asg")
  k_with "eval ListComp" => (k_extra "comp")
  k_with "execs cons" => (k_extra "seq")
  k_with "CompSrc" => (k_extra "src")
  k_with "CompEnd" => (k_extra "cend")
  k_with "compareOp NotEq ref ref" => (k_here; k_dflt (k_extra "ne"))
  k_with "compareOp Eq ref ref" => (k_here; k_dflt (k_extra "eq"))
  k_with "subscriptTail Name Name ref int" => (k_here; (with_reducible show wpAny _ _ (subscriptTail _ _ (Value.ref _) (Value.int _ _)) _ _ _); k_dflt (k_extra "tail"))
  k_with "call builtin:sum" => (k_here; k_dflt (k_extra "sum"))
  k_with "subscriptTail Name Slice ref ref" => (k_here; k_dflt (k_extra "cut"))
  k_with "CompSrcT" => (k_extra "src")
  k_with "decide" => fail
  k_with "seq" => ((with_reducible show wpAny _ _ (execs (Stmt.Assign [Expr.Name (Str.ofString "added") _] _ _ :: _) _) _ _ _); refine stop_intro ?_)
  k_with "my call" => refine stop_intro ?_
  have w2b : intBits (b0 * b1) ≤ 2097152 := bits_mul q0 q1'
  have l93 : ∀ q ∈ (cells L ps oB oW oK oD oH ++ gen).tail, q.1 ≠ 93 := cells_off93 l0.1 hG
  have N0 : News base L sh ((93, tabObj ps) :: (L + 1, oB) :: (L + 1 + 1, oW) :: (L + 1 + 1 + 1, oK) :: (L + 1 + 1 + 1 + 1, oD) :: (L + 1 + 1 + 1 + 1 + 1, oH) :: gen) := N
  have up : ∀ q ∈ gen, q ∈ (L + 1, oB) :: (L + 1 + 1, oW) :: (L + 1 + 1 + 1, oK) :: (L + 1 + 1 + 1 + 1, oD) :: (L + 1 + 1 + 1 + 1 + 1, oH) :: gen := fun q hq => by
    repeat (first | exact hq | refine List.mem_cons_of_mem _ ?_)
  clear N
  k_steps
  unfold Stop
  k_dflt (refine' GivesG.use (twos rl dl bl wl rvs dvs (xs.map (leafR b0 b1 b2)) ds b0 b1 b2 1 b0 (b0 * b1) (b0 * b1 * b2) t0 t1 t2 v0 v1 v2 v3 kr kd kb kw z0 z1 z2 q0 q1' q2' (bits_up w2b (by decide)) Id hds (by rw [List.length_map]; exact hxs.len) _ _ _ _ (leaf_tot b0 b1 b2 xs)) Pull.head K1 F X1 N0 hT l93 hb ⟨up _ hrl, hR.sub up, up _ hdl, up _ hbl, up _ hwl, hot.sub up⟩ T1 NS C1 C2 C3 ?hk ?hdp ?hu ?_)
  case hk => exact lk_fun
  case hdp => ktr_room
  case hu => ktr_units
  intro v6 new6 h6 tk6 gs6 ps6 ob19
  refine Mine.exand1_3 ob19 fun e6 ob29 l6 E6 => ?_
  subst ob29
  try clear ob19
  intro G6 B6 n6 F6 N6
  have ob39 : ∃ g6, g6 = new6 ++ gen := ⟨_, rfl⟩
  refine Mine.exand1_1 ob39 fun g6 hg6 => ?_
  try clear ob39
  have N7 : News base L h6 ((rw, tup4 (q2 b0 b1 xs.sum - b2 * q3 b0 b1 b2 xs.sum) r0 (xs.sum - b0 * q1 b0 xs.sum) r1 (q3 b0 b1 b2 xs.sum) r2 (q1 b0 xs.sum - b1 * q2 b0 b1 xs.sum) r3 krr) :: (93, tabObj ps6) :: (L + 1, oB) :: (L + 1 + 1, oW) :: (L + 1 + 1 + 1, oK) :: (L + 1 + 1 + 1 + 1, oD) :: (L + 1 + 1 + 1 + 1 + 1, oH) :: g6) :=
    newsAdd N6 (.tail _ (List.mem_append_right _ (up _ hrw))) (newsSub N6 fun q hq => by
      simp only [hg6, List.mem_cons, List.mem_append] at hq ⊢
      grind)
  clear N6 N0
  k_steps
  unfold Stop
  (rename Fr _ _ _ _ => F8)
  (rename News _ _ _ _ => N8)
  rename_i t1p h1p l1p D8 h8 l8
  have ob49 : ∃ c9, c9 = (L + 1, oB) :: (L + 1 + 1, oW) :: (L + 1 + 1 + 1, oK) :: (L + 1 + 1 + 1 + 1, oD) :: (L + 1 + 1 + 1 + 1 + 1, oH) :: g6 := ⟨_, rfl⟩
  refine Mine.exand1_1 ob49 fun c9 hc9 => ?_
  try clear ob49
  have m6 : ∀ q ∈ new6 ++ ((L + 1, oB) :: (L + 1 + 1, oW) :: (L + 1 + 1 + 1, oK) :: (L + 1 + 1 + 1 + 1, oD) :: (L + 1 + 1 + 1 + 1 + 1, oH) :: gen), q ∈ (D8, tup5 (q2 b0 b1 xs.sum - b2 * q3 b0 b1 b2 xs.sum) r0 (xs.sum - b0 * q1 b0 xs.sum) r1 (q3 b0 b1 b2 xs.sum) r2 (q1 b0 xs.sum - b1 * q2 b0 b1 xs.sum) r3 tb 0) :: c9 := fun q hq => by
    simp only [hc9, hg6, List.mem_append, List.mem_cons] at hq ⊢
    grind
  have N9 : News base L _ ((93, tabObj ps6) :: (D8, tup5 (q2 b0 b1 xs.sum - b2 * q3 b0 b1 b2 xs.sum) r0 (xs.sum - b0 * q1 b0 xs.sum) r1 (q3 b0 b1 b2 xs.sum) r2 (q1 b0 xs.sum - b1 * q2 b0 b1 xs.sum) r3 tb 0) :: c9) :=
    newsAdd N8 (.tail _ (.tail _ (.tail _ (.head _)))) (newsAdd N8 (.head _) (fun q hq => N8 q (.tail _ (.tail _ (.tail _ (.tail _ (hc9 ▸ hq)))))))
  have l9 : ∀ q ∈ (D8, tup5 (q2 b0 b1 xs.sum - b2 * q3 b0 b1 b2 xs.sum) r0 (xs.sum - b0 * q1 b0 xs.sum) r1 (q3 b0 b1 b2 xs.sum) r2 (q1 b0 xs.sum - b1 * q2 b0 b1 xs.sum) r3 tb 0) :: c9, q.1 ≠ 93 := fun q hq => by
    rcases List.mem_cons.mp hq with rfl | hq
    · exact Nat.ne_of_gt l8.2.2.1
    · rw [hc9, hg6] at hq
      simp only [List.mem_cons, List.mem_append] at hq
      rcases hq with h | h | h | h | h | h | h
      · exact l93 q (.head _ |> fun x => h ▸ x)
      · exact l93 q (by rw [h]; simp [cells])
      · exact l93 q (by rw [h]; simp [cells])
      · exact l93 q (by rw [h]; simp [cells])
      · exact l93 q (by rw [h]; simp [cells])
      · exact n6 q h
      · exact l93 q (up q h)
  refine Mine.exand0_3 (upK_bits (b0 := b0) (b1 := b1) (b2 := b2) z0 z1 z2 hxs hxs.sum_bits) fun u1 u2 u3 => ?_
  k_dflt (refine' GivesG.use (summed e6 D8 bl _ _ _ _ xs.sum (upK b0 b1 b2 xs xs.sum 1) (upK b0 b1 b2 xs xs.sum 2) (upK b0 b1 b2 xs xs.sum 2 * (b0 * b1)) (upK b0 b1 b2 xs xs.sum 3) _ b0 b1 b2 t0 t1 t2 _ kb (lost_law b0 b1 b2 xs) q0 q1' q2' (bits_up u1 (by decide)) (bits_up u2 (by decide)) (bits_up u3 (by decide))) Pull.head K1 F8 X1 N9 G6 l9 B6 ⟨E6.1.sub m6, ⟨r0, r1, r2, r3, tb, 0, .head _, hTab.sub fun q hq => m6 q (List.mem_append_right _ (up q hq))⟩, m6 _ (List.mem_append_right _ (up _ hbl))⟩ T1 NS C1 C2 C3 ?hk ?hdp ?hu ?_)
  case hk => exact lk_fun
  case hdp => ktr_room
  case hu => ktr_units
  intro v7 new7 h7 tk7 gs7 ps7 ob59
  refine Mine.exand0_2 ob59 fun ob69 ob79 => ?_
  subst ob69
  subst ob79
  try clear ob59
  intro G7 B7 n7 F7 N10
  clear N9 N8
  k_steps
  unfold Stop
  refine next _ _ _ ps7 G7 B7 F7 (newsSub N10 fun q hq => ?_)
  rcases List.mem_cons.mp hq with rfl | hq
  · exact .head _
  · refine .tail _ (.tail _ ?_)
    change q ∈ (L + 1, oB) :: (L + 1 + 1, oW) :: (L + 1 + 1 + 1, oK) :: (L + 1 + 1 + 1 + 1, oD) :: (L + 1 + 1 + 1 + 1 + 1, oH) :: gen at hq
    rw [hc9]
    rcases List.mem_cons.mp hq with rfl | hq
    · exact .head _
    rcases List.mem_cons.mp hq with rfl | hq
    · exact .tail _ (.head _)
    rcases List.mem_cons.mp hq with rfl | hq
    · exact .tail _ (.tail _ (.head _))
    rcases List.mem_cons.mp hq with rfl | hq
    · exact .tail _ (.tail _ (.tail _ (.head _)))
    rcases List.mem_cons.mp hq with rfl | hq
    · exact .tail _ (.tail _ (.tail _ (.tail _ (.head _))))
    · exact .tail _ (.tail _ (.tail _ (.tail _ (.tail _ (by rw [hg6]; exact List.mem_append_right _ hq)))))
end
example {prog : Program} {w : World} {A : Around} {env : Env} {Q : Flow → Shared → Prop} {E : Value → Shared → Prop} {s : Shared} (h : Q .next s) : wpAny (model prog w) A (execs [] env) Q E s := by
  w_top off
  walk1
  exact h
section
theorem seg12 {w p loose mean mg mb} {base : Heap} {L sl fa : Addr} {cd : Value} {ns : List Int} {svs : List Value} {s : Shared} {oK oD oH oB oW : Obj} {Q : Flow → Shared → Prop} {E : Value → Shared → Prop} {b0 b1 b2 lo : Int} {tlo : Tok} {rl rw tb upl : Addr} {kr : Nat} {M : Str → Option Value} {xs : List Int} {rvs : List Value} {gen : List (Addr × Obj)} {ps : Array Value}
    (A1 : LawAt w p loose mean mg mb base L sl ns svs) (hxs : Six xs) (hR : LineR w b0 b1 b2 (b0 * b1) gen rvs (xs.map (leafR b0 b1 b2))) (hG : Gen L gen) (hT : GT ps) (hrl : (rl, listOf rvs.toArray kr) ∈ gen)
    (F : Fr base L s.heap (fun y => if y = Str.ofString "lost" then some (.int lo tlo) else if y = Str.ofString "row" then some (.ref rw) else if y = Str.ofString "table" then some (.ref tb) else if y = Str.ofString "up" then some (.ref upl) else if y = Str.ofString "rows" then some (.ref rl) else M y))
    (N : News base L s.heap (cells L ps oB oW oK oD oH ++ gen)) (hb : AllBare s.gens)
    (next : ∀ (e : Addr) (h : Heap) (tk : Nat) (gs : Array GenState) (ps' : Array Value) (gen' : List (Addr × Obj)), GT ps' → AllBare gs → Gen L gen' → (∀ q ∈ gen, q ∈ gen') →
      EntL w (cells5 L oB oW oK oD oH ++ gen') e (sumOf (fun r => q2 b0 b1 r.S - b2 * q3 b0 b1 b2 r.S) (xs.map (leafR b0 b1 b2))) (sumOf (fun r => r.S - b0 * q1 b0 r.S) (xs.map (leafR b0 b1 b2))) (sumOf (fun r => q3 b0 b1 b2 r.S) (xs.map (leafR b0 b1 b2))) (sumOf (fun r => q1 b0 r.S - b1 * q2 b0 b1 r.S) (xs.map (leafR b0 b1 b2))) [(Str.ofString "a", .int (sumOf Rc.S (xs.map (leafR b0 b1 b2))))] →
      Fr base L h (fun y => if y = Str.ofString "added" then some (.ref e) else if y = Str.ofString "lost" then some (.int lo tlo) else if y = Str.ofString "row" then some (.ref rw) else if y = Str.ofString "table" then some (.ref tb) else if y = Str.ofString "up" then some (.ref upl) else if y = Str.ofString "rows" then some (.ref rl) else M y) →
      News base L h (cells L ps' oB oW oK oD oH ++ gen') → wpAny (model PySem.Challenge.rw_ph0128_01.row.prog w) (lawA L fa cd) (execs (lawBody.drop 17) (lawEnv L fa cd)) Q E { s with heap := h, toks := tk, gens := gs })
    : wpAny (model PySem.Challenge.rw_ph0128_01.row.prog w) (lawA L fa cd) (execs (lawBody.drop 16) (lawEnv L fa cd)) Q E s := by
  obtain ⟨sh, sg, sd, st, so⟩ := s
  try clear s
  dsimp only at F N hb next
  obtain ⟨X1, T1, K1, NS, C1, C2, C3, hS, hI, hlen, hbits, l0⟩ := A1
  try clear A1
  revert X1
  k_fill
  intro X1
  have hMk := kstMark
  k_with_none
  k_with "binaryOp Add int int" => (refine add_N ?_)
  k_with "binaryOp Sub int int" => (refine sub_N ?_)
  k_with "inplaceOp Add int int" => (refine iadd_N ?_)
  k_with "inplaceOp Sub int int" => (refine isub_N ?_)
  k_with "binaryOp BitOr int int" => (refine or_N ?_)
  k_with "unaryOp USub int" => (refine neg_N ?_)
  k_with "storeName" => (k_here; k_dflt (refine' storeX_N ?F ?N ?eg ?ed ?eo ?_ ?a ?b; (case F => k_asm); (case N => k_asm); (case a => rfl); (case b => rfl); (case eg => first | (dsimp only; done) | exact rfl); (case ed => first | (dsimp only; done) | exact rfl); (case eo => first | (dsimp only; done) | exact rfl); k_whole; intro _ _ _; (try k_sweep)))
  k_with "MineLt" => (first | with_reducible assumption | ((with_reducible rename _ ∧ _ => hC9); first | exact hC9.1 | exact hC9.2.1 | exact hC9.2.2.1 | exact hC9.2.2.2.1 | exact hC9.2.2.2.2.1 | exact hC9.2.2.2.2.2.1 | exact hC9.2.2.2.2.2.2.1 | exact hC9.2.2.2.2.2.2.2.1 | exact hC9.2.2.2.2.2.2.2.2.1 | exact hC9.2.2.2.2.2.2.2.2.2.1 | exact hC9.2.2.2.2.2.2.2.2.2.2.1 | exact hC9.2.2.2.2.2.2.2.2.2.2.2.1 | exact hC9.2.2.2.2.2.2.2.2.2.2.2.2.1 | exact hC9.2.2.2.2.2.2.2.2.2.2.2.2.2.1) | exact And.left (by with_reducible assumption) | exact Nat.lt_succ_self _)
  k_with "binaryOp LShift int int" => (refine' lshift_N ?hn ?hz ?_; (case hn => k_extra "nn"); (case hz => k_extra "shl"); (try k_extra "tidy"))
  k_with "inplaceOp LShift int int" => (refine' ilshift_N ?hn ?hz ?_; (case hn => k_extra "nn"); (case hz => k_extra "shl"); (try k_extra "tidy"))
  k_with "binaryOp RShift int int" => (refine' rshift_N ?hn ?_; (case hn => k_extra "nn"); (try k_extra "tidy"))
  k_with "inplaceOp RShift int int" => (refine' irshift_N ?hn ?_; (case hn => k_extra "nn"); (try k_extra "tidy"))
  k_with "binaryOp BitAnd int int" => (refine and_N ?_; (try k_extra "tidy"))
  k_with "binaryOp Mult int int" => (refine' mul_N ?_ ?hm; (case hm => k_extra "mul"); (try k_extra "tidy"))
  k_with "Kdm" => (refine' divmod_N ?F ?N ?hb ?_ ?hp; (case F => k_asm); (case N => k_asm); (case hb => k_extra "div0"); (case hp => k_extra "pylong"))
  k_with "call ref" => (k_extra "my call")
  k_with "ite" => (k_extra "decide")
  k_with "binaryOp FloorDiv int int" => (refine' floordiv_N ?hb ?_ ?hp; (case hb => k_extra "div0"); (case hp => k_extra "pylong"); (try k_extra "tidy"))
  k_with "binaryOp BitXor int int" => (refine xor_N ?_; (try k_extra "tidy"))
  k_with "subscriptTail Name Constant ref int" => (k_here; (with_reducible show wpAny _ _ (subscriptTail _ _ (Value.ref _) (Value.int _ _)) _ _ _); (with_unfolding_all refine' item_litK ?k1 ?k2 ?k3 ?k4 ?_ ?k6; (case k1 => is_list); (case k2 => decide); (case k3 => decide); (case k4 => rfl); (case k6 => with_unfolding_all rfl); k_whole))
  k_with "subscriptTail Name Name ref int" => (k_here; (with_reducible show wpAny _ _ (subscriptTail _ _ (Value.ref _) (Value.int _ _)) _ _ _); (with_unfolding_all refine' item_litK ?k1 ?k2 ?k3 ?k4 ?_ ?k6; (case k1 => is_list); (case k2 => decide); (case k3 => decide); (case k4 => rfl); (case k6 => with_unfolding_all rfl); k_whole))
  k_with "subscriptTail Name BinOp ref int" => (k_here; (with_reducible show wpAny _ _ (subscriptTail _ _ (Value.ref _) (Value.int _ _)) _ _ _); (with_unfolding_all refine' item_litK ?k1 ?k2 ?k3 ?k4 ?_ ?k6; (case k1 => is_list); (case k2 => decide); (case k3 => decide); (case k4 => rfl); (case k6 => with_unfolding_all rfl); k_whole))
  k_with "UnrEnd" => k_dflt (refine' unr_close ?uF ?uN ?uP ?uO ?_; (case uF => assumption); (case uN => assumption); (case uP => first | exact Pull.head | exact Pull.tail Pull.head | exact Pull.tail (Pull.tail Pull.head) | exact Pull.tail (Pull.tail (Pull.tail Pull.head)) | exact Pull.tail (Pull.tail (Pull.tail (Pull.tail Pull.head)))); (case uO => k_all); k_whole)
  k_with "pyIter ref" => k_dflt (k_extra "iter")
  k_with "storeName" => (k_here; k_dflt (refine' storeX_N ?F ?N ?eg ?ed ?eo ?_ ?ka ?kb; (case eg => first | (dsimp only; done) | exact rfl); (case ed => first | (dsimp only; done) | exact rfl); (case eo => first | (dsimp only; done) | exact rfl); (case kb => with_reducible (first | exact lk_script _ _ _ | exact lk_spare _ _ _ | exact lk_drawn _ _ _ | exact lk_numbers _ _ _ | exact lk_draws _ _ _ | exact lk_rows _ _ _ | exact lk_up _ _ _ | exact lk_table _ _ _ | exact lk_row _ _ _ | exact lk_lost _ _ _ | exact lk_added _ _ _)); (case ka => exact lk_fun); (case F => k_asm); (case N => k_asm); k_whole; intro _ _ _))
  k_with "eval Name" => (k_here; k_dflt (first | (refine' nameX_L ?F ?v ?_ ?ka ?kb; (case kb => with_reducible (first | exact lk_script _ _ _ | exact lk_spare _ _ _ | exact lk_drawn _ _ _ | exact lk_numbers _ _ _ | exact lk_draws _ _ _ | exact lk_rows _ _ _ | exact lk_up _ _ _ | exact lk_table _ _ _ | exact lk_row _ _ _ | exact lk_lost _ _ _ | exact lk_added _ _ _)); (case ka => exact lk_fun); (case F => k_asm); (case v => rfl); k_whole) | (refine' nameX_C ?N ?c ?m ?d ?_ ?ka ?kb; (case kb => with_reducible (first | exact lk_bases _ _ _ | exact lk_worths _ _ _ | exact lk_blocks _ _ _ | exact lk_due _ _ _ | exact lk_whole _ _ _)); (case ka => exact lk_fun); (case N => k_asm); (case c => with_reducible (first | exact lc_bases _ | exact lc_worths _ | exact lc_blocks _ | exact lc_due _ | exact lc_whole _)); (case m => k_mem); (case d => k_asm); k_whole) | (refine' nameX_K ?F ?X ?T ?e ?_ ?ka ?kb; (case kb => kernel_rfl); (case ka => exact lk_fun); (case F => k_asm); (case X => k_asm); (case T => k_asm); (case e => k_is); k_whole) | (refine' nameX_B ?F ?X ?T ?e ?v ?n ?_ ?ka ?kb; (case kb => kernel_rfl); (case ka => exact lk_fun); (case F => k_asm); (case X => k_asm); (case T => k_asm); (case e => k_is); (case v => boot_fast); (case n => decide); k_whole)))
  k_with "lkc" => with_reducible (first | exact lk_bases _ _ _ | exact lk_worths _ _ _ | exact lk_blocks _ _ _ | exact lk_due _ _ _ | exact lk_whole _ _ _)
  k_with "lcc" => with_reducible (first | exact lc_bases _ | exact lc_worths _ | exact lc_blocks _ | exact lc_due _ | exact lc_whole _)
  k_with "Ksc" => (refine' storeX_C ?F ?N ?c ?U ?d ?_ ?ka ?kb; (case kb => k_extra "lkc"); (case ka => exact lk_fun); (case F => k_asm); (case N => k_asm); (case c => k_extra "lcc"); (case U => k_updF); (case d => k_asm); k_whole)
  k_with "call type:zip" => (k_here; k_dflt (k_extra "zip"))
  k_with "call ref" => (k_extra "my call")
  k_with "callWith ref" => (k_here; k_dflt (refine' callWith_K ?k1 ?k2 ?_; (case k1 => k_asm); (case k2 => k_is); k_whole))
  k_with "exec Assign" => (k_extra "asg")
  k_with "exec Assign cons ListComp" => (k_extra "asg")
  k_with "eval ListComp" => (k_extra "comp")
  k_with "execs cons" => (k_extra "seq")
  k_with "CompSrc" => (k_extra "src")
  k_with "CompEnd" => (k_extra "cend")
  k_with "compareOp NotEq ref ref" => (k_here; k_dflt (k_extra "ne"))
  k_with "compareOp Eq ref ref" => (k_here; k_dflt (k_extra "eq"))
  k_with "subscriptTail Name Name ref int" => (k_here; (with_reducible show wpAny _ _ (subscriptTail _ _ (Value.ref _) (Value.int _ _)) _ _ _); k_dflt (k_extra "tail"))
  k_with "call builtin:sum" => (k_here; k_dflt (k_extra "sum"))
  k_with "subscriptTail Name Slice ref ref" => (k_here; k_dflt (k_extra "cut"))
  k_with "CompSrcT" => (k_extra "src")
  k_with "decide" => fail
  k_with "seq" => ((with_reducible show wpAny _ _ (execs (Stmt.If _ _ _ _ :: _) _) _ _ _); refine stop_intro ?_)
  k_with "my call" => refine stop_intro ?_
  have ob19 : ∃ c5, c5 = cells5 L oB oW oK oD oH ++ gen := ⟨_, rfl⟩
  refine Mine.exand1_1 ob19 fun c5 hc5 => ?_
  try clear ob19
  have N0 : News base L sh ((93, tabObj ps) :: c5) := hc5 ▸ N
  have up : ∀ q ∈ gen, q ∈ c5 := fun q hq => hc5 ▸ List.mem_append_right _ hq
  clear N
  k_steps
  unfold Stop
  k_dflt (refine' GivesG.use (added rl rvs (xs.map (leafR b0 b1 b2)) b0 b1 b2 (b0 * b1) kr (by rw [List.length_map]; exact hxs.len) (fun r hr => by obtain ⟨x, _, rfl⟩ := List.mem_map.mp hr; rfl)) Pull.head K1 F X1 N0 hT (hc5 ▸ cells5_off l0.1 hG) hb ⟨up _ hrl, hR.sub up⟩ T1 NS C1 C2 C3 ?hk ?hdp ?hu ?_)
  case hk => exact lk_fun
  case hdp => ktr_room
  case hu => ktr_units
  intro v6 new6 h6 tk6 gs6 ps6 ob29
  refine Mine.exand1_3 ob29 fun e6 ob39 l6 E6 => ?_
  subst ob39
  try clear ob29
  intro G6 B6 n6 F6 N6
  have hsub : ∀ q ∈ new6 ++ c5, q ∈ cells5 L oB oW oK oD oH ++ (new6 ++ gen) := fun q hq => by
    rw [hc5] at hq
    simp only [List.mem_append] at hq ⊢
    grind
  have hsub2 : ∀ q ∈ cells5 L oB oW oK oD oH ++ (new6 ++ gen), q ∈ new6 ++ c5 := fun q hq => by
    rw [hc5]
    simp only [List.mem_append] at hq ⊢
    grind
  have N7 : News base L h6 ((93, tabObj ps6) :: (cells5 L oB oW oK oD oH ++ (new6 ++ gen))) := newsSub N6 fun q hq => by
    rcases List.mem_cons.mp hq with rfl | hq
    · exact .head _
    · exact .tail _ (hsub2 q hq)
  clear N6 N0
  k_steps
  unfold Stop
  exact next e6 _ _ _ ps6 (new6 ++ gen) G6 B6 (hG.app l0.1 (hc5 ▸ l6)) (fun q hq => List.mem_append_right _ hq) (E6.sub hsub) (by k_asm) (by k_asm)
end
example {prog : Program} {w : World} {A : Around} {env : Env} {Q : Flow → Shared → Prop} {E : Value → Shared → Prop} {s : Shared} (h : Q .next s) : wpAny (model prog w) A (execs [] env) Q E s := by
  w_top off
  walk1
  exact h
section
open PyProof.Rows.LCg
theorem seg13 {w p loose mean mg mb} {base : Heap} {L sl fa : Addr} {cd : Value} {ns : List Int} {svs : List Value} {s : Shared} {oK oD oH oB oW : Obj} {Q : Flow → Shared → Prop} {E : Value → Shared → Prop} {b0 b1 b2 S1 S2 S3 : Int} {u0 u1 u2 u3 : Tok} {ul hl e : Addr} {ku kh : Nat} {M : Str → Option Value} {xs : List Int} {uvs : List Value} {gen : List (Addr × Obj)} {ps : Array Value}
    (A1 : LawAt w p loose mean mg mb base L sl ns svs) (hxs : Six xs) (dD : oD.data = .cell (some (.ref ul))) (dH : oH.data = .cell (some (.ref hl))) (hU : LineR w b0 b1 b2 (b0 * b1) gen uvs (xs.map (leafR b0 b1 b2))) (hG : Gen L gen) (hul : (ul, listOf uvs.toArray ku) ∈ gen) (hhl : (hl, lst4 xs.sum u0 S1 u1 S2 u2 S3 u3 kh) ∈ gen)
    (hE : EntL w (cells5 L oB oW oK oD oH ++ gen) e (sumOf (fun r => q2 b0 b1 r.S - b2 * q3 b0 b1 b2 r.S) (xs.map (leafR b0 b1 b2))) (sumOf (fun r => r.S - b0 * q1 b0 r.S) (xs.map (leafR b0 b1 b2))) (sumOf (fun r => q3 b0 b1 b2 r.S) (xs.map (leafR b0 b1 b2))) (sumOf (fun r => q1 b0 r.S - b1 * q2 b0 b1 r.S) (xs.map (leafR b0 b1 b2))) [(Str.ofString "a", .int (sumOf Rc.S (xs.map (leafR b0 b1 b2))))])
    (F : Fr base L s.heap (fun y => if y = Str.ofString "added" then some (.ref e) else M y))
    (N : News base L s.heap (cells L ps oB oW oK oD oH ++ gen))
    (next : ∀ (h : Heap) (tk : Nat), Fr base L h (fun y => if y = Str.ofString "added" then some (.ref e) else M y) →
      News base L h (cells L ps oB oW oK oD oH ++ gen) → wpAny (model PySem.Challenge.rw_ph0128_01.row.prog w) (lawA L fa cd) (execs (lawBody.drop 18) (lawEnv L fa cd)) Q E { s with heap := h, toks := tk })
    : wpAny (model PySem.Challenge.rw_ph0128_01.row.prog w) (lawA L fa cd) (execs (lawBody.drop 17) (lawEnv L fa cd)) Q E s := by
  obtain ⟨sh, sg, sd, st, so⟩ := s
  try clear s
  dsimp only at F N next
  obtain ⟨X1, T1, K1, NS, C1, C2, C3, hS, hI, hlen, hbits, l0⟩ := A1
  try clear A1
  revert X1
  k_fill
  intro X1
  have hMk := kstMark
  k_with_none
  k_with "binaryOp Add int int" => (refine add_N ?_)
  k_with "binaryOp Sub int int" => (refine sub_N ?_)
  k_with "inplaceOp Add int int" => (refine iadd_N ?_)
  k_with "inplaceOp Sub int int" => (refine isub_N ?_)
  k_with "binaryOp BitOr int int" => (refine or_N ?_)
  k_with "unaryOp USub int" => (refine neg_N ?_)
  k_with "storeName" => (k_here; k_dflt (refine' storeX_N ?F ?N ?eg ?ed ?eo ?_ ?a ?b; (case F => k_asm); (case N => k_asm); (case a => rfl); (case b => rfl); (case eg => first | (dsimp only; done) | exact rfl); (case ed => first | (dsimp only; done) | exact rfl); (case eo => first | (dsimp only; done) | exact rfl); k_whole; intro _ _ _; (try k_sweep)))
  k_with "MineLt" => (first | with_reducible assumption | ((with_reducible rename _ ∧ _ => hC9); first | exact hC9.1 | exact hC9.2.1 | exact hC9.2.2.1 | exact hC9.2.2.2.1 | exact hC9.2.2.2.2.1 | exact hC9.2.2.2.2.2.1 | exact hC9.2.2.2.2.2.2.1 | exact hC9.2.2.2.2.2.2.2.1 | exact hC9.2.2.2.2.2.2.2.2.1 | exact hC9.2.2.2.2.2.2.2.2.2.1 | exact hC9.2.2.2.2.2.2.2.2.2.2.1 | exact hC9.2.2.2.2.2.2.2.2.2.2.2.1 | exact hC9.2.2.2.2.2.2.2.2.2.2.2.2.1 | exact hC9.2.2.2.2.2.2.2.2.2.2.2.2.2.1) | exact And.left (by with_reducible assumption) | exact Nat.lt_succ_self _)
  k_with "binaryOp LShift int int" => (refine' lshift_N ?hn ?hz ?_; (case hn => k_extra "nn"); (case hz => k_extra "shl"); (try k_extra "tidy"))
  k_with "inplaceOp LShift int int" => (refine' ilshift_N ?hn ?hz ?_; (case hn => k_extra "nn"); (case hz => k_extra "shl"); (try k_extra "tidy"))
  k_with "binaryOp RShift int int" => (refine' rshift_N ?hn ?_; (case hn => k_extra "nn"); (try k_extra "tidy"))
  k_with "inplaceOp RShift int int" => (refine' irshift_N ?hn ?_; (case hn => k_extra "nn"); (try k_extra "tidy"))
  k_with "binaryOp BitAnd int int" => (refine and_N ?_; (try k_extra "tidy"))
  k_with "binaryOp Mult int int" => (refine' mul_N ?_ ?hm; (case hm => k_extra "mul"); (try k_extra "tidy"))
  k_with "Kdm" => (refine' divmod_N ?F ?N ?hb ?_ ?hp; (case F => k_asm); (case N => k_asm); (case hb => k_extra "div0"); (case hp => k_extra "pylong"))
  k_with "call ref" => (k_extra "my call")
  k_with "ite" => (k_extra "decide")
  k_with "binaryOp FloorDiv int int" => (refine' floordiv_N ?hb ?_ ?hp; (case hb => k_extra "div0"); (case hp => k_extra "pylong"); (try k_extra "tidy"))
  k_with "binaryOp BitXor int int" => (refine xor_N ?_; (try k_extra "tidy"))
  k_with "subscriptTail Name Constant ref int" => (k_here; (with_reducible show wpAny _ _ (subscriptTail _ _ (Value.ref _) (Value.int _ _)) _ _ _); (with_unfolding_all refine' item_litK ?k1 ?k2 ?k3 ?k4 ?_ ?k6; (case k1 => is_list); (case k2 => decide); (case k3 => decide); (case k4 => rfl); (case k6 => with_unfolding_all rfl); k_whole))
  k_with "subscriptTail Name Name ref int" => (k_here; (with_reducible show wpAny _ _ (subscriptTail _ _ (Value.ref _) (Value.int _ _)) _ _ _); (with_unfolding_all refine' item_litK ?k1 ?k2 ?k3 ?k4 ?_ ?k6; (case k1 => is_list); (case k2 => decide); (case k3 => decide); (case k4 => rfl); (case k6 => with_unfolding_all rfl); k_whole))
  k_with "subscriptTail Name BinOp ref int" => (k_here; (with_reducible show wpAny _ _ (subscriptTail _ _ (Value.ref _) (Value.int _ _)) _ _ _); (with_unfolding_all refine' item_litK ?k1 ?k2 ?k3 ?k4 ?_ ?k6; (case k1 => is_list); (case k2 => decide); (case k3 => decide); (case k4 => rfl); (case k6 => with_unfolding_all rfl); k_whole))
  k_with "UnrEnd" => k_dflt (refine' unr_close ?uF ?uN ?uP ?uO ?_; (case uF => assumption); (case uN => assumption); (case uP => first | exact Pull.head | exact Pull.tail Pull.head | exact Pull.tail (Pull.tail Pull.head) | exact Pull.tail (Pull.tail (Pull.tail Pull.head)) | exact Pull.tail (Pull.tail (Pull.tail (Pull.tail Pull.head)))); (case uO => k_all); k_whole)
  k_with "pyIter ref" => k_dflt (k_extra "iter")
  k_with "storeName" => (k_here; k_dflt (refine' storeX_N ?F ?N ?eg ?ed ?eo ?_ ?ka ?kb; (case eg => first | (dsimp only; done) | exact rfl); (case ed => first | (dsimp only; done) | exact rfl); (case eo => first | (dsimp only; done) | exact rfl); (case kb => with_reducible (first | exact lk_script _ _ _ | exact lk_spare _ _ _ | exact lk_drawn _ _ _ | exact lk_numbers _ _ _ | exact lk_draws _ _ _ | exact lk_rows _ _ _ | exact lk_up _ _ _ | exact lk_table _ _ _ | exact lk_row _ _ _ | exact lk_lost _ _ _ | exact lk_added _ _ _)); (case ka => exact lk_fun); (case F => k_asm); (case N => k_asm); k_whole; intro _ _ _))
  k_with "eval Name" => (k_here; k_dflt (first | (refine' nameX_L ?F ?v ?_ ?ka ?kb; (case kb => with_reducible (first | exact lk_script _ _ _ | exact lk_spare _ _ _ | exact lk_drawn _ _ _ | exact lk_numbers _ _ _ | exact lk_draws _ _ _ | exact lk_rows _ _ _ | exact lk_up _ _ _ | exact lk_table _ _ _ | exact lk_row _ _ _ | exact lk_lost _ _ _ | exact lk_added _ _ _)); (case ka => exact lk_fun); (case F => k_asm); (case v => rfl); k_whole) | (refine' nameX_C ?N ?c ?m ?d ?_ ?ka ?kb; (case kb => with_reducible (first | exact lk_bases _ _ _ | exact lk_worths _ _ _ | exact lk_blocks _ _ _ | exact lk_due _ _ _ | exact lk_whole _ _ _)); (case ka => exact lk_fun); (case N => k_asm); (case c => with_reducible (first | exact lc_bases _ | exact lc_worths _ | exact lc_blocks _ | exact lc_due _ | exact lc_whole _)); (case m => k_mem); (case d => k_asm); k_whole) | (refine' nameX_K ?F ?X ?T ?e ?_ ?ka ?kb; (case kb => kernel_rfl); (case ka => exact lk_fun); (case F => k_asm); (case X => k_asm); (case T => k_asm); (case e => k_is); k_whole) | (refine' nameX_B ?F ?X ?T ?e ?v ?n ?_ ?ka ?kb; (case kb => kernel_rfl); (case ka => exact lk_fun); (case F => k_asm); (case X => k_asm); (case T => k_asm); (case e => k_is); (case v => boot_fast); (case n => decide); k_whole)))
  k_with "lkc" => with_reducible (first | exact lk_bases _ _ _ | exact lk_worths _ _ _ | exact lk_blocks _ _ _ | exact lk_due _ _ _ | exact lk_whole _ _ _)
  k_with "lcc" => with_reducible (first | exact lc_bases _ | exact lc_worths _ | exact lc_blocks _ | exact lc_due _ | exact lc_whole _)
  k_with "Ksc" => (refine' storeX_C ?F ?N ?c ?U ?d ?_ ?ka ?kb; (case kb => k_extra "lkc"); (case ka => exact lk_fun); (case F => k_asm); (case N => k_asm); (case c => k_extra "lcc"); (case U => k_updF); (case d => k_asm); k_whole)
  k_with "call type:zip" => (k_here; k_dflt (k_extra "zip"))
  k_with "call ref" => (k_extra "my call")
  k_with "callWith ref" => (k_here; k_dflt (refine' callWith_K ?k1 ?k2 ?_; (case k1 => k_asm); (case k2 => k_is); k_whole))
  k_with "exec Assign" => (k_extra "asg")
  k_with "exec Assign cons ListComp" => (k_extra "asg")
  k_with "eval ListComp" => (k_extra "comp")
  k_with "execs cons" => (k_extra "seq")
  k_with "CompSrc" => (k_extra "src")
  k_with "CompEnd" => (k_extra "cend")
  k_with "compareOp NotEq ref ref" => (k_here; k_dflt (k_extra "ne"))
  k_with "compareOp Eq ref ref" => (k_here; k_dflt (k_extra "eq"))
  k_with "subscriptTail Name Name ref int" => (k_here; (with_reducible show wpAny _ _ (subscriptTail _ _ (Value.ref _) (Value.int _ _)) _ _ _); k_dflt (k_extra "tail"))
  k_with "call builtin:sum" => (k_here; k_dflt (k_extra "sum"))
  k_with "subscriptTail Name Slice ref ref" => (k_here; k_dflt (k_extra "cut"))
  k_with "CompSrcT" => (k_extra "src")
  k_with "decide" => fail
  k_with "comp" => refine stop_intro ?_
  k_with "src" => refine stop_intro ?_
  k_with "cend" => refine stop_intro ?_
  k_with "ne" => refine stop_intro ?_
  k_with "tail" => refine stop_intro ?_
  k_with "seq" => ((with_reducible show wpAny _ _ (execs (Stmt.If _ _ _ _ :: _) _) _ _ _); refine stop_intro ?_)
  have N0 : News base L sh ((ul, listOf uvs.toArray ku) :: (hl, lst4 xs.sum u0 S1 u1 S2 u2 S3 u3 kh) :: (93, tabObj ps) :: (L + 1, oB) :: (L + 1 + 1, oW) :: (L + 1 + 1 + 1, oK) :: (L + 1 + 1 + 1 + 1, oD) :: (L + 1 + 1 + 1 + 1 + 1, oH) :: gen) :=
    newsAdd N (List.mem_append_right _ hul) (newsAdd N (List.mem_append_right _ hhl) N)
  clear N
  refine wpAny_execs_cons ?_
  k_steps
  unfold Stop
  refine ListComp_C (cl := [(Str.ofString "due", L + 1 + 1 + 1 + 1)]) ?hclos ?hkind ?hnames ?_ ?hs
  case hclos => with_unfolding_all rfl
  case hkind => rfl
  case hnames => decide
  case hs => (intro _; rfl)
  k_steps
  rename_i N00 h1 tk1 a1 a2 a3 hr1 F1 N1 hk1
  clear N00
  have hcsz : uvs.toArray.size = 6 := by rw [List.size_toArray, hU.length, List.length_map]; exact hxs.len
  refine compC_range (n := 4) rfl (show 4 ≤ sizeLine by decide) (by intro n; rfl) (by intro h; rfl) rfl (by intro c C; rfl) F1 N1 hr1 (by decide) (by rfl) (fun i us => IntsAre us (([0, 1, 2, 3] : List Int).map (placeSum b0 b1 b2 xs) |>.take i)) .nil ?turn ?done
  case turn =>
    intro i v us I oI C oC c oc D h tk E' hi ob19
    refine Mine.exand1_1 ob19 fun tv hv => ?_
    try clear ob19
    intro J dc F N
    first | (refine' turn_N ?eg ?ed ?eo ?_; (case eg => first | (dsimp only; done) | exact rfl); (case ed => first | (dsimp only; done) | exact rfl); (case eo => first | (dsimp only; done) | exact rfl)) | refine post_let ?_
    intro qT
    subst hv
    have hki : ([0, 1, 2, 3] : List Int)[i]? = some (0 + (i : Int)) := range4 i hi
    have ob29 : ∃ k : Int, k = 0 + (i : Int) := ⟨_, rfl⟩
    refine Mine.exand1_1 ob29 fun k hk => ?_
    try clear ob29
    rw [← hk] at dc hki
    have hk0 : 0 ≤ k ∧ k < 4 := by omega
    clear hk
    have hj5 : seqIndex? k 5 = some k.toNat := by
      refine Mine.exand1_1 (Int.eq_ofNat_of_zero_le hk0.1) fun n hn => ?_
      subst hn
      exact idx_at (by omega)
    k_steps
    unfold Stop
    refine ListComp_U (F₀ := F) (cl := [(Str.ofString "k", c)]) ?hclos ?hcell ?hkind ?hnames ?hx ?_ ?hs
    case hclos => with_unfolding_all rfl
    case hcell => decide
    case hkind => rfl
    case hnames => decide
    case hx => rfl
    case hs => (intro _; rfl)
    k_steps
    unfold Stop
    refine CompSrc.ledger rfl F N (.tail _ (.tail _ (.tail _ (.tail _ (.head _))))) (by rw [hcsz]; decide) fun g => ?_
    refine compRest_ind (fun i ys nw => nw = (I, oI) :: (C, oC) :: (c, oc) :: (D, lst us) :: (ul, listOf uvs.toArray ku) :: (hl, lst4 xs.sum u0 S1 u1 S2 u2 S3 u3 kh) :: (93, tabObj ps) :: (L + 1, oB) :: (L + 1 + 1, oW) :: (L + 1 + 1 + 1, oK) :: (L + 1 + 1 + 1 + 1, oD) :: (L + 1 + 1 + 1 + 1 + 1, oH) :: gen ∧
      IntsAre ys ((xs.map fun x => rowAt (q2 b0 b1 x - b2 * q3 b0 b1 b2 x) (x - b0 * q1 b0 x) (q3 b0 b1 b2 x) (q1 b0 x - b1 * q2 b0 b1 x) k).take i)) ?turn2 ?done2 uvs.toArray.size 0 [] _ (Nat.zero_add _) ⟨rfl, .nil⟩
    case turn2 =>
      intro i2 ys nw v2 I2 oI2 C2 oC2 D2 m2 h2 tk2 E2 hi2 hv2 J2 ho2 hx2 F2 N3 off2 ne2
      first | (refine' turn_N ?eg ?ed ?eo ?_; (case eg => first | (dsimp only; done) | exact rfl); (case ed => first | (dsimp only; done) | exact rfl); (case eo => first | (dsimp only; done) | exact rfl)) | refine post_let ?_
      intro qT
      refine Mine.exand0_2 J2 fun ob39 IY => ?_
      subst ob39
      try clear J2
      rw [List.getElem?_toArray] at hv2
      refine Mine.exand2_3 (hU.get hv2) fun r e2 hr ob49 ob59 => ?_
      subst ob49
      refine Mine.exand0_2 ob59 fun ob69 _ => ?_
      refine Mine.exand6_2 ob69 fun t1 t2 t3 t4 dd kt he _ => ?_
      try clear ob69
      try clear ob59
      rw [List.getElem?_map] at hr
      refine Mine.exand1_2 (Option.map_eq_some_iff.mp hr) fun x hxi ob79 => ?_
      subst ob79
      have N4 := newsCons N3 (show (e2, _) ∈ _ by repeat (first | exact he | refine List.mem_cons_of_mem _ ?_))
      clear N3
      refine Mine.exand1_1 (rowAt_get (q2 b0 b1 x - b2 * q3 b0 b1 b2 x) (x - b0 * q1 b0 x) (q3 b0 b1 b2 x) (q1 b0 x - b1 * q2 b0 b1 x) t1 t2 t3 t4 dd hk0.1 hk0.2) fun ta hta => ?_
      k_steps
      unfold Stop
      refine item_tuple (News.isTup N4 (.head _)) (by omega) (by omega) hj5 hta ?_
      k_steps
      unfold Stop
      exact CompEnd.intro F2 N4 _ (fun q hq => .tail _ hq) off2 (.inr ⟨_, .tail _ (.tail _ (.tail _ (.tail _ (.head _)))), rfl, _, rfl⟩) ⟨rfl, ints_snoc IY (by rw [List.getElem?_map, hxi]; rfl)⟩
    case done2 =>
      intro ys nw J2
      refine Mine.exand0_2 J2 fun ob89 IY => ?_
      subst ob89
      try clear J2
      rw [hcsz, List.take_of_length_le (by rw [List.length_map, hxs.len]; exact Nat.le_refl _)] at IY
      unfold FinE
      intro D2 h2 tk2 F2 N3 o1
      clear N
      k_steps
      · k_asm
      · exact newsSub (by k_asm) fun q hq => .tail _ hq
      · exact stop_intro (ints_snoc J (by rw [List.getElem?_map, hki]; rfl))
  case done =>
    intro D C us h tk m' J hul F N hns hC0 hCL hDC hnC hlt
    refine post_eval F N hns hC0 hCL hDC hnC fun h' tk' F' N' => ?_
    refine Mine.exand4_1 (ints4 (show IntsAre us [placeSum b0 b1 b2 xs 0, placeSum b0 b1 b2 xs 1, placeSum b0 b1 b2 xs 2, placeSum b0 b1 b2 xs 3] from J)) fun p0 p1 p2 p3 ob99 => ?_
    subst ob99
    have hlt' : AllLt D _ := allLt_of hlt
    simp only [AllLt] at hlt'
    clear N N1
    k_steps
    (rename Fr _ _ _ _ => F8)
    (rename News _ _ _ _ => N8)
    rename_i h5 D5 l5 d6 h6 o6 lo6 hd6 l6 h7 o7 hd7 hf7 D7 h8 l7 D8 h9 l8
    unfold Stop
    rw [place0, place1, place2, place3, placeS] at hE
    refine entNe N8 (by ktr_units) (by simp) (hE.sub fun q hq => .tail _ (.tail _ (.tail _ (.tail _ (.tail _ (.tail _ (.tail _ (.tail _ hq)))))))) ⟨p0, p1, p2, p3, d6, 0, .head _, o7, _, .tail _ (.tail _ (.head _)), hd7, ⟨rfl, ⟨_, rfl⟩, trivial⟩, lo6⟩ ?_
    clear l8 l7 l6 l5 hlt'
    k_steps
    unfold Stop
    exact next _ _ (by k_asm) (newsSub (by k_asm) fun q hq => .tail _ (.tail _ (.tail _ (.tail _ (.tail _ (.tail _ (.tail _ hq)))))))
end
example {prog : Program} {w : World} {A : Around} {env : Env} {Q : Flow → Shared → Prop} {E : Value → Shared → Prop} {s : Shared} (h : Q .next s) : wpAny (model prog w) A (execs [] env) Q E s := by
  w_top off
  walk1
  exact h
section
theorem seg14 {w p loose mean mg mb} {base : Heap} {L sl fa : Addr} {cd : Value} {ns : List Int} {svs : List Value} {s : Shared} {oK oD oH oB oW : Obj} {Q : Flow → Shared → Prop} {E : Value → Shared → Prop} {b0 b1 b2 : Int} {t0 t1 t2 v0 v1 v2 v3 r0 r1 r2 r3 tlo : Tok} {bl wl rl rw tb upl ad : Addr} {kb kw krr : Nat} {M : Str → Option Value} {xs : List Int} {gen : List (Addr × Obj)} {ps : Array Value}
    (A1 : LawAt w p loose mean mg mb base L sl ns svs) (z0 : b0 ≠ 0) (z1 : b1 ≠ 0) (z2 : b2 ≠ 0) (q0 : intBits b0 ≤ 1048576) (q1' : intBits b1 ≤ 1048576) (q2' : intBits b2 ≤ 1048576) (dB : oB.data = .cell (some (.ref bl))) (dW : oW.data = .cell (some (.ref wl)))
    (hxs : Six xs) (hE : EntL w (cells5 L oB oW oK oD oH ++ gen) ad (placeSum b0 b1 b2 xs 0) (placeSum b0 b1 b2 xs 1) (placeSum b0 b1 b2 xs 2) (placeSum b0 b1 b2 xs 3) [(Str.ofString "a", .int xs.sum)]) (hG : Gen L gen) (hot : HotN gen) (hT : GT ps) (hTab : TabAtL w gen tb (fourT xs.sum (upK b0 b1 b2 xs xs.sum 1) (upK b0 b1 b2 xs xs.sum 2) (upK b0 b1 b2 xs xs.sum 2 * (b0 * b1)) (upK b0 b1 b2 xs xs.sum 3)))
    (hwl : (wl, lst4 1 v0 b0 v1 (b0 * b1) v2 (b0 * b1 * b2) v3 kw) ∈ gen) (hbl : (bl, lst3 b0 t0 b1 t1 b2 t2 kb) ∈ gen)
    (hrw : (rw, tup4 (q2 b0 b1 xs.sum - b2 * q3 b0 b1 b2 xs.sum) r0 (xs.sum - b0 * q1 b0 xs.sum) r1 (q3 b0 b1 b2 xs.sum) r2 (q1 b0 xs.sum - b1 * q2 b0 b1 xs.sum) r3 krr) ∈ gen)
    (F : Fr base L s.heap (fun y => if y = Str.ofString "added" then some (.ref ad) else if y = Str.ofString "lost" then some (.int (lostF b0 b1 b2 xs (q2 b0 b1 xs.sum - b2 * q3 b0 b1 b2 xs.sum) (xs.sum - b0 * q1 b0 xs.sum) (q3 b0 b1 b2 xs.sum) (q1 b0 xs.sum - b1 * q2 b0 b1 xs.sum)) tlo) else if y = Str.ofString "row" then some (.ref rw) else if y = Str.ofString "table" then some (.ref tb) else if y = Str.ofString "up" then some (.ref upl) else if y = Str.ofString "rows" then some (.ref rl) else M y))
    (N : News base L s.heap (cells L ps oB oW oK oD oH ++ gen)) (hb : AllBare s.gens)
    (next : ∀ (h : Heap) (tk : Nat) (gs : Array GenState) (ps' : Array Value), GT ps' → AllBare gs → Fr base L h (fun y => if y = Str.ofString "added" then some (.ref ad) else if y = Str.ofString "lost" then some (.int (lostF b0 b1 b2 xs (q2 b0 b1 xs.sum - b2 * q3 b0 b1 b2 xs.sum) (xs.sum - b0 * q1 b0 xs.sum) (q3 b0 b1 b2 xs.sum) (q1 b0 xs.sum - b1 * q2 b0 b1 xs.sum)) tlo) else if y = Str.ofString "row" then some (.ref rw) else if y = Str.ofString "table" then some (.ref tb) else if y = Str.ofString "up" then some (.ref upl) else if y = Str.ofString "rows" then some (.ref rl) else M y) →
      News base L h (cells L ps' oB oW oK oD oH ++ gen) → wpAny (model PySem.Challenge.rw_ph0128_01.row.prog w) (lawA L fa cd) (execs (lawBody.drop 19) (lawEnv L fa cd)) Q E { s with heap := h, toks := tk, gens := gs })
    : wpAny (model PySem.Challenge.rw_ph0128_01.row.prog w) (lawA L fa cd) (execs (lawBody.drop 18) (lawEnv L fa cd)) Q E s := by
  obtain ⟨sh, sg, sd, st, so⟩ := s
  try clear s
  dsimp only at F N hb next
  obtain ⟨X1, T1, K1, NS, C1, C2, C3, hS, hI, hlen, hbits, l0⟩ := A1
  try clear A1
  revert X1
  k_fill
  intro X1
  have hMk := kstMark
  k_with_none
  k_with "binaryOp Add int int" => (refine add_N ?_)
  k_with "binaryOp Sub int int" => (refine sub_N ?_)
  k_with "inplaceOp Add int int" => (refine iadd_N ?_)
  k_with "inplaceOp Sub int int" => (refine isub_N ?_)
  k_with "binaryOp BitOr int int" => (refine or_N ?_)
  k_with "unaryOp USub int" => (refine neg_N ?_)
  k_with "storeName" => (k_here; k_dflt (refine' storeX_N ?F ?N ?eg ?ed ?eo ?_ ?a ?b; (case F => k_asm); (case N => k_asm); (case a => rfl); (case b => rfl); (case eg => first | (dsimp only; done) | exact rfl); (case ed => first | (dsimp only; done) | exact rfl); (case eo => first | (dsimp only; done) | exact rfl); k_whole; intro _ _ _; (try k_sweep)))
  k_with "MineLt" => (first | with_reducible assumption | ((with_reducible rename _ ∧ _ => hC9); first | exact hC9.1 | exact hC9.2.1 | exact hC9.2.2.1 | exact hC9.2.2.2.1 | exact hC9.2.2.2.2.1 | exact hC9.2.2.2.2.2.1 | exact hC9.2.2.2.2.2.2.1 | exact hC9.2.2.2.2.2.2.2.1 | exact hC9.2.2.2.2.2.2.2.2.1 | exact hC9.2.2.2.2.2.2.2.2.2.1 | exact hC9.2.2.2.2.2.2.2.2.2.2.1 | exact hC9.2.2.2.2.2.2.2.2.2.2.2.1 | exact hC9.2.2.2.2.2.2.2.2.2.2.2.2.1 | exact hC9.2.2.2.2.2.2.2.2.2.2.2.2.2.1) | exact And.left (by with_reducible assumption) | exact Nat.lt_succ_self _)
  k_with "binaryOp LShift int int" => (refine' lshift_N ?hn ?hz ?_; (case hn => k_extra "nn"); (case hz => k_extra "shl"); (try k_extra "tidy"))
  k_with "inplaceOp LShift int int" => (refine' ilshift_N ?hn ?hz ?_; (case hn => k_extra "nn"); (case hz => k_extra "shl"); (try k_extra "tidy"))
  k_with "binaryOp RShift int int" => (refine' rshift_N ?hn ?_; (case hn => k_extra "nn"); (try k_extra "tidy"))
  k_with "inplaceOp RShift int int" => (refine' irshift_N ?hn ?_; (case hn => k_extra "nn"); (try k_extra "tidy"))
  k_with "binaryOp BitAnd int int" => (refine and_N ?_; (try k_extra "tidy"))
  k_with "binaryOp Mult int int" => (refine' mul_N ?_ ?hm; (case hm => k_extra "mul"); (try k_extra "tidy"))
  k_with "Kdm" => (refine' divmod_N ?F ?N ?hb ?_ ?hp; (case F => k_asm); (case N => k_asm); (case hb => k_extra "div0"); (case hp => k_extra "pylong"))
  k_with "call ref" => (k_extra "my call")
  k_with "ite" => (k_extra "decide")
  k_with "binaryOp FloorDiv int int" => (refine' floordiv_N ?hb ?_ ?hp; (case hb => k_extra "div0"); (case hp => k_extra "pylong"); (try k_extra "tidy"))
  k_with "binaryOp BitXor int int" => (refine xor_N ?_; (try k_extra "tidy"))
  k_with "subscriptTail Name Constant ref int" => (k_here; (with_reducible show wpAny _ _ (subscriptTail _ _ (Value.ref _) (Value.int _ _)) _ _ _); (with_unfolding_all refine' item_litK ?k1 ?k2 ?k3 ?k4 ?_ ?k6; (case k1 => is_list); (case k2 => decide); (case k3 => decide); (case k4 => rfl); (case k6 => with_unfolding_all rfl); k_whole))
  k_with "subscriptTail Name Name ref int" => (k_here; (with_reducible show wpAny _ _ (subscriptTail _ _ (Value.ref _) (Value.int _ _)) _ _ _); (with_unfolding_all refine' item_litK ?k1 ?k2 ?k3 ?k4 ?_ ?k6; (case k1 => is_list); (case k2 => decide); (case k3 => decide); (case k4 => rfl); (case k6 => with_unfolding_all rfl); k_whole))
  k_with "subscriptTail Name BinOp ref int" => (k_here; (with_reducible show wpAny _ _ (subscriptTail _ _ (Value.ref _) (Value.int _ _)) _ _ _); (with_unfolding_all refine' item_litK ?k1 ?k2 ?k3 ?k4 ?_ ?k6; (case k1 => is_list); (case k2 => decide); (case k3 => decide); (case k4 => rfl); (case k6 => with_unfolding_all rfl); k_whole))
  k_with "UnrEnd" => k_dflt (refine' unr_close ?uF ?uN ?uP ?uO ?_; (case uF => assumption); (case uN => assumption); (case uP => first | exact Pull.head | exact Pull.tail Pull.head | exact Pull.tail (Pull.tail Pull.head) | exact Pull.tail (Pull.tail (Pull.tail Pull.head)) | exact Pull.tail (Pull.tail (Pull.tail (Pull.tail Pull.head)))); (case uO => k_all); k_whole)
  k_with "pyIter ref" => k_dflt (k_extra "iter")
  k_with "storeName" => (k_here; k_dflt (refine' storeX_N ?F ?N ?eg ?ed ?eo ?_ ?ka ?kb; (case eg => first | (dsimp only; done) | exact rfl); (case ed => first | (dsimp only; done) | exact rfl); (case eo => first | (dsimp only; done) | exact rfl); (case kb => with_reducible (first | exact lk_script _ _ _ | exact lk_spare _ _ _ | exact lk_drawn _ _ _ | exact lk_numbers _ _ _ | exact lk_draws _ _ _ | exact lk_rows _ _ _ | exact lk_up _ _ _ | exact lk_table _ _ _ | exact lk_row _ _ _ | exact lk_lost _ _ _ | exact lk_added _ _ _)); (case ka => exact lk_fun); (case F => k_asm); (case N => k_asm); k_whole; intro _ _ _))
  k_with "eval Name" => (k_here; k_dflt (first | (refine' nameX_L ?F ?v ?_ ?ka ?kb; (case kb => with_reducible (first | exact lk_script _ _ _ | exact lk_spare _ _ _ | exact lk_drawn _ _ _ | exact lk_numbers _ _ _ | exact lk_draws _ _ _ | exact lk_rows _ _ _ | exact lk_up _ _ _ | exact lk_table _ _ _ | exact lk_row _ _ _ | exact lk_lost _ _ _ | exact lk_added _ _ _)); (case ka => exact lk_fun); (case F => k_asm); (case v => rfl); k_whole) | (refine' nameX_C ?N ?c ?m ?d ?_ ?ka ?kb; (case kb => with_reducible (first | exact lk_bases _ _ _ | exact lk_worths _ _ _ | exact lk_blocks _ _ _ | exact lk_due _ _ _ | exact lk_whole _ _ _)); (case ka => exact lk_fun); (case N => k_asm); (case c => with_reducible (first | exact lc_bases _ | exact lc_worths _ | exact lc_blocks _ | exact lc_due _ | exact lc_whole _)); (case m => k_mem); (case d => k_asm); k_whole) | (refine' nameX_K ?F ?X ?T ?e ?_ ?ka ?kb; (case kb => kernel_rfl); (case ka => exact lk_fun); (case F => k_asm); (case X => k_asm); (case T => k_asm); (case e => k_is); k_whole) | (refine' nameX_B ?F ?X ?T ?e ?v ?n ?_ ?ka ?kb; (case kb => kernel_rfl); (case ka => exact lk_fun); (case F => k_asm); (case X => k_asm); (case T => k_asm); (case e => k_is); (case v => boot_fast); (case n => decide); k_whole)))
  k_with "lkc" => with_reducible (first | exact lk_bases _ _ _ | exact lk_worths _ _ _ | exact lk_blocks _ _ _ | exact lk_due _ _ _ | exact lk_whole _ _ _)
  k_with "lcc" => with_reducible (first | exact lc_bases _ | exact lc_worths _ | exact lc_blocks _ | exact lc_due _ | exact lc_whole _)
  k_with "Ksc" => (refine' storeX_C ?F ?N ?c ?U ?d ?_ ?ka ?kb; (case kb => k_extra "lkc"); (case ka => exact lk_fun); (case F => k_asm); (case N => k_asm); (case c => k_extra "lcc"); (case U => k_updF); (case d => k_asm); k_whole)
  k_with "call type:zip" => (k_here; k_dflt (k_extra "zip"))
  k_with "call ref" => (k_extra "my call")
  k_with "callWith ref" => (k_here; k_dflt (refine' callWith_K ?k1 ?k2 ?_; (case k1 => k_asm); (case k2 => k_is); k_whole))
  k_with "exec Assign" => (k_extra "asg")
  k_with "exec Assign cons ListComp" => (k_extra "asg")
  k_with "eval ListComp" => (k_extra "comp")
  k_with "execs cons" => (k_extra "seq")
  k_with "CompSrc" => (k_extra "src")
  k_with "CompEnd" => (k_extra "cend")
  k_with "compareOp NotEq ref ref" => (k_here; k_dflt (k_extra "ne"))
  k_with "compareOp Eq ref ref" => (k_here; k_dflt (k_extra "eq"))
  k_with "subscriptTail Name Name ref int" => (k_here; (with_reducible show wpAny _ _ (subscriptTail _ _ (Value.ref _) (Value.int _ _)) _ _ _); k_dflt (k_extra "tail"))
  k_with "call builtin:sum" => (k_here; k_dflt (k_extra "sum"))
  k_with "subscriptTail Name Slice ref ref" => (k_here; k_dflt (k_extra "cut"))
  k_with "CompSrcT" => (k_extra "src")
  k_with "decide" => fail
  k_with "seq" => ((with_reducible show wpAny _ _ (execs (Stmt.Return _ _ :: _) _) _ _ _); refine stop_intro ?_)
  k_with "my call" => refine stop_intro ?_
  have w2b : intBits (b0 * b1) ≤ 2097152 := bits_mul q0 q1'
  have l93 : ∀ q ∈ (cells L ps oB oW oK oD oH ++ gen).tail, q.1 ≠ 93 := cells_off93 l0.1 hG
  have N0 : News base L sh ((93, tabObj ps) :: (L + 1, oB) :: (L + 1 + 1, oW) :: (L + 1 + 1 + 1, oK) :: (L + 1 + 1 + 1 + 1, oD) :: (L + 1 + 1 + 1 + 1 + 1, oH) :: gen) := N
  have up : ∀ q ∈ gen, q ∈ (L + 1, oB) :: (L + 1 + 1, oW) :: (L + 1 + 1 + 1, oK) :: (L + 1 + 1 + 1 + 1, oD) :: (L + 1 + 1 + 1 + 1 + 1, oH) :: gen := fun q hq => by
    repeat (first | exact hq | refine List.mem_cons_of_mem _ ?_)
  clear N
  k_steps
  unfold Stop
  k_dflt (refine' GivesG.use (carried ad bl wl (placeSum b0 b1 b2 xs 0) (placeSum b0 b1 b2 xs 1) (placeSum b0 b1 b2 xs 2) (placeSum b0 b1 b2 xs 3) b0 b1 b2 1 b0 (b0 * b1) (b0 * b1 * b2) [(Str.ofString "a", .int xs.sum)] t0 t1 t2 v0 v1 v2 v3 kb kw z0 z1 z2 (place_bits0 z2 hxs.len q2') (place_bits1 z0 hxs.len q0) (place_bits3 z1 hxs.len q1') (bits_up q0 (by decide)) (bits_up q1' (by decide)) (bits_up q2' (by decide)) (bits_up w2b (by decide)) (fun up more la => mergeOk_one _ up more la _)) Pull.head K1 F X1 N0 hT l93 hb ⟨hE, up _ hbl, up _ hwl, hot.sub up⟩ T1 NS C1 C2 C3 ?hk ?hdp ?hu ?_)
  case hk => exact lk_fun
  case hdp => ktr_room
  case hu => ktr_units
  intro v6 new6 h6 tk6 gs6 ps6 ob19
  refine Mine.exand7_6 ob19 fun e6 up' one more two la th ob29 M1 M2 M3 l6 E6 => ?_
  subst ob29
  try clear ob19
  intro G6 B6 n6 F6 N6
  refine Mine.exand0_7 (whole_carry M1 M2 M3) fun y1 y2 y3 y4 y5 y6 y7 => ?_
  rw [y7, y6, y4, y5, merged_one, y1, y2, y3] at E6
  have ob39 : ∃ g6, g6 = new6 ++ gen := ⟨_, rfl⟩
  refine Mine.exand1_1 ob39 fun g6 hg6 => ?_
  try clear ob39
  have N7 : News base L h6 ((rw, tup4 (q2 b0 b1 xs.sum - b2 * q3 b0 b1 b2 xs.sum) r0 (xs.sum - b0 * q1 b0 xs.sum) r1 (q3 b0 b1 b2 xs.sum) r2 (q1 b0 xs.sum - b1 * q2 b0 b1 xs.sum) r3 krr) :: (93, tabObj ps6) :: (L + 1, oB) :: (L + 1 + 1, oW) :: (L + 1 + 1 + 1, oK) :: (L + 1 + 1 + 1 + 1, oD) :: (L + 1 + 1 + 1 + 1 + 1, oH) :: g6) :=
    newsAdd N6 (.tail _ (List.mem_append_right _ (up _ hrw))) (newsSub N6 fun q hq => by
      simp only [hg6, List.mem_cons, List.mem_append] at hq ⊢
      grind)
  clear N6 N0
  k_steps
  unfold Stop
  (rename Fr _ _ _ _ => F8)
  (rename News _ _ _ _ => N8)
  rename_i t1p h1p l1p D8 h8 l8
  have ob49 : ∃ c9, c9 = (L + 1, oB) :: (L + 1 + 1, oW) :: (L + 1 + 1 + 1, oK) :: (L + 1 + 1 + 1 + 1, oD) :: (L + 1 + 1 + 1 + 1 + 1, oH) :: g6 := ⟨_, rfl⟩
  refine Mine.exand1_1 ob49 fun c9 hc9 => ?_
  try clear ob49
  have m6 : ∀ q ∈ new6 ++ ((L + 1, oB) :: (L + 1 + 1, oW) :: (L + 1 + 1 + 1, oK) :: (L + 1 + 1 + 1 + 1, oD) :: (L + 1 + 1 + 1 + 1 + 1, oH) :: gen), q ∈ (D8, tup5 (q2 b0 b1 xs.sum - b2 * q3 b0 b1 b2 xs.sum) r0 (xs.sum - b0 * q1 b0 xs.sum) r1 (q3 b0 b1 b2 xs.sum) r2 (q1 b0 xs.sum - b1 * q2 b0 b1 xs.sum) r3 tb 0) :: c9 := fun q hq => by
    simp only [hc9, hg6, List.mem_append, List.mem_cons] at hq ⊢
    grind
  have N9 : News base L _ ((93, tabObj ps6) :: (D8, tup5 (q2 b0 b1 xs.sum - b2 * q3 b0 b1 b2 xs.sum) r0 (xs.sum - b0 * q1 b0 xs.sum) r1 (q3 b0 b1 b2 xs.sum) r2 (q1 b0 xs.sum - b1 * q2 b0 b1 xs.sum) r3 tb 0) :: c9) :=
    newsAdd N8 (.tail _ (.tail _ (.tail _ (.head _)))) (newsAdd N8 (.head _) (fun q hq => N8 q (.tail _ (.tail _ (.tail _ (.tail _ (hc9 ▸ hq)))))))
  have l9 : ∀ q ∈ (D8, tup5 (q2 b0 b1 xs.sum - b2 * q3 b0 b1 b2 xs.sum) r0 (xs.sum - b0 * q1 b0 xs.sum) r1 (q3 b0 b1 b2 xs.sum) r2 (q1 b0 xs.sum - b1 * q2 b0 b1 xs.sum) r3 tb 0) :: c9, q.1 ≠ 93 := fun q hq => by
    rcases List.mem_cons.mp hq with rfl | hq
    · exact Nat.ne_of_gt l8.2.2.1
    · rw [hc9, hg6] at hq
      simp only [List.mem_cons, List.mem_append] at hq
      rcases hq with h | h | h | h | h | h | h
      · exact l93 q (.head _ |> fun x => h ▸ x)
      · exact l93 q (by rw [h]; simp [cells])
      · exact l93 q (by rw [h]; simp [cells])
      · exact l93 q (by rw [h]; simp [cells])
      · exact l93 q (by rw [h]; simp [cells])
      · exact n6 q h
      · exact l93 q (up q h)
  refine Mine.exand0_3 (upK_bits (b0 := b0) (b1 := b1) (b2 := b2) z0 z1 z2 hxs hxs.sum_bits) fun u1 u2 u3 => ?_
  k_dflt (refine' GivesG.use (summed e6 D8 bl _ _ _ _ xs.sum (upK b0 b1 b2 xs xs.sum 1) (upK b0 b1 b2 xs xs.sum 2) (upK b0 b1 b2 xs xs.sum 2 * (b0 * b1)) (upK b0 b1 b2 xs xs.sum 3) _ b0 b1 b2 t0 t1 t2 _ kb (lost_law b0 b1 b2 xs) q0 q1' q2' (bits_up u1 (by decide)) (bits_up u2 (by decide)) (bits_up u3 (by decide))) Pull.head K1 F8 X1 N9 G6 l9 B6 ⟨E6.sub m6, ⟨r0, r1, r2, r3, tb, 0, .head _, hTab.sub fun q hq => m6 q (List.mem_append_right _ (up q hq))⟩, m6 _ (List.mem_append_right _ (up _ hbl))⟩ T1 NS C1 C2 C3 ?hk ?hdp ?hu ?_)
  case hk => exact lk_fun
  case hdp => ktr_room
  case hu => ktr_units
  intro v7 new7 h7 tk7 gs7 ps7 ob59
  refine Mine.exand0_2 ob59 fun ob69 ob79 => ?_
  subst ob69
  subst ob79
  try clear ob59
  intro G7 B7 n7 F7 N10
  clear N9 N8
  k_steps
  unfold Stop
  refine next _ _ _ ps7 G7 B7 F7 (newsSub N10 fun q hq => ?_)
  rcases List.mem_cons.mp hq with rfl | hq
  · exact .head _
  · refine .tail _ (.tail _ ?_)
    change q ∈ (L + 1, oB) :: (L + 1 + 1, oW) :: (L + 1 + 1 + 1, oK) :: (L + 1 + 1 + 1 + 1, oD) :: (L + 1 + 1 + 1 + 1 + 1, oH) :: gen at hq
    rw [hc9]
    rcases List.mem_cons.mp hq with rfl | hq
    · exact .head _
    rcases List.mem_cons.mp hq with rfl | hq
    · exact .tail _ (.head _)
    rcases List.mem_cons.mp hq with rfl | hq
    · exact .tail _ (.tail _ (.head _))
    rcases List.mem_cons.mp hq with rfl | hq
    · exact .tail _ (.tail _ (.tail _ (.head _)))
    rcases List.mem_cons.mp hq with rfl | hq
    · exact .tail _ (.tail _ (.tail _ (.tail _ (.head _))))
    · exact .tail _ (.tail _ (.tail _ (.tail _ (.tail _ (by rw [hg6]; exact List.mem_append_right _ hq)))))
end
example {prog : Program} {w : World} {A : Around} {env : Env} {Q : Flow → Shared → Prop} {E : Value → Shared → Prop} {s : Shared} (h : Q .next s) : wpAny (model prog w) A (execs [] env) Q E s := by
  w_top off
  walk1
  exact h
section
open PyProof.Rows.LCg PyProof.Rows.LCt
theorem seg15 {w p loose mean mg mb} {base : Heap} {L sl fa : Addr} {cd : Value} {ns : List Int} {svs : List Value} {s : Shared} {oK oD oH oB oW : Obj} {Q : Flow → Shared → Prop} {E : Value → Shared → Prop} {b0 b1 b2 : Int} {t0 t1 t2 : Tok} {bl kl ul rl ad rw tb upl : Addr} {kb kk ku kr : Nat} {M : Str → Option Value} {xs : List Int} {kvs uvs rvs : List Value} {gen : List (Addr × Obj)} {ps : Array Value} {lo : Int} {tlo : Tok}
    (A1 : LawAt w p loose mean mg mb base L sl ns svs) (z0 : b0 ≠ 0) (q0 : intBits b0 ≤ 1048576) (dB : oB.data = .cell (some (.ref bl))) (dK : oK.data = .cell (some (.ref kl))) (dD : oD.data = .cell (some (.ref ul)))
    (hxs : Six xs) (hR : LineR w b0 b1 b2 (b0 * b1) gen rvs (xs.map (leafR b0 b1 b2))) (hU : LineR w b0 b1 b2 (b0 * b1) gen uvs (xs.map (leafR b0 b1 b2))) (hA : All2 (BlkV gen) kvs (xs.map (blkL b0 b1 b2))) (hG : Gen L gen) (hot : HotN gen)
    (hrl : (rl, listOf rvs.toArray kr) ∈ gen) (hul : (ul, listOf uvs.toArray ku) ∈ gen) (hkl : (kl, listOf kvs.toArray kk) ∈ gen) (hbl : (bl, lst3 b0 t0 b1 t1 b2 t2 kb) ∈ gen)
    (F : Fr base L s.heap (fun y => if y = Str.ofString "added" then some (.ref ad) else if y = Str.ofString "lost" then some (.int lo tlo) else if y = Str.ofString "row" then some (.ref rw) else if y = Str.ofString "table" then some (.ref tb) else if y = Str.ofString "up" then some (.ref upl) else if y = Str.ofString "rows" then some (.ref rl) else M y))
    (N : News base L s.heap (cells L ps oB oW oK oD oH ++ gen))
    (hQ : ∀ h tk m news, Fr base L h m → News base L h news → (93, tabObj ps) ∈ news → HotN news → Q (.ret (.bool true)) { s with heap := h, toks := tk })
    : wpAny (model PySem.Challenge.rw_ph0128_01.row.prog w) (lawA L fa cd) (execs (lawBody.drop 19) (lawEnv L fa cd)) Q E s := by
  obtain ⟨sh, sg, sd, st, so⟩ := s
  try clear s
  dsimp only at F N hQ
  obtain ⟨X1, T1, K1, NS, C1, C2, C3, hS, hI, hlen, hbits, l0⟩ := A1
  try clear A1
  revert X1
  k_fill
  intro X1
  have hMk := kstMark
  k_with_none
  k_with "binaryOp Add int int" => (refine add_N ?_)
  k_with "binaryOp Sub int int" => (refine sub_N ?_)
  k_with "inplaceOp Add int int" => (refine iadd_N ?_)
  k_with "inplaceOp Sub int int" => (refine isub_N ?_)
  k_with "binaryOp BitOr int int" => (refine or_N ?_)
  k_with "unaryOp USub int" => (refine neg_N ?_)
  k_with "storeName" => (k_here; k_dflt (refine' storeX_N ?F ?N ?eg ?ed ?eo ?_ ?a ?b; (case F => k_asm); (case N => k_asm); (case a => rfl); (case b => rfl); (case eg => first | (dsimp only; done) | exact rfl); (case ed => first | (dsimp only; done) | exact rfl); (case eo => first | (dsimp only; done) | exact rfl); k_whole; intro _ _ _; (try k_sweep)))
  k_with "MineLt" => (first | with_reducible assumption | ((with_reducible rename _ ∧ _ => hC9); first | exact hC9.1 | exact hC9.2.1 | exact hC9.2.2.1 | exact hC9.2.2.2.1 | exact hC9.2.2.2.2.1 | exact hC9.2.2.2.2.2.1 | exact hC9.2.2.2.2.2.2.1 | exact hC9.2.2.2.2.2.2.2.1 | exact hC9.2.2.2.2.2.2.2.2.1 | exact hC9.2.2.2.2.2.2.2.2.2.1 | exact hC9.2.2.2.2.2.2.2.2.2.2.1 | exact hC9.2.2.2.2.2.2.2.2.2.2.2.1 | exact hC9.2.2.2.2.2.2.2.2.2.2.2.2.1 | exact hC9.2.2.2.2.2.2.2.2.2.2.2.2.2.1) | exact And.left (by with_reducible assumption) | exact Nat.lt_succ_self _)
  k_with "binaryOp LShift int int" => (refine' lshift_N ?hn ?hz ?_; (case hn => k_extra "nn"); (case hz => k_extra "shl"); (try k_extra "tidy"))
  k_with "inplaceOp LShift int int" => (refine' ilshift_N ?hn ?hz ?_; (case hn => k_extra "nn"); (case hz => k_extra "shl"); (try k_extra "tidy"))
  k_with "binaryOp RShift int int" => (refine' rshift_N ?hn ?_; (case hn => k_extra "nn"); (try k_extra "tidy"))
  k_with "inplaceOp RShift int int" => (refine' irshift_N ?hn ?_; (case hn => k_extra "nn"); (try k_extra "tidy"))
  k_with "binaryOp BitAnd int int" => (refine and_N ?_; (try k_extra "tidy"))
  k_with "binaryOp Mult int int" => (refine' mul_N ?_ ?hm; (case hm => k_extra "mul"); (try k_extra "tidy"))
  k_with "Kdm" => (refine' divmod_N ?F ?N ?hb ?_ ?hp; (case F => k_asm); (case N => k_asm); (case hb => k_extra "div0"); (case hp => k_extra "pylong"))
  k_with "call ref" => (k_extra "my call")
  k_with "ite" => (k_extra "decide")
  k_with "binaryOp FloorDiv int int" => (refine' floordiv_N ?hb ?_ ?hp; (case hb => k_extra "div0"); (case hp => k_extra "pylong"); (try k_extra "tidy"))
  k_with "binaryOp BitXor int int" => (refine xor_N ?_; (try k_extra "tidy"))
  k_with "subscriptTail Name Constant ref int" => (k_here; (with_reducible show wpAny _ _ (subscriptTail _ _ (Value.ref _) (Value.int _ _)) _ _ _); (with_unfolding_all refine' item_litK ?k1 ?k2 ?k3 ?k4 ?_ ?k6; (case k1 => is_list); (case k2 => decide); (case k3 => decide); (case k4 => rfl); (case k6 => with_unfolding_all rfl); k_whole))
  k_with "subscriptTail Name Name ref int" => (k_here; (with_reducible show wpAny _ _ (subscriptTail _ _ (Value.ref _) (Value.int _ _)) _ _ _); (with_unfolding_all refine' item_litK ?k1 ?k2 ?k3 ?k4 ?_ ?k6; (case k1 => is_list); (case k2 => decide); (case k3 => decide); (case k4 => rfl); (case k6 => with_unfolding_all rfl); k_whole))
  k_with "subscriptTail Name BinOp ref int" => (k_here; (with_reducible show wpAny _ _ (subscriptTail _ _ (Value.ref _) (Value.int _ _)) _ _ _); (with_unfolding_all refine' item_litK ?k1 ?k2 ?k3 ?k4 ?_ ?k6; (case k1 => is_list); (case k2 => decide); (case k3 => decide); (case k4 => rfl); (case k6 => with_unfolding_all rfl); k_whole))
  k_with "UnrEnd" => k_dflt (refine' unr_close ?uF ?uN ?uP ?uO ?_; (case uF => assumption); (case uN => assumption); (case uP => first | exact Pull.head | exact Pull.tail Pull.head | exact Pull.tail (Pull.tail Pull.head) | exact Pull.tail (Pull.tail (Pull.tail Pull.head)) | exact Pull.tail (Pull.tail (Pull.tail (Pull.tail Pull.head)))); (case uO => k_all); k_whole)
  k_with "pyIter ref" => k_dflt (k_extra "iter")
  k_with "storeName" => (k_here; k_dflt (refine' storeX_N ?F ?N ?eg ?ed ?eo ?_ ?ka ?kb; (case eg => first | (dsimp only; done) | exact rfl); (case ed => first | (dsimp only; done) | exact rfl); (case eo => first | (dsimp only; done) | exact rfl); (case kb => with_reducible (first | exact lk_script _ _ _ | exact lk_spare _ _ _ | exact lk_drawn _ _ _ | exact lk_numbers _ _ _ | exact lk_draws _ _ _ | exact lk_rows _ _ _ | exact lk_up _ _ _ | exact lk_table _ _ _ | exact lk_row _ _ _ | exact lk_lost _ _ _ | exact lk_added _ _ _)); (case ka => exact lk_fun); (case F => k_asm); (case N => k_asm); k_whole; intro _ _ _))
  k_with "eval Name" => (k_here; k_dflt (first | (refine' nameX_L ?F ?v ?_ ?ka ?kb; (case kb => with_reducible (first | exact lk_script _ _ _ | exact lk_spare _ _ _ | exact lk_drawn _ _ _ | exact lk_numbers _ _ _ | exact lk_draws _ _ _ | exact lk_rows _ _ _ | exact lk_up _ _ _ | exact lk_table _ _ _ | exact lk_row _ _ _ | exact lk_lost _ _ _ | exact lk_added _ _ _)); (case ka => exact lk_fun); (case F => k_asm); (case v => rfl); k_whole) | (refine' nameX_C ?N ?c ?m ?d ?_ ?ka ?kb; (case kb => with_reducible (first | exact lk_bases _ _ _ | exact lk_worths _ _ _ | exact lk_blocks _ _ _ | exact lk_due _ _ _ | exact lk_whole _ _ _)); (case ka => exact lk_fun); (case N => k_asm); (case c => with_reducible (first | exact lc_bases _ | exact lc_worths _ | exact lc_blocks _ | exact lc_due _ | exact lc_whole _)); (case m => k_mem); (case d => k_asm); k_whole) | (refine' nameX_K ?F ?X ?T ?e ?_ ?ka ?kb; (case kb => kernel_rfl); (case ka => exact lk_fun); (case F => k_asm); (case X => k_asm); (case T => k_asm); (case e => k_is); k_whole) | (refine' nameX_B ?F ?X ?T ?e ?v ?n ?_ ?ka ?kb; (case kb => kernel_rfl); (case ka => exact lk_fun); (case F => k_asm); (case X => k_asm); (case T => k_asm); (case e => k_is); (case v => boot_fast); (case n => decide); k_whole)))
  k_with "lkc" => with_reducible (first | exact lk_bases _ _ _ | exact lk_worths _ _ _ | exact lk_blocks _ _ _ | exact lk_due _ _ _ | exact lk_whole _ _ _)
  k_with "lcc" => with_reducible (first | exact lc_bases _ | exact lc_worths _ | exact lc_blocks _ | exact lc_due _ | exact lc_whole _)
  k_with "Ksc" => (refine' storeX_C ?F ?N ?c ?U ?d ?_ ?ka ?kb; (case kb => k_extra "lkc"); (case ka => exact lk_fun); (case F => k_asm); (case N => k_asm); (case c => k_extra "lcc"); (case U => k_updF); (case d => k_asm); k_whole)
  k_with "call type:zip" => (k_here; k_dflt (k_extra "zip"))
  k_with "call ref" => (k_extra "my call")
  k_with "callWith ref" => (k_here; k_dflt (refine' callWith_K ?k1 ?k2 ?_; (case k1 => k_asm); (case k2 => k_is); k_whole))
  k_with "exec Assign" => (k_extra "asg")
  k_with "exec Assign cons ListComp" => (k_extra "asg")
  k_with "eval ListComp" => (k_extra "comp")
  k_with "execs cons" => (k_extra "seq")
  k_with "CompSrc" => (k_extra "src")
  k_with "CompEnd" => (k_extra "cend")
  k_with "compareOp NotEq ref ref" => (k_here; k_dflt (k_extra "ne"))
  k_with "compareOp Eq ref ref" => (k_here; k_dflt (k_extra "eq"))
  k_with "subscriptTail Name Name ref int" => (k_here; (with_reducible show wpAny _ _ (subscriptTail _ _ (Value.ref _) (Value.int _ _)) _ _ _); k_dflt (k_extra "tail"))
  k_with "call builtin:sum" => (k_here; k_dflt (k_extra "sum"))
  k_with "subscriptTail Name Slice ref ref" => (k_here; k_dflt (k_extra "cut"))
  k_with "CompSrcT" => (k_extra "src")
  k_with "decide" => fail
  k_with "comp" => refine stop_intro ?_
  k_with "src" => refine stop_intro ?_
  k_with "cend" => refine stop_intro ?_
  k_with "eq" => refine stop_intro ?_
  k_with "my call" => refine stop_intro ?_
  have up : ∀ q ∈ gen, q ∈ (93, tabObj ps) :: (L + 1, oB) :: (L + 1 + 1, oW) :: (L + 1 + 1 + 1, oK) :: (L + 1 + 1 + 1 + 1, oD) :: (L + 1 + 1 + 1 + 1 + 1, oH) :: gen := fun q hq => by
    repeat (first | exact hq | refine List.mem_cons_of_mem _ ?_)
  have N0 : News base L sh ((93, tabObj ps) :: (L + 1, oB) :: (L + 1 + 1, oW) :: (L + 1 + 1 + 1, oK) :: (L + 1 + 1 + 1 + 1, oD) :: (L + 1 + 1 + 1 + 1 + 1, oH) :: gen) := N
  clear N
  k_steps
  unfold Stop
  refine lineEq N0 (by ktr_units) (up _ hrl) (up _ hul) (hR.sub up) (hU.sub up) leaf_nodup ?_
  k_steps
  unfold Stop
  refine ListComp_T (F₀ := F) (cl := [(Str.ofString "bases", L + 1)]) ?hclos ?hcell ?hkind ?hnames ?hx ?_ ?hs
  case hclos => with_unfolding_all rfl
  case hcell => decide
  case hkind => rfl
  case hnames => decide
  case hx => rfl
  case hs => (intro _; rfl)
  k_steps
  unfold Stop
  have hcsz : kvs.toArray.size = 6 := by rw [List.size_toArray, hA.length, List.length_map]; exact hxs.len
  refine CompSrcT.ledger rfl F N0 (up _ hkl) (by rw [hcsz]; decide) fun g => ?_
  refine compRestT_none (fun i nw => nw = (93, tabObj ps) :: (L + 1, oB) :: (L + 1 + 1, oW) :: (L + 1 + 1 + 1, oK) :: (L + 1 + 1 + 1 + 1, oD) :: (L + 1 + 1 + 1 + 1 + 1, oH) :: gen) ?turn ?done kvs.toArray.size 0 _ (Nat.zero_add _) rfl
  case turn =>
    intro i nw v I oI C oC D m2 h tk E' hi hv J ho hx F' N' off ne
    first | (refine' turn_N ?eg ?ed ?eo ?_; (case eg => first | (dsimp only; done) | exact rfl); (case ed => first | (dsimp only; done) | exact rfl); (case eo => first | (dsimp only; done) | exact rfl)) | refine post_let ?_
    intro qT
    subst J
    rw [List.getElem?_toArray] at hv
    refine Mine.exand1_2 (hA.get hv) fun bx hbx ob19 => ?_
    refine Mine.exand3_4 ob19 fun a2 ws kt ob29 ht2 hI4 hl4 => ?_
    subst ob29
    try clear ob19
    rw [List.getElem?_map] at hbx
    refine Mine.exand1_2 (Option.map_eq_some_iff.mp hbx) fun x hxi ob39 => ?_
    subst ob39
    refine Mine.exand4_1 (ints4 hI4) fun u0 u1 u2 u3 ob49 => ?_
    subst ob49
    have hb0 := bits_up (hxs.bits x (List.mem_of_getElem? hxi)) (show 2200000 ≤ 4194304 by decide)
    have hb1 : intBits (q1 b0 x) ≤ 4194304 := dm_bits (dm_of z0) hb0
    clear N0
    k_steps
    unfold Stop
    k_dflt (refine' divided x (q1 b0 x) (q2 b0 b1 x) (q3 b0 b1 b2 x) b0 b1 b2 u0 u1 u2 u3 t0 t1 t2 a2 bl kt kb z0 hb0 hb1 (bits_up q0 (by decide)) (dm_of z0) _ _ _ _ _ _ _ _ _ base base L _ _ _ _ _ X1 X1 K1 F' N' ?hP1 ?hP2 ?hH T1 T1 C1 C2 ?hk ?hdp ?hu ?_)
    case hP1 => exact .tail _ (.tail _ (.tail _ (up _ ht2)))
    case hP2 => exact .tail _ (.tail _ (.tail _ (up _ hbl)))
    case hH => exact hot.sub fun q hq => .tail _ (.tail _ (.tail _ (up q hq)))
    case hk => exact lk_fun
    case hdp => ktr_room
    case hu => ktr_units
    intro h6 tk6 F6 N6
    k_steps
    unfold Stop
    exact CompEnd.intro F6 N6 _ (fun q hq => hq) off (.inr ⟨_, up _ hkl, rfl, _, rfl⟩) rfl
  case done =>
    intro nw J
    subst J
    unfold FinE
    intro D h tk F' N' o1
    clear N0
    k_steps
    (rename Fr _ _ _ _ => F8)
    (rename News _ _ _ _ => N8)
    unfold Stop
    refine RcW.listEq ⟨_, (N8 _ (.tail _ (.head _))).1, rfl, _, rfl⟩ ⟨_, (N8 _ (.head _)).1, rfl, _, rfl⟩ rfl (by ktr_units) (fun j h1 => absurd h1 (Nat.not_lt_zero _)) _ _ ?_
    k_steps
    exact hQ _ _ _ _ F8 N8 (.tail _ (.tail _ (.head _))) (hot.sub fun q hq => .tail _ (.tail _ (up q hq)))
end
end
example {prog : Program} {w : World} {A : Around} {env : Env} {Q : Flow → Shared → Prop} {E : Value → Shared → Prop} {s : Shared} (h : Q .next s) : wpAny (model prog w) A (execs [] env) Q E s := by
  w_top off
  walk1
  exact h
section
theorem law_holds : PySem.Challenge.rw_ph0128_01.Holds := by
  refine law_entry fun w p loose mean mg mb base L sl fa cd ns svs s c1 c2 c3 c4 c5 Q E A1 F N d1 d2 d3 d4 d5 hb hQ => ?_
  refine seg1 A1 F N d1 d2 d3 d4 d5 ?_
  intro b0 b1 b2 t0 t1 t2 v0 v1 v2 v3 bl wl lsp kb kw oB oW h tk z0 z1 z2 q0 q1' q2' dB dW low F1 N1
  refine seg2 A1 q0 q1' q2' dB dW low F1 N1 ?_
  intro xs ds nvs dvs nl dl kn kd M h tk hxs In Id hds low2 F2 N2
  refine seg3 A1 z0 z1 z2 q0 q1' q2' dB ⟨low.1, low.2, low2.1, low2.2⟩ hxs In F2 N2 ?_
  intro rl rvs kr h tk gen hG hot hrl hR hdl hnl hwl hbl F3 N3
  refine seg4 A1 z0 z1 z2 q0 q1' q2' dB dW d3 hxs In hG hnl hwl hbl F3 N3 ?_
  intro kl kvs kk oK h tk gen4 hG4 s4 hkl hA dK F4 N4
  refine seg5 A1 z0 z1 z2 q0 q1' q2' dB dK d4 hxs hA hG4 hkl (s4 _ hbl) F4 N4 ?_
  intro ul uvs ku oD h tk gen5 hG5 s5 hul hU dD F5 N5
  have s35 : ∀ q ∈ gen, q ∈ gen5 := fun q hq => s5 q (s4 q hq)
  have hA5 := hA.mono fun v a h => BlkV.sub h s5
  refine seg6 A1 z0 z1 z2 dW dK dD hxs Id hds (hR.sub s35) hU hA5 hG5 (s35 _ hrl) hul (s5 _ hkl) (s35 _ hwl) (s35 _ hdl) F5 N5 hb ?_
  intro h tk gs hb6 F6 N6
  refine seg7 A1 z0 z1 z2 q0 q1' q2' dB dW d5 hxs In hG5 (s35 _ hnl) (s35 _ hwl) (s35 _ hbl) F6 N6 ?_
  intro hl u0 u1 u2 u3 kh oH h tk gen7 hG7 s7 hhl dH F7 N7
  have s37 : ∀ q ∈ gen, q ∈ gen7 := fun q hq => s7 q (s35 q hq)
  refine seg8 A1 dK dH hxs (hA5.mono fun v a h => BlkV.sub h s7) hG7 (s7 _ (s5 _ hkl)) hhl F7 N7 ?_
  intro upl p0 p1 p2 kp h tk gen8 hG8 s8 hup F8 N8
  refine seg9 A1 z0 z1 z2 q0 q1' q2' (bits_mul q0 q1') hxs.sum_bits (upK_bits z0 z1 z2 hxs hxs.sum_bits).2.1 dB dW dH hG8 (s8 _ hhl) (s8 _ (s37 _ hwl)) (s8 _ (s37 _ hbl)) hup F8 N8 ?_
  intro tb rw r0 r1 r2 r3 krr h tk gen9 hG9 s9 hTab hrw F9 N9
  have s59 : ∀ q ∈ gen5, q ∈ gen9 := fun q hq => s9 q (s8 q (s7 q hq))
  have s39 : ∀ q ∈ gen, q ∈ gen9 := fun q hq => s59 q (s35 q hq)
  refine seg10 A1 dD hxs (hU.sub s59) hG9 (s59 _ hul) hrw F9 N9 ?_
  intro tlo h tk F10 N10
  refine seg11 A1 z0 z1 z2 q0 q1' q2' dB dW hxs Id hds (hR.sub s39) hG9 (hot.sub s39) GT.nil hTab (s39 _ hrl) (s39 _ hdl) (s39 _ hwl) (s39 _ hbl) hrw F10 N10 hb6 ?_
  intro h tk gs ps hT hb11 F11 N11
  refine seg12 A1 hxs (hR.sub s39) hG9 hT (s39 _ hrl) F11 N11 hb11 ?_
  intro ad h tk gs ps gen12 hT hb12 hG12 s12 hE F12 N12
  have sA : ∀ q ∈ gen, q ∈ gen12 := fun q hq => s12 q (s39 q hq)
  have sB : ∀ q ∈ gen5, q ∈ gen12 := fun q hq => s12 q (s59 q hq)
  refine seg13 A1 hxs dD dH (hU.sub sB) hG12 (sB _ hul) (s12 _ (s9 _ (s8 _ hhl))) hE F12 N12 ?_
  intro h tk F13 N13
  rw [place0, place1, place2, place3, placeS] at hE
  refine seg14 A1 z0 z1 z2 q0 q1' q2' dB dW hxs hE hG12 (hot.sub sA) hT (hTab.sub s12) (sA _ hwl) (sA _ hbl) (s12 _ hrw) F13 N13 hb12 ?_
  intro h tk gs ps hT hb14 F14 N14
  refine seg15 A1 z0 q0 dB dK dD hxs (hR.sub sA) (hU.sub sB) (hA5.mono fun v a h => BlkV.sub h sB) hG12 (hot.sub sA) (sA _ hrl) (sB _ hul) (sB _ (s5 _ hkl)) (sA _ hbl) F14 N14 ?_
  intro h tk m news F15 N15 h93 hot15
  exact hQ h tk _ m news ps F15 N15 h93 hot15 hb14
end
end
end Mine
theorem PySem.Challenge.cw_ph0128_01_holds : PySem.Challenge.rw_ph0128_01.Holds :=
  Mine.law_holds
