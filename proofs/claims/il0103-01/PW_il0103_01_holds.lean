import PyProof.Rows.All
import Wide.All
import OpenK.AllK
import Wide.FinOn
import KE.KStar
import KE.KDictLaws
import KE.KSortAsk
import Lean
import PySem.Challenge.RW_il0103_01
open PySem PySem.W PySem.W.X PyProof.Rows
set_option genInjectivity false
set_option genSizeOf false
set_option genSizeOfSpec false
set_option compiler.extract_closed false
set_option Elab.async false
set_option maxRecDepth 100000
set_option linter.all false
set_option maxHeartbeats 4000000
open PySem.Str renaming ofString → G4
open _root_.List renaming mem_cons_of_mem → H9, length_map → I3, mem_singleton → I7, mem_cons_self → K4, map_append → N6, mem_append_left → O2, mem_map_of_mem → O3, map_cons → O4, mem_append_right → O6, length_cons → R8, getElem?_map → S9, append_assoc → W4, append_nil → X4, getElem?_eq_getElem → Z6, take_add_one → aC, take_length → aD, mem_of_getElem? → aW, nil_append → aX, cons_append → bz, map_nil → bB, length_append → bW, not_mem_nil → cV, size_toArray → dH, flatMap_append → eO, length_take → eQ, map_map → fZ, sum_append → jH, length_nil → lL, mem_append → nH, mem_cons → qC, nodup_cons → qD, mem_map → tQ, getElem?_cons_zero → tR
open _root_.Nat renaming le_refl → K9, zero_le → T3, lt_irrefl → V1, le_trans → W2, lt_of_le_of_lt → qF
open PySem.Heap renaming lt_size → W0, get?_push_of_some → X6, get?_push_size → aN
open _root_.Option.some renaming inj → aO
open _root_.Int renaming natCast_add → cW
namespace Mine
def aS(k:Lean.Name)(s:String):Lean.Syntax:=.node .none `Lean.Parser.Tactic.tacticSeq #[.node .none `Lean.Parser.Tactic.tacticSeq1Indented #[.node .none `null #[.node .none k #[.atom .none s]]]]
def aK:=aS `tacticKernel_rfl "kernel_rfl"
def aR:=aS `Lean.Parser.Tactic.tacticRfl "rfl"
def aA:=aS `Lean.Parser.Tactic.assumption "assumption"
theorem O1 {p0 p1:Prop} {G:Prop} (h:p0∧p1) (f:p0→p1→G):G:=f h.1 h.2
theorem M6 {p0 p1 p2:Prop} {G:Prop} (h:p0∧p1∧p2) (f:p0→p1→p2→G):G:=f h.1 h.2.1 h.2.2
theorem bR {p0 p1 p2 p3:Prop} {G:Prop} (h:p0∧p1∧p2∧p3) (f:p0→p1→p2→p3→G):G:=f h.1 h.2.1 h.2.2.1 h.2.2.2
theorem bY {p0 p1 p2 p3 p4:Prop} {G:Prop} (h:p0∧p1∧p2∧p3∧p4) (f:p0→p1→p2→p3→p4→G):G:=f h.1 h.2.1 h.2.2.1 h.2.2.2.1 h.2.2.2.2
theorem gq {p0 p1 p2 p3 p4 p5:Prop} {G:Prop} (h:p0∧p1∧p2∧p3∧p4∧p5) (f:p0→p1→p2→p3→p4→p5→G):G:=f h.1 h.2.1 h.2.2.1 h.2.2.2.1 h.2.2.2.2.1 h.2.2.2.2.2
theorem E0_9 {p0 p1 p2 p3 p4 p5 p6 p7 p8:Prop} {G:Prop} (h:p0∧p1∧p2∧p3∧p4∧p5∧p6∧p7∧p8) (f:p0→p1→p2→p3→p4→p5→p6→p7→p8→G):G:=f h.1 h.2.1 h.2.2.1 h.2.2.2.1 h.2.2.2.2.1 h.2.2.2.2.2.1 h.2.2.2.2.2.2.1 h.2.2.2.2.2.2.2.1 h.2.2.2.2.2.2.2.2
theorem iy {p0 p1 p2 p3 p4 p5 p6 p7 p8 p9 p10:Prop} {G:Prop} (h:p0∧p1∧p2∧p3∧p4∧p5∧p6∧p7∧p8∧p9∧p10) (f:p0→p1→p2→p3→p4→p5→p6→p7→p8→p9→p10→G):G:=f h.1 h.2.1 h.2.2.1 h.2.2.2.1 h.2.2.2.2.1 h.2.2.2.2.2.1 h.2.2.2.2.2.2.1 h.2.2.2.2.2.2.2.1 h.2.2.2.2.2.2.2.2.1 h.2.2.2.2.2.2.2.2.2.1 h.2.2.2.2.2.2.2.2.2.2
theorem E0_14 {p0 p1 p2 p3 p4 p5 p6 p7 p8 p9 p10 p11 p12 p13:Prop} {G:Prop} (h:p0∧p1∧p2∧p3∧p4∧p5∧p6∧p7∧p8∧p9∧p10∧p11∧p12∧p13) (f:p0→p1→p2→p3→p4→p5→p6→p7→p8→p9→p10→p11→p12→p13→G):G:=f h.1 h.2.1 h.2.2.1 h.2.2.2.1 h.2.2.2.2.1 h.2.2.2.2.2.1 h.2.2.2.2.2.2.1 h.2.2.2.2.2.2.2.1 h.2.2.2.2.2.2.2.2.1 h.2.2.2.2.2.2.2.2.2.1 h.2.2.2.2.2.2.2.2.2.2.1 h.2.2.2.2.2.2.2.2.2.2.2.1 h.2.2.2.2.2.2.2.2.2.2.2.2.1 h.2.2.2.2.2.2.2.2.2.2.2.2.2
theorem U0 {α0:Type} {p0:α0→Prop} {G:Prop} (h:∃ a0,p0 a0) (f:∀ a0,p0 a0→G):G:=h.elim fun a0 h=>f a0 h
theorem G8 {α0:Type} {p0 p1:α0→Prop} {G:Prop} (h:∃ a0,p0 a0∧p1 a0) (f:∀ a0,p0 a0→p1 a0→G):G:=h.elim fun a0 h=>f a0 h.1 h.2
theorem R4 {α0:Type} {p0 p1 p2:α0→Prop} {G:Prop} (h:∃ a0,p0 a0∧p1 a0∧p2 a0) (f:∀ a0,p0 a0→p1 a0→p2 a0→G):G:=h.elim fun a0 h=>f a0 h.1 h.2.1 h.2.2
theorem dw {α0:Type} {p0 p1 p2 p3:α0→Prop} {G:Prop} (h:∃ a0,p0 a0∧p1 a0∧p2 a0∧p3 a0) (f:∀ a0,p0 a0→p1 a0→p2 a0→p3 a0→G):G:=h.elim fun a0 h=>f a0 h.1 h.2.1 h.2.2.1 h.2.2.2
theorem E1_5 {α0:Type} {p0 p1 p2 p3 p4:α0→Prop} {G:Prop} (h:∃ a0,p0 a0∧p1 a0∧p2 a0∧p3 a0∧p4 a0) (f:∀ a0,p0 a0→p1 a0→p2 a0→p3 a0→p4 a0→G):G:=h.elim fun a0 h=>f a0 h.1 h.2.1 h.2.2.1 h.2.2.2.1 h.2.2.2.2
theorem dU {α0:Type} {p0 p1 p2 p3 p4 p5:α0→Prop} {G:Prop} (h:∃ a0,p0 a0∧p1 a0∧p2 a0∧p3 a0∧p4 a0∧p5 a0) (f:∀ a0,p0 a0→p1 a0→p2 a0→p3 a0→p4 a0→p5 a0→G):G:=h.elim fun a0 h=>f a0 h.1 h.2.1 h.2.2.1 h.2.2.2.1 h.2.2.2.2.1 h.2.2.2.2.2
theorem E1_7 {α0:Type} {p0 p1 p2 p3 p4 p5 p6:α0→Prop} {G:Prop} (h:∃ a0,p0 a0∧p1 a0∧p2 a0∧p3 a0∧p4 a0∧p5 a0∧p6 a0) (f:∀ a0,p0 a0→p1 a0→p2 a0→p3 a0→p4 a0→p5 a0→p6 a0→G):G:=h.elim fun a0 h=>f a0 h.1 h.2.1 h.2.2.1 h.2.2.2.1 h.2.2.2.2.1 h.2.2.2.2.2.1 h.2.2.2.2.2.2
theorem E1_8 {α0:Type} {p0 p1 p2 p3 p4 p5 p6 p7:α0→Prop} {G:Prop} (h:∃ a0,p0 a0∧p1 a0∧p2 a0∧p3 a0∧p4 a0∧p5 a0∧p6 a0∧p7 a0) (f:∀ a0,p0 a0→p1 a0→p2 a0→p3 a0→p4 a0→p5 a0→p6 a0→p7 a0→G):G:=h.elim fun a0 h=>f a0 h.1 h.2.1 h.2.2.1 h.2.2.2.1 h.2.2.2.2.1 h.2.2.2.2.2.1 h.2.2.2.2.2.2.1 h.2.2.2.2.2.2.2
theorem dK {α0 α1:Type} {p0:α0→α1→Prop} {G:Prop} (h:∃ a0 a1,p0 a0 a1) (f:∀ a0 a1,p0 a0 a1→G):G:=h.elim fun a0 h=>h.elim fun a1 h=>f a0 a1 h
theorem ao {α0 α1:Type} {p0 p1:α0→α1→Prop} {G:Prop} (h:∃ a0 a1,p0 a0 a1∧p1 a0 a1) (f:∀ a0 a1,p0 a0 a1→p1 a0 a1→G):G:=h.elim fun a0 h=>h.elim fun a1 h=>f a0 a1 h.1 h.2
theorem aV {α0 α1:Type} {p0 p1 p2:α0→α1→Prop} {G:Prop} (h:∃ a0 a1,p0 a0 a1∧p1 a0 a1∧p2 a0 a1) (f:∀ a0 a1,p0 a0 a1→p1 a0 a1→p2 a0 a1→G):G:=h.elim fun a0 h=>h.elim fun a1 h=>f a0 a1 h.1 h.2.1 h.2.2
theorem eN {α0 α1:Type} {p0 p1 p2 p3:α0→α1→Prop} {G:Prop} (h:∃ a0 a1,p0 a0 a1∧p1 a0 a1∧p2 a0 a1∧p3 a0 a1) (f:∀ a0 a1,p0 a0 a1→p1 a0 a1→p2 a0 a1→p3 a0 a1→G):G:=h.elim fun a0 h=>h.elim fun a1 h=>f a0 a1 h.1 h.2.1 h.2.2.1 h.2.2.2
theorem eZ {α0 α1:Type} {p0 p1 p2 p3 p4:α0→α1→Prop} {G:Prop} (h:∃ a0 a1,p0 a0 a1∧p1 a0 a1∧p2 a0 a1∧p3 a0 a1∧p4 a0 a1) (f:∀ a0 a1,p0 a0 a1→p1 a0 a1→p2 a0 a1→p3 a0 a1→p4 a0 a1→G):G:=h.elim fun a0 h=>h.elim fun a1 h=>f a0 a1 h.1 h.2.1 h.2.2.1 h.2.2.2.1 h.2.2.2.2
theorem E2_6 {α0 α1:Type} {p0 p1 p2 p3 p4 p5:α0→α1→Prop} {G:Prop} (h:∃ a0 a1,p0 a0 a1∧p1 a0 a1∧p2 a0 a1∧p3 a0 a1∧p4 a0 a1∧p5 a0 a1) (f:∀ a0 a1,p0 a0 a1→p1 a0 a1→p2 a0 a1→p3 a0 a1→p4 a0 a1→p5 a0 a1→G):G:=h.elim fun a0 h=>h.elim fun a1 h=>f a0 a1 h.1 h.2.1 h.2.2.1 h.2.2.2.1 h.2.2.2.2.1 h.2.2.2.2.2
theorem E2_7 {α0 α1:Type} {p0 p1 p2 p3 p4 p5 p6:α0→α1→Prop} {G:Prop} (h:∃ a0 a1,p0 a0 a1∧p1 a0 a1∧p2 a0 a1∧p3 a0 a1∧p4 a0 a1∧p5 a0 a1∧p6 a0 a1) (f:∀ a0 a1,p0 a0 a1→p1 a0 a1→p2 a0 a1→p3 a0 a1→p4 a0 a1→p5 a0 a1→p6 a0 a1→G):G:=h.elim fun a0 h=>h.elim fun a1 h=>f a0 a1 h.1 h.2.1 h.2.2.1 h.2.2.2.1 h.2.2.2.2.1 h.2.2.2.2.2.1 h.2.2.2.2.2.2
theorem E2_8 {α0 α1:Type} {p0 p1 p2 p3 p4 p5 p6 p7:α0→α1→Prop} {G:Prop} (h:∃ a0 a1,p0 a0 a1∧p1 a0 a1∧p2 a0 a1∧p3 a0 a1∧p4 a0 a1∧p5 a0 a1∧p6 a0 a1∧p7 a0 a1) (f:∀ a0 a1,p0 a0 a1→p1 a0 a1→p2 a0 a1→p3 a0 a1→p4 a0 a1→p5 a0 a1→p6 a0 a1→p7 a0 a1→G):G:=h.elim fun a0 h=>h.elim fun a1 h=>f a0 a1 h.1 h.2.1 h.2.2.1 h.2.2.2.1 h.2.2.2.2.1 h.2.2.2.2.2.1 h.2.2.2.2.2.2.1 h.2.2.2.2.2.2.2
theorem lK {α0 α1 α2:Type} {p0:α0→α1→α2→Prop} {G:Prop} (h:∃ a0 a1 a2,p0 a0 a1 a2) (f:∀ a0 a1 a2,p0 a0 a1 a2→G):G:=h.elim fun a0 h=>h.elim fun a1 h=>h.elim fun a2 h=>f a0 a1 a2 h
theorem R6 {α0 α1 α2:Type} {p0 p1:α0→α1→α2→Prop} {G:Prop} (h:∃ a0 a1 a2,p0 a0 a1 a2∧p1 a0 a1 a2) (f:∀ a0 a1 a2,p0 a0 a1 a2→p1 a0 a1 a2→G):G:=h.elim fun a0 h=>h.elim fun a1 h=>h.elim fun a2 h=>f a0 a1 a2 h.1 h.2
theorem dG {α0 α1 α2:Type} {p0 p1 p2:α0→α1→α2→Prop} {G:Prop} (h:∃ a0 a1 a2,p0 a0 a1 a2∧p1 a0 a1 a2∧p2 a0 a1 a2) (f:∀ a0 a1 a2,p0 a0 a1 a2→p1 a0 a1 a2→p2 a0 a1 a2→G):G:=h.elim fun a0 h=>h.elim fun a1 h=>h.elim fun a2 h=>f a0 a1 a2 h.1 h.2.1 h.2.2
theorem E3_4 {α0 α1 α2:Type} {p0 p1 p2 p3:α0→α1→α2→Prop} {G:Prop} (h:∃ a0 a1 a2,p0 a0 a1 a2∧p1 a0 a1 a2∧p2 a0 a1 a2∧p3 a0 a1 a2) (f:∀ a0 a1 a2,p0 a0 a1 a2→p1 a0 a1 a2→p2 a0 a1 a2→p3 a0 a1 a2→G):G:=h.elim fun a0 h=>h.elim fun a1 h=>h.elim fun a2 h=>f a0 a1 a2 h.1 h.2.1 h.2.2.1 h.2.2.2
theorem E3_5 {α0 α1 α2:Type} {p0 p1 p2 p3 p4:α0→α1→α2→Prop} {G:Prop} (h:∃ a0 a1 a2,p0 a0 a1 a2∧p1 a0 a1 a2∧p2 a0 a1 a2∧p3 a0 a1 a2∧p4 a0 a1 a2) (f:∀ a0 a1 a2,p0 a0 a1 a2→p1 a0 a1 a2→p2 a0 a1 a2→p3 a0 a1 a2→p4 a0 a1 a2→G):G:=h.elim fun a0 h=>h.elim fun a1 h=>h.elim fun a2 h=>f a0 a1 a2 h.1 h.2.1 h.2.2.1 h.2.2.2.1 h.2.2.2.2
theorem fW {α0 α1 α2:Type} {p0 p1 p2 p3 p4 p5:α0→α1→α2→Prop} {G:Prop} (h:∃ a0 a1 a2,p0 a0 a1 a2∧p1 a0 a1 a2∧p2 a0 a1 a2∧p3 a0 a1 a2∧p4 a0 a1 a2∧p5 a0 a1 a2) (f:∀ a0 a1 a2,p0 a0 a1 a2→p1 a0 a1 a2→p2 a0 a1 a2→p3 a0 a1 a2→p4 a0 a1 a2→p5 a0 a1 a2→G):G:=h.elim fun a0 h=>h.elim fun a1 h=>h.elim fun a2 h=>f a0 a1 a2 h.1 h.2.1 h.2.2.1 h.2.2.2.1 h.2.2.2.2.1 h.2.2.2.2.2
theorem E3_8 {α0 α1 α2:Type} {p0 p1 p2 p3 p4 p5 p6 p7:α0→α1→α2→Prop} {G:Prop} (h:∃ a0 a1 a2,p0 a0 a1 a2∧p1 a0 a1 a2∧p2 a0 a1 a2∧p3 a0 a1 a2∧p4 a0 a1 a2∧p5 a0 a1 a2∧p6 a0 a1 a2∧p7 a0 a1 a2) (f:∀ a0 a1 a2,p0 a0 a1 a2→p1 a0 a1 a2→p2 a0 a1 a2→p3 a0 a1 a2→p4 a0 a1 a2→p5 a0 a1 a2→p6 a0 a1 a2→p7 a0 a1 a2→G):G:=h.elim fun a0 h=>h.elim fun a1 h=>h.elim fun a2 h=>f a0 a1 a2 h.1 h.2.1 h.2.2.1 h.2.2.2.1 h.2.2.2.2.1 h.2.2.2.2.2.1 h.2.2.2.2.2.2.1 h.2.2.2.2.2.2.2
theorem E4_2 {α0 α1 α2 α3:Type} {p0 p1:α0→α1→α2→α3→Prop} {G:Prop} (h:∃ a0 a1 a2 a3,p0 a0 a1 a2 a3∧p1 a0 a1 a2 a3) (f:∀ a0 a1 a2 a3,p0 a0 a1 a2 a3→p1 a0 a1 a2 a3→G):G:=h.elim fun a0 h=>h.elim fun a1 h=>h.elim fun a2 h=>h.elim fun a3 h=>f a0 a1 a2 a3 h.1 h.2
theorem E4_3 {α0 α1 α2 α3:Type} {p0 p1 p2:α0→α1→α2→α3→Prop} {G:Prop} (h:∃ a0 a1 a2 a3,p0 a0 a1 a2 a3∧p1 a0 a1 a2 a3∧p2 a0 a1 a2 a3) (f:∀ a0 a1 a2 a3,p0 a0 a1 a2 a3→p1 a0 a1 a2 a3→p2 a0 a1 a2 a3→G):G:=h.elim fun a0 h=>h.elim fun a1 h=>h.elim fun a2 h=>h.elim fun a3 h=>f a0 a1 a2 a3 h.1 h.2.1 h.2.2
theorem E4_4 {α0 α1 α2 α3:Type} {p0 p1 p2 p3:α0→α1→α2→α3→Prop} {G:Prop} (h:∃ a0 a1 a2 a3,p0 a0 a1 a2 a3∧p1 a0 a1 a2 a3∧p2 a0 a1 a2 a3∧p3 a0 a1 a2 a3) (f:∀ a0 a1 a2 a3,p0 a0 a1 a2 a3→p1 a0 a1 a2 a3→p2 a0 a1 a2 a3→p3 a0 a1 a2 a3→G):G:=h.elim fun a0 h=>h.elim fun a1 h=>h.elim fun a2 h=>h.elim fun a3 h=>f a0 a1 a2 a3 h.1 h.2.1 h.2.2.1 h.2.2.2
theorem E4_8 {α0 α1 α2 α3:Type} {p0 p1 p2 p3 p4 p5 p6 p7:α0→α1→α2→α3→Prop} {G:Prop} (h:∃ a0 a1 a2 a3,p0 a0 a1 a2 a3∧p1 a0 a1 a2 a3∧p2 a0 a1 a2 a3∧p3 a0 a1 a2 a3∧p4 a0 a1 a2 a3∧p5 a0 a1 a2 a3∧p6 a0 a1 a2 a3∧p7 a0 a1 a2 a3) (f:∀ a0 a1 a2 a3,p0 a0 a1 a2 a3→p1 a0 a1 a2 a3→p2 a0 a1 a2 a3→p3 a0 a1 a2 a3→p4 a0 a1 a2 a3→p5 a0 a1 a2 a3→p6 a0 a1 a2 a3→p7 a0 a1 a2 a3→G):G:=h.elim fun a0 h=>h.elim fun a1 h=>h.elim fun a2 h=>h.elim fun a3 h=>f a0 a1 a2 a3 h.1 h.2.1 h.2.2.1 h.2.2.2.1 h.2.2.2.2.1 h.2.2.2.2.2.1 h.2.2.2.2.2.2.1 h.2.2.2.2.2.2.2
theorem E4_9 {α0 α1 α2 α3:Type} {p0 p1 p2 p3 p4 p5 p6 p7 p8:α0→α1→α2→α3→Prop} {G:Prop} (h:∃ a0 a1 a2 a3,p0 a0 a1 a2 a3∧p1 a0 a1 a2 a3∧p2 a0 a1 a2 a3∧p3 a0 a1 a2 a3∧p4 a0 a1 a2 a3∧p5 a0 a1 a2 a3∧p6 a0 a1 a2 a3∧p7 a0 a1 a2 a3∧p8 a0 a1 a2 a3) (f:∀ a0 a1 a2 a3,p0 a0 a1 a2 a3→p1 a0 a1 a2 a3→p2 a0 a1 a2 a3→p3 a0 a1 a2 a3→p4 a0 a1 a2 a3→p5 a0 a1 a2 a3→p6 a0 a1 a2 a3→p7 a0 a1 a2 a3→p8 a0 a1 a2 a3→G):G:=h.elim fun a0 h=>h.elim fun a1 h=>h.elim fun a2 h=>h.elim fun a3 h=>f a0 a1 a2 a3 h.1 h.2.1 h.2.2.1 h.2.2.2.1 h.2.2.2.2.1 h.2.2.2.2.2.1 h.2.2.2.2.2.2.1 h.2.2.2.2.2.2.2.1 h.2.2.2.2.2.2.2.2
theorem E5_6 {α0 α1 α2 α3 α4:Type} {p0 p1 p2 p3 p4 p5:α0→α1→α2→α3→α4→Prop} {G:Prop} (h:∃ a0 a1 a2 a3 a4,p0 a0 a1 a2 a3 a4∧p1 a0 a1 a2 a3 a4∧p2 a0 a1 a2 a3 a4∧p3 a0 a1 a2 a3 a4∧p4 a0 a1 a2 a3 a4∧p5 a0 a1 a2 a3 a4) (f:∀ a0 a1 a2 a3 a4,p0 a0 a1 a2 a3 a4→p1 a0 a1 a2 a3 a4→p2 a0 a1 a2 a3 a4→p3 a0 a1 a2 a3 a4→p4 a0 a1 a2 a3 a4→p5 a0 a1 a2 a3 a4→G):G:=h.elim fun a0 h=>h.elim fun a1 h=>h.elim fun a2 h=>h.elim fun a3 h=>h.elim fun a4 h=>f a0 a1 a2 a3 a4 h.1 h.2.1 h.2.2.1 h.2.2.2.1 h.2.2.2.2.1 h.2.2.2.2.2
theorem E6_3 {α0 α1 α2 α3 α4 α5:Type} {p0 p1 p2:α0→α1→α2→α3→α4→α5→Prop} {G:Prop} (h:∃ a0 a1 a2 a3 a4 a5,p0 a0 a1 a2 a3 a4 a5∧p1 a0 a1 a2 a3 a4 a5∧p2 a0 a1 a2 a3 a4 a5) (f:∀ a0 a1 a2 a3 a4 a5,p0 a0 a1 a2 a3 a4 a5→p1 a0 a1 a2 a3 a4 a5→p2 a0 a1 a2 a3 a4 a5→G):G:=h.elim fun a0 h=>h.elim fun a1 h=>h.elim fun a2 h=>h.elim fun a3 h=>h.elim fun a4 h=>h.elim fun a5 h=>f a0 a1 a2 a3 a4 a5 h.1 h.2.1 h.2.2
theorem E6_5 {α0 α1 α2 α3 α4 α5:Type} {p0 p1 p2 p3 p4:α0→α1→α2→α3→α4→α5→Prop} {G:Prop} (h:∃ a0 a1 a2 a3 a4 a5,p0 a0 a1 a2 a3 a4 a5∧p1 a0 a1 a2 a3 a4 a5∧p2 a0 a1 a2 a3 a4 a5∧p3 a0 a1 a2 a3 a4 a5∧p4 a0 a1 a2 a3 a4 a5) (f:∀ a0 a1 a2 a3 a4 a5,p0 a0 a1 a2 a3 a4 a5→p1 a0 a1 a2 a3 a4 a5→p2 a0 a1 a2 a3 a4 a5→p3 a0 a1 a2 a3 a4 a5→p4 a0 a1 a2 a3 a4 a5→G):G:=h.elim fun a0 h=>h.elim fun a1 h=>h.elim fun a2 h=>h.elim fun a3 h=>h.elim fun a4 h=>h.elim fun a5 h=>f a0 a1 a2 a3 a4 a5 h.1 h.2.1 h.2.2.1 h.2.2.2.1 h.2.2.2.2
theorem E6_6 {α0 α1 α2 α3 α4 α5:Type} {p0 p1 p2 p3 p4 p5:α0→α1→α2→α3→α4→α5→Prop} {G:Prop} (h:∃ a0 a1 a2 a3 a4 a5,p0 a0 a1 a2 a3 a4 a5∧p1 a0 a1 a2 a3 a4 a5∧p2 a0 a1 a2 a3 a4 a5∧p3 a0 a1 a2 a3 a4 a5∧p4 a0 a1 a2 a3 a4 a5∧p5 a0 a1 a2 a3 a4 a5) (f:∀ a0 a1 a2 a3 a4 a5,p0 a0 a1 a2 a3 a4 a5→p1 a0 a1 a2 a3 a4 a5→p2 a0 a1 a2 a3 a4 a5→p3 a0 a1 a2 a3 a4 a5→p4 a0 a1 a2 a3 a4 a5→p5 a0 a1 a2 a3 a4 a5→G):G:=h.elim fun a0 h=>h.elim fun a1 h=>h.elim fun a2 h=>h.elim fun a3 h=>h.elim fun a4 h=>h.elim fun a5 h=>f a0 a1 a2 a3 a4 a5 h.1 h.2.1 h.2.2.1 h.2.2.2.1 h.2.2.2.2.1 h.2.2.2.2.2
theorem E6_7 {α0 α1 α2 α3 α4 α5:Type} {p0 p1 p2 p3 p4 p5 p6:α0→α1→α2→α3→α4→α5→Prop} {G:Prop} (h:∃ a0 a1 a2 a3 a4 a5,p0 a0 a1 a2 a3 a4 a5∧p1 a0 a1 a2 a3 a4 a5∧p2 a0 a1 a2 a3 a4 a5∧p3 a0 a1 a2 a3 a4 a5∧p4 a0 a1 a2 a3 a4 a5∧p5 a0 a1 a2 a3 a4 a5∧p6 a0 a1 a2 a3 a4 a5) (f:∀ a0 a1 a2 a3 a4 a5,p0 a0 a1 a2 a3 a4 a5→p1 a0 a1 a2 a3 a4 a5→p2 a0 a1 a2 a3 a4 a5→p3 a0 a1 a2 a3 a4 a5→p4 a0 a1 a2 a3 a4 a5→p5 a0 a1 a2 a3 a4 a5→p6 a0 a1 a2 a3 a4 a5→G):G:=h.elim fun a0 h=>h.elim fun a1 h=>h.elim fun a2 h=>h.elim fun a3 h=>h.elim fun a4 h=>h.elim fun a5 h=>f a0 a1 a2 a3 a4 a5 h.1 h.2.1 h.2.2.1 h.2.2.2.1 h.2.2.2.2.1 h.2.2.2.2.2.1 h.2.2.2.2.2.2
theorem qT {α0 α1 α2 α3 α4 α5:Type} {p0 p1 p2 p3 p4 p5 p6 p7 p8 p9:α0→α1→α2→α3→α4→α5→Prop} {G:Prop} (h:∃ a0 a1 a2 a3 a4 a5,p0 a0 a1 a2 a3 a4 a5∧p1 a0 a1 a2 a3 a4 a5∧p2 a0 a1 a2 a3 a4 a5∧p3 a0 a1 a2 a3 a4 a5∧p4 a0 a1 a2 a3 a4 a5∧p5 a0 a1 a2 a3 a4 a5∧p6 a0 a1 a2 a3 a4 a5∧p7 a0 a1 a2 a3 a4 a5∧p8 a0 a1 a2 a3 a4 a5∧p9 a0 a1 a2 a3 a4 a5) (f:∀ a0 a1 a2 a3 a4 a5,p0 a0 a1 a2 a3 a4 a5→p1 a0 a1 a2 a3 a4 a5→p2 a0 a1 a2 a3 a4 a5→p3 a0 a1 a2 a3 a4 a5→p4 a0 a1 a2 a3 a4 a5→p5 a0 a1 a2 a3 a4 a5→p6 a0 a1 a2 a3 a4 a5→p7 a0 a1 a2 a3 a4 a5→p8 a0 a1 a2 a3 a4 a5→p9 a0 a1 a2 a3 a4 a5→G):G:=h.elim fun a0 h=>h.elim fun a1 h=>h.elim fun a2 h=>h.elim fun a3 h=>h.elim fun a4 h=>h.elim fun a5 h=>f a0 a1 a2 a3 a4 a5 h.1 h.2.1 h.2.2.1 h.2.2.2.1 h.2.2.2.2.1 h.2.2.2.2.2.1 h.2.2.2.2.2.2.1 h.2.2.2.2.2.2.2.1 h.2.2.2.2.2.2.2.2.1 h.2.2.2.2.2.2.2.2.2
theorem E7_4 {α0 α1 α2 α3 α4 α5 α6:Type} {p0 p1 p2 p3:α0→α1→α2→α3→α4→α5→α6→Prop} {G:Prop} (h:∃ a0 a1 a2 a3 a4 a5 a6,p0 a0 a1 a2 a3 a4 a5 a6∧p1 a0 a1 a2 a3 a4 a5 a6∧p2 a0 a1 a2 a3 a4 a5 a6∧p3 a0 a1 a2 a3 a4 a5 a6) (f:∀ a0 a1 a2 a3 a4 a5 a6,p0 a0 a1 a2 a3 a4 a5 a6→p1 a0 a1 a2 a3 a4 a5 a6→p2 a0 a1 a2 a3 a4 a5 a6→p3 a0 a1 a2 a3 a4 a5 a6→G):G:=h.elim fun a0 h=>h.elim fun a1 h=>h.elim fun a2 h=>h.elim fun a3 h=>h.elim fun a4 h=>h.elim fun a5 h=>h.elim fun a6 h=>f a0 a1 a2 a3 a4 a5 a6 h.1 h.2.1 h.2.2.1 h.2.2.2
theorem E8_4 {α0 α1 α2 α3 α4 α5 α6 α7:Type} {p0 p1 p2 p3:α0→α1→α2→α3→α4→α5→α6→α7→Prop} {G:Prop} (h:∃ a0 a1 a2 a3 a4 a5 a6 a7,p0 a0 a1 a2 a3 a4 a5 a6 a7∧p1 a0 a1 a2 a3 a4 a5 a6 a7∧p2 a0 a1 a2 a3 a4 a5 a6 a7∧p3 a0 a1 a2 a3 a4 a5 a6 a7) (f:∀ a0 a1 a2 a3 a4 a5 a6 a7,p0 a0 a1 a2 a3 a4 a5 a6 a7→p1 a0 a1 a2 a3 a4 a5 a6 a7→p2 a0 a1 a2 a3 a4 a5 a6 a7→p3 a0 a1 a2 a3 a4 a5 a6 a7→G):G:=h.elim fun a0 h=>h.elim fun a1 h=>h.elim fun a2 h=>h.elim fun a3 h=>h.elim fun a4 h=>h.elim fun a5 h=>h.elim fun a6 h=>h.elim fun a7 h=>f a0 a1 a2 a3 a4 a5 a6 a7 h.1 h.2.1 h.2.2.1 h.2.2.2
theorem E8_5 {α0 α1 α2 α3 α4 α5 α6 α7:Type} {p0 p1 p2 p3 p4:α0→α1→α2→α3→α4→α5→α6→α7→Prop} {G:Prop} (h:∃ a0 a1 a2 a3 a4 a5 a6 a7,p0 a0 a1 a2 a3 a4 a5 a6 a7∧p1 a0 a1 a2 a3 a4 a5 a6 a7∧p2 a0 a1 a2 a3 a4 a5 a6 a7∧p3 a0 a1 a2 a3 a4 a5 a6 a7∧p4 a0 a1 a2 a3 a4 a5 a6 a7) (f:∀ a0 a1 a2 a3 a4 a5 a6 a7,p0 a0 a1 a2 a3 a4 a5 a6 a7→p1 a0 a1 a2 a3 a4 a5 a6 a7→p2 a0 a1 a2 a3 a4 a5 a6 a7→p3 a0 a1 a2 a3 a4 a5 a6 a7→p4 a0 a1 a2 a3 a4 a5 a6 a7→G):G:=h.elim fun a0 h=>h.elim fun a1 h=>h.elim fun a2 h=>h.elim fun a3 h=>h.elim fun a4 h=>h.elim fun a5 h=>h.elim fun a6 h=>h.elim fun a7 h=>f a0 a1 a2 a3 a4 a5 a6 a7 h.1 h.2.1 h.2.2.1 h.2.2.2.1 h.2.2.2.2
theorem E10_10 {α0 α1 α2 α3 α4 α5 α6 α7 α8 α9:Type} {p0 p1 p2 p3 p4 p5 p6 p7 p8 p9:α0→α1→α2→α3→α4→α5→α6→α7→α8→α9→Prop} {G:Prop} (h:∃ a0 a1 a2 a3 a4 a5 a6 a7 a8 a9,p0 a0 a1 a2 a3 a4 a5 a6 a7 a8 a9∧p1 a0 a1 a2 a3 a4 a5 a6 a7 a8 a9∧p2 a0 a1 a2 a3 a4 a5 a6 a7 a8 a9∧p3 a0 a1 a2 a3 a4 a5 a6 a7 a8 a9∧p4 a0 a1 a2 a3 a4 a5 a6 a7 a8 a9∧p5 a0 a1 a2 a3 a4 a5 a6 a7 a8 a9∧p6 a0 a1 a2 a3 a4 a5 a6 a7 a8 a9∧p7 a0 a1 a2 a3 a4 a5 a6 a7 a8 a9∧p8 a0 a1 a2 a3 a4 a5 a6 a7 a8 a9∧p9 a0 a1 a2 a3 a4 a5 a6 a7 a8 a9) (f:∀ a0 a1 a2 a3 a4 a5 a6 a7 a8 a9,p0 a0 a1 a2 a3 a4 a5 a6 a7 a8 a9→p1 a0 a1 a2 a3 a4 a5 a6 a7 a8 a9→p2 a0 a1 a2 a3 a4 a5 a6 a7 a8 a9→p3 a0 a1 a2 a3 a4 a5 a6 a7 a8 a9→p4 a0 a1 a2 a3 a4 a5 a6 a7 a8 a9→p5 a0 a1 a2 a3 a4 a5 a6 a7 a8 a9→p6 a0 a1 a2 a3 a4 a5 a6 a7 a8 a9→p7 a0 a1 a2 a3 a4 a5 a6 a7 a8 a9→p8 a0 a1 a2 a3 a4 a5 a6 a7 a8 a9→p9 a0 a1 a2 a3 a4 a5 a6 a7 a8 a9→G):G:=h.elim fun a0 h=>h.elim fun a1 h=>h.elim fun a2 h=>h.elim fun a3 h=>h.elim fun a4 h=>h.elim fun a5 h=>h.elim fun a6 h=>h.elim fun a7 h=>h.elim fun a8 h=>h.elim fun a9 h=>f a0 a1 a2 a3 a4 a5 a6 a7 a8 a9 h.1 h.2.1 h.2.2.1 h.2.2.2.1 h.2.2.2.2.1 h.2.2.2.2.2.1 h.2.2.2.2.2.2.1 h.2.2.2.2.2.2.2.1 h.2.2.2.2.2.2.2.2.1 h.2.2.2.2.2.2.2.2.2
noncomputable abbrev pw:Program:=PySem.Challenge.pw_il0103_01
noncomputable def anyF {α:Type} (as:Array α) (p:α→Bool) (start stop:Nat):Bool :=
 if start=0∧stop=as.size then as.toList.any p else as.any p start stop
theorem wD:@Array.any.{0}=@anyF:=by
 funext α as p start stop;unfold anyF;split
 ·rename_i h;obtain ⟨rfl,rfl⟩:=h;simp
 ·rfl
noncomputable def oU:Builtin:=by
 refine' (?g:∀ f:Builtin,PySem.W.Fast.tw4202317264376624991=f→Builtin) _ ?p
 case g=>exact fun f _=>f
 case p =>
  delta PySem.W.Fast.tw4202317264376624991;rw [wD]
theorem Dd:PySem.W.Fast.tw4202317264376624991=oU:=by
 delta PySem.W.Fast.tw4202317264376624991 oU;rw [wD]
noncomputable def tb:String→Option Builtin:=fun id =>
 match Nat.beq (PySem.W.Fast.tw13482112738370960269 id) 29827186395103491166823348853 with
 | true=>some oU
 | false=>PySem.W.Fast.tw14364793385576792824 id
theorem Bs {id:String} (h:PySem.code id=PySem.code "type.__new__"):PySem.treeTable id=PySem.treeTable "type.__new__":=by
 show entriesT.find (PySem.code id)=entriesT.find (PySem.code "type.__new__");rw [h]
theorem oX:PySem.treeTable=tb:=by
 funext id;unfold tb;rw [← PySem.W.Fast.te13482112738370960269,← PySem.W.Fast.te14364793385576792824];cases h:Nat.beq (PySem.code id) 29827186395103491166823348853 with
 | false=>rfl
 | true =>
  have e:PySem.code "type.__new__"=29827186395103491166823348853:=by kernel_rfl
  have:=Bs ((Nat.eq_of_beq_eq_true h).trans e.symm);show PySem.treeTable id=some oU;rw [this,← Dd,← PySem.W.Fast.te4202317264376624991];kernel_rfl
noncomputable def noSt:Stmt:=.Pass ⟨0,0,0,0⟩
noncomputable def st (i:Nat):Stmt:=pw.main.body.getD i noSt
noncomputable def dA:Arguments:={ posonlyargs:=[],args:=[],vararg:=none,kwonlyargs:=[],kw_defaults:=[],kwarg:=none,defaults:=[] }
noncomputable def pt:Stmt→List Stmt×Arguments×Option Scope×(List Stmt→Stmt)
 | .FunctionDef _ a b _ _ _ s _ _ _=>(b,a,some s,fun _=>noSt)
 | .ClassDef a b c d e f g h i j l=>(d,dA,none,fun d=>.ClassDef a b c d e f g h i j l)
 | _=>([],dA,none,fun _=>noSt)
noncomputable def gh (s:Stmt):List Stmt:=(pt s).1
noncomputable def mt (i j:Nat):Stmt:=(gh (st i)).getD j noSt
noncomputable def fnB (s:Stmt):List Stmt:=(pt s).1
noncomputable def fnP (s:Stmt):Arguments:=(pt s).2.1
noncomputable def fnS (s:Stmt):Scope:=(pt s).2.2.1.getD { kind:=.function,names:=[],isGenerator:=false,isCoroutine:=false,more:=[] }
noncomputable def Q6 (l:List Stmt):Str:=(docOf l).getD ⟨#[]⟩
noncomputable def docL:{ l:List Char // Q6 (gh (st 11))=⟨(l.map Char.toNat).toArray⟩ }:=⟨_,PySem.W.Fast.ofString_ofList _⟩
noncomputable def jM:Str:=⟨(docL.1.map Char.toNat).toArray⟩
noncomputable def posD:Pos:=⟨249,4,321,7⟩
noncomputable def nZ (D:Str) (s:Stmt):Stmt:=(pt s).2.2.2 (.Expr (.Constant (.str D) 0 posD) posD::(pt s).1.tail)
theorem st11:st 11=nZ jM (st 11):=by
 have e:st 11=nZ (Q6 (gh (st 11))) (st 11):=by kernel_rfl
 have h:Q6 (gh (st 11))=jM:=docL.2;rw [h] at e;exact e
noncomputable def de (P:Params) (x:Str) (t:Nat) (v:Value):DictEntry:=⟨PyData.keyHash P x,.str x t,v⟩
noncomputable abbrev f0 (a b:Str) (s:Stmt):Obj:=⟨.none,none,(.func { name:=a,qualname:=b,params:=fnP s,body:=.stmts (fnB s),scope:=fnS s,globals:=0,closure:=[],defaults:=.none,kwdefaults:=.none,doc:=.none,pyModule:=.none,annotations:=none,code:=.none,closureTuple:=.none,builtins:=0 }),#[]⟩
noncomputable abbrev f1 (a b:Str) (s:Stmt) (df doc pm code:Value):Obj:=⟨.type "function",none,(.func { name:=a,qualname:=b,params:=fnP s,body:=.stmts (fnB s),scope:=fnS s,globals:=3,closure:=[],defaults:=df,kwdefaults:=.none,doc:=doc,pyModule:=pm,annotations:=none,code:=code,closureTuple:=.none,builtins:=0 }),#[]⟩
noncomputable abbrev tu (a:Array Value):Obj:=⟨.type "tuple",none,.seq a 0,#[]⟩
noncomputable abbrev e0:Obj:=⟨.none,none,.fields #[],#[]⟩
noncomputable abbrev ob (c:Value) (d:Option Addr) (x:Data) (l:Array (Option Value)):Obj:=⟨c,d,x,l⟩
noncomputable section
noncomputable abbrev zs (s:String):Str:=G4 s
def z1:Str:=zs "/claim/cut.py"
noncomputable def ck (a b:Str) (t L n m f r u:Nat) (x y z:Value):Obj:=ob (.type "code") none (.fields #[.str a t,.str b (t+1),.str z1 (t+2),.int L 0,.int n 0,.int m 0,.int 0 0,.int f 0,.ref r,.bool (!Nat.beq f 0),.int 181 0,.ref (r+1),.none,x,y,z,.int u 0,.int L 0,.str z1 (u+1)]) #[]
noncomputable def vs (l:List Str):Nat→List Value:=List.rec (fun _=>[]) (fun x _ ih t=>.str x t::ih (t+1)) l
noncomputable def tn (l:List Str) (t:Nat):Obj:=tu ⟨vs l t⟩
noncomputable abbrev tu0:Obj:=tu #[]
noncomputable def fr (a b c:Nat) (s:Str) (t d:Nat):Obj:=ob (.type "frame") none .plain #[some (.ref a),some (.ref b),some (.ref c),none,some (.str s t),none,some (.ref d)]
noncomputable def bf (s:String) (v:Value):Obj:=ob (.type "builtin_function_or_method") none (.fields #[.builtin s,v]) #[]
noncomputable def su (a:Nat):Obj:=ob (.type "super") none (.fields #[.ref a,.ref a,.ref a]) #[]
def z4:Str:=zs "cpy313.graphlib"
def z5:Str:=zs "__doc__"
def z9:Str:=zs "__annotations__"
def z10:Str:=zs "__builtins__"
def z13:Str:=zs "_wall"
def z16:Str:=zs "_NodeInfo"
def z17:Str:=zs "CycleError"
def z18:Str:=zs "TopologicalSorter"
def z20:Str:=zs "__module__"
def z21:Str:=zs "__qualname__"
def z22:Str:=zs "__firstlineno__"
def z24:Str:=zs "__init__"
def z25:Str:=zs "__static_attributes__"
def z26:Str:=zs "node"
def z27:Str:=zs "npredecessors"
def z28:Str:=zs "successors"
def z29:Str:=zs "self"
def z31:Str:=zs "__weakref__"
def z32:Str:=zs "_get_nodeinfo"
def z40:Str:=zs "static_order"
def z45:Str:=zs "TopologicalSorter._get_nodeinfo"
def z52:Str:=zs "TopologicalSorter.get_ready"
def z53:Str:=zs "TopologicalSorter.is_active"
def z64:Str:=zs "TopologicalSorter._find_cycle"
def z65:Str:=zs "TopologicalSorter.static_order"
def z71:Str:=zs "cpy313.difflib"
def z72:Str:=zs "_tuplegetter"
def z76:Str:=zs "index"
def z85:Str:=zs "Match"
def z95:Str:=zs "__getnewargs__"
def gM:Str:=zs "_calculate_ratio"
def fY:Str:=zs "SequenceMatcher"
def kh:Str:=zs "find_longest_match"
def kj:Str:=zs "get_matching_blocks"
def z127:Str:=zs "get_grouped_opcodes"
def z130:Str:=zs "real_quick_ratio"
def z162:Str:=zs "SequenceMatcher.find_longest_match"
def z175:Str:=zs "SequenceMatcher.get_matching_blocks"
def z180:Str:=zs "SequenceMatcher.get_opcodes"
def z181:Str:=zs "SequenceMatcher.get_grouped_opcodes"
def z183:Str:=zs "SequenceMatcher.quick_ratio"
def z184:Str:=zs "SequenceMatcher.real_quick_ratio"
def bM:Str:=zs "law_il0103_01"
def jh:Str:=zs "_plain_name"
def gF:Str:=zs "ABCMeta"
def gf:Str:=zs "_ABCLike"
def iR:Str:=zs "_abc_plain_meta"
def iZ:Str:=zs "_check_arg_types"
def fQ:Str:=zs "_get_sep"
def fG:Str:=zs "splitroot"
def fU:Str:=zs "normpath"
def eY:Str:=zs "_law_read"
def fD:Str:=zs "_law_codes"
def fH:Str:=zs "_law_lets"
def fK:Str:=zs "_law_waiting"
def eU:Str:=zs "_law_orders"
def fM:Str:=zs "_law_pascal"
def dI:Str:=zs "register"
def iG:Str:=zs "collections.abc"
def z215:Str:=zs "__instancecheck__"
def z216:Str:=zs "__subclasscheck__"
def o12a:Obj:=e0
def o3p6 (P:Params):Obj:=ob (.type "dict") none (.dict #[(de P (zs "__name__") 165 (.str z4 194)),(de P z5 166 .none),(de P (zs "__package__") 167 .none),(de P (zs "__loader__") 168 (.builtin "__main__.__loader__#opaque")),(de P (zs "__spec__") 169 .none),(de P z9 170 (.ref 6)),(de P z10 171 (.ref 4)),(de P (zs "__file__") 173 (.str z1 172)),(de P (zs "__cached__") 174 .none),(de P z13 193 (.ref 21)),(de P (zs "_NODE_OUT") 198 (.int (-1) 197)),(de P (zs "_NODE_DONE") 201 (.int (-2) 200)),(de P z16 238 (.ref 40)),(de P z17 258 (.ref 55)),(de P z18 384 (.ref 137))] 15) #[]
def o12p6:Obj:=ob .none none (.fields #[.int 1 0,.int 0 0,.ref 20,.int 7 0,.int 0 0,.ref 27,.int 14 0,.int 0 0,.ref 51,.int 26 0,.int 0 0,.ref 64]) #[]
def o3p8 (P:Params):Obj:=ob (.type "dict") none (.dict #[(de P (zs "__name__") 165 (.str z71 385)),(de P z5 166 .none),(de P (zs "__package__") 167 .none),(de P (zs "__loader__") 168 (.builtin "__main__.__loader__#opaque")),(de P (zs "__spec__") 169 .none),(de P z9 170 (.ref 6)),(de P z10 171 (.ref 4)),(de P (zs "__file__") 173 (.str z1 172)),(de P (zs "__cached__") 174 .none),(de P z13 193 (.ref 21)),(de P (zs "_NODE_OUT") 198 (.int (-1) 197)),(de P (zs "_NODE_DONE") 201 (.int (-2) 200)),(de P z16 238 (.ref 40)),(de P z17 258 (.ref 55)),(de P z18 384 (.ref 137)),(de P z72 443 (.ref 180))] 16) #[]
def o12p8:Obj:=ob .none none (.fields #[.int 1 0,.int 0 0,.ref 20,.int 7 0,.int 0 0,.ref 27,.int 14 0,.int 0 0,.ref 51,.int 26 0,.int 0 0,.ref 64,.int 183 0,.int 0 0,.ref 147]) #[]
def o3p9 (P:Params):Obj:=ob (.type "dict") none (.dict #[(de P (zs "__name__") 165 (.str z71 385)),(de P z5 166 .none),(de P (zs "__package__") 167 .none),(de P (zs "__loader__") 168 (.builtin "__main__.__loader__#opaque")),(de P (zs "__spec__") 169 .none),(de P z9 170 (.ref 6)),(de P z10 171 (.ref 4)),(de P (zs "__file__") 173 (.str z1 172)),(de P (zs "__cached__") 174 .none),(de P z13 193 (.ref 21)),(de P (zs "_NODE_OUT") 198 (.int (-1) 197)),(de P (zs "_NODE_DONE") 201 (.int (-2) 200)),(de P z16 238 (.ref 40)),(de P z17 258 (.ref 55)),(de P z18 384 (.ref 137)),(de P z72 443 (.ref 180)),(de P z85 571 (.ref 255))] 17) #[]
def o12p9:Obj:=ob .none none (.fields #[.int 1 0,.int 0 0,.ref 20,.int 7 0,.int 0 0,.ref 27,.int 14 0,.int 0 0,.ref 51,.int 26 0,.int 0 0,.ref 64,.int 183 0,.int 0 0,.ref 147,.int 201 0,.int 0 0,.ref 191]) #[]
def o3p11 (P:Params):Obj:=ob (.type "dict") none (.dict #[(de P (zs "__name__") 165 (.str z71 385)),(de P z5 166 .none),(de P (zs "__package__") 167 .none),(de P (zs "__loader__") 168 (.builtin "__main__.__loader__#opaque")),(de P (zs "__spec__") 169 .none),(de P z9 170 (.ref 6)),(de P z10 171 (.ref 4)),(de P (zs "__file__") 173 (.str z1 172)),(de P (zs "__cached__") 174 .none),(de P z13 193 (.ref 21)),(de P (zs "_NODE_OUT") 198 (.int (-1) 197)),(de P (zs "_NODE_DONE") 201 (.int (-2) 200)),(de P z16 238 (.ref 40)),(de P z17 258 (.ref 55)),(de P z18 384 (.ref 137)),(de P z72 443 (.ref 180)),(de P z85 571 (.ref 255)),(de P gM 579 (.ref 265)),(de P fY 773 (.ref 362))] 19) #[]
def o12p11:Obj:=ob .none none (.fields #[.int 1 0,.int 0 0,.ref 20,.int 7 0,.int 0 0,.ref 27,.int 14 0,.int 0 0,.ref 51,.int 26 0,.int 0 0,.ref 64,.int 183 0,.int 0 0,.ref 147,.int 201 0,.int 0 0,.ref 191,.int 244 0,.int 0 0,.ref 264,.int 248 0,.int 0 0,.ref 271]) #[]
def xg:Obj:=f1 (zs "law") (zs "law") (st 35) .none .none (.str bM 933) (.ref 514)
def H3 (P:Params):Frag:=[
 (0,boot_o_0 P),
 (1,boot_o_1 P),
 (2,boot_o_2 P),
 (3,ob (.type "dict") none (.dict #[(de P (zs "__name__") 165 (.str bM 933)),(de P z5 166 .none),(de P (zs "__package__") 167 .none),(de P (zs "__loader__") 168 (.builtin "__main__.__loader__#opaque")),(de P (zs "__spec__") 169 .none),(de P z9 170 (.ref 6)),(de P z10 171 (.ref 4)),(de P (zs "__file__") 173 (.str z1 172)),(de P (zs "__cached__") 174 .none),(de P z13 193 (.ref 21)),(de P (zs "_NODE_OUT") 198 (.int (-1) 197)),(de P (zs "_NODE_DONE") 201 (.int (-2) 200)),(de P z16 238 (.ref 40)),(de P z17 258 (.ref 55)),(de P z18 384 (.ref 137)),(de P z72 443 (.ref 180)),(de P z85 571 (.ref 255)),(de P gM 579 (.ref 265)),(de P fY 773 (.ref 362)),(de P jh 784 (.ref 373)),(de P gF 810 (.ref 390)),(de P gf 853 (.ref 423)),(de P iR 860 (.ref 432)),(de P (zs "fspath") 872 (.ref 439)),(de P iZ 885 (.ref 446)),(de P fQ 894 (.ref 453)),(de P (zs "join") 906 (.ref 460)),(de P fG 916 (.ref 467)),(de P fU 932 (.ref 474)),(de P eY 947 (.ref 481)),(de P fD 961 (.ref 488)),(de P fH 969 (.ref 495)),(de P fK 975 (.ref 500)),(de P eU 981 (.ref 505)),(de P fM 987 (.ref 510)),(de P (zs "law") 993 (.ref 515))] 36) #[]),
 (4,boot_o_4 P),
 (5,boot_o_5 P),
 (6,boot_o_6 P),
 (7,boot_o_7 P),
 (8,boot_o_8 P),
 (9,boot_o_9 P),
 (10,boot_o_10 P),
 (11,tu0),
 (12,ob .none none (.fields #[.int 1 0,.int 0 0,.ref 20,.int 7 0,.int 0 0,.ref 27,.int 14 0,.int 0 0,.ref 51,.int 26 0,.int 0 0,.ref 64,.int 183 0,.int 0 0,.ref 147,.int 201 0,.int 0 0,.ref 191,.int 244 0,.int 0 0,.ref 264,.int 248 0,.int 0 0,.ref 271,.int 641 0,.int 0 0,.ref 372,.int 647 0,.int 0 0,.ref 379,.int 652 0,.int 0 0,.ref 398,.int 667 0,.int 0 0,.ref 431,.int 671 0,.int 0 0,.ref 438,.int 688 0,.int 0 0,.ref 445,.int 700 0,.int 0 0,.ref 452,.int 705 0,.int 0 0,.ref 459,.int 726 0,.int 0 0,.ref 466,.int 743 0,.int 0 0,.ref 473,.int 770 0,.int 0 0,.ref 480,.int 777 0,.int 0 0,.ref 487,.int 796 0,.int 0 0,.ref 494,.int 802 0,.int 0 0,.ref 499,.int 820 0,.int 0 0,.ref 504,.int 835 0,.int 0 0,.ref 509,.int 844 0,.int 0 0,.ref 514]) #[]),
 (13,ck (zs "<module>") (zs "<module>") 182 1 0 0 0 11 185 .none .none .none),
 (14,fr 13 3 3 (zs "__main__") 164 0),
 (15,tu0),
 (16,e0),
 (17,tn [zs "k"] 190),
 (18,tu0),
 (19,f0 z13 z13 (st 0)),
 (20,ck z13 z13 187 1 1 0 3 15 191 (.ref 17) (.ref 18) (.ref 19)),
 (21,f1 z13 z13 (st 0) .none .none (.str (zs "__main__") 164) (.ref 20)),
 (22,tu0),
 (23,bf "type.__prepare__" (.type "type")),
 (24,ob (.type "dict") none (.dict #[(de P z20 209 (.str z4 194)),(de P z21 211 (.str z16 210)),(de P z22 213 (.int 7 212)),(de P (zs "__slots__") 217 (.ref 29)),(de P z24 225 (.ref 36)),(de P z25 229 (.ref 37))] 6) #[]),
 (25,tu0),
 (26,ob .none none (.fields #[.int 10 0,.int 4 0,.ref 35]) #[]),
 (27,ck z16 z16 204 7 0 0 0 25 207 .none .none .none),
 (28,fr 27 3 24 z4 194 0),
 (29,tn [z26,z27,z28] 214),
 (30,tu0),
 (31,e0),
 (32,tn [z29,z26] 221),
 (33,tu0),
 (34,f0 z24 (zs "_NodeInfo.__init__") (mt 4 1)),
 (35,ck z24 (zs "_NodeInfo.__init__") 218 10 2 0 3 30 223 (.ref 32) (.ref 33) (.ref 34)),
 (36,f1 z24 (zs "_NodeInfo.__init__") (mt 4 1) .none .none (.str z4 194) (.ref 35)),
 (37,tn [z26,z27,z28] 226),
 (38,ob (.type "list") none (.seq #[.str z26 214,.str z27 215,.str z28 216] 1) #[]),
 (39,ob (.type "dict") none (.dict #[(de P z20 209 (.str z4 194)),(de P z22 213 (.int 7 212)),(de P (zs "__slots__") 217 (.ref 29)),(de P z24 225 (.ref 36)),(de P z25 229 (.ref 37)),(de P z26 231 (.ref 41)),(de P z27 233 (.ref 42)),(de P z28 235 (.ref 43)),(de P z5 236 .none)] 5) #[]),
 (40,ob (.type "type") none (.cls { name:=z16,bases:=[.type "object"],mro:=[.ref 40,.type "object"],ns:=39,qualname:=z16,hasDict:=false,slotNames:=[z26,z27,z28],subclasses:=[],abstract:=false,collection:=none,hasDel:=false }) #[none,none,(some (.str z16 202)),(some (.str z16 210)),(some (.builtin "object.__new__")),(some (.bool false))]),
 (41,ob (.type "member_descriptor") none (.fields #[.str z26 230,.ref 40,.builtin "proto.slot",.builtin "proto.slot#set",.int 2 0]) #[]),
 (42,ob (.type "member_descriptor") none (.fields #[.str z27 232,.ref 40,.builtin "proto.slot",.builtin "proto.slot#set",.int 1 0]) #[]),
 (43,ob (.type "member_descriptor") none (.fields #[.str z28 234,.ref 40,.builtin "proto.slot",.builtin "proto.slot#set",.int 0 0]) #[]),
 (44,su 40),
 (45,bf "object.__init_subclass__" (.ref 40)),
 (46,tu #[.type "ValueError"]),
 (47,bf "type.__prepare__" (.type "type")),
 (48,ob (.type "dict") none (.dict #[(de P z20 246 (.str z4 194)),(de P z21 248 (.str z17 247)),(de P z22 250 (.int 14 249)),(de P z5 252 (.str (Q6 (gh (st 5))) 251)),(de P z25 254 (.ref 53))] 5) #[]),
 (49,tu0),
 (50,e0),
 (51,ck z17 z17 241 14 0 0 0 49 244 .none .none .none),
 (52,fr 51 3 48 z4 194 0),
 (53,tu0),
 (54,ob (.type "dict") none (.dict #[(de P z20 246 (.str z4 194)),(de P z22 250 (.int 14 249)),(de P z5 252 (.str (Q6 (gh (st 5))) 251)),(de P z25 254 (.ref 53)),(de P z31 256 (.ref 56))] 2) #[]),
 (55,ob (.type "type") none (.cls { name:=z17,bases:=[.type "ValueError"],mro:=[.ref 55,.type "ValueError",.type "Exception",.type "BaseException",.type "object"],ns:=54,qualname:=z17,hasDict:=true,slotNames:=[],subclasses:=[],abstract:=false,collection:=none,hasDel:=false }) #[(some (.ref 46)),none,(some (.str z17 239)),(some (.str z17 247)),(some (.builtin "ValueError.__new__")),(some (.bool true))]),
 (56,ob (.type "getset_descriptor") none (.fields #[.str z31 255,.ref 55,.builtin "ExceptionGroup.__weakref__",.none]) #[]),
 (57,su 55),
 (58,bf "object.__init_subclass__" (.ref 55)),
 (59,tu0),
 (60,bf "type.__prepare__" (.type "type")),
 (61,ob (.type "dict") none (.dict #[(de P z20 266 (.str z4 194)),(de P z21 268 (.str z18 267)),(de P z22 270 (.int 26 269)),(de P z5 272 (.str (Q6 (gh (st 6))) 271)),(de P z24 283 (.ref 73)),(de P z32 292 (.ref 80)),(de P (zs "add") 305 (.ref 87)),(de P (zs "prepare") 312 (.ref 92)),(de P (zs "get_ready") 323 (.ref 99)),(de P (zs "is_active") 331 (.ref 106)),(de P (zs "__bool__") 338 (.ref 113)),(de P (zs "done") 353 (.ref 120)),(de P (zs "_find_cycle") 366 (.ref 127)),(de P z40 373 (.ref 134)),(de P z25 378 (.ref 135))] 15) #[]),
 (62,tu0),
 (63,ob .none none (.fields #[.int 29 0,.int 4 0,.ref 72,.int 38 0,.int 4 0,.ref 79,.int 43 0,.int 4 0,.ref 86,.int 66 0,.int 4 0,.ref 91,.int 81 0,.int 4 0,.ref 98,.int 101 0,.int 4 0,.ref 105,.int 115 0,.int 4 0,.ref 112,.int 118 0,.int 4 0,.ref 119,.int 151 0,.int 4 0,.ref 126,.int 180 0,.int 4 0,.ref 133]) #[]),
 (64,ck z18 z18 261 26 0 0 0 62 264 .none .none .none),
 (65,fr 64 3 61 z4 194 0),
 (66,tu #[.none]),
 (67,tu0),
 (68,e0),
 (69,tn [z29,(zs "graph"),z26,(zs "predecessors")] 277),
 (70,tu0),
 (71,f0 z24 (zs "TopologicalSorter.__init__") (mt 6 1)),
 (72,ck z24 (zs "TopologicalSorter.__init__") 274 29 2 0 3 67 281 (.ref 69) (.ref 70) (.ref 71)),
 (73,f1 z24 (zs "TopologicalSorter.__init__") (mt 6 1) (.ref 66) .none (.str z4 194) (.ref 72)),
 (74,tu0),
 (75,e0),
 (76,tn [z29,z26,(zs "result")] 287),
 (77,tu0),
 (78,f0 z32 z45 (mt 6 2)),
 (79,ck z32 z45 284 38 2 0 3 74 290 (.ref 76) (.ref 77) (.ref 78)),
 (80,f1 z32 z45 (mt 6 2) .none .none (.str z4 194) (.ref 79)),
 (81,tu0),
 (82,e0),
 (83,tn [z29,z26,(zs "predecessors"),(zs "nodeinfo"),(zs "pred"),(zs "pred_info")] 296),
 (84,tu0),
 (85,f0 (zs "add") (zs "TopologicalSorter.add") (mt 6 3)),
 (86,ck (zs "add") (zs "TopologicalSorter.add") 293 43 2 0 7 81 302 (.ref 83) (.ref 84) (.ref 85)),
 (87,f1 (zs "add") (zs "TopologicalSorter.add") (mt 6 3) .none (.str (Q6 (fnB (mt 6 3))) 304) (.str z4 194) (.ref 86)),
 (88,tu0),
 (89,e0),
 (90,f0 (zs "prepare") (zs "TopologicalSorter.prepare") (mt 6 4)),
 (91,ck (zs "prepare") (zs "TopologicalSorter.prepare") 306 66 1 0 3 88 309 .none .none (.ref 90)),
 (92,f1 (zs "prepare") (zs "TopologicalSorter.prepare") (mt 6 4) .none (.str (Q6 (fnB (mt 6 4))) 311) (.str z4 194) (.ref 91)),
 (93,tu0),
 (94,e0),
 (95,tn [z29,(zs "result"),(zs "n2i"),z26] 316),
 (96,tu0),
 (97,f0 (zs "get_ready") z52 (mt 6 5)),
 (98,ck (zs "get_ready") z52 313 81 1 0 3 93 320 (.ref 95) (.ref 96) (.ref 97)),
 (99,f1 (zs "get_ready") z52 (mt 6 5) .none (.str (Q6 (fnB (mt 6 5))) 322) (.str z4 194) (.ref 98)),
 (100,tu0),
 (101,e0),
 (102,tn [z29] 327),
 (103,tu0),
 (104,f0 (zs "is_active") z53 (mt 6 6)),
 (105,ck (zs "is_active") z53 324 101 1 0 3 100 328 (.ref 102) (.ref 103) (.ref 104)),
 (106,f1 (zs "is_active") z53 (mt 6 6) .none (.str (Q6 (fnB (mt 6 6))) 330) (.str z4 194) (.ref 105)),
 (107,tu0),
 (108,e0),
 (109,tn [z29] 335),
 (110,tu0),
 (111,f0 (zs "__bool__") (zs "TopologicalSorter.__bool__") (mt 6 7)),
 (112,ck (zs "__bool__") (zs "TopologicalSorter.__bool__") 332 115 1 0 3 107 336 (.ref 109) (.ref 110) (.ref 111)),
 (113,f1 (zs "__bool__") (zs "TopologicalSorter.__bool__") (mt 6 7) .none .none (.str z4 194) (.ref 112)),
 (114,tu0),
 (115,e0),
 (116,tn [z29,(zs "nodes"),(zs "n2i"),z26,(zs "nodeinfo"),(zs "stat"),(zs "successor"),(zs "successor_info")] 342),
 (117,tu0),
 (118,f0 (zs "done") (zs "TopologicalSorter.done") (mt 6 8)),
 (119,ck (zs "done") (zs "TopologicalSorter.done") 339 118 1 0 7 114 350 (.ref 116) (.ref 117) (.ref 118)),
 (120,f1 (zs "done") (zs "TopologicalSorter.done") (mt 6 8) .none (.str (Q6 (fnB (mt 6 8))) 352) (.str z4 194) (.ref 119)),
 (121,tu0),
 (122,e0),
 (123,tn [z29,(zs "n2i"),(zs "stack"),(zs "itstack"),(zs "seen"),(zs "node2stacki"),z26] 357),
 (124,tu0),
 (125,f0 (zs "_find_cycle") z64 (mt 6 9)),
 (126,ck (zs "_find_cycle") z64 354 151 1 0 3 121 364 (.ref 123) (.ref 124) (.ref 125)),
 (127,f1 (zs "_find_cycle") z64 (mt 6 9) .none .none (.str z4 194) (.ref 126)),
 (128,tu0),
 (129,e0),
 (130,tn [z29] 370),
 (131,tu0),
 (132,f0 z40 z65 (mt 6 10)),
 (133,ck z40 z65 367 180 1 0 3 128 371 (.ref 130) (.ref 131) (.ref 132)),
 (134,f1 z40 z65 (mt 6 10) .none .none (.str z4 194) (.ref 133)),
 (135,tn [(zs "_nfinished"),(zs "_node2info"),(zs "_npassedout"),(zs "_ready_nodes")] 374),
 (136,ob (.type "dict") none (.dict #[(de P z20 266 (.str z4 194)),(de P z22 270 (.int 26 269)),(de P z5 272 (.str (Q6 (gh (st 6))) 271)),(de P z24 283 (.ref 73)),(de P z32 292 (.ref 80)),(de P (zs "add") 305 (.ref 87)),(de P (zs "prepare") 312 (.ref 92)),(de P (zs "get_ready") 323 (.ref 99)),(de P (zs "is_active") 331 (.ref 106)),(de P (zs "__bool__") 338 (.ref 113)),(de P (zs "done") 353 (.ref 120)),(de P (zs "_find_cycle") 366 (.ref 127)),(de P z40 373 (.ref 134)),(de P z25 378 (.ref 135)),(de P (zs "__dict__") 380 (.ref 138)),(de P z31 382 (.ref 139))] 3) #[]),
 (137,ob (.type "type") none (.cls { name:=z18,bases:=[.type "object"],mro:=[.ref 137,.type "object"],ns:=136,qualname:=z18,hasDict:=true,slotNames:=[],subclasses:=[],abstract:=false,collection:=none,hasDel:=false }) #[none,none,(some (.str z18 259)),(some (.str z18 267)),(some (.builtin "object.__new__")),(some (.bool true))]),
 (138,ob (.type "getset_descriptor") none (.fields #[(.str (zs "__dict__") 379),.ref 137,.builtin "function.__dict__",.builtin "function.__dict__#set"]) #[]),
 (139,ob (.type "getset_descriptor") none (.fields #[.str z31 381,.ref 137,.builtin "ExceptionGroup.__weakref__",.none]) #[]),
 (140,su 137),
 (141,bf "object.__init_subclass__" (.ref 137)),
 (142,tu0),
 (143,bf "type.__prepare__" (.type "type")),
 (144,ob (.type "dict") none (.dict #[(de P z20 394 (.str z71 385)),(de P z21 396 (.str z72 395)),(de P z22 398 (.int 183 397)),(de P z24 407 (.ref 155)),(de P (zs "__get__") 416 (.ref 163)),(de P (zs "__set__") 425 (.ref 170)),(de P (zs "__delete__") 433 (.ref 177)),(de P z25 436 (.ref 178))] 8) #[]),
 (145,tu0),
 (146,ob .none none (.fields #[.int 185 0,.int 4 0,.ref 154,.int 189 0,.int 4 0,.ref 162,.int 196 0,.int 4 0,.ref 169,.int 199 0,.int 4 0,.ref 176]) #[]),
 (147,ck z72 z72 389 183 0 0 0 145 392 .none .none .none),
 (148,fr 147 3 144 z71 385 0),
 (149,tu0),
 (150,e0),
 (151,tn [z29,z76,(zs "doc")] 402),
 (152,tu0),
 (153,f0 z24 (zs "_tuplegetter.__init__") (mt 8 0)),
 (154,ck z24 (zs "_tuplegetter.__init__") 399 185 3 0 3 149 405 (.ref 151) (.ref 152) (.ref 153)),
 (155,f1 z24 (zs "_tuplegetter.__init__") (mt 8 0) .none .none (.str z71 385) (.ref 154)),
 (156,tu #[.none]),
 (157,tu0),
 (158,e0),
 (159,tn [z29,(zs "obj"),(zs "objtype")] 411),
 (160,tu0),
 (161,f0 (zs "__get__") (zs "_tuplegetter.__get__") (mt 8 1)),
 (162,ck (zs "__get__") (zs "_tuplegetter.__get__") 408 189 3 0 3 157 414 (.ref 159) (.ref 160) (.ref 161)),
 (163,f1 (zs "__get__") (zs "_tuplegetter.__get__") (mt 8 1) (.ref 156) .none (.str z71 385) (.ref 162)),
 (164,tu0),
 (165,e0),
 (166,tn [z29,(zs "obj"),(zs "value")] 420),
 (167,tu0),
 (168,f0 (zs "__set__") (zs "_tuplegetter.__set__") (mt 8 2)),
 (169,ck (zs "__set__") (zs "_tuplegetter.__set__") 417 196 3 0 3 164 423 (.ref 166) (.ref 167) (.ref 168)),
 (170,f1 (zs "__set__") (zs "_tuplegetter.__set__") (mt 8 2) .none .none (.str z71 385) (.ref 169)),
 (171,tu0),
 (172,e0),
 (173,tn [z29,(zs "obj")] 429),
 (174,tu0),
 (175,f0 (zs "__delete__") (zs "_tuplegetter.__delete__") (mt 8 3)),
 (176,ck (zs "__delete__") (zs "_tuplegetter.__delete__") 426 199 2 0 3 171 431 (.ref 173) (.ref 174) (.ref 175)),
 (177,f1 (zs "__delete__") (zs "_tuplegetter.__delete__") (mt 8 3) .none .none (.str z71 385) (.ref 176)),
 (178,tn [z5,z76] 434),
 (179,ob (.type "dict") none (.dict #[(de P z20 394 (.str z71 385)),(de P z22 398 (.int 183 397)),(de P z24 407 (.ref 155)),(de P (zs "__get__") 416 (.ref 163)),(de P (zs "__set__") 425 (.ref 170)),(de P (zs "__delete__") 433 (.ref 177)),(de P z25 436 (.ref 178)),(de P (zs "__dict__") 438 (.ref 181)),(de P z31 440 (.ref 182)),(de P z5 441 .none)] 4) #[]),
 (180,ob (.type "type") none (.cls { name:=z72,bases:=[.type "object"],mro:=[.ref 180,.type "object"],ns:=179,qualname:=z72,hasDict:=true,slotNames:=[],subclasses:=[],abstract:=false,collection:=none,hasDel:=false }) #[none,none,(some (.str z72 387)),(some (.str z72 395)),(some (.builtin "object.__new__")),(some (.bool true))]),
 (181,ob (.type "getset_descriptor") none (.fields #[(.str (zs "__dict__") 437),.ref 180,.builtin "function.__dict__",.builtin "function.__dict__#set"]) #[]),
 (182,ob (.type "getset_descriptor") none (.fields #[.str z31 439,.ref 180,.builtin "ExceptionGroup.__weakref__",.none]) #[]),
 (183,su 180),
 (184,bf "object.__init_subclass__" (.ref 180)),
 (185,tu #[.type "tuple"]),
 (186,bf "type.__prepare__" (.type "type")),
 (187,ob (.type "dict") none (.dict #[(de P z20 451 (.str z71 385)),(de P z21 453 (.str z85 452)),(de P z22 455 (.int 201 454)),(de P z5 457 (.str (zs "Match(a, b, size)") 456)),(de P (zs "__slots__") 459 (.ref 193)),(de P (zs "_fields") 463 (.ref 194)),(de P (zs "_field_defaults") 464 (.ref 195)),(de P (zs "__new__") 475 (.ref 202)),(de P (zs "_make") 497 (.ref 211)),(de P (zs "_replace") 508 (.ref 220)),(de P (zs "__replace__") 509 (.ref 220)),(de P (zs "__repr__") 517 (.ref 227)),(de P (zs "_asdict") 524 (.ref 234)),(de P z95 532 (.ref 241)),(de P (zs "__match_args__") 536 (.ref 242)),(de P (zs "a") 546 (.ref 244)),(de P (zs "b") 556 (.ref 247)),(de P (zs "size") 566 (.ref 250)),(de P z25 567 (.ref 252)),(de P (zs "__classcell__") 568 (.ref 188))] 20) #[]),
 (188,ob (.type "cell") none (.cell (some (.ref 255))) #[]),
 (189,tu0),
 (190,ob .none none (.fields #[.int 207 0,.int 4 0,.ref 201,.int 212 0,.int 4 0,.ref 208,.int 219 0,.int 4 0,.ref 219,.int 230 0,.int 4 0,.ref 226,.int 234 0,.int 4 0,.ref 233,.int 237 0,.int 4 0,.ref 240]) #[]),
 (191,ck z85 z85 446 201 0 0 0 189 449 .none .none .none),
 (192,fr 191 3 187 z71 385 0),
 (193,tu0),
 (194,tn [(zs "a"),(zs "b"),(zs "size")] 460),
 (195,ob (.type "dict") none (.dict #[] 0) #[]),
 (196,tu0),
 (197,e0),
 (198,tn [(zs "_cls"),(zs "a"),(zs "b"),(zs "size")] 468),
 (199,tu0),
 (200,f0 (zs "__new__") (zs "Match.__new__") (mt 9 4)),
 (201,ck (zs "__new__") (zs "Match.__new__") 465 207 4 0 3 196 472 (.ref 198) (.ref 199) (.ref 200)),
 (202,f1 (zs "__new__") (zs "Match.__new__") (mt 9 4) .none (.str (Q6 (fnB (mt 9 4))) 474) (.str z71 385) (.ref 201)),
 (203,tu0),
 (204,e0),
 (205,tn [(zs "cls"),(zs "iterable"),(zs "result")] 479),
 (206,tu0),
 (207,f0 (zs "_make") (zs "Match._make") (mt 9 5)),
 (208,ck (zs "_make") (zs "Match._make") 476 211 2 0 3 203 482 (.ref 205) (.ref 206) (.ref 207)),
 (209,ob (.type "function") none (.func { name:=(zs "_make"),qualname:=(zs "Match._make"),params:=fnP (mt 9 5),body:=.stmts (fnB (mt 9 5)),scope:=fnS (mt 9 5),globals:=3,closure:=[],defaults:=.none,kwdefaults:=.none,doc:=(.str (Q6 (fnB (mt 9 5))) 484),pyModule:=(.str z71 385),annotations:=(some 212),code:=(.ref 208),closureTuple:=.none,builtins:=0 }) #[]),
 (210,ob (.type "dict") none (.dict #[(de P z20 486 (.str z71 385)),(de P (zs "__name__") 489 (.str (zs "_make") 488)),(de P z21 492 (.str (zs "Match._make") 491)),(de P z5 494 (.str (Q6 (fnB (mt 9 5))) 484)),(de P z9 496 (.ref 212))] 5) #[]),
 (211,ob (.type "classmethod") (some 210) (.fields #[.ref 209,.bool false]) #[]),
 (212,ob (.type "dict") none (.dict #[] 0) #[]),
 (213,tu #[.ref 188]),
 (214,tn [zs "__class__"] 501),
 (215,e0),
 (216,tn [z29,(zs "kwds"),(zs "result")] 502),
 (217,tu0),
 (218,f0 (zs "_replace") (zs "Match._replace") (mt 9 6)),
 (219,ck (zs "_replace") (zs "Match._replace") 498 219 1 1 11 214 505 (.ref 216) (.ref 217) (.ref 218)),
 (220,ob (.type "function") none (.func { name:=(zs "_replace"),qualname:=(zs "Match._replace"),params:=fnP (mt 9 6),body:=.stmts (fnB (mt 9 6)),scope:=fnS (mt 9 6),globals:=3,closure:=[((zs "__class__"),188)],defaults:=.none,kwdefaults:=.none,doc:=(.str (Q6 (fnB (mt 9 6))) 507),pyModule:=(.str z71 385),annotations:=none,code:=(.ref 219),closureTuple:=(.ref 213),builtins:=0 }) #[]),
 (221,tu0),
 (222,e0),
 (223,tn [z29] 513),
 (224,tu0),
 (225,f0 (zs "__repr__") (zs "Match.__repr__") (mt 9 8)),
 (226,ck (zs "__repr__") (zs "Match.__repr__") 510 230 1 0 3 221 514 (.ref 223) (.ref 224) (.ref 225)),
 (227,f1 (zs "__repr__") (zs "Match.__repr__") (mt 9 8) .none (.str (Q6 (fnB (mt 9 8))) 516) (.str z71 385) (.ref 226)),
 (228,tu0),
 (229,e0),
 (230,tn [z29] 521),
 (231,tu0),
 (232,f0 (zs "_asdict") (zs "Match._asdict") (mt 9 9)),
 (233,ck (zs "_asdict") (zs "Match._asdict") 518 234 1 0 3 228 522 (.ref 230) (.ref 231) (.ref 232)),
 (234,f1 (zs "_asdict") (zs "Match._asdict") (mt 9 9) .none .none (.str z71 385) (.ref 233)),
 (235,tu0),
 (236,e0),
 (237,tn [z29] 528),
 (238,tu0),
 (239,f0 z95 (zs "Match.__getnewargs__") (mt 9 10)),
 (240,ck z95 (zs "Match.__getnewargs__") 525 237 1 0 3 235 529 (.ref 237) (.ref 238) (.ref 239)),
 (241,f1 z95 (zs "Match.__getnewargs__") (mt 9 10) .none (.str (Q6 (fnB (mt 9 10))) 531) (.str z71 385) (.ref 240)),
 (242,tn [(zs "a"),(zs "b"),(zs "size")] 533),
 (243,ob (.type "dict") none (.dict #[(de P z76 543 (.int 0 537)),(de P z5 545 (.str (zs "Alias for field number 0") 538))] 2) #[]),
 (244,ob (.ref 180) (some 243) .plain #[]),
 (245,ob (.type "frame") none (.dict #[(de P z29 539 (.ref 244)),(de P z76 540 (.int 0 537)),(de P (zs "doc") 541 (.str (zs "Alias for field number 0") 538))] 3) #[]),
 (246,ob (.type "dict") none (.dict #[(de P z76 553 (.int 1 547)),(de P z5 555 (.str (zs "Alias for field number 1") 548))] 2) #[]),
 (247,ob (.ref 180) (some 246) .plain #[]),
 (248,ob (.type "frame") none (.dict #[(de P z29 549 (.ref 247)),(de P z76 550 (.int 1 547)),(de P (zs "doc") 551 (.str (zs "Alias for field number 1") 548))] 3) #[]),
 (249,ob (.type "dict") none (.dict #[(de P z76 563 (.int 2 557)),(de P z5 565 (.str (zs "Alias for field number 2") 558))] 2) #[]),
 (250,ob (.ref 180) (some 249) .plain #[]),
 (251,ob (.type "frame") none (.dict #[(de P z29 559 (.ref 250)),(de P z76 560 (.int 2 557)),(de P (zs "doc") 561 (.str (zs "Alias for field number 2") 558))] 3) #[]),
 (252,tu0),
 (253,ob (.type "list") none (.seq #[] 0) #[]),
 (254,ob (.type "dict") none (.dict #[(de P z20 451 (.str z71 385)),(de P z22 455 (.int 201 454)),(de P z5 457 (.str (zs "Match(a, b, size)") 456)),(de P (zs "__slots__") 459 (.ref 193)),(de P (zs "_fields") 463 (.ref 194)),(de P (zs "_field_defaults") 464 (.ref 195)),(de P (zs "__new__") 475 (.ref 256)),(de P (zs "_make") 497 (.ref 211)),(de P (zs "_replace") 508 (.ref 220)),(de P (zs "__replace__") 509 (.ref 220)),(de P (zs "__repr__") 517 (.ref 227)),(de P (zs "_asdict") 524 (.ref 234)),(de P z95 532 (.ref 241)),(de P (zs "__match_args__") 536 (.ref 242)),(de P (zs "a") 546 (.ref 244)),(de P (zs "b") 556 (.ref 247)),(de P (zs "size") 566 (.ref 250)),(de P z25 567 (.ref 252))] 2) #[]),
 (255,ob (.type "type") none (.cls { name:=z85,bases:=[.type "tuple"],mro:=[.ref 255,.type "tuple",.type "object"],ns:=254,qualname:=z85,hasDict:=false,slotNames:=[],subclasses:=[],abstract:=false,collection:=none,hasDel:=false }) #[(some (.ref 185)),none,(some (.str z85 444)),(some (.str z85 452)),(some .none),(some (.bool false))]),
 (256,ob (.type "staticmethod") none (.fields #[.ref 202]) #[]),
 (257,su 255),
 (258,bf "object.__init_subclass__" (.ref 255)),
 (259,tu0),
 (260,e0),
 (261,tn [(zs "matches"),(zs "length")] 575),
 (262,tu0),
 (263,f0 gM gM (st 10)),
 (264,ck gM gM 572 244 2 0 3 259 577 (.ref 261) (.ref 262) (.ref 263)),
 (265,f1 gM gM (st 10) .none .none (.str z71 385) (.ref 264)),
 (266,tu0),
 (267,bf "type.__prepare__" (.type "type")),
 (268,ob (.type "dict") none (.dict #[(de P z20 587 (.str z71 385)),(de P z21 589 (.str fY 588)),(de P z22 591 (.int 248 590)),(de P z5 593 (.str jM 592)),(de P z24 608 (.ref 280)),(de P (zs "set_seqs") 618 (.ref 287)),(de P (zs "set_seq1") 627 (.ref 294)),(de P (zs "set_seq2") 636 (.ref 301)),(de P (zs "_SequenceMatcher__chain_b") 654 (.ref 308)),(de P kh 682 (.ref 316)),(de P kj 709 (.ref 323)),(de P (zs "get_opcodes") 724 (.ref 330)),(de P z127 733 (.ref 338)),(de P (zs "ratio") 742 (.ref 345)),(de P (zs "quick_ratio") 749 (.ref 352)),(de P z130 756 (.ref 359)),(de P z25 767 (.ref 360))] 17) #[]),
 (269,tu0),
 (270,ob .none none (.fields #[.int 323 0,.int 4 0,.ref 279,.int 351 0,.int 4 0,.ref 286,.int 362 0,.int 4 0,.ref 293,.int 387 0,.int 4 0,.ref 300,.int 414 0,.int 4 0,.ref 307,.int 438 0,.int 4 0,.ref 315,.int 513 0,.int 4 0,.ref 322,.int 561 0,.int 4 0,.ref 329,.int 608 0,.int 4 0,.ref 337,.int 611 0,.int 4 0,.ref 344,.int 635 0,.int 4 0,.ref 351,.int 638 0,.int 4 0,.ref 358]) #[]),
 (271,ck fY fY 582 248 0 0 0 269 585 .none .none .none),
 (272,fr 271 3 268 z71 385 0),
 (273,tu #[.none,(.str (zs "") 595),(.str (zs "") 596),.bool true]),
 (274,tu0),
 (275,e0),
 (276,tn [z29,(zs "isjunk"),(zs "a"),(zs "b"),(zs "autojunk")] 600),
 (277,tu0),
 (278,f0 z24 (zs "SequenceMatcher.__init__") (mt 11 1)),
 (279,ck z24 (zs "SequenceMatcher.__init__") 597 323 5 0 3 274 605 (.ref 276) (.ref 277) (.ref 278)),
 (280,f1 z24 (zs "SequenceMatcher.__init__") (mt 11 1) (.ref 273) (.str (Q6 (fnB (mt 11 1))) 607) (.str z71 385) (.ref 279)),
 (281,tu0),
 (282,e0),
 (283,tn [z29,(zs "a"),(zs "b")] 612),
 (284,tu0),
 (285,f0 (zs "set_seqs") (zs "SequenceMatcher.set_seqs") (mt 11 2)),
 (286,ck (zs "set_seqs") (zs "SequenceMatcher.set_seqs") 609 351 3 0 3 281 615 (.ref 283) (.ref 284) (.ref 285)),
 (287,f1 (zs "set_seqs") (zs "SequenceMatcher.set_seqs") (mt 11 2) .none (.str (Q6 (fnB (mt 11 2))) 617) (.str z71 385) (.ref 286)),
 (288,tu0),
 (289,e0),
 (290,tn [z29,(zs "a")] 622),
 (291,tu0),
 (292,f0 (zs "set_seq1") (zs "SequenceMatcher.set_seq1") (mt 11 3)),
 (293,ck (zs "set_seq1") (zs "SequenceMatcher.set_seq1") 619 362 2 0 3 288 624 (.ref 290) (.ref 291) (.ref 292)),
 (294,f1 (zs "set_seq1") (zs "SequenceMatcher.set_seq1") (mt 11 3) .none (.str (Q6 (fnB (mt 11 3))) 626) (.str z71 385) (.ref 293)),
 (295,tu0),
 (296,e0),
 (297,tn [z29,(zs "b")] 631),
 (298,tu0),
 (299,f0 (zs "set_seq2") (zs "SequenceMatcher.set_seq2") (mt 11 4)),
 (300,ck (zs "set_seq2") (zs "SequenceMatcher.set_seq2") 628 387 2 0 3 295 633 (.ref 297) (.ref 298) (.ref 299)),
 (301,f1 (zs "set_seq2") (zs "SequenceMatcher.set_seq2") (mt 11 4) .none (.str (Q6 (fnB (mt 11 4))) 635) (.str z71 385) (.ref 300)),
 (302,tu0),
 (303,e0),
 (304,tn [z29,(zs "b"),(zs "b2j"),(zs "i"),(zs "elt"),(zs "indices"),(zs "junk"),(zs "isjunk"),(zs "popular"),(zs "n"),(zs "ntest"),(zs "idxs")] 640),
 (305,tu0),
 (306,f0 (zs "__chain_b") (zs "SequenceMatcher.__chain_b") (mt 11 5)),
 (307,ck (zs "__chain_b") (zs "SequenceMatcher.__chain_b") 637 414 1 0 3 302 652 (.ref 304) (.ref 305) (.ref 306)),
 (308,f1 (zs "__chain_b") (zs "SequenceMatcher.__chain_b") (mt 11 5) .none .none (.str z71 385) (.ref 307)),
 (309,tu #[.int 0 655,.none,.int 0 656,.none]),
 (310,tu0),
 (311,e0),
 (312,tn [z29,(zs "alo"),(zs "ahi"),(zs "blo"),(zs "bhi"),(zs "a"),(zs "b"),(zs "b2j"),(zs "isbjunk"),(zs "besti"),(zs "bestj"),(zs "bestsize"),(zs "j2len"),(zs "nothing"),(zs "i"),(zs "j2lenget"),(zs "newj2len"),(zs "j"),(zs "k")] 660),
 (313,tu0),
 (314,f0 kh z162 (mt 11 6)),
 (315,ck kh z162 657 438 5 0 3 310 679 (.ref 312) (.ref 313) (.ref 314)),
 (316,f1 kh z162 (mt 11 6) (.ref 309) (.str (Q6 (fnB (mt 11 6))) 681) (.str z71 385) (.ref 315)),
 (317,tu0),
 (318,e0),
 (319,tn [z29,(zs "la"),(zs "lb"),(zs "queue"),(zs "matching_blocks"),(zs "alo"),(zs "ahi"),(zs "blo"),(zs "bhi"),(zs "i"),(zs "j"),(zs "k"),(zs "x"),(zs "i1"),(zs "j1"),(zs "k1"),(zs "non_adjacent"),(zs "i2"),(zs "j2"),(zs "k2")] 686),
 (320,tu0),
 (321,f0 kj z175 (mt 11 7)),
 (322,ck kj z175 683 513 1 0 3 317 706 (.ref 319) (.ref 320) (.ref 321)),
 (323,f1 kj z175 (mt 11 7) .none (.str (Q6 (fnB (mt 11 7))) 708) (.str z71 385) (.ref 322)),
 (324,tu0),
 (325,e0),
 (326,tn [z29,(zs "i"),(zs "j"),(zs "answer"),(zs "ai"),(zs "bj"),(zs "size"),(zs "tag")] 713),
 (327,tu0),
 (328,f0 (zs "get_opcodes") z180 (mt 11 8)),
 (329,ck (zs "get_opcodes") z180 710 561 1 0 3 324 721 (.ref 326) (.ref 327) (.ref 328)),
 (330,f1 (zs "get_opcodes") z180 (mt 11 8) .none (.str (Q6 (fnB (mt 11 8))) 723) (.str z71 385) (.ref 329)),
 (331,tu #[.int 3 725]),
 (332,tu0),
 (333,e0),
 (334,tn [z29,(zs "n")] 729),
 (335,tu0),
 (336,f0 z127 z181 (mt 11 9)),
 (337,ck z127 z181 726 608 2 0 3 332 731 (.ref 334) (.ref 335) (.ref 336)),
 (338,f1 z127 z181 (mt 11 9) (.ref 331) .none (.str z71 385) (.ref 337)),
 (339,tu0),
 (340,e0),
 (341,tn [z29,(zs "matches")] 737),
 (342,tu0),
 (343,f0 (zs "ratio") (zs "SequenceMatcher.ratio") (mt 11 10)),
 (344,ck (zs "ratio") (zs "SequenceMatcher.ratio") 734 611 1 0 3 339 739 (.ref 341) (.ref 342) (.ref 343)),
 (345,f1 (zs "ratio") (zs "SequenceMatcher.ratio") (mt 11 10) .none (.str (Q6 (fnB (mt 11 10))) 741) (.str z71 385) (.ref 344)),
 (346,tu0),
 (347,e0),
 (348,tn [z29] 746),
 (349,tu0),
 (350,f0 (zs "quick_ratio") z183 (mt 11 11)),
 (351,ck (zs "quick_ratio") z183 743 635 1 0 3 346 747 (.ref 348) (.ref 349) (.ref 350)),
 (352,f1 (zs "quick_ratio") z183 (mt 11 11) .none .none (.str z71 385) (.ref 351)),
 (353,tu0),
 (354,e0),
 (355,tn [z29] 753),
 (356,tu0),
 (357,f0 z130 z184 (mt 11 12)),
 (358,ck z130 z184 750 638 1 0 3 353 754 (.ref 355) (.ref 356) (.ref 357)),
 (359,f1 z130 z184 (mt 11 12) .none .none (.str z71 385) (.ref 358)),
 (360,tn [(zs "a"),(zs "autojunk"),(zs "b"),(zs "b2j"),(zs "bjunk"),(zs "bpopular"),(zs "fullbcount"),(zs "isjunk"),(zs "matching_blocks"),(zs "opcodes")] 757),
 (361,ob (.type "dict") none (.dict #[(de P z20 587 (.str z71 385)),(de P z22 591 (.int 248 590)),(de P z5 593 (.str jM 592)),(de P z24 608 (.ref 280)),(de P (zs "set_seqs") 618 (.ref 287)),(de P (zs "set_seq1") 627 (.ref 294)),(de P (zs "set_seq2") 636 (.ref 301)),(de P (zs "_SequenceMatcher__chain_b") 654 (.ref 308)),(de P kh 682 (.ref 316)),(de P kj 709 (.ref 323)),(de P (zs "get_opcodes") 724 (.ref 330)),(de P z127 733 (.ref 338)),(de P (zs "ratio") 742 (.ref 345)),(de P (zs "quick_ratio") 749 (.ref 352)),(de P z130 756 (.ref 359)),(de P z25 767 (.ref 360)),(de P (zs "__dict__") 769 (.ref 363)),(de P z31 771 (.ref 364))] 3) #[]),
 (362,ob (.type "type") none (.cls { name:=fY,bases:=[.type "object"],mro:=[.ref 362,.type "object"],ns:=361,qualname:=fY,hasDict:=true,slotNames:=[],subclasses:=[],abstract:=false,collection:=none,hasDel:=false }) #[none,none,(some (.str fY 580)),(some (.str fY 588)),(some (.builtin "object.__new__")),(some (.bool true))]),
 (363,ob (.type "getset_descriptor") none (.fields #[(.str (zs "__dict__") 768),.ref 362,.builtin "function.__dict__",.builtin "function.__dict__#set"]) #[]),
 (364,ob (.type "getset_descriptor") none (.fields #[.str z31 770,.ref 362,.builtin "ExceptionGroup.__weakref__",.none]) #[]),
 (365,su 362),
 (366,bf "object.__init_subclass__" (.ref 362)),
 (367,tu0),
 (368,e0),
 (369,tn [(zs "x"),(zs "what"),(zs "kind")] 779),
 (370,tu0),
 (371,f0 jh jh (st 13)),
 (372,ck jh jh 776 641 2 0 3 367 782 (.ref 369) (.ref 370) (.ref 371)),
 (373,f1 jh jh (st 13) .none .none (.str (zs "os") 774) (.ref 372)),
 (374,tu #[.type "type"]),
 (375,bf "type.__prepare__" (.type "type")),
 (376,ob (.type "dict") none (.dict #[(de P z20 794 (.str (zs "abc") 785)),(de P z21 796 (.str gF 795)),(de P z22 798 (.int 647 797)),(de P dI 806 (.ref 387)),(de P z25 807 (.ref 388))] 5) #[]),
 (377,tu0),
 (378,ob .none none (.fields #[.int 649 0,.int 4 0,.ref 386]) #[]),
 (379,ck gF gF 789 647 0 0 0 377 792 .none .none .none),
 (380,fr 379 3 376 (zs "abc") 785 0),
 (381,tu0),
 (382,e0),
 (383,tn [(zs "cls"),(zs "subclass")] 802),
 (384,tu0),
 (385,f0 dI (zs "ABCMeta.register") (mt 15 0)),
 (386,ck dI (zs "ABCMeta.register") 799 649 2 0 3 381 804 (.ref 383) (.ref 384) (.ref 385)),
 (387,f1 dI (zs "ABCMeta.register") (mt 15 0) .none .none (.str (zs "abc") 785) (.ref 386)),
 (388,tu0),
 (389,ob (.type "dict") none (.dict #[(de P z20 794 (.str (zs "abc") 785)),(de P z22 798 (.int 647 797)),(de P dI 806 (.ref 387)),(de P z25 807 (.ref 388)),(de P z5 808 .none)] 2) #[]),
 (390,ob (.type "type") none (.cls { name:=gF,bases:=[.type "type"],mro:=[.ref 390,.type "type",.type "object"],ns:=389,qualname:=gF,hasDict:=true,slotNames:=[],subclasses:=[.ref 423],abstract:=false,collection:=none,hasDel:=false }) #[(some (.ref 374)),none,(some (.str gF 787)),(some (.str gF 795)),(some (.builtin "type.__new__")),(some (.bool true))]),
 (391,su 390),
 (392,bf "object.__init_subclass__" (.ref 390)),
 (393,tu #[.ref 390]),
 (394,bf "type.__prepare__" (.type "type")),
 (395,ob (.type "dict") none (.dict #[(de P z20 820 (.str iG 811)),(de P z21 822 (.str gf 821)),(de P z22 824 (.int 652 823)),(de P z215 833 (.ref 406)),(de P z216 841 (.ref 413)),(de P dI 849 (.ref 420)),(de P z25 850 (.ref 421))] 7) #[]),
 (396,tu0),
 (397,ob .none none (.fields #[.int 654 0,.int 4 0,.ref 405,.int 660 0,.int 4 0,.ref 412,.int 665 0,.int 4 0,.ref 419]) #[]),
 (398,ck gf gf 815 652 0 0 0 396 818 .none .none .none),
 (399,fr 398 3 395 iG 811 0),
 (400,tu0),
 (401,e0),
 (402,tn [(zs "cls"),⟨#[105,110,115,116,97,110,99,101]⟩,(zs "C")] 828),
 (403,tu0),
 (404,f0 z215 (zs "_ABCLike.__instancecheck__") (mt 17 0)),
 (405,ck z215 (zs "_ABCLike.__instancecheck__") 825 654 2 0 3 400 831 (.ref 402) (.ref 403) (.ref 404)),
 (406,f1 z215 (zs "_ABCLike.__instancecheck__") (mt 17 0) .none .none (.str iG 811) (.ref 405)),
 (407,tu0),
 (408,e0),
 (409,tn [(zs "cls"),(zs "C")] 837),
 (410,tu0),
 (411,f0 z216 (zs "_ABCLike.__subclasscheck__") (mt 17 1)),
 (412,ck z216 (zs "_ABCLike.__subclasscheck__") 834 660 2 0 3 407 839 (.ref 409) (.ref 410) (.ref 411)),
 (413,f1 z216 (zs "_ABCLike.__subclasscheck__") (mt 17 1) .none .none (.str iG 811) (.ref 412)),
 (414,tu0),
 (415,e0),
 (416,tn [(zs "cls"),(zs "subclass")] 845),
 (417,tu0),
 (418,f0 dI (zs "_ABCLike.register") (mt 17 2)),
 (419,ck dI (zs "_ABCLike.register") 842 665 2 0 3 414 847 (.ref 416) (.ref 417) (.ref 418)),
 (420,f1 dI (zs "_ABCLike.register") (mt 17 2) .none .none (.str iG 811) (.ref 419)),
 (421,tu0),
 (422,ob (.type "dict") none (.dict #[(de P z20 820 (.str iG 811)),(de P z22 824 (.int 652 823)),(de P z215 833 (.ref 406)),(de P z216 841 (.ref 413)),(de P dI 849 (.ref 420)),(de P z25 850 (.ref 421)),(de P z5 851 .none)] 2) #[]),
 (423,ob (.type "type") none (.cls { name:=gf,bases:=[.ref 390],mro:=[.ref 423,.ref 390,.type "type",.type "object"],ns:=422,qualname:=gf,hasDict:=true,slotNames:=[],subclasses:=[],abstract:=false,collection:=none,hasDel:=false }) #[(some (.ref 393)),none,(some (.str gf 813)),(some (.str gf 821)),(some (.builtin "type.__new__")),(some (.bool true))]),
 (424,su 423),
 (425,bf "object.__init_subclass__" (.ref 423)),
 (426,tu0),
 (427,e0),
 (428,tn [zs "C"] 857),
 (429,tu0),
 (430,f0 iR iR (st 18)),
 (431,ck iR iR 854 667 1 0 3 426 858 (.ref 428) (.ref 429) (.ref 430)),
 (432,f1 iR iR (st 18) .none .none (.str iG 811) (.ref 431)),
 (433,tu0),
 (434,e0),
 (435,tn [(zs "path"),(zs "kind"),(zs "hook"),(zs "given")] 866),
 (436,tu0),
 (437,f0 (zs "fspath") (zs "fspath") (st 20)),
 (438,ck (zs "fspath") (zs "fspath") 863 671 1 0 3 433 870 (.ref 435) (.ref 436) (.ref 437)),
 (439,f1 (zs "fspath") (zs "fspath") (st 20) .none .none (.str (zs "os") 861) (.ref 438)),
 (440,tu0),
 (441,e0),
 (442,tn [(zs "funcname"),(zs "args"),(zs "hasstr"),(zs "hasbytes"),(zs "s")] 878),
 (443,tu0),
 (444,f0 iZ iZ (st 22)),
 (445,ck iZ iZ 875 688 1 0 7 440 883 (.ref 442) (.ref 443) (.ref 444)),
 (446,f1 iZ iZ (st 22) .none .none (.str (zs "cpy313.genericpath") 873) (.ref 445)),
 (447,tu0),
 (448,e0),
 (449,tn [zs "path"] 891),
 (450,tu0),
 (451,f0 fQ fQ (st 24)),
 (452,ck fQ fQ 888 700 1 0 3 447 892 (.ref 449) (.ref 450) (.ref 451)),
 (453,f1 fQ fQ (st 24) .none .none (.str (zs "cpy313.posixpath") 886) (.ref 452)),
 (454,tu0),
 (455,e0),
 (456,tn [(zs "a"),(zs "p"),(zs "sep"),(zs "path"),(zs "b")] 898),
 (457,tu0),
 (458,f0 (zs "join") (zs "join") (st 25)),
 (459,ck (zs "join") (zs "join") 895 705 1 0 7 454 903 (.ref 456) (.ref 457) (.ref 458)),
 (460,f1 (zs "join") (zs "join") (st 25) .none (.str (Q6 (fnB (st 25))) 905) (.str (zs "cpy313.posixpath") 886) (.ref 459)),
 (461,tu0),
 (462,e0),
 (463,tn [(zs "p"),(zs "sep"),(zs "empty")] 910),
 (464,tu0),
 (465,f0 fG fG (st 26)),
 (466,ck fG fG 907 726 1 0 3 461 913 (.ref 463) (.ref 464) (.ref 465)),
 (467,f1 fG fG (st 26) .none (.str (Q6 (fnB (st 26))) 915) (.str (zs "cpy313.posixpath") 886) (.ref 466)),
 (468,tu0),
 (469,e0),
 (470,tn [(zs "path"),(zs "sep"),(zs "dot"),(zs "dotdot"),(zs "_"),(zs "initial_slashes"),(zs "comps"),(zs "new_comps"),(zs "comp")] 920),
 (471,tu0),
 (472,f0 fU fU (st 27)),
 (473,ck fU fU 917 743 1 0 3 468 929 (.ref 470) (.ref 471) (.ref 472)),
 (474,f1 fU fU (st 27) .none (.str (Q6 (fnB (st 27))) 931) (.str (zs "cpy313.posixpath") 886) (.ref 473)),
 (475,tu0),
 (476,e0),
 (477,tn [(zs "numbers"),(zs "lacking"),(zs "folder"),(zs "up"),(zs "row"),(zs "k"),(zs "head")] 938),
 (478,tu0),
 (479,f0 eY eY (st 29)),
 (480,ck eY eY 935 770 4 0 3 475 945 (.ref 477) (.ref 478) (.ref 479)),
 (481,f1 eY eY (st 29) .none .none (.str bM 933) (.ref 480)),
 (482,tu0),
 (483,e0),
 (484,tn [(zs "numbers"),(zs "codes"),(zs "i"),(zs "j"),(zs "x"),(zs "p"),(zs "q"),(zs "word")] 951),
 (485,tu0),
 (486,f0 fD fD (st 30)),
 (487,ck fD fD 948 777 1 0 3 482 959 (.ref 484) (.ref 485) (.ref 486)),
 (488,f1 fD fD (st 30) .none .none (.str bM 933) (.ref 487)),
 (489,tu0),
 (490,e0),
 (491,tn [(zs "sorter"),(zs "place")] 965),
 (492,tu0),
 (493,f0 fH fH (st 31)),
 (494,ck fH fH 962 796 2 0 3 489 967 (.ref 491) (.ref 492) (.ref 493)),
 (495,f1 fH fH (st 31) .none .none (.str bM 933) (.ref 494)),
 (496,tu0),
 (497,e0),
 (498,f0 fK fK (st 32)),
 (499,ck fK fK 970 802 3 0 3 496 973 .none .none (.ref 498)),
 (500,f1 fK fK (st 32) .none .none (.str bM 933) (.ref 499)),
 (501,tu0),
 (502,e0),
 (503,f0 eU eU (st 33)),
 (504,ck eU eU 976 820 3 0 3 501 979 .none .none (.ref 503)),
 (505,f1 eU eU (st 33) .none .none (.str bM 933) (.ref 504)),
 (506,tu0),
 (507,e0),
 (508,f0 fM fM (st 34)),
 (509,ck fM fM 982 835 1 0 3 506 985 .none .none (.ref 508)),
 (510,f1 fM fM (st 34) .none .none (.str bM 933) (.ref 509)),
 (511,tu0),
 (512,e0),
 (513,f0 (zs "law") (zs "law") (st 35)),
 (514,ck (zs "law") (zs "law") 988 844 1 0 3 511 991 .none .none (.ref 513)),
 (515,xg)]
def spl (l:List Obj):List Obj×List Obj:=List.rec ([],[]) (fun x _ r=>(x::r.2,r.1)) l
def mkT (n:Nat):List Obj→BT:=Nat.rec (fun _=>.nil) (fun _ ih l=>List.rec .nil (fun x xs _=>.node x (ih (spl xs).1) (ih (spl xs).2)) l) n
def lM (a:Params→Obj) (b:Obj) (n:Nat) (P:Params):BT:=mkT 10 (((((H3 P).map (·.2)).take n).set 3 (a P)).set 12 b)
def nT:Params→BT:=lM boot_o_3 o12a 15
def vo:Params→BT:=lM o3p6 o12p6 142
def uw:Params→BT:=lM o3p8 o12p8 185
def uN:Params→BT:=lM o3p9 o12p9 259
def vP:Params→BT:=lM o3p11 o12p11 367
def oF (P:Params):BT:=mkT 10 ((H3 P).map (·.2))
end
noncomputable abbrev bd:List Stmt:=pw.main.body
noncomputable abbrev ann:Option Value:=some (.ref 6)
noncomputable def jk:Env:={ scope:=pw.main.scope,locals:=mainNs,globals:=mainNs,cells:=[],code:=.ref 13,frame:=some 14 }
noncomputable abbrev cT:Code:=.body bd jk
noncomputable def sT (t:Params→BT) (n k:Nat) (w:World) (os:OsState):SharedT:=⟨t w.params,n,(boot_heap w.params).life,#[],boot_drawn,k,os⟩
theorem run_p6 (w:World) (os:OsState):PySem.W.Fast.tw10110043849684766642 tb pw w 11 ann 1 1056 (sT nT 15 187 w os) (piecesOf ((bd.drop 0).take 7) jk cT ⟨0,0,0,0⟩ [topFrame ⟨0,0,0,0⟩]) =
  some (.next,sT vo 142 385 w os,cT,⟨26,0,181,16⟩):=by kernel_rfl
theorem run_p8 (w:World) (os:OsState):PySem.W.Fast.tw10110043849684766642 tb pw w 11 ann 1 333 (sT vo 142 385 w os) (piecesOf ((bd.drop 7).take 2) jk cT ⟨26,0,181,16⟩ [topFrame ⟨0,0,0,0⟩]) =
  some (.next,sT uw 185 444 w os,cT,⟨183,0,200,54⟩):=by kernel_rfl
theorem run_p9 (w:World) (os:OsState):PySem.W.Fast.tw10110043849684766642 tb pw w 11 ann 1 1047 (sT uw 185 444 w os) (piecesOf ((bd.drop 9).take 1) jk cT ⟨183,0,200,54⟩ [topFrame ⟨0,0,0,0⟩]) =
  some (.next,sT uN 259 572 w os,cT,⟨201,0,243,54⟩):=by kernel_rfl
theorem Bh (w:World) (os:OsState):PySem.W.Fast.tw10110043849684766642 tb pw w 11 ann 1 687 (sT uN 259 572 w os) (piecesOf [st 10,nZ jM (st 11)] jk cT ⟨201,0,243,54⟩ [topFrame ⟨0,0,0,0⟩]) =
  some (.next,sT vP 367 774 w os,cT,⟨248,0,639,16⟩):=by kernel_rfl
theorem yG (w:World) (os:OsState):PySem.W.Fast.tw10110043849684766642 tb pw w 11 ann 1 1045 (sT vP 367 774 w os) (piecesOf ((bd.drop 12).take 24) jk cT ⟨248,0,639,16⟩ [topFrame ⟨0,0,0,0⟩]) =
  some (.next,sT oF 516 994 w os,cT,⟨844,0,857,58⟩):=by kernel_rfl
noncomputable def gV (w:World) (os:OsState):Shared:=⟨absHeap (oF w.params) 516 (boot_heap w.params).life,#[],boot_drawn,994,os⟩
theorem go0 (w:World) (os:OsState):PySem.W.Fast.tw15667345088766844465 tb pw w 11 ann 12 ⟨boot_heap w.params,#[],boot_drawn,boot_toks,os⟩ (topStub pw) =
  some ((sT nT 15 187 w os).abs,⟨PySem.W.Fast.tw11892475500146522536 tb cT,cT,⟨0,0,0,0⟩,[topFrame ⟨0,0,0,0⟩]⟩):=by kernel_rfl
theorem block0 (w:World) (os:OsState):PySem.W.Fast.tw14374325043358763698 tb pw w 11 ann 1 1 (sT nT 15 187 w os).abs (blockOf bd jk cT ⟨0,0,0,0⟩ [topFrame ⟨0,0,0,0⟩]) =
  some (.next,(sT nT 15 187 w os).abs,cT,⟨0,0,0,0⟩):=by kernel_rfl
theorem end0 (w:World) (os:OsState):PySem.W.Fast.tw14082659384304107361 tb pw w 11 ann 2 (sT oF 516 994 w os).abs ⟨doneF .next,cT,⟨844,0,857,58⟩,[topFrame ⟨0,0,0,0⟩]⟩=some (gV w os):=by kernel_rfl
theorem xX:bd=(bd.drop 0).take 7++((bd.drop 7).take 2++((bd.drop 9).take 1++([st 10,nZ jM (st 11)]++((bd.drop 12).take 24++[])))):=by
 rw [← st11];kernel_rfl
theorem yr (w:World) (os:OsState):topRun treeTable pw w 11 ann (12+(1+(1056+(333+(1047+(687+(1045+2))))))) ⟨boot_heap w.params,#[],boot_drawn,boot_toks,os⟩ (topStub pw)=some (gV w os):=by
 have g:=go0 w os;have b:=block0 w os;have e:=end0 w os;have r1:=run_p6 w os;have r2:=run_p8 w os;have r3:=run_p9 w os;have r4:=Bh w os;have r5:=yG w os;rw [← PySem.W.Fast.te15667345088766844465,← oX,← PySem.W.Fast.te11892475500146522536] at g;rw [← PySem.W.Fast.te14374325043358763698,← oX] at b;rw [← PySem.W.Fast.te14082659384304107361,← oX] at e;rw [← PySem.W.Fast.te10110043849684766642,← oX] at r1 r2 r3 r4 r5;refine go_top g (piece_block b ?_);have k5:=piece_app (rest:=[]) (segRun_of r5) e;have k4:=piece_app (segRun_of r4) k5;have k3:=piece_app (segRun_of r3) k4;have k2:=piece_app (segRun_of r2) k3;have k1:=piece_app (segRun_of r1) k2;rw [← xX] at k1;exact k1
noncomputable def keepL:List Nat:=[0,2,3,4,5,6,8,9,10,11,13,15,17,18,20,22,24,25,26,27,29,30,31,32,33,34,35]
noncomputable def qv:Program:=view pw keepL
noncomputable def mO:List Str:=["_NodeInfo","_tuplegetter","Match","SequenceMatcher"]
noncomputable def asL:List Addr:=List.range 516
noncomputable abbrev rW:RowW:=OpenRow.toRowW (OpenLaw.row PySem.Challenge.rw_il0103_01)
noncomputable abbrev XtL:Shared→Bool:=fun s=>xlAt qv [] s&&recOk (RowW.records rW) s
theorem looks1 (w:World) (os:OsState):(staticsOk (PySem.W.Fast.tw5923862056798008813 pw.main.body) (boot_heap w.params) (gV w os).heap&&namesBound pw (gV w os).heap&&gensDone (gV w os)&&laidKept (boot_heap w.params) (gV w os).heap)=true:=by kernel_rfl
theorem looks3 (w:World) (os:OsState):obsZ asL (gV w os)=valZ H3 516 994 w:=by kernel_rfl
theorem looks2 (w:World) (os:OsState):PySem.W.Fast.tw4187177175401517315 qv mO (PySem.W.Fast.tw5923862056798008813 pw.main.body) XtL true (gV w os)=openGood qv mO:=by kernel_rfl
theorem opens:opening pw=plainProg pw.main.scope.names:=by kernel_rfl
theorem left:LeftO pw qv mO XtL (obsZ asL) (valZ H3 516 994) 8452:=by
 refine LeftO.of_pieces (H₀:=boot_heap) (H₁:=fun P=>absHeap (oF P) 516 (boot_heap P).life) (gs₀:=#[]) (gs₁:=#[]) (d₀:=boot_drawn) (d₁:=boot_drawn) (k₀:=boot_toks) (k₁:=994) (m₀:=11) (ann:=ann)
  (M:=12+(1+(1056+(333+(1047+(687+(1045+2)))))))
  (boot_open opens (by decide +kernel) (fun s=>by kernel_rfl)) (fun w=>by kernel_rfl) yr (by decide +kernel) (fun w=>?_)
 funext os;have l1:=looks1 w os;have l2:=looks2 w os;have l3:=looks3 w os;rw [← PySem.W.Fast.te5923862056798008813] at l1 l2;rw [← PySem.W.Fast.te4187177175401517315] at l2;exact Prod.ext l1 (Prod.ext l2 l3)
set_option maxHeartbeats 0 in
theorem ws:PySem.Challenge.rw_il0103_01.wellSaid=true:=by
 rw [PySem.W.Fast.te9446332074065402090];kernel_rfl
set_option maxHeartbeats 0 in
theorem hd (call:∀ d kwd,defOf qv (G4 "law")=some (d,kwd)→WalkX qv mO (XL qv []) (obsZ asL) (valZ H3 516 994) rW d kwd fun f vs=>PySem.call f vs):PySem.Challenge.rw_il0103_01.Holds:=by
 refine holds_law ws fun said=>?_;refine holds_openX (q:=qv) (loose:=mO) (Xt:=fun s=>xlAt qv [] s&&recOk (RowW.records rW) s) (XP:=XL qv []) (Yf:=obsZ asL) (Ya:=valZ H3 516 994) (N:=8452) left (fun s e=>xl_of s (Bool.and_eq_true_iff.mp e).1) XL.keeps (by rfl) (by rfl) (by rfl) (fun s e=>recFacts_of (Bool.and_eq_true_iff.mp e).2) (by rfl) (by first | assumption | decide +kernel) (by decide +kernel) ⟨rfl,rfl,rfl,rfl,rfl,by decide +kernel⟩ ?hw ?hc
 case hw=>w_witness2
 case hc=>exact call _ _ (by rfl)
theorem H6 {α0:Type} {p0 p1:α0→Prop} (a0:α0) (h0:p0 a0) (h1:p1 a0):∃ a0,p0 a0∧p1 a0:=⟨a0,h0,h1⟩
theorem M8 {α0:Type} {p0 p1 p2:α0→Prop} (a0:α0) (h0:p0 a0) (h1:p1 a0) (h2:p2 a0):∃ a0,p0 a0∧p1 a0∧p2 a0:=⟨a0,h0,h1,h2⟩
theorem Q0 {α0:Type} {p0 p1 p2 p3:α0→Prop} (a0:α0) (h0:p0 a0) (h1:p1 a0) (h2:p2 a0) (h3:p3 a0):∃ a0,p0 a0∧p1 a0∧p2 a0∧p3 a0:=⟨a0,h0,h1,h2,h3⟩
theorem gP {α0:Type} {p0 p1 p2 p3 p4:α0→Prop} (a0:α0) (h0:p0 a0) (h1:p1 a0) (h2:p2 a0) (h3:p3 a0) (h4:p4 a0):∃ a0,p0 a0∧p1 a0∧p2 a0∧p3 a0∧p4 a0:=⟨a0,h0,h1,h2,h3,h4⟩
theorem bu {α0:Type} {p0 p1 p2 p3 p4 p5:α0→Prop} (a0:α0) (h0:p0 a0) (h1:p1 a0) (h2:p2 a0) (h3:p3 a0) (h4:p4 a0) (h5:p5 a0):∃ a0,p0 a0∧p1 a0∧p2 a0∧p3 a0∧p4 a0∧p5 a0:=⟨a0,h0,h1,h2,h3,h4,h5⟩
theorem I1_7 {α0:Type} {p0 p1 p2 p3 p4 p5 p6:α0→Prop} (a0:α0) (h0:p0 a0) (h1:p1 a0) (h2:p2 a0) (h3:p3 a0) (h4:p4 a0) (h5:p5 a0) (h6:p6 a0):∃ a0,p0 a0∧p1 a0∧p2 a0∧p3 a0∧p4 a0∧p5 a0∧p6 a0:=⟨a0,h0,h1,h2,h3,h4,h5,h6⟩
theorem I1_8 {α0:Type} {p0 p1 p2 p3 p4 p5 p6 p7:α0→Prop} (a0:α0) (h0:p0 a0) (h1:p1 a0) (h2:p2 a0) (h3:p3 a0) (h4:p4 a0) (h5:p5 a0) (h6:p6 a0) (h7:p7 a0):∃ a0,p0 a0∧p1 a0∧p2 a0∧p3 a0∧p4 a0∧p5 a0∧p6 a0∧p7 a0:=⟨a0,h0,h1,h2,h3,h4,h5,h6,h7⟩
theorem fc {α0 α1:Type} {p0:α0→α1→Prop} (a0:α0) (a1:α1) (h0:p0 a0 a1):∃ a0 a1,p0 a0 a1:=⟨a0,a1,h0⟩
theorem I5 {α0 α1:Type} {p0 p1:α0→α1→Prop} (a0:α0) (a1:α1) (h0:p0 a0 a1) (h1:p1 a0 a1):∃ a0 a1,p0 a0 a1∧p1 a0 a1:=⟨a0,a1,h0,h1⟩
theorem X8 {α0 α1:Type} {p0 p1 p2:α0→α1→Prop} (a0:α0) (a1:α1) (h0:p0 a0 a1) (h1:p1 a0 a1) (h2:p2 a0 a1):∃ a0 a1,p0 a0 a1∧p1 a0 a1∧p2 a0 a1:=⟨a0,a1,h0,h1,h2⟩
theorem cR {α0 α1:Type} {p0 p1 p2 p3:α0→α1→Prop} (a0:α0) (a1:α1) (h0:p0 a0 a1) (h1:p1 a0 a1) (h2:p2 a0 a1) (h3:p3 a0 a1):∃ a0 a1,p0 a0 a1∧p1 a0 a1∧p2 a0 a1∧p3 a0 a1:=⟨a0,a1,h0,h1,h2,h3⟩
theorem I2_5 {α0 α1:Type} {p0 p1 p2 p3 p4:α0→α1→Prop} (a0:α0) (a1:α1) (h0:p0 a0 a1) (h1:p1 a0 a1) (h2:p2 a0 a1) (h3:p3 a0 a1) (h4:p4 a0 a1):∃ a0 a1,p0 a0 a1∧p1 a0 a1∧p2 a0 a1∧p3 a0 a1∧p4 a0 a1:=⟨a0,a1,h0,h1,h2,h3,h4⟩
theorem lC {α0 α1:Type} {p0 p1 p2 p3 p4 p5:α0→α1→Prop} (a0:α0) (a1:α1) (h0:p0 a0 a1) (h1:p1 a0 a1) (h2:p2 a0 a1) (h3:p3 a0 a1) (h4:p4 a0 a1) (h5:p5 a0 a1):∃ a0 a1,p0 a0 a1∧p1 a0 a1∧p2 a0 a1∧p3 a0 a1∧p4 a0 a1∧p5 a0 a1:=⟨a0,a1,h0,h1,h2,h3,h4,h5⟩
theorem I2_7 {α0 α1:Type} {p0 p1 p2 p3 p4 p5 p6:α0→α1→Prop} (a0:α0) (a1:α1) (h0:p0 a0 a1) (h1:p1 a0 a1) (h2:p2 a0 a1) (h3:p3 a0 a1) (h4:p4 a0 a1) (h5:p5 a0 a1) (h6:p6 a0 a1):∃ a0 a1,p0 a0 a1∧p1 a0 a1∧p2 a0 a1∧p3 a0 a1∧p4 a0 a1∧p5 a0 a1∧p6 a0 a1:=⟨a0,a1,h0,h1,h2,h3,h4,h5,h6⟩
theorem I2_8 {α0 α1:Type} {p0 p1 p2 p3 p4 p5 p6 p7:α0→α1→Prop} (a0:α0) (a1:α1) (h0:p0 a0 a1) (h1:p1 a0 a1) (h2:p2 a0 a1) (h3:p3 a0 a1) (h4:p4 a0 a1) (h5:p5 a0 a1) (h6:p6 a0 a1) (h7:p7 a0 a1):∃ a0 a1,p0 a0 a1∧p1 a0 a1∧p2 a0 a1∧p3 a0 a1∧p4 a0 a1∧p5 a0 a1∧p6 a0 a1∧p7 a0 a1:=⟨a0,a1,h0,h1,h2,h3,h4,h5,h6,h7⟩
theorem kY {α0 α1 α2:Type} {p0:α0→α1→α2→Prop} (a0:α0) (a1:α1) (a2:α2) (h0:p0 a0 a1 a2):∃ a0 a1 a2,p0 a0 a1 a2:=⟨a0,a1,a2,h0⟩
theorem R0 {α0 α1 α2:Type} {p0 p1:α0→α1→α2→Prop} (a0:α0) (a1:α1) (a2:α2) (h0:p0 a0 a1 a2) (h1:p1 a0 a1 a2):∃ a0 a1 a2,p0 a0 a1 a2∧p1 a0 a1 a2:=⟨a0,a1,a2,h0,h1⟩
theorem lG {α0 α1 α2:Type} {p0 p1 p2:α0→α1→α2→Prop} (a0:α0) (a1:α1) (a2:α2) (h0:p0 a0 a1 a2) (h1:p1 a0 a1 a2) (h2:p2 a0 a1 a2):∃ a0 a1 a2,p0 a0 a1 a2∧p1 a0 a1 a2∧p2 a0 a1 a2:=⟨a0,a1,a2,h0,h1,h2⟩
theorem gG {α0 α1 α2:Type} {p0 p1 p2 p3:α0→α1→α2→Prop} (a0:α0) (a1:α1) (a2:α2) (h0:p0 a0 a1 a2) (h1:p1 a0 a1 a2) (h2:p2 a0 a1 a2) (h3:p3 a0 a1 a2):∃ a0 a1 a2,p0 a0 a1 a2∧p1 a0 a1 a2∧p2 a0 a1 a2∧p3 a0 a1 a2:=⟨a0,a1,a2,h0,h1,h2,h3⟩
theorem I3_5 {α0 α1 α2:Type} {p0 p1 p2 p3 p4:α0→α1→α2→Prop} (a0:α0) (a1:α1) (a2:α2) (h0:p0 a0 a1 a2) (h1:p1 a0 a1 a2) (h2:p2 a0 a1 a2) (h3:p3 a0 a1 a2) (h4:p4 a0 a1 a2):∃ a0 a1 a2,p0 a0 a1 a2∧p1 a0 a1 a2∧p2 a0 a1 a2∧p3 a0 a1 a2∧p4 a0 a1 a2:=⟨a0,a1,a2,h0,h1,h2,h3,h4⟩
theorem dX {α0 α1 α2:Type} {p0 p1 p2 p3 p4 p5:α0→α1→α2→Prop} (a0:α0) (a1:α1) (a2:α2) (h0:p0 a0 a1 a2) (h1:p1 a0 a1 a2) (h2:p2 a0 a1 a2) (h3:p3 a0 a1 a2) (h4:p4 a0 a1 a2) (h5:p5 a0 a1 a2):∃ a0 a1 a2,p0 a0 a1 a2∧p1 a0 a1 a2∧p2 a0 a1 a2∧p3 a0 a1 a2∧p4 a0 a1 a2∧p5 a0 a1 a2:=⟨a0,a1,a2,h0,h1,h2,h3,h4,h5⟩
theorem I3_8 {α0 α1 α2:Type} {p0 p1 p2 p3 p4 p5 p6 p7:α0→α1→α2→Prop} (a0:α0) (a1:α1) (a2:α2) (h0:p0 a0 a1 a2) (h1:p1 a0 a1 a2) (h2:p2 a0 a1 a2) (h3:p3 a0 a1 a2) (h4:p4 a0 a1 a2) (h5:p5 a0 a1 a2) (h6:p6 a0 a1 a2) (h7:p7 a0 a1 a2):∃ a0 a1 a2,p0 a0 a1 a2∧p1 a0 a1 a2∧p2 a0 a1 a2∧p3 a0 a1 a2∧p4 a0 a1 a2∧p5 a0 a1 a2∧p6 a0 a1 a2∧p7 a0 a1 a2:=⟨a0,a1,a2,h0,h1,h2,h3,h4,h5,h6,h7⟩
theorem lH {α0 α1 α2 α3:Type} {p0 p1:α0→α1→α2→α3→Prop} (a0:α0) (a1:α1) (a2:α2) (a3:α3) (h0:p0 a0 a1 a2 a3) (h1:p1 a0 a1 a2 a3):∃ a0 a1 a2 a3,p0 a0 a1 a2 a3∧p1 a0 a1 a2 a3:=⟨a0,a1,a2,a3,h0,h1⟩
theorem I4_3 {α0 α1 α2 α3:Type} {p0 p1 p2:α0→α1→α2→α3→Prop} (a0:α0) (a1:α1) (a2:α2) (a3:α3) (h0:p0 a0 a1 a2 a3) (h1:p1 a0 a1 a2 a3) (h2:p2 a0 a1 a2 a3):∃ a0 a1 a2 a3,p0 a0 a1 a2 a3∧p1 a0 a1 a2 a3∧p2 a0 a1 a2 a3:=⟨a0,a1,a2,a3,h0,h1,h2⟩
theorem I4_5 {α0 α1 α2 α3:Type} {p0 p1 p2 p3 p4:α0→α1→α2→α3→Prop} (a0:α0) (a1:α1) (a2:α2) (a3:α3) (h0:p0 a0 a1 a2 a3) (h1:p1 a0 a1 a2 a3) (h2:p2 a0 a1 a2 a3) (h3:p3 a0 a1 a2 a3) (h4:p4 a0 a1 a2 a3):∃ a0 a1 a2 a3,p0 a0 a1 a2 a3∧p1 a0 a1 a2 a3∧p2 a0 a1 a2 a3∧p3 a0 a1 a2 a3∧p4 a0 a1 a2 a3:=⟨a0,a1,a2,a3,h0,h1,h2,h3,h4⟩
theorem I4_9 {α0 α1 α2 α3:Type} {p0 p1 p2 p3 p4 p5 p6 p7 p8:α0→α1→α2→α3→Prop} (a0:α0) (a1:α1) (a2:α2) (a3:α3) (h0:p0 a0 a1 a2 a3) (h1:p1 a0 a1 a2 a3) (h2:p2 a0 a1 a2 a3) (h3:p3 a0 a1 a2 a3) (h4:p4 a0 a1 a2 a3) (h5:p5 a0 a1 a2 a3) (h6:p6 a0 a1 a2 a3) (h7:p7 a0 a1 a2 a3) (h8:p8 a0 a1 a2 a3):∃ a0 a1 a2 a3,p0 a0 a1 a2 a3∧p1 a0 a1 a2 a3∧p2 a0 a1 a2 a3∧p3 a0 a1 a2 a3∧p4 a0 a1 a2 a3∧p5 a0 a1 a2 a3∧p6 a0 a1 a2 a3∧p7 a0 a1 a2 a3∧p8 a0 a1 a2 a3:=⟨a0,a1,a2,a3,h0,h1,h2,h3,h4,h5,h6,h7,h8⟩
theorem I5_2 {α0 α1 α2 α3 α4:Type} {p0 p1:α0→α1→α2→α3→α4→Prop} (a0:α0) (a1:α1) (a2:α2) (a3:α3) (a4:α4) (h0:p0 a0 a1 a2 a3 a4) (h1:p1 a0 a1 a2 a3 a4):∃ a0 a1 a2 a3 a4,p0 a0 a1 a2 a3 a4∧p1 a0 a1 a2 a3 a4:=⟨a0,a1,a2,a3,a4,h0,h1⟩
theorem I6_3 {α0 α1 α2 α3 α4 α5:Type} {p0 p1 p2:α0→α1→α2→α3→α4→α5→Prop} (a0:α0) (a1:α1) (a2:α2) (a3:α3) (a4:α4) (a5:α5) (h0:p0 a0 a1 a2 a3 a4 a5) (h1:p1 a0 a1 a2 a3 a4 a5) (h2:p2 a0 a1 a2 a3 a4 a5):∃ a0 a1 a2 a3 a4 a5,p0 a0 a1 a2 a3 a4 a5∧p1 a0 a1 a2 a3 a4 a5∧p2 a0 a1 a2 a3 a4 a5:=⟨a0,a1,a2,a3,a4,a5,h0,h1,h2⟩
theorem I6_5 {α0 α1 α2 α3 α4 α5:Type} {p0 p1 p2 p3 p4:α0→α1→α2→α3→α4→α5→Prop} (a0:α0) (a1:α1) (a2:α2) (a3:α3) (a4:α4) (a5:α5) (h0:p0 a0 a1 a2 a3 a4 a5) (h1:p1 a0 a1 a2 a3 a4 a5) (h2:p2 a0 a1 a2 a3 a4 a5) (h3:p3 a0 a1 a2 a3 a4 a5) (h4:p4 a0 a1 a2 a3 a4 a5):∃ a0 a1 a2 a3 a4 a5,p0 a0 a1 a2 a3 a4 a5∧p1 a0 a1 a2 a3 a4 a5∧p2 a0 a1 a2 a3 a4 a5∧p3 a0 a1 a2 a3 a4 a5∧p4 a0 a1 a2 a3 a4 a5:=⟨a0,a1,a2,a3,a4,a5,h0,h1,h2,h3,h4⟩
theorem je {α0 α1 α2 α3 α4 α5:Type} {p0 p1 p2 p3 p4 p5:α0→α1→α2→α3→α4→α5→Prop} (a0:α0) (a1:α1) (a2:α2) (a3:α3) (a4:α4) (a5:α5) (h0:p0 a0 a1 a2 a3 a4 a5) (h1:p1 a0 a1 a2 a3 a4 a5) (h2:p2 a0 a1 a2 a3 a4 a5) (h3:p3 a0 a1 a2 a3 a4 a5) (h4:p4 a0 a1 a2 a3 a4 a5) (h5:p5 a0 a1 a2 a3 a4 a5):∃ a0 a1 a2 a3 a4 a5,p0 a0 a1 a2 a3 a4 a5∧p1 a0 a1 a2 a3 a4 a5∧p2 a0 a1 a2 a3 a4 a5∧p3 a0 a1 a2 a3 a4 a5∧p4 a0 a1 a2 a3 a4 a5∧p5 a0 a1 a2 a3 a4 a5:=⟨a0,a1,a2,a3,a4,a5,h0,h1,h2,h3,h4,h5⟩
theorem jR {α0 α1 α2 α3 α4 α5:Type} {p0 p1 p2 p3 p4 p5 p6:α0→α1→α2→α3→α4→α5→Prop} (a0:α0) (a1:α1) (a2:α2) (a3:α3) (a4:α4) (a5:α5) (h0:p0 a0 a1 a2 a3 a4 a5) (h1:p1 a0 a1 a2 a3 a4 a5) (h2:p2 a0 a1 a2 a3 a4 a5) (h3:p3 a0 a1 a2 a3 a4 a5) (h4:p4 a0 a1 a2 a3 a4 a5) (h5:p5 a0 a1 a2 a3 a4 a5) (h6:p6 a0 a1 a2 a3 a4 a5):∃ a0 a1 a2 a3 a4 a5,p0 a0 a1 a2 a3 a4 a5∧p1 a0 a1 a2 a3 a4 a5∧p2 a0 a1 a2 a3 a4 a5∧p3 a0 a1 a2 a3 a4 a5∧p4 a0 a1 a2 a3 a4 a5∧p5 a0 a1 a2 a3 a4 a5∧p6 a0 a1 a2 a3 a4 a5:=⟨a0,a1,a2,a3,a4,a5,h0,h1,h2,h3,h4,h5,h6⟩
theorem I6_8 {α0 α1 α2 α3 α4 α5:Type} {p0 p1 p2 p3 p4 p5 p6 p7:α0→α1→α2→α3→α4→α5→Prop} (a0:α0) (a1:α1) (a2:α2) (a3:α3) (a4:α4) (a5:α5) (h0:p0 a0 a1 a2 a3 a4 a5) (h1:p1 a0 a1 a2 a3 a4 a5) (h2:p2 a0 a1 a2 a3 a4 a5) (h3:p3 a0 a1 a2 a3 a4 a5) (h4:p4 a0 a1 a2 a3 a4 a5) (h5:p5 a0 a1 a2 a3 a4 a5) (h6:p6 a0 a1 a2 a3 a4 a5) (h7:p7 a0 a1 a2 a3 a4 a5):∃ a0 a1 a2 a3 a4 a5,p0 a0 a1 a2 a3 a4 a5∧p1 a0 a1 a2 a3 a4 a5∧p2 a0 a1 a2 a3 a4 a5∧p3 a0 a1 a2 a3 a4 a5∧p4 a0 a1 a2 a3 a4 a5∧p5 a0 a1 a2 a3 a4 a5∧p6 a0 a1 a2 a3 a4 a5∧p7 a0 a1 a2 a3 a4 a5:=⟨a0,a1,a2,a3,a4,a5,h0,h1,h2,h3,h4,h5,h6,h7⟩
theorem pN {α0 α1 α2 α3 α4 α5:Type} {p0 p1 p2 p3 p4 p5 p6 p7 p8 p9:α0→α1→α2→α3→α4→α5→Prop} (a0:α0) (a1:α1) (a2:α2) (a3:α3) (a4:α4) (a5:α5) (h0:p0 a0 a1 a2 a3 a4 a5) (h1:p1 a0 a1 a2 a3 a4 a5) (h2:p2 a0 a1 a2 a3 a4 a5) (h3:p3 a0 a1 a2 a3 a4 a5) (h4:p4 a0 a1 a2 a3 a4 a5) (h5:p5 a0 a1 a2 a3 a4 a5) (h6:p6 a0 a1 a2 a3 a4 a5) (h7:p7 a0 a1 a2 a3 a4 a5) (h8:p8 a0 a1 a2 a3 a4 a5) (h9:p9 a0 a1 a2 a3 a4 a5):∃ a0 a1 a2 a3 a4 a5,p0 a0 a1 a2 a3 a4 a5∧p1 a0 a1 a2 a3 a4 a5∧p2 a0 a1 a2 a3 a4 a5∧p3 a0 a1 a2 a3 a4 a5∧p4 a0 a1 a2 a3 a4 a5∧p5 a0 a1 a2 a3 a4 a5∧p6 a0 a1 a2 a3 a4 a5∧p7 a0 a1 a2 a3 a4 a5∧p8 a0 a1 a2 a3 a4 a5∧p9 a0 a1 a2 a3 a4 a5:=⟨a0,a1,a2,a3,a4,a5,h0,h1,h2,h3,h4,h5,h6,h7,h8,h9⟩
theorem I7_4 {α0 α1 α2 α3 α4 α5 α6:Type} {p0 p1 p2 p3:α0→α1→α2→α3→α4→α5→α6→Prop} (a0:α0) (a1:α1) (a2:α2) (a3:α3) (a4:α4) (a5:α5) (a6:α6) (h0:p0 a0 a1 a2 a3 a4 a5 a6) (h1:p1 a0 a1 a2 a3 a4 a5 a6) (h2:p2 a0 a1 a2 a3 a4 a5 a6) (h3:p3 a0 a1 a2 a3 a4 a5 a6):∃ a0 a1 a2 a3 a4 a5 a6,p0 a0 a1 a2 a3 a4 a5 a6∧p1 a0 a1 a2 a3 a4 a5 a6∧p2 a0 a1 a2 a3 a4 a5 a6∧p3 a0 a1 a2 a3 a4 a5 a6:=⟨a0,a1,a2,a3,a4,a5,a6,h0,h1,h2,h3⟩
theorem I8_4 {α0 α1 α2 α3 α4 α5 α6 α7:Type} {p0 p1 p2 p3:α0→α1→α2→α3→α4→α5→α6→α7→Prop} (a0:α0) (a1:α1) (a2:α2) (a3:α3) (a4:α4) (a5:α5) (a6:α6) (a7:α7) (h0:p0 a0 a1 a2 a3 a4 a5 a6 a7) (h1:p1 a0 a1 a2 a3 a4 a5 a6 a7) (h2:p2 a0 a1 a2 a3 a4 a5 a6 a7) (h3:p3 a0 a1 a2 a3 a4 a5 a6 a7):∃ a0 a1 a2 a3 a4 a5 a6 a7,p0 a0 a1 a2 a3 a4 a5 a6 a7∧p1 a0 a1 a2 a3 a4 a5 a6 a7∧p2 a0 a1 a2 a3 a4 a5 a6 a7∧p3 a0 a1 a2 a3 a4 a5 a6 a7:=⟨a0,a1,a2,a3,a4,a5,a6,a7,h0,h1,h2,h3⟩
theorem tB {α0 α1 α2 α3 α4 α5 α6 α7 α8 α9:Type} {p0 p1 p2 p3 p4 p5 p6 p7 p8 p9:α0→α1→α2→α3→α4→α5→α6→α7→α8→α9→Prop} (a0:α0) (a1:α1) (a2:α2) (a3:α3) (a4:α4) (a5:α5) (a6:α6) (a7:α7) (a8:α8) (a9:α9) (h0:p0 a0 a1 a2 a3 a4 a5 a6 a7 a8 a9) (h1:p1 a0 a1 a2 a3 a4 a5 a6 a7 a8 a9) (h2:p2 a0 a1 a2 a3 a4 a5 a6 a7 a8 a9) (h3:p3 a0 a1 a2 a3 a4 a5 a6 a7 a8 a9) (h4:p4 a0 a1 a2 a3 a4 a5 a6 a7 a8 a9) (h5:p5 a0 a1 a2 a3 a4 a5 a6 a7 a8 a9) (h6:p6 a0 a1 a2 a3 a4 a5 a6 a7 a8 a9) (h7:p7 a0 a1 a2 a3 a4 a5 a6 a7 a8 a9) (h8:p8 a0 a1 a2 a3 a4 a5 a6 a7 a8 a9) (h9:p9 a0 a1 a2 a3 a4 a5 a6 a7 a8 a9):∃ a0 a1 a2 a3 a4 a5 a6 a7 a8 a9,p0 a0 a1 a2 a3 a4 a5 a6 a7 a8 a9∧p1 a0 a1 a2 a3 a4 a5 a6 a7 a8 a9∧p2 a0 a1 a2 a3 a4 a5 a6 a7 a8 a9∧p3 a0 a1 a2 a3 a4 a5 a6 a7 a8 a9∧p4 a0 a1 a2 a3 a4 a5 a6 a7 a8 a9∧p5 a0 a1 a2 a3 a4 a5 a6 a7 a8 a9∧p6 a0 a1 a2 a3 a4 a5 a6 a7 a8 a9∧p7 a0 a1 a2 a3 a4 a5 a6 a7 a8 a9∧p8 a0 a1 a2 a3 a4 a5 a6 a7 a8 a9∧p9 a0 a1 a2 a3 a4 a5 a6 a7 a8 a9:=⟨a0,a1,a2,a3,a4,a5,a6,a7,a8,a9,h0,h1,h2,h3,h4,h5,h6,h7,h8,h9⟩
noncomputable abbrev bD:=(Nat→Nat)×(Nat→Nat)
noncomputable abbrev bG:=List bD
noncomputable def cM (l:List Nat) (i:Nat):Nat:=((1::l).drop i).headD 0
noncomputable def aZ (f:Nat→Nat) (n:Nat):Nat:=Nat.rec 0 (fun i s=>s+f i) n
noncomputable def U9 (A:Nat→Nat) (l:List Nat):Nat:=aZ (fun i=>A i*cM l i) 13
noncomputable def jZ (l:List Nat) (q:bD):Prop:=U9 q.1 l≤U9 q.2 l
noncomputable def cu (A B:Nat→Nat):Nat→Nat:=fun i=>A i+B i
noncomputable def Z1 (k:Nat) (A:Nat→Nat):Nat→Nat:=fun i=>k*A i
noncomputable def lD (A B:Nat→Nat):Nat→Nat:=fun i=>A i-B i
noncomputable def dR (j:Nat) (x:Nat) (A:Nat→Nat):Nat→Nat:=fun i=>bif Nat.beq i j then x else A i
noncomputable abbrev bJ:Nat→Nat:=fun O=>0
theorem wk {i j:Nat} (h:i≠j):Nat.beq i j=false:=Bool.eq_false_iff.mpr fun z=>h (Nat.eq_of_beq_eq_true z)
theorem Ci (f h:Nat→Nat) (n:Nat):aZ (fun i=>f i+h i) n=aZ f n+aZ h n:=by
 induction n with
 | zero=>rfl
 | succ n ih=>exact (congrArg (·+(f n+h n)) ih).trans (Nat.add_add_add_comm ..)
theorem yJ (k:Nat) (f:Nat→Nat) (n:Nat):aZ (fun i=>k*f i) n=k*aZ f n:=by
 induction n with
 | zero=>rfl
 | succ n ih=>exact (congrArg (·+k*f n) ih).trans (Nat.mul_add ..).symm
theorem zp {f h:Nat→Nat} (e:∀ i,f i≤h i) (n:Nat):aZ f n≤aZ h n:=by
 induction n with
 | zero=>exact K9 _
 | succ n ih=>exact Nat.add_le_add ih (e n)
theorem qU (n:Nat) {f:Nat→Nat} (e:∀ i,i<n→f i=0):aZ f n=0:=by
 induction n with
 | zero=>rfl
 | succ n ih=>exact (congr (congrArg _ (ih fun i h=>e i (Nat.lt_succ_of_lt h))) (e n (Nat.lt_succ_self n)):aZ f n+f n=0+0)
theorem fV (A B:Nat→Nat) (l:List Nat):U9 (cu A B) l=U9 A l+U9 B l:=by
 refine Eq.trans ?_ (Ci ..);exact congrArg (aZ · 13) (funext fun i=>Nat.add_mul ..)
theorem jm (k:Nat) (A:Nat→Nat) (l:List Nat):U9 (Z1 k A) l=k*U9 A l:=by
 refine Eq.trans ?_ (yJ ..);exact congrArg (aZ · 13) (funext fun i=>Nat.mul_assoc ..)
theorem uR (l:List Nat):U9 bJ l=0:=qU 13 fun i O=>Nat.zero_mul _
theorem Fj (A B:Nat→Nat) (l:List Nat):U9 A l+U9 (lD B A) l=U9 B l+U9 (lD A B) l:=by
 refine (fV A (lD B A) l).symm.trans (Eq.trans ?_ (fV B (lD A B) l));refine congrArg (U9 · l) (funext fun i=>?_);show A i+(B i-A i)=B i+(A i-B i)
 rcases Nat.le_total (A i) (B i) with h | h
 ·rw [Nat.add_sub_cancel' h,Nat.sub_eq_zero_of_le h,Nat.add_zero]
 ·rw [Nat.add_sub_cancel' h,Nat.sub_eq_zero_of_le h,Nat.add_zero]
theorem xT (j:Nat) (A:Nat→Nat) (l:List Nat):U9 (dR j 0 A) l≤U9 A l:=zp (fun i=>by
 refine Nat.mul_le_mul_right _ ?_;unfold dR;cases Nat.beq i j
 ·exact K9 _
 ·exact T3 _) 13
theorem uK {j:Nat} (hj:j<13) (l:List Nat):U9 (dR j 1 bJ) l=cM l j:=by
 have z:∀ n,n≤j→aZ (fun i=>dR j 1 bJ i*cM l i) n=0:=fun n h=>qU n fun i hi=>by
  have e:Nat.beq i j=false:=wk (Nat.ne_of_lt (Nat.lt_of_lt_of_le hi h));show (bif Nat.beq i j then 1 else 0)*cM l i=0;rw [e];exact Nat.zero_mul _
 have s:∀ n,aZ (fun i=>dR j 1 bJ i*cM l i) (j+1+n)=cM l j:=fun n=>by
  induction n with
  | zero =>
   show aZ _ j+(bif Nat.beq j j then 1 else 0)*cM l j=cM l j;rw [z j (K9 _),Nat.beq_refl,Nat.zero_add];exact Nat.one_mul _
  | succ n ih =>
   show aZ _ (j+1+n)+(bif Nat.beq (j+1+n) j then 1 else 0)*cM l _=cM l j;rw [ih,wk (Nat.ne_of_gt (Nat.le_add_right (j+1) n))];exact congrArg _ (Nat.zero_mul _)
 have:=s (13-(j+1))
 rwa [Nat.add_sub_cancel' hj] at this
noncomputable def kqCb (k m:Nat) (p q:bD):bD :=
 (lD (cu (Z1 k p.1) (Z1 m q.1)) (cu (Z1 k p.2) (Z1 m q.2)),lD (cu (Z1 k p.2) (Z1 m q.2)) (cu (Z1 k p.1) (Z1 m q.1)))
theorem Dg {l:List Nat} {k m:Nat} {p q:bD} (hp:jZ l p) (hq:jZ l q):jZ l (kqCb k m p q):=by
 have h:=Fj (cu (Z1 k p.1) (Z1 m q.1)) (cu (Z1 k p.2) (Z1 m q.2)) l;have h1:U9 (cu (Z1 k p.1) (Z1 m q.1)) l≤U9 (cu (Z1 k p.2) (Z1 m q.2)) l:=by
  rw [fV,fV,jm,jm,jm,jm];exact Nat.add_le_add (Nat.mul_le_mul_left k hp) (Nat.mul_le_mul_left m hq)
 exact Nat.le_of_add_le_add_left (W2 (Nat.le_of_eq h.symm) (Nat.add_le_add_right h1 _))
noncomputable def kqEl (j:Nat) (L:bG):bG:=L.flatMap fun q=>bif Nat.beq (q.1 j) 0 then (bif Nat.beq (q.2 j) 0 then [q] else []) else (dR j 0 q.1,q.2)::L.flatMap fun p=>bif Nat.beq (p.2 j) 0 then [] else [kqCb (q.1 j) (p.2 j) p q]
noncomputable abbrev kqAll (l:List Nat) (L:bG):Prop:=∀ q∈L,jZ l q
theorem kqAll.app {l:List Nat} {L R:bG} (hl:kqAll l L) (hr:kqAll l R):kqAll l (L++R):=fun q h=>(List.mem_append.mp h).elim (hl q) (hr q)
theorem kqAll.co {l:List Nat} {p:bD} {R:bG} (hl:jZ l p) (hr:kqAll l R):kqAll l (p::R):=fun q h=>(List.mem_cons.mp h).elim (fun e=>e▸hl) (hr q)
theorem kqAll.nl {l:List Nat}:kqAll l []:=fun O h=>nomatch h
theorem kqAll.cd {l:List Nat} {b:Bool} {L R:bG} (h:kqAll l L) (k:kqAll l R):kqAll l (bif b then L else R):=by
 cases b
 ·exact k
 ·exact h
theorem kqAll.fm {l:List Nat} {f:bD→bG} {L:bG} (h:∀ r∈L,kqAll l (f r)):kqAll l (L.flatMap f):=fun q hq=>(List.mem_flatMap.mp hq).elim fun r hr=>h r hr.1 q hr.2
theorem xW {l:List Nat} {j:Nat} {L:bG} (h:kqAll l L):kqAll l (kqEl j L):=.fm fun p hp=>.cd (.cd (.co (h p hp) .nl) .nl) (.co (W2 (xT ..) (h p hp)) (.fm fun r hr=>.cd .nl (.co (Dg (h r hr) (h p hp)) .nl)))
noncomputable def kqEz (A:Nat→Nat):Bool:=(List.range 13).all fun i=>Nat.beq 0 (A i)
noncomputable def kqRd (j:Nat) (L:bG):bG:=(kqEl j L).filter fun q=>!kqEz q.1
noncomputable def kqUn (L:bG):Bool:=((List.range' 1 12).foldl (fun L j=>kqRd j L) L).any fun q=>Nat.blt 0 (q.1 0)&&kqEz q.2
theorem Fl {l:List Nat} {L:bG} (h:kqUn L=true) (k:kqAll l L):False:=by
 unfold kqUn at h;have a:∀ (js:List Nat) (L:bG),kqAll l L→kqAll l (js.foldl (fun L j=>kqRd j L) L):=fun js=>by
  induction js with
  | nil=>exact fun O k=>k
  | cons j js ih=>exact fun L k=>ih _ fun q h=>xW k q (List.mem_filter.mp h).1
 obtain ⟨q,hq,e⟩:=List.any_eq_true.mp h;obtain ⟨h1,h2⟩:=Bool.and_eq_true_iff.mp e;have b:=a _ _ k q hq;have z:U9 q.2 l=0:=qU 13 fun i hi=>by rw [← Nat.eq_of_beq_eq_true (List.all_eq_true.mp h2 i (List.mem_range.mpr hi)),Nat.zero_mul]
 have f:∀ n,q.1 0≤aZ (fun i=>q.1 i*cM l i) (n+1):=fun n=>by
  induction n with
  | zero=>exact Nat.le_of_eq (show q.1 0=0+q.1 0*1 by rw [Nat.zero_add,Nat.mul_one])
  | succ n ih=>exact W2 ih (Nat.le_add_right ..)
 exact absurd (W2 (Nat.le_of_ble_eq_true h1) (W2 (f 12) (W2 b (Nat.le_of_eq z)))) (Nat.not_succ_le_zero 0)
noncomputable abbrev eG:=bG×bD
noncomputable def kqRk (l:List Nat) (m:Int) (r:eG):Prop:=kqAll l r.1∧m+(U9 r.2.2 l:Int)=U9 r.2.1 l
noncomputable def dW (l:List Nat) (m:Int) (R:List eG):Prop:=∃ r∈R,kqRk l m r
noncomputable abbrev aF:={ p:(List Nat→Nat)×List eG // ∀ l,dW l (p.1 l) p.2 }
noncomputable abbrev Z4:={ p:(List Nat→Int)×List eG // ∀ l,dW l (p.1 l) p.2 }
noncomputable def qg {α β γ:Type} (f:α→β→List γ) (l:List α) (r:List β):List γ:=l.flatMap fun x=>r.flatMap fun y=>f x y
theorem sY {α β γ:Type} {f:α→β→List γ} {l:List α} {r:List β} {x:α} {y:β} {z:γ} (hx:x∈l) (hy:y∈r) (hz:z∈f x y):z∈qg f l r :=
 List.mem_flatMap.mpr ⟨x,hx,List.mem_flatMap.mpr ⟨y,hy,hz⟩⟩
theorem rP {l:List Nat} {m:Int} {A B:Nat→Nat} (h:m+(U9 B l:Int)=U9 A l):dW l m [([],A,B)]:=⟨_,List.mem_singleton.mpr rfl,kqAll.nl,h⟩
theorem wI (l:List Nat):U9 (dR 0 1 bJ) l=1:=uK (by decide) l
noncomputable def kqTv (j:Nat):aF:=⟨(fun l=>cM l (j % 13),[([],dR (j % 13) 1 bJ,bJ)]),fun l=>rP (by rw [uR,uK (Nat.mod_lt j (by decide))];exact Int.add_zero _)⟩
noncomputable def dm (n:Nat):aF:=⟨(fun O=>n,[([],Z1 n (dR 0 1 bJ),bJ)]),fun l=>rP (by rw [uR,jm,wI,Nat.mul_one];exact Int.add_zero _)⟩
theorem kqE1 {m n:Int} {a b x y:Nat} (h:m+(x:Int)=a) (k:n+(y:Int)=b):m+n+((x+y:Nat):Int)=((a+b:Nat):Int):=by rw [cW,cW,← h,← k,Int.add_assoc,Int.add_assoc,Int.add_left_comm n]
theorem kqE2 {m n:Int} {a b x y:Nat} (h:m+(x:Int)=a) (k:n+(y:Int)=b):m-n+((x+b:Nat):Int)=((a+y:Nat):Int):=by rw [cW,cW,← h,← k,Int.add_left_comm (x:Int) n,← Int.add_assoc,Int.sub_add_cancel,← Int.add_assoc]
theorem kqE3 {m:Int} {a x:Nat} (h:m+(x:Int)=a) (k:m≤0):a≤x:=Int.ofNat_le.mp (Int.le_trans (Int.le_of_eq h.symm) (Int.le_trans (Int.add_le_add_right k x) (Int.le_of_eq (Int.zero_add _))))
theorem kqE4 {m:Int} {a x:Nat} (h:m+(x:Int)=a) (k:0≤m):x≤a:=Int.ofNat_le.mp (Int.le_trans (Int.le_of_eq (Int.zero_add _).symm) (Int.le_trans (Int.add_le_add_right k x) (Int.le_of_eq h)))
theorem kqE5 {m:Int} {a x:Nat} (h:m+(x:Int)=a) (k:m<0):a<x:=Int.ofNat_lt.mp (Int.lt_of_le_of_lt (Int.le_of_eq h.symm) (Int.lt_of_lt_of_le (Int.add_lt_add_right k x) (Int.le_of_eq (Int.zero_add _))))
noncomputable def kqPls (p q:bD):bD:=(cu p.1 q.1,cu p.2 q.2)
noncomputable def kqMis (p q:bD):bD:=(cu p.1 q.2,cu p.2 q.1)
noncomputable def kqAd (X Y:List eG):List eG:=qg (fun p q=>[(p.1++q.1,kqPls p.2 q.2)]) X Y
noncomputable def jW (X Y:List eG):List eG:=qg (fun p q=>[(p.1++q.1,kqMis p.2 q.2)]) X Y
theorem wL {l:List Nat} {m n:Int} {X Y:List eG}:dW l m X→dW l n Y→dW l (m+n) (kqAd X Y):=fun ⟨_,hp,p1,p2⟩ ⟨_,hq,q1,q2⟩ =>
 ⟨_,sY hp hq (List.mem_singleton.mpr rfl),p1.app q1,by simp only [kqPls];rw [fV,fV];exact kqE1 p2 q2⟩
theorem pU {l:List Nat} {m n:Int} {X Y:List eG}:dW l m X→dW l n Y→dW l (m-n) (jW X Y):=fun ⟨_,hp,p1,p2⟩ ⟨_,hq,q1,q2⟩ =>
 ⟨_,sY hp hq (List.mem_singleton.mpr rfl),p1.app q1,by simp only [kqMis];rw [fV,fV];exact kqE2 p2 q2⟩
noncomputable def dY (x:aF):Z4:=⟨(fun l=>x.1.1 l,x.1.2),x.2⟩
noncomputable def kqIa (x y:Z4):Z4:=⟨(fun l=>x.1.1 l+y.1.1 l,kqAd x.1.2 y.1.2),fun l=>wL (x.2 l) (y.2 l)⟩
noncomputable def kqIs (x y:Z4):Z4:=⟨(fun l=>x.1.1 l-y.1.1 l,jW x.1.2 y.1.2),fun l=>pU (x.2 l) (y.2 l)⟩
noncomputable def kqIg (x:Z4):Z4:=⟨(fun l=>-x.1.1 l,jW [([],bJ,bJ)] x.1.2),fun l=>by
 have h:dW l (0-x.1.1 l) _:=pU (rP (A:=bJ) (B:=bJ) (Int.zero_add _)) (x.2 l)
 rwa [Int.zero_sub] at h⟩
noncomputable def kqTa (x y:aF):aF:=⟨(fun l=>x.1.1 l+y.1.1 l,kqAd x.1.2 y.1.2),fun l=>(cW (x.1.1 l) (y.1.1 l)).symm▸wL (x.2 l) (y.2 l)⟩
noncomputable def kqTs (x y:aF):aF:=⟨(fun l=>x.1.1 l-y.1.1 l,(jW x.1.2 y.1.2).map (fun p=>((p.2.2,p.2.1)::p.1,p.2))++(jW x.1.2 y.1.2).map (fun p=>(p.2::p.1,bJ,bJ))),fun l=>by
 obtain ⟨p,hp,p1,p2⟩:=pU (x.2 l) (y.2 l);rcases Nat.le_total (y.1.1 l) (x.1.1 l) with h | h
 ·exact ⟨_,O2 _ (O3 hp),.co (kqE4 p2 (Int.sub_nonneg_of_le (Int.ofNat_le.mpr h))) p1,(Int.natCast_sub h).symm▸p2⟩
 ·exact ⟨_,O6 _ (O3 hp),.co (kqE3 p2 (Int.sub_nonpos_of_le (Int.ofNat_le.mpr h))) p1,by
   show ((x.1.1 l-y.1.1 l:Nat):Int)+_=_;rw [Nat.sub_eq_zero_of_le h];exact Int.zero_add _⟩⟩
noncomputable def kqTm (n:Nat) (x:aF):aF:=⟨(fun l=>n*x.1.1 l,x.1.2.map fun p=>(p.1,Z1 n p.2.1,Z1 n p.2.2)),fun l=>by
 obtain ⟨p,hp,p1,p2⟩:=x.2 l;refine ⟨_,O3 hp,p1,?_⟩;show ((n*x.1.1 l:Nat):Int)+(U9 (Z1 n _) _:Int)=U9 (Z1 n _) _;rw [jm,jm];exact congrArg (Nat.cast ·) ((Nat.mul_add ..).symm.trans (congrArg (n*·) (Int.ofNat_inj.mp p2)))⟩
noncomputable abbrev dj:=List bG
noncomputable def kqDn (l:List Nat) (D:dj):Prop:=∃ z∈D,kqAll l z
noncomputable abbrev W9:={ p:(List Nat→Prop)×dj×dj // ∀ l,(p.1 l→kqDn l p.2.1)∧(¬ p.1 l→kqDn l p.2.2) }
noncomputable def kqBo (D E:dj):dj:=qg (fun x y=>[x++y]) D E
theorem kqDn.bo {l:List Nat} {D E:dj}:kqDn l D→kqDn l E→kqDn l (kqBo D E):=fun ⟨_,hx,kx⟩ ⟨_,hy,ky⟩=>⟨_,sY hx hy (List.mem_singleton.mpr rfl),kx.app ky⟩
theorem kqDn.l {l:List Nat} {D E:dj}:kqDn l D→kqDn l (D++E):=fun ⟨x,hx,kx⟩=>⟨x,O2 _ hx,kx⟩
theorem kqDn.r {l:List Nat} {D E:dj}:kqDn l E→kqDn l (D++E):=fun ⟨x,hx,kx⟩=>⟨x,O6 _ hx,kx⟩
noncomputable def tG (f:bD→bD) (x y:Z4):dj:=(jW x.1.2 y.1.2).map fun p=>f p.2::p.1
theorem uX {l:List Nat} {f:bD→bD} (x y:Z4) (h:∀ A B:Nat→Nat,x.1.1 l-y.1.1 l+(U9 B l:Int)=U9 A l→jZ l (f (A,B))):kqDn l (tG f x y):=by
 obtain ⟨p,hp,p1,p2⟩:=pU (x.2 l) (y.2 l);exact ⟨_,O3 hp,.co (h _ _ p2) p1⟩
noncomputable def kqUp (A:Nat→Nat):Nat→Nat:=cu (dR 0 1 bJ) A
theorem kqDt_1 (A:Nat→Nat) (l:List Nat):U9 (kqUp A) l=1+U9 A l:=by unfold kqUp;rw [fV,wI]
noncomputable def kqCL (x y:Z4):dj:=tG id x y
noncomputable def kqCT (x y:Z4):dj:=tG (fun p=>(kqUp p.1,p.2)) x y
theorem yN {l:List Nat} (x y:Z4) (h:x.1.1 l≤y.1.1 l):kqDn l (kqCL x y):=uX x y fun O O e=>kqE3 e (Int.sub_nonpos_of_le h)
theorem Bw {l:List Nat} (x y:Z4) (h:x.1.1 l<y.1.1 l):kqDn l (kqCT x y):=uX x y fun O O e=>W2 (Nat.le_of_eq (kqDt_1 ..)) (Nat.one_add_le_iff.mpr (kqE5 e (Int.sub_neg_of_lt h)))
noncomputable def gJ (p:W9) (f:List Nat→Prop) (e:∀ l,f l↔p.1.1 l):W9:=⟨(f,p.1.2),fun l=>⟨fun h=>(p.2 l).1 ((e l).mp h),fun h=>(p.2 l).2 fun k=>h ((e l).mpr k)⟩⟩
noncomputable def kqIl (x y:Z4):W9:=⟨(fun l=>x.1.1 l≤y.1.1 l,kqCL x y,kqCT y x),fun O=>⟨yN x y,fun h=>Bw y x (Int.lt_of_not_ge h)⟩⟩
noncomputable def lw (p:W9):W9:=⟨(fun l=>¬ p.1.1 l,p.1.2.2,p.1.2.1),fun l=>⟨(p.2 l).2,fun h=>(p.2 l).1 (Classical.not_not.mp h)⟩⟩
noncomputable def kqIt (x y:Z4):W9:=gJ (lw (kqIl y x)) (fun l=>x.1.1 l<y.1.1 l) fun O=>Int.not_le.symm
noncomputable def kqFd (p q:W9):W9:=⟨(fun l=>p.1.1 l∨q.1.1 l,p.1.2.1++q.1.2.1,kqBo p.1.2.2 q.1.2.2),fun l=>⟨fun h=>h.elim (fun h=>.l ((p.2 l).1 h)) fun h=>.r ((q.2 l).1 h),fun h=>((p.2 l).2 fun k=>h (.inl k)).bo ((q.2 l).2 fun k=>h (.inr k))⟩⟩
noncomputable def kqFc (p q:W9):W9:=gJ (lw (kqFd (lw p) (lw q))) (fun l=>p.1.1 l∧q.1.1 l) fun O=>⟨fun h k=>k.elim (fun z=>z h.1) fun z=>z h.2,fun h=>⟨Classical.byContradiction fun k=>h (.inl k),Classical.byContradiction fun k=>h (.inr k)⟩⟩
noncomputable def kqFi (p q:W9):W9:=gJ (kqFd (lw p) q) (fun l=>p.1.1 l→q.1.1 l) fun O=>⟨fun h=>Classical.or_iff_not_imp_left.mpr fun k=>h (Classical.not_not.mp k),fun h y=>h.elim (fun z=>absurd y z) id⟩
noncomputable def kqFb (p q:W9):W9:=gJ (kqFc (kqFi p q) (kqFi q p)) (fun l=>(p.1.1 l↔q.1.1 l)) fun O=>iff_def
noncomputable def kqIe (x y:Z4):W9:=gJ (kqFc (kqIl x y) (kqIl y x)) (fun l=>x.1.1 l=y.1.1 l) fun O=>Int.le_antisymm_iff
noncomputable def kqFl (x y:aF):W9:=gJ (kqIl (dY x) (dY y)) (fun l=>x.1.1 l≤y.1.1 l) fun O=>Int.ofNat_le.symm
noncomputable def kqFt (x y:aF):W9:=gJ (kqIt (dY x) (dY y)) (fun l=>x.1.1 l<y.1.1 l) fun O=>Int.ofNat_lt.symm
noncomputable def kqFe (x y:aF):W9:=gJ (kqIe (dY x) (dY y)) (fun l=>x.1.1 l=y.1.1 l) fun O=>Int.ofNat_inj.symm
noncomputable def kqFf:W9:=⟨(fun O=>False,[],[[]]),fun O=>⟨False.elim,fun O=>⟨[],K4,.nl⟩⟩⟩
noncomputable abbrev cz:=List aF×List Z4×List W9
noncomputable def lY {α β:Type} (d:α) (f:α→α→β) (l:List α):β:=f (l.tail.headD d) (l.headD d)
noncomputable def kqOT (f:aF→aF→aF) (s:cz):cz:=(lY (dm 0) f s.1::s.1.tail.tail,s.2)
noncomputable def kqOC (f:aF→aF→W9) (s:cz):cz:=(s.1.tail.tail,s.2.1,lY (dm 0) f s.1::s.2.2)
noncomputable def kqOI (f:Z4→Z4→Z4) (s:cz):cz:=(s.1,lY (dY (dm 0)) f s.2.1::s.2.1.tail.tail,s.2.2)
noncomputable def kqOJ (f:Z4→Z4→W9) (s:cz):cz:=(s.1,s.2.1.tail.tail,lY (dY (dm 0)) f s.2.1::s.2.2)
noncomputable def kqOF (f:W9→W9→W9) (s:cz):cz:=(s.1,s.2.1,lY kqFf f s.2.2::s.2.2.tail.tail)
noncomputable def kqPu (t:aF) (s:cz):cz:=(t::s.1,s.2)
noncomputable def kqDec (n:Nat):Nat→cz→cz:=Nat.rec (fun O s=>s) (fun O ih n s =>
 bif Nat.beq n 0 then s else bif Nat.blt (n % 32) 13 then ih (n / 32) (kqPu (kqTv (n % 32)) s) else
 bif Nat.beq (n % 32) 13 then ih (n / 1073741824) (kqPu (dm (n / 32 % 33554432)) s) else
 bif Nat.beq (n % 32) 14 then ih (n / 1024) (kqPu (dm (n / 32 % 32)) s) else
 bif Nat.beq (n % 32) 15 then ih (n / 1024) (kqTm (n / 32 % 32) (s.1.headD (dm 0))::s.1.tail,s.2) else
 bif Nat.beq (n % 32) 30 then ih (n / 1024) ([kqOI kqIa,kqOI kqIs,fun s=>(s.1,kqIg (s.2.1.headD (dY (dm 0)))::s.2.1.tail,s.2.2),kqOJ kqIl,kqOJ kqIt,kqOJ kqIe].getD (n / 32 % 32-1) id s) else
 ih (n / 32) ([kqPu (dm 1),kqPu (dm 0),kqOT kqTa,kqOT kqTs,kqOC kqFl,kqOC kqFt,kqOC kqFe,fun s=>(s.1,s.2.1,kqFf::s.2.2),fun s=>(s.1,s.2.1,lw (s.2.2.headD kqFf)::s.2.2.tail),kqOF kqFi,kqOF kqFc,kqOF kqFd,kqOF kqFb,fun s=>(s.1.tail,dY (s.1.headD (dm 0))::s.2.1,s.2.2)].getD (n % 32-16) id s)) n
noncomputable def fj (n:Nat):W9:=(kqDec 300 n ([],[],[])).2.2.tail.foldl (fun g h=>kqFi h g) ((kqDec 300 n ([],[],[])).2.2.headD kqFf)
noncomputable def jA (n:Nat):Bool:=(fj n).1.2.2.all kqUn
theorem kq0 (n:Nat) (l:List Nat) (h:autoParam (jA n=true) aK):(fj n).1.1 l:=by
 refine Classical.byContradiction fun k=>?_;obtain ⟨z,hz,kz⟩:=((fj n).2 l).2 k;exact Fl (List.all_eq_true.mp h z hz) kz
theorem kq1 (n:Nat) {a:Nat} (h:autoParam (jA n=true) aK):(fj n).1.1 [a]:=kq0 n _ h
theorem kq2 (n:Nat) {a b:Nat} (h:autoParam (jA n=true) aK):(fj n).1.1 [a,b]:=kq0 n _ h
theorem kq3 (n:Nat) {a b c:Nat} (h:autoParam (jA n=true) aK):(fj n).1.1 [a,b,c]:=kq0 n _ h
theorem kq4 (n:Nat) {a b c d:Nat} (h:autoParam (jA n=true) aK):(fj n).1.1 [a,b,c,d]:=kq0 n _ h
theorem kq5 (n:Nat) {a b c d e:Nat} (h:autoParam (jA n=true) aK):(fj n).1.1 [a,b,c,d,e]:=kq0 n _ h
theorem kq6 (n:Nat) {a b c d e f:Nat} (h:autoParam (jA n=true) aK):(fj n).1.1 [a,b,c,d,e,f]:=kq0 n _ h
noncomputable abbrev PH:=Addr→Option Obj
noncomputable abbrev Lo:=Str→Option Value
noncomputable abbrev PM:=Value×List Value→PH→Lo→Prop
noncomputable abbrev PL:=List Value→PH→Lo→Prop
noncomputable abbrev PV:=Value→PH→Lo→Prop
noncomputable abbrev PF:=Flow→PH→Lo→Prop
noncomputable abbrev PN:=Nat→PH→Lo→Prop
noncomputable abbrev PB:=Bool→PH→Lo→Prop
noncomputable abbrev PU:=Unit→PH→Lo→Prop
structure Cx where
 w:World
 os:OsState
 A:Around
 env:Env
noncomputable def Cx.own (c:Cx) (b:Addr):Prop:=b=c.env.locals∨∃ n,c.env.cells.lookup n=some b
noncomputable def frs (A:Around):List Addr:=(A.frames.getD []).filterMap (·.frame)
noncomputable def Frames (A:Around) (h:Heap):Prop:=∃ l,A.frames=some l∧∀ env∈l,env.scope.kind≠.module∧∃ L o,env.frame=some L∧516≤L∧h.get? L=some o∧∀ vs,o.data≠.fields vs
noncomputable def Kept (A:Around) (h':Heap) (b:Addr) (o:Obj):Prop:=∃ sl,h'.get? b=some { o with slots:=sl }∧(b∈frs A∨sl=o.slots)
theorem Kept.same {A:Around} {h':Heap} {b:Addr} {o:Obj} (e:h'.get? b=some o):Kept A h' b o:=⟨o.slots,e,.inr rfl⟩
theorem Kept.exact {A:Around} {h':Heap} {b:Addr} {o:Obj} (k:Kept A h' b o) (hb:b∉frs A):h'.get? b=some o:=by
 obtain ⟨sl,e,z | z⟩:=k
 ·exact absurd z hb
 ·subst z;exact e
theorem Kept.ex {A:Around} {h':Heap} {b:Addr} {o:Obj} (k:Kept A h' b o):∃ sl,h'.get? b=some { o with slots:=sl }:=⟨k.choose,k.choose_spec.1⟩
theorem Kept.trans {A:Around} {h₁ h₂:Heap} {b:Addr} {o:Obj} (k:Kept A h₁ b o) (y:∀ o',h₁.get? b=some o'→Kept A h₂ b o'):Kept A h₂ b o:=by
 refine G8 k fun sl e z=>?_;clear k;refine G8 (y _ e) fun sl2 e₂ z2=>?_;refine ⟨sl2,e₂,?_⟩;rcases z with z | z
 ·exact .inl z
 ·rcases z2 with z2 | z2
  ·exact .inl z2
  ·exact .inr (z2.trans z)
theorem Kept.not_none {A:Around} {h':Heap} {b:Addr} {o:Obj} (k:Kept A h' b o):h'.get? b≠none:=by
 refine G8 k fun sl e O=>?_;clear k;rw [e];intro z;cases z
theorem mV {A:Around} {l:List Env} (h:A.frames=some l):frs A=l.filterMap (·.frame):=by unfold frs;rw [h];rfl
theorem Frames.mem {A:Around} {h:Heap} (F:Frames A h) {b:Addr} (hb:b∈frs A):516≤b∧∃ o,h.get? b=some o∧∀ vs,o.data≠.fields vs:=by
 obtain ⟨l,e,F⟩:=F;rw [mV e] at hb;refine G8 (List.mem_filterMap.mp hb) fun env he hf=>?_;obtain ⟨_,L,o,e1,h1,e2,h2⟩:=F env he;rw [e1] at hf;cases hf;exact ⟨h1,o,e2,h2⟩
theorem Frames.keep {A:Around} {h h':Heap} (F:Frames A h) (k:∀ b o,b∈frs A→h.get? b=some o→(∀ vs,o.data≠.fields vs)→∃ o',h'.get? b=some o'∧∀ vs,o'.data≠.fields vs):Frames A h':=by
 obtain ⟨l,e,F⟩:=F;refine ⟨l,e,fun env he=>?_⟩;obtain ⟨hk,L,o,e1,h1,e2,h2⟩:=F env he;obtain ⟨o',e3,h3⟩:=k L o (by rw [mV e];exact List.mem_filterMap.mpr ⟨env,he,e1⟩) e2 h2;exact ⟨hk,L,o',e1,h1,e3,h3⟩
theorem Frames.keeps {A:Around} {h h':Heap} (F:Frames A h) (k:∀ b o,h.get? b=some o→h'.get? b=some o):Frames A h':=F.keep fun b o O e hn=>⟨o,k b o e,hn⟩
structure At (c:Cx) (τ:PH) (m:Lo) (s:Shared):Prop where
 top:(H3 c.w.params).In s.heap
 keep:∀ b o,τ b=some o→s.heap.get? b=some o
 low:∀ b o,τ b=some o→516≤b∧¬ c.own b
 mine:∀ b,c.own b→516≤b
 ns:∃ ml,s.heap.Ns c.env.locals ml∧∀ x,c.env.kindOf x=some .local→ml x=m x
 cell:∀ n a,c.env.cells.lookup n=some a→s.heap.IsCell a (m n)∧a≠c.env.locals
 apart:∀ n n' a,c.env.cells.lookup n=some a→c.env.cells.lookup n'=some a→n=n'
 noBoth:∀ n a,c.env.cells.lookup n=some a→c.env.kindOf n≠some .local
 gens:s.gens=#[]
 os:s.os=c.os
 fr:Frames c.A s.heap
 nofr:∀ b o,τ b=some o→b∉frs c.A
structure Step (c:Cx) (τ:PH) (s:Shared) (τ':PH) (m':Lo) (s':Shared):Prop where
 at_:At c τ' m' s'
 keep:∀ b o,s.heap.get? b=some o→τ b=none→¬ c.own b→Kept c.A s'.heap b o
 fresh:∀ b,(τ' b).isSome=true→(τ b).isSome=true∨s.heap.get? b=none
noncomputable def V3 {α:Type} (c:Cx) (τ:PH) (s:Shared) (Q:α→PH→Lo→Prop) (a:α) (s':Shared):Prop:=∃ τ' m',Step c τ s τ' m' s'∧Q a τ' m'
noncomputable abbrev MM (c:Cx):Model:=model pw c.w
noncomputable def W {α:Type} (c:Cx) (t:Sem α) (τ:PH) (m:Lo) (Q:α→PH→Lo→Prop) (X:PV):Prop :=
 ∀ s,At c τ m s→wpAny (MM c) c.A t (V3 c τ s Q) (V3 c τ s X) s
section
variable {c:Cx} {τ:PH} {m:Lo} {X:PV}
theorem Step.refl {s:Shared} (h:At c τ m s):Step c τ s τ m s:=⟨h,fun O O e O O=>.same e,fun O h=>.inl h⟩
theorem Step.trans {τ1 τ2:PH} {m1 m2:Lo} {s s1 s2:Shared} (a:Step c τ s τ1 m1 s1) (b:Step c τ1 s1 τ2 m2 s2):Step c τ s τ2 m2 s2:=by
 refine ⟨b.at_,fun x o e h1 h2=>?_,fun x h=>?_⟩
 ·have e1:=a.keep x o e h1 h2;refine e1.trans fun o1 e1=>b.keep x o1 e1 ?_ h2;cases q:τ1 x with
  | none=>rfl
  | some o' =>
   rcases a.fresh x (by rw [q];rfl) with z | z
   ·rw [h1] at z;cases z
   ·rw [e] at z;cases z
 ·rcases b.fresh x h with z | z
  ·exact a.fresh x z
  ·cases q:s.heap.get? x with
   | none=>exact .inr rfl
   | some o =>
    left;cases q1:τ x with
    | some _=>rfl
    | none =>
     by_cases ho:c.own x
     ·-- an address of the frame is never in τ2
      obtain ⟨o2,h2⟩:=Option.isSome_iff_exists.mp h;exact absurd ho (b.at_.low x o2 h2).2
     ·exact absurd z (a.keep x o q q1 ho).not_none
theorem jl {α:Type} {a:α} {Q:α→PH→Lo→Prop} (h:Q a τ m):W c (Pure.pure a) τ m Q X:=fun s hs=>wpAny_pure ⟨τ,m,Step.refl hs,h⟩
theorem W.mono {α:Type} {t:Sem α} {Q Q':α→PH→Lo→Prop} {X':PV} (h:W c t τ m Q' X') (hQ:∀ a τ' m',Q' a τ' m'→Q a τ' m') (hX:∀ a τ' m',X' a τ' m'→X a τ' m'):W c t τ m Q X :=
 fun s hs=>wpAny_mono (h s hs) (fun a s' ⟨τ',m',st,q⟩=>⟨τ',m',st,hQ _ _ _ q⟩) fun a s' ⟨τ',m',st,q⟩=>⟨τ',m',st,hX _ _ _ q⟩
theorem T4 {α β:Type} {t:Sem α} {f:α→Sem β} {Q:β→PH→Lo→Prop} (h:W c t τ m (fun a τ' m'=>W c (f a) τ' m' Q X) X):W c (t>>=f) τ m Q X:=fun s hs =>
 wpAny_bind (wpAny_mono (h s hs) (fun a s' ⟨τ',m',st,q⟩=>wpAny_mono (q s' st.at_) (fun b s2 ⟨τ2,m2,st2,q2⟩=>⟨τ2,m2,st.trans st2,q2⟩) fun e s2 ⟨τ2,m2,st2,q2⟩=>⟨τ2,m2,st.trans st2,q2⟩) fun O O x=>x)
theorem gY {α:Type} {vs:List Value} {t:Sem α} {Q:α→PH→Lo→Prop} (h:W c t τ m Q X):W c (PySem.holding vs t) τ m Q X:=fun s hs=>wpAny_holding (h s hs)
theorem iY {pos:Pos} {Q:PU} (h:Q () τ m):W c (PySem.standAt pos) τ m Q X:=fun s hs=>wpAny_standAt ⟨τ,m,Step.refl hs,h⟩
theorem vO {α:Type} {t:Sem α} {τ₀:PH} {Q:α→PH→Lo→Prop} (hl:∀ b o,τ₀ b=some o→τ b=some o) (h:W c t τ₀ m Q X):W c t τ m Q X:=fun s hs=>by
 have h0:At c τ₀ m s:=⟨hs.top,fun b o e=>hs.keep b o (hl b o e),fun b o e=>hs.low b o (hl b o e),hs.mine,hs.ns,hs.cell,hs.apart,hs.noBoth,hs.gens,hs.os,hs.fr,fun b o e=>hs.nofr b o (hl b o e)⟩
 have up:∀ {τ' m' s'},Step c τ₀ s τ' m' s'→Step c τ s τ' m' s':=fun {τ' m' s'} st=>⟨st.at_,fun b o e h1 h2=>st.keep b o e (by
  cases q:τ₀ b with
  | none=>rfl
  | some o'=>rw [hl b o' q] at h1;cases h1) h2,fun b hb=>(st.fresh b hb).imp (fun z=>by
   obtain ⟨o',q⟩:=Option.isSome_iff_exists.mp z;rw [hl b o' q];rfl) id⟩
 exact wpAny_mono (h s h0) (fun a s' ⟨τ',m',st,q⟩=>⟨τ',m',up st,q⟩) fun a s' ⟨τ',m',st,q⟩=>⟨τ',m',up st,q⟩
end
structure Room (n:Nat) (A:Around):Prop where
 depth:A.depth+n≤900
 units:A.units+8*n≤9000
 quiet:A.handled=none
theorem Room.less {n k:Nat} {A:Around} (h:Room n A) (hk:k≤n):Room k A:=⟨by have:=h.depth;exact (kq3 25961519126135113803042311500845121) hk this,by have:=h.units;exact (kq3 27222954454250939223315423259185601695809) hk this,h.quiet⟩
theorem Room.deeper {n:Nat} {A:Around} (h:Room (n+1) A) (env:Env):Room n (A.deeper env) :=
 ⟨by have:=h.depth;show A.depth+1+n≤900;exact (kq2 830768612036378983802083481951486017) this,by have:=h.units;show A.units+3+8*n≤9000;exact (kq2 27876305361152963562878186427268274000052289) this,h.quiet⟩
structure HAt (w:World) (os:OsState) (A:Around) (τ:PH) (s:Shared):Prop where
 top:(H3 w.params).In s.heap
 keep:∀ b o,τ b=some o→s.heap.get? b=some o
 low:∀ b o,τ b=some o→516≤b
 gens:s.gens=#[]
 os:s.os=os
 fr:Frames A s.heap
 nofr:∀ b o,τ b=some o→b∉frs A
structure HStep (w:World) (os:OsState) (A:Around) (τ:PH) (s:Shared) (τ':PH) (s':Shared):Prop where
 at_:HAt w os A τ' s'
 keep:∀ b o,s.heap.get? b=some o→τ b=none→Kept A s'.heap b o
 fresh:∀ b,(τ' b).isSome=true→(τ b).isSome=true∨s.heap.get? b=none
noncomputable def Back (w:World) (os:OsState) (A:Around) (τ:PH) (s:Shared) (R RX:Value→PH→Prop) (r:Result) (s':Shared):Prop:=match r with
 | .ok (.ret v)=>∃ τ',HStep w os A τ s τ' s'∧R v τ'
 | .ok _=>False
 | .error e=>∃ τ',HStep w os A τ s τ' s'∧RX e τ'
noncomputable def Spec (w:World) (os:OsState) (n:Nat) (f:Value) (args:Args) (τ:PH) (R:Value→PH→Prop) (RX:Value→PH→Prop:=fun O O=>False):Prop :=
 ∀ A s,Room n A→HAt w os A τ s→codeAny (model pw w) A (.call f args) (Back w os A τ s R RX) s
theorem isNs2 {P:Params} {h:Heap} (X:(H3 P).In h):h.isNs cStatics=true:=by
 have e:h.get? 2=some (boot_o_2 P):=X 2 _ (by kernel_rfl);show h.isNs 2=true;unfold Heap.isNs;rw [e];kernel_rfl
theorem wu {P:Params} {h:Heap} (X:(H3 P).In h):h.NoLimit:=by
 have e:h.get? 2=some (boot_o_2 P):=X 2 _ (by kernel_rfl);refine ⟨_,Heap.Ns.of_isNs (isNs2 X),?_⟩;show h.nsMap 2 _=none;unfold Heap.nsMap;rw [e];kernel_rfl
noncomputable def upd (m:Lo) (x:Str) (v:Value):Lo:=fun y=>if y=x then some v else m y
noncomputable abbrev vl (m:Lo) (x:String) (v:Value):Prop:=m (G4 x)=some v
noncomputable def iw (binds:List (Str×Value)):Lo:=binds.foldl (fun m p=>upd m p.1 p.2) (fun O=>none)
theorem rJ (kindOf:Str→Option NameKind):∀ (binds:List (Str×Value)) (m m':Lo),(∀ x,kindOf x=some .local→m x=m' x)→∀ x,kindOf x=some .local→PySem.bindL kindOf binds m x=binds.foldl (fun m p=>upd m p.1 p.2) m' x
 | [],m,m',h,x,hx=>h x hx
 | (n,v)::r,m,m',h,x,hx=>by
  unfold PySem.bindL;rw [List.foldl_cons];refine rJ kindOf r _ _ (fun y hy=>?_) x hx;unfold upd;by_cases hn:kindOf n=some .local
  ·rw [if_pos hn];by_cases e:y=n
   ·simp [e]
   ·simp only [e,if_false];exact h y hy
  ·rw [if_neg hn];by_cases e:y=n
   ·subst e;exact absurd hy hn
   ·simp only [e,if_false];exact h y hy
theorem sW (kindOf:Str→Option NameKind):∀ (binds:List (Str×Value)) (m m':Lo),(∀ x,kindOf x≠some .local→m x=m' x)→∀ x,kindOf x≠some .local→PySem.bindC kindOf binds m x=binds.foldl (fun m p=>upd m p.1 p.2) m' x
 | [],m,m',h,x,hx=>h x hx
 | (n,v)::r,m,m',h,x,hx=>by
  unfold PySem.bindC;rw [List.foldl_cons];refine sW kindOf r _ _ (fun y hy=>?_) x hx;unfold upd;by_cases hn:kindOf n=some .local
  ·rw [if_pos hn];by_cases e:y=n
   ·subst e;exact absurd hn hy
   ·simp only [e,if_false];exact h y hy
  ·rw [if_neg hn];by_cases e:y=n
   ·simp [e]
   ·simp only [e,if_false];exact h y hy
noncomputable def jN (scope:Scope):Bool:=(cellsFrom 0 scope.names []).all fun p=>scope.names.lookup p.1 != some .local
theorem kZ:∀ (names:List (Str×NameKind)) (n n':Nat) (acc acc':List (Str×Addr)),acc.map (·.1)=acc'.map (·.1)→(cellsFrom n names acc).map (·.1)=(cellsFrom n' names acc').map (·.1)
 | [],_,_,_,_,h=>h
 | (x,k)::r,n,n',acc,acc',h=>by
  unfold cellsFrom;split
  ·exact kZ r _ _ _ _ (by simp [h])
  ·exact kZ r _ _ _ _ h
theorem jF {P:Params} {h:Heap} (X:(H3 P).In h):516≤h.objs.size :=
 W0 (X 515 xg (by kernel_rfl))
theorem oV {scope:Scope} (hap:jN scope=true) {L:Addr} {n:Str} {a:Addr} (h:(cellsFrom L scope.names []).lookup n=some a):scope.names.lookup n≠some .local:=by
 have hm:=mem_of_lookup h;have e:(cellsFrom L scope.names []).map (·.1)=(cellsFrom 0 scope.names []).map (·.1):=kZ _ _ _ _ _ rfl;have hm':n∈(cellsFrom 0 scope.names []).map (·.1):=by rw [← e];exact O3 hm
 refine G8 (List.mem_map.mp hm') fun p hp zB=>?_;obtain rfl:=zB;have:=List.all_eq_true.mp hap p hp;simpa using this
theorem nP {A:Around} {h:Heap} {env:Env} {L:Addr} (F:Frames A h) (e:env.frame=some L):frs (A.deeper env)=L::frs A:=by
 refine G8 F fun l el O=>?_;clear F;rw [mV (A:=A.deeper env) (l:=env::l) (by show A.frames.map _=_;rw [el];rfl),mV el,List.filterMap_cons,e]
theorem Frames.deeper {A:Around} {h:Heap} {env:Env} {L:Addr} {o:Obj} (F:Frames A h) (hk:env.scope.kind≠.module) (e:env.frame=some L) (hl:516≤L) (ho:h.get? L=some o) (hn:∀ vs,o.data≠.fields vs):Frames (A.deeper env) h:=by
 obtain ⟨l,el,F⟩:=F;refine ⟨env::l,by show A.frames.map _=_;rw [el];rfl,fun env' he=>?_⟩;rcases List.mem_cons.mp he with z | z
 ·subst z;exact ⟨hk,L,o,e,hl,ho,hn⟩
 ·exact F env' z
theorem Frames.old {A:Around} {h:Heap} (F:Frames A h):h.objs.size∉frs A:=fun hb=>by
 obtain ⟨_,o,e,_⟩:=F.mem hb;exact absurd (W0 e) (V1 _)
theorem rH {h:Heap} {a:Addr} {m:Lo} (n:h.Ns a m):∃ o,h.get? a=some o∧∀ vs,o.data≠.fields vs:=by
 refine dG n fun o O O ho hd O=>?_;clear n;exact ⟨o,ho,fun vs z=>by rw [hd] at z;cases z⟩
theorem vz {w:World} {os:OsState} {n:Nat} {fa:Addr} {oc:Value} {od:Option Addr} {osl:Array (Option Value)} {fd:FuncData} {body:List Stmt} {binds:List (Str×Value)} {args:Args} {τ:PH} {R RX:Value→PH→Prop}
  (hK:(H3 w.params).lookup fa=some ⟨oc,od,.func fd,osl⟩) (hcd:codeIn (H3 w.params) fd.code fd.qualname=true) (hbody:fd.body=.stmts body) (hclo:fd.closure=[])
  (hco:fd.scope.isCoroutine=false) (hgen:fd.scope.isGenerator=false) (hk:fd.scope.kind=.function) (hap:jN fd.scope=true)
  (hbind:∀ s A (Q:List (Str×Value)→Shared→Prop) E,(H3 w.params).In s.heap→Q binds s→wpAny (model pw w) A (bindArgs fd args) Q E s)
  (hkind:∀ n,∀ x∈binds,fd.scope.names.lookup x.1=some .local∨(fd.scope.names.lookup x.1=some .cell∧((cellsFrom n fd.scope.names []).lookup x.1).isSome=true))
  (h:∀ (A:Around) (L:Addr),Room n (A.deeper (callEnvC fd L fa))→W ⟨w,os,A.deeper (callEnvC fd L fa),callEnvC fd L fa⟩ (execs body (callEnvC fd L fa)) τ (iw binds) (fun fl τ' O=>R (match fl with | .ret v=>v | _=>.none) τ')
   (fun e τ' m'=>W ⟨w,os,A.deeper (callEnvC fd L fa),callEnvC fd L fa⟩ (leaving (callEnvC fd L fa) e) τ' m' (fun O τ'' O=>RX e τ'') (fun e' τ'' O=>RX e' τ''))) :
  Spec w os (n+1) (.ref fa) args τ R RX:=by
 intro A s hA hs;refine codeAny_call_function (by have:=hA.depth;show A.depth<1000;exact (kq2 831896887472885106471772700737) this) (hs.top _ _ hK) rfl hco hgen hbody (codeRec_of hs.top hcd) ?_;refine hbind s _ _ _ hs.top ?_;rw [hclo];refine wpAny_newFunctionEnv_cells hk (hkind _) fun env he s' x=>?_;subst he;refine ⟨(wu hs.top).keeps x.toInCall.keep,codeAny_func ?_⟩;have hL:callEnvC fd s.heap.objs.size fa=newEnv fd.scope s.heap.objs.size fd.globals (cellsFrom (s.heap.objs.size+1) fd.scope.names []) (fd.qualname++".<locals>.") (some fa) fd.code none fd.builtins:=rfl;rw [← hL] at x ⊢;have hsz:=jF hs.top;refine dK x.toInCall.same fun h1 tk e1=>?_;have hat:At ⟨w,os,A.deeper (callEnvC fd s.heap.objs.size fa),callEnvC fd s.heap.objs.size fa⟩ τ (iw binds) s':=by
  refine ⟨hs.top.keeps x.toInCall.keep,fun b o e=>x.toInCall.keep b o (hs.keep b o e),fun b o e=>⟨hs.low b o e,?_⟩,?_,⟨_,x.toInCall.ns,fun y hy=>rJ _ _ _ _ (fun O O=>rfl) y hy⟩,?_,?_,fun n' a ha=>oV hap ha,?_,?_,?_,fun b o e=>?_⟩
  ·have hb:=W0 (hs.keep b o e);rintro (z | ⟨n',z⟩)
   ·rw [z] at hb;exact absurd hb (V1 _)
   ·have:=x.above n' b (mem_of_lookup z);exact absurd (Nat.lt_trans hb this) (V1 _)
  ·rintro b (z | ⟨n',z⟩)
   ·rw [z];exact hsz
   ·exact Nat.le_of_lt (qF hsz (x.above n' b (mem_of_lookup z)))
  ·intro n' a ha;have hc:=x.cell n' a ha;have hn:(callEnvC fd s.heap.objs.size fa).kindOf n'≠some .local:=oV hap ha;rw [sW _ _ _ _ (fun O O=>rfl) n' hn] at hc;exact ⟨hc,Nat.ne_of_gt (x.above n' a (mem_of_lookup ha))⟩
  ·intro n1 n2 a h1 h2;exact name_of_addr x.apart (mem_of_lookup h1) (mem_of_lookup h2)
  ·rw [e1];exact hs.gens
  ·rw [e1];exact hs.os
  ·refine G8 (rH x.toInCall.ns) fun oL hoL hnL=>?_;exact (hs.fr.keeps x.toInCall.keep).deeper (by rw [show (callEnvC fd s.heap.objs.size fa).scope=fd.scope from rfl,hk];intro z;cases z) rfl hsz hoL hnL
  ·have hb:=W0 (hs.keep b o e);show b∉frs (A.deeper (callEnvC fd s.heap.objs.size fa));rw [nP hs.fr (L:=s.heap.objs.size) rfl];intro z;rcases List.mem_cons.mp z with z | z
   ·rw [z] at hb;exact absurd hb (V1 _)
   ·exact hs.nofr b o e z
 have stepOf:∀ {τ':PH} {m':Lo} {s2:Shared},Step ⟨w,os,A.deeper (callEnvC fd s.heap.objs.size fa),callEnvC fd s.heap.objs.size fa⟩ τ s' τ' m' s2→HStep w os A τ s τ' s2:=by
  intro τ' m' s2 st;have hfd:=nP hs.fr (L:=s.heap.objs.size) (env:=callEnvC fd s.heap.objs.size fa) rfl;have sub:∀ b,b∈frs A→b∈frs (A.deeper (callEnvC fd s.heap.objs.size fa)):=fun b hb=>by rw [hfd];exact H9 _ hb
  have fr':Frames A s2.heap:=by
   refine G8 hs.fr fun l el F=>?_;refine G8 st.at_.fr fun l' el' F'=>?_;have ell:l'=callEnvC fd s.heap.objs.size fa::l:=by
    have z:(A.deeper (callEnvC fd s.heap.objs.size fa)).frames=some l':=el';rw [show (A.deeper (callEnvC fd s.heap.objs.size fa)).frames=A.frames.map (callEnvC fd s.heap.objs.size fa::·) from rfl,el] at z;exact (aO z).symm
   exact ⟨l,el,fun env he=>F' env (by rw [ell];exact H9 _ he)⟩
  refine ⟨⟨st.at_.top,st.at_.keep,fun b o e=>(st.at_.low b o e).1,st.at_.gens,st.at_.os,fr',fun b o e hb=>st.at_.nofr b o e (sub b hb)⟩,fun b o e ht=>?_,fun b hb=>?_⟩
  ·have hb:=W0 e;refine (fun k=>?_:Kept (A.deeper (callEnvC fd s.heap.objs.size fa)) s2.heap b o→Kept A s2.heap b o) (st.keep b o (x.toInCall.keep b o e) ht ?_)
   ·refine G8 k fun sl k1 k2=>?_;clear k;refine ⟨sl,k1,k2.imp_left fun z=>?_⟩;rw [hfd] at z;rcases List.mem_cons.mp z with z | z
    ·rw [z] at hb;exact absurd hb (V1 _)
    ·exact z
   rintro (z | ⟨n',z⟩)
   ·rw [z] at hb;exact absurd hb (V1 _)
   ·have:=x.above n' b (mem_of_lookup z);exact absurd (Nat.lt_trans hb this) (V1 _)
  ·rcases st.fresh b hb with z | z
   ·exact .inl z
   ·right;cases q:s.heap.get? b with
    | none=>rfl
    | some o=>rw [x.toInCall.keep b o q] at z;cases z
 refine wpAny_mono (h A s.heap.objs.size (hA.deeper _) s' hat) (fun fl s2 ⟨τ',m',st,q⟩=>⟨τ',stepOf st,q⟩) fun e s2 ⟨τ',m',st,q⟩=>?_;exact wpAny_mono (q s2 st.at_) (fun _ s3 ⟨τ3,m3,st3,q3⟩=>⟨τ3,stepOf (st.trans st3),q3⟩) fun e' s3 ⟨τ3,m3,st3,q3⟩=>⟨τ3,stepOf (st.trans st3),q3⟩
noncomputable def bQ (τ1 τ1' τ:PH):PH:=fun b=>match τ1' b with
 | some o=>some o
 | none=>match τ1 b with
  | some _=>none
  | none=>τ b
section
variable {c:Cx} {τ:PH} {m:Lo} {X:PV}
theorem cU {s s':Shared} (hs:At c τ m s) (keep:∀ b o,c.own b→s.heap.get? b=some o→∃ sl,s'.heap.get? b=some { o with slots:=sl }) :
  (∃ ml,s'.heap.Ns c.env.locals ml∧∀ x,c.env.kindOf x=some .local→ml x=m x)∧∀ n a,c.env.cells.lookup n=some a→s'.heap.IsCell a (m n)∧a≠c.env.locals:=by
 refine G8 hs.ns fun ml zB hm=>?_;refine R6 zB fun o es ep ho r=>?_;clear zB;obtain ⟨sl,e⟩:=keep _ _ (.inl rfl) ho;refine ⟨⟨ml,⟨_,es,ep,e,r⟩,hm⟩,fun n a ha=>?_⟩;obtain ⟨zC,hne⟩:=hs.cell n a ha;refine G8 zC fun o' ho' r'=>?_;clear zC;obtain ⟨sl',e'⟩:=keep _ _ (.inr ⟨n,ha⟩) ho';exact ⟨⟨_,e',r'⟩,hne⟩
theorem dJ {o:Obj} {h:Heap} {b:Addr} (e:h.get? b=some o):∃ sl,h.get? b=some { o with slots:=sl }:=⟨o.slots,e⟩
theorem qQ {n:Nat} {f:Value} {pos:List Value} {kw:List (Str×Value)} {τ1:PH} {R RX:Value→PH→Prop} {Q:PV} (sp:Spec c.w c.os n f ⟨pos,kw⟩ τ1 R RX) (hr:Room n c.A)
  (hsub:∀ b o,τ1 b=some o→τ b=some o)
  (hQ:∀ v τ1',(∀ b,(τ1' b).isSome=true→(τ1 b).isSome=true∨τ b=none)→R v τ1'→Q v (bQ τ1 τ1' τ) m)
  (hX:∀ v τ1',(∀ b,(τ1' b).isSome=true→(τ1 b).isSome=true∨τ b=none)→RX v τ1'→X v (bQ τ1 τ1' τ) m):W c (PySem.call f pos kw) τ m Q X:=by
 intro s hs;have h0:HAt c.w c.os c.A τ1 s:=⟨hs.top,fun b o e=>hs.keep b o (hsub b o e),fun b o e=>(hs.low b o (hsub b o e)).1,hs.gens,hs.os,hs.fr,fun b o e=>hs.nofr b o (hsub b o e)⟩
 have fin:∀ {τ1':PH} {s':Shared},HStep c.w c.os c.A τ1 s τ1' s'→Step c τ s (bQ τ1 τ1' τ) m s'∧∀ b,(τ1' b).isSome=true→(τ1 b).isSome=true∨τ b=none:=by
  intro τ1' s' st;have notOwn:∀ b,c.own b→τ1 b=none:=fun b hb=>by
   cases q:τ1 b with
   | none=>rfl
   | some o=>exact absurd hb (hs.low b o (hsub b o q)).2
  have hf:∀ b,(τ1' b).isSome=true→(τ1 b).isSome=true∨τ b=none:=fun b hb=>(st.fresh b hb).imp id fun z=>by
   cases q:τ b with
   | none=>rfl
   | some o=>rw [hs.keep b o q] at z;cases z
  obtain ⟨hn,hc⟩:=cU hs (fun b o hb e=>(st.keep b o e (notOwn b hb)).ex);have ovr:∀ b o,bQ τ1 τ1' τ b=some o→τ1' b=some o∨(τ1' b=none∧τ1 b=none∧τ b=some o):=by
   intro b o e;unfold bQ at e;cases q:τ1' b with
   | some o'=>rw [q] at e;left;exact e
   | none =>
    rw [q] at e;cases q2:τ1 b with
    | some _=>rw [q2] at e;cases e
    | none=>rw [q2] at e;exact .inr ⟨rfl,rfl,e⟩
  refine ⟨⟨⟨st.at_.top,fun b o e=>?_,fun b o e=>?_,hs.mine,hn,hc,hs.apart,hs.noBoth,st.at_.gens,st.at_.os,st.at_.fr,fun b o e=>?_⟩,fun b o e h1 h2=>?_,fun b hb=>?_⟩,hf⟩
  ·rcases ovr b o e with z | ⟨_,h1,h2⟩
   ·exact st.at_.keep b o z
   ·exact (st.keep b o (hs.keep b o h2) h1).exact (hs.nofr b o h2)
  ·rcases ovr b o e with z | ⟨_,h1,h2⟩
   ·refine ⟨st.at_.low b o z,fun ho=>?_⟩;rcases st.fresh b (by rw [z];rfl) with y | y
    ·rw [notOwn b ho] at y;cases y
    ·rcases ho with ho | ⟨n,ho⟩
     ·refine G8 hs.ns fun ml hml O=>?_;refine R6 hml fun ob O O hob O=>?_;clear hml;rw [ho,hob] at y;cases y
     ·obtain ⟨zD,_⟩:=hs.cell n b ho;refine G8 zD fun ob hob O=>?_;clear zD;rw [hob] at y;cases y
   ·exact hs.low b o h2
  ·rcases ovr b o e with z | ⟨_,h1,h2⟩
   ·exact st.at_.nofr b o z
   ·exact hs.nofr b o h2
  ·refine st.keep b o e ?_;cases q:τ1 b with
   | none=>rfl
   | some o'=>rw [hsub b o' q] at h1;cases h1
  ·obtain ⟨o,e⟩:=Option.isSome_iff_exists.mp hb;rcases ovr b o e with z | ⟨_,h1,h2⟩
   ·rcases st.fresh b (by rw [z];rfl) with y | y
    ·obtain ⟨o',q⟩:=Option.isSome_iff_exists.mp y;left;rw [hsub b o' q];rfl
    ·exact .inr y
   ·left;rw [h2];rfl
 refine wpAny_call (codeAny_mono (sp c.A s hr h0) fun r s' hb=>?_);cases r with
 | ok fl =>
  cases fl with
  | ret v =>
   refine G8 hb fun τ1' st q=>?_;clear hb;obtain ⟨st',hf⟩:=fin st;exact ⟨_,_,st',hQ v τ1' hf q⟩
  | _=>cases hb
 | error e =>
  refine G8 hb fun τ1' st q=>?_;clear hb;obtain ⟨st',hf⟩:=fin st;exact ⟨_,_,st',hX e τ1' hf q⟩
end
section
variable {c:Cx} {τ:PH} {m:Lo} {X:PV}
theorem W.use {α:Type} {t:Sem α} {Q':α→PH→Lo→Prop} {X':PV} {Q:α→Shared→Prop} {E:Value→Shared→Prop} {s:Shared} (h:W c t τ m Q' X') (hs:At c τ m s)
  (hQ:∀ a s' τ' m',Step c τ s τ' m' s'→Q' a τ' m'→Q a s') (hE:∀ a s' τ' m',Step c τ s τ' m' s'→X' a τ' m'→E a s'):wpAny (MM c) c.A t Q E s :=
 wpAny_mono (h s hs) (fun a s' ⟨τ',m',st,q⟩=>hQ a s' τ' m' st q) fun a s' ⟨τ',m',st,q⟩=>hE a s' τ' m' st q
theorem W.cont {α:Type} {t:Sem α} {τ':PH} {m':Lo} {Q:α→PH→Lo→Prop} {s s':Shared} (h:W c t τ' m' Q X) (st:Step c τ s τ' m' s'):wpAny (MM c) c.A t (V3 c τ s Q) (V3 c τ s X) s' :=
 wpAny_mono (h s' st.at_) (fun a s2 ⟨τ2,m2,st2,q2⟩=>⟨τ2,m2,st.trans st2,q2⟩) fun a s2 ⟨τ2,m2,st2,q2⟩=>⟨τ2,m2,st.trans st2,q2⟩
theorem xx {s:Shared}:∀ a s' τ' m',Step c τ s τ' m' s'→X a τ' m'→V3 c τ s X a s':=fun O O τ' m' st q=>⟨τ',m',st,q⟩
theorem Step.toks {s:Shared} (h:At c τ m s) (k:Nat):Step c τ s τ m { s with toks:=k } :=
 ⟨⟨h.top,h.keep,h.low,h.mine,h.ns,h.cell,h.apart,h.noBoth,h.gens,h.os,h.fr,h.nofr⟩,fun O O e O O=>.same e,fun O h=>.inl h⟩
theorem qG {α:Type}:∀ {l:List (Addr×α)} {b:Addr} {o:α},l.lookup b=some o→b∈l.map (·.1)
 | [],_,_,h=>by cases h
 | (a,x)::r,b,o,h=>by
  rw [List.lookup_cons] at h;cases q:b==a with
  | true=>rw [beq_iff_eq.mp q];exact K4
  | false=>rw [q] at h;exact H9 _ (qG h)
noncomputable def bO (env:Env) (x:Str):Bool:=env.scope.kind==.function&&!(x==("__debug__":Str))&&match env.kindOf x with
 | some .local=>true
 | some .cell=>(env.cells.lookup x).isSome
 | _=>false
theorem uC {x:Str} {v:Value} {Q:PV} (hk:bO c.env x=true) (hv:m x=some v) (h:Q v τ m):W c (loadName c.env x) τ m Q X:=fun s hs=>by
 unfold bO at hk;obtain ⟨hk,h2⟩:=Bool.and_eq_true_iff.mp hk;obtain ⟨hk,_⟩:=Bool.and_eq_true_iff.mp hk;have hk:=beq_iff_eq.mp hk;have fin:V3 c τ s Q v s:=⟨τ,m,Step.refl hs,h⟩
 cases q:c.env.kindOf x with
 | none=>rw [q] at h2;cases h2
 | some k =>
  rw [q] at h2;cases k with
  | «local» =>
   refine G8 hs.ns fun ml hn hm=>?_;exact wpAny_loadName_local hk q hn ((hm x q).trans hv) fin
  | cell =>
   obtain ⟨a,ha⟩:=Option.isSome_iff_exists.mp h2;have hc:=(hs.cell x a ha).1;rw [hv] at hc;exact wpAny_loadName_cell hk q ha hc fin
  | _=>cases h2
theorem Br {x:Str} {pos:Pos} {v:Value} {Q:PV} (hv:m x=some v) (hk:bO c.env x=true) (h:Q v τ m):W c (eval (.Name x pos) c.env) τ m Q X:=fun s hs =>
 wpAny_Name (uC hk hv h s hs) (by
  unfold bO at hk;obtain ⟨hk,_⟩:=Bool.and_eq_true_iff.mp hk;obtain ⟨_,hk⟩:=Bool.and_eq_true_iff.mp hk;simpa using hk)
theorem nO {x:Str} {v:Value} {Q:PU} (hk:bO c.env x=true) (h:Q () τ (upd m x v)):W c (storeName c.env x v) τ m Q X:=fun s hs=>by
 unfold bO at hk;obtain ⟨hk,h2⟩:=Bool.and_eq_true_iff.mp hk;obtain ⟨hk,_⟩:=Bool.and_eq_true_iff.mp hk;have hk:=beq_iff_eq.mp hk;have key:∀ {h':Heap} {k:Nat} {a:Addr},c.own a→Heap.SameBut a s.heap h' →
   (∃ o',h'.get? a=some o'∧∀ vs,o'.data≠.fields vs)→((∃ ml,h'.Ns c.env.locals ml∧∀ y,c.env.kindOf y=some .local→ml y=upd m x v y)∧∀ n b,c.env.cells.lookup n=some b→h'.IsCell b (upd m x v n)∧b≠c.env.locals) →
   V3 c τ s Q () { s with heap:=h',toks:=k }:=by
  intro h' k a ha hsb hnf hh;have nt:∀ b o,τ b=some o→b≠a:=fun b o e z=>(hs.low b o e).2 (z▸ha);refine ⟨τ,_,⟨⟨fun b o e=>?_,fun b o e=>(hsb.2 b (nt b o e)).trans (hs.keep b o e),hs.low,hs.mine,hh.1,hh.2,hs.apart,hs.noBoth,hs.gens,hs.os,hs.fr.keep fun b o O e hn=>?_,hs.nofr⟩,fun b o e O ho=>.same ?_,fun b hb=>.inl hb⟩,h⟩
  ·refine (hsb.2 b ?_).trans (hs.top b o e);rintro rfl;exact absurd (hs.mine b ha) (by
    have hb:b∈asL:=by
     have:∀ (l:Frag) (b:Addr) (o:Obj),l.lookup b=some o→b∈l.map (·.1):=fun l b o e=>qG e;have z:=this _ _ _ e;have q:(H3 c.w.params).map (·.1)=asL:=by kernel_rfl
     rw [q] at z;exact z
    exact Nat.not_le.mpr (List.mem_range.mp hb))
  ·by_cases hba:b=a
   ·subst hba;exact hnf
   ·exact ⟨o,(hsb.2 b hba).trans e,hn⟩
  ·refine (hsb.2 b ?_).trans e;rintro rfl;exact ho ha
 cases q:c.env.kindOf x with
 | none=>rw [q] at h2;cases h2
 | some k =>
  rw [q] at h2;cases k with
  | «local» =>
   refine G8 hs.ns fun ml hn hm=>?_;refine wpAny_storeName_local q hn (fun h' hn' hsb=>key (.inl rfl) hsb (rH hn') ⟨⟨_,hn',fun y hy=>?_⟩,fun n b hb=>?_⟩) (by rw [hk];rfl)
   ·unfold upd;by_cases e:y=x
    ·simp [e]
    ·simp only [e,if_false];exact hm y hy
   ·obtain ⟨hc,hne⟩:=hs.cell n b hb;refine ⟨?_,hne⟩;have hc':=hc.sameBut hsb hne;unfold upd;by_cases e:n=x
    ·subst e;exact absurd q (hs.noBoth n b hb)
    ·simp only [e,if_false];exact hc'
  | cell =>
   obtain ⟨a,ha⟩:=Option.isSome_iff_exists.mp h2;obtain ⟨hc,hne⟩:=hs.cell x a ha;refine wpAny_storeName_cell hk q ha hc fun h' hc' hsb=>key (k:=s.toks) (.inr ⟨x,ha⟩) hsb (by obtain ⟨o',e1,e2⟩:=hc';exact ⟨o',e1,fun vs z=>by rw [e2] at z;cases z⟩) ⟨?_,fun n b hb=>?_⟩
   ·refine G8 hs.ns fun ml hn hm=>?_;refine ⟨ml,hn.sameBut hsb (Ne.symm hne),fun y hy=>?_⟩;unfold upd;by_cases e:y=x
    ·subst e;rw [q] at hy;cases hy
    ·simp only [e,if_false];exact hm y hy
   ·obtain ⟨hcb,hneb⟩:=hs.cell n b hb;refine ⟨?_,hneb⟩;unfold upd;by_cases e:n=x
    ·subst e;rw [ha] at hb;cases hb;simpa using hc'
    ·simp only [e,if_false];refine hcb.sameBut hsb fun z=>e ?_;subst z;exact hs.apart _ _ _ hb ha
  | _=>cases h2
end
section
variable {c:Cx} {τ:PH} {m:Lo} {X:PV}
theorem V8 {α:Type} {t:Sem α} {a:α} {Q:α→PH→Lo→Prop} (r:∀ (Q:α→Shared→Prop) (E:Value→Shared→Prop) (s:Shared),At c τ m s→Q a s→wpAny (MM c) c.A t Q E s) (h:Q a τ m):W c t τ m Q X :=
 fun s hs=>r _ _ s hs ⟨τ,m,Step.refl hs,h⟩
theorem cg {α:Type} {t:Sem α} {f:Tok→α} {Q:α→PH→Lo→Prop} (r:∀ (Q:α→Shared→Prop) (E:Value→Shared→Prop) (s:Shared),At c τ m s→(∀ k t',Q (f t') { s with toks:=k })→wpAny (MM c) c.A t Q E s) (h:∀ t',Q (f t') τ m):W c t τ m Q X :=
 fun s hs=>r _ _ s hs fun k t'=>⟨τ,m,Step.toks hs k,h t'⟩
theorem J9 {i:Int} {k pos} {Q:PV} (h:∀ t,Q (.int i t) τ m):W c (eval (.Constant (.int i) k pos) c.env) τ m Q X:=fun s hs=>wpAny_Constant_int ⟨τ,m,Step.toks hs _,h _⟩
theorem O8 {x:Str} {k pos} {Q:PV} (h:∀ t,Q (.str x t) τ m):W c (eval (.Constant (.str x) k pos) c.env) τ m Q X:=fun s hs=>wpAny_Constant_str ⟨τ,m,Step.toks hs _,h _⟩
theorem aL {k pos} {Q:PV} (h:Q .none τ m):W c (eval (.Constant .none k pos) c.env) τ m Q X:=fun s hs=>(Constant_none ⟨τ,m,Step.refl hs,h⟩:wpAny (MM c) c.A _ _ _ _)
theorem qu {b:Bool} {k pos} {Q:PV} (h:Q (.bool b) τ m):W c (eval (.Constant (.bool b) k pos) c.env) τ m Q X:=fun s hs=>wpAny_Constant_bool ⟨τ,m,Step.refl hs,h⟩
theorem Av {x:Str} {pos:Pos} {v:Value} {Q:PV} (e:PySem.W.peek (H3 c.w.params) ⟨pw,c.w.params⟩ (loadName c.env x)=some v) (hd:(x==("__debug__":Str))=false) (h:Q v τ m):W c (eval (.Name x pos) c.env) τ m Q X:=fun s hs =>
 wpAny_Name ((Looks.of_peek hs.top e:Looks (MM c) s.heap _ _).here ⟨τ,m,Step.refl hs,h⟩) hd
noncomputable def Then (c:Cx) (rest:List Stmt) (Q:PF) (X:PV):PF
 | .next,τ,m=>W c (execs rest c.env) τ m Q X
 | f,τ,m=>Q f τ m
noncomputable abbrev KF (c:Cx) {α β:Type} (f:α→Sem β) (Q:β→PH→Lo→Prop) (X:PV):α→PH→Lo→Prop:=fun a τ m=>W c (f a) τ m Q X
noncomputable abbrev KB (c:Cx) {β:Type} (r:Expr) (f:Value→Value→Sem β) (Q:β→PH→Lo→Prop) (X:PV):PV:=fun a τ m=>W c (eval r c.env) τ m (KF c (f a) Q X) X
noncomputable abbrev KR (Q:PF):PV:=fun v=>Q (.ret v)
noncomputable abbrev KX {α:Type} (Q:PF):α→PH→Lo→Prop:=fun O=>Q .next
noncomputable abbrev KA (x:Str) (Q:PF):PV:=fun v τ m=>Q .next τ (upd m x v)
noncomputable abbrev KI (c:Cx) (a b:List Stmt) (Q:PF) (X:PV):PB:=fun p τ m=>W c (execs (if p then a else b) c.env) τ m Q X
noncomputable abbrev KAnd (c:Cx) (rest:List Expr) (Q:PB) (X:PV):PB:=fun b τ m=>if b then W c (allTrue .And rest c.env) τ m Q X else Q false τ m
noncomputable abbrev KOr (c:Cx) (rest:List Expr) (Q:PB) (X:PV):PB:=fun b τ m=>if b then Q true τ m else W c (allTrue .Or rest c.env) τ m Q X
noncomputable abbrev KN (Q:PB):PB:=fun b=>Q (!b)
noncomputable abbrev KS2 (c:Cx) (o v:Value) (Q:PF) (X:PV):PV:=fun i τ m=>W c (setItem o i v) τ m (KX Q) X
noncomputable abbrev KS1 (c:Cx) (i:Expr) (v:Value) (Q:PF) (X:PV):PV:=fun o τ m=>W c (eval i c.env) τ m (KS2 c o v Q X) X
noncomputable abbrev KS0 (c:Cx) (o i:Expr) (Q:PF) (X:PV):PV:=fun v τ m=>W c (eval o c.env) τ m (KS1 c i v Q X) X
theorem G9 {Q:PF} (h:Q .next τ m):W c (execs [] c.env) τ m Q X:=fun s hs=>wpAny_execs_nil ⟨τ,m,Step.refl hs,h⟩
theorem G6 {st:Stmt} {rest:List Stmt} {Q:PF} (h:W c (exec st c.env) τ m (Then c rest Q X) X):W c (execs (st::rest) c.env) τ m Q X:=fun s hs =>
 wpAny_execs_cons (h.use hs (fun f s' τ' m' st' q=>by
  cases f with
  | next=>exact W.cont q st'
  | _=>exact ⟨τ',m',st',q⟩) xx)
theorem sr {pos} {Q:PF} (h:Q .brk τ m):W c (exec (.Break pos) c.env) τ m Q X:=fun s hs=>wpAny_Break ⟨τ,m,Step.refl hs,h⟩
theorem pD {pos} {Q:PF} (h:Q .cont τ m):W c (exec (.Continue pos) c.env) τ m Q X:=fun s hs=>wpAny_Continue ⟨τ,m,Step.refl hs,h⟩
theorem Y9 {e pos} {Q:PF} (h:W c (eval e c.env) τ m (KR Q) X):W c (exec (.Return (some e) pos) c.env) τ m Q X:=fun s hs =>
 wpAny_Return_some (h.use hs (fun v s' τ' m' st q=>⟨τ',m',st,q⟩) xx)
theorem O7 {e pos} {Q:PF} (h:W c (eval e c.env) τ m (KX Q) X) (hi:autoParam (interactive c.env=false) aR) (hs:autoParam (swapsWith e none pos.line c.env=pure false) aR) :
  W c (exec (.Expr e pos) c.env) τ m Q X:=fun s hs'=>wpAny_Expr_any (h.use hs' (fun v s' τ' m' st q=>⟨τ',m',st,q⟩) xx) hi hs
theorem Dw {x:Str} {p pos:Pos} {value:Expr} {Q:PF} (h:W c (eval value c.env) τ m (KA x Q) X) (hk:bO c.env x=true)
  (hs:autoParam (swapsWith value (some (.Name x p)) pos.line c.env=pure false) aR):W c (exec (.Assign [.Name x p] value pos) c.env) τ m Q X:=fun s hs' =>
 wpAny_Assign_Name (h.use hs' (fun v s' τ' m' st q=>W.cont (nO (Q:=fun O=>Q .next) hk q) st) xx) hs
theorem yE {o i value:Expr} {p pos:Pos} {Q:PF} (h:W c (eval value c.env) τ m (KS0 c o i Q X) X)
  (hs:autoParam (swapsWith value (some (.Subscript o i p)) pos.line c.env=pure false) aR):W c (exec (.Assign [.Subscript o i p] value pos) c.env) τ m Q X:=fun s hs' =>
 wpAny_Assign_Subscript (h.use hs' (fun v s1 τ1 m1 st1 q1=>q1.use st1.at_ (fun ov s2 τ2 m2 st2 q2=>q2.use st2.at_ (fun iv s3 τ3 m3 st3 q3=>W.cont q3 ((st1.trans st2).trans st3)) (fun O O τ' m' st q=>⟨τ',m',(st1.trans st2).trans st,q⟩)) (fun O O τ' m' st q=>⟨τ',m',st1.trans st,q⟩)) xx) hs
theorem K6 {test:Expr} {body orelse:List Stmt} {pos:Pos} {Q:PF} (h:W c (isTrue test c.env (eval test c.env)) τ m (KI c body orelse Q X) X) :
  W c (exec (.If test body orelse pos) c.env) τ m Q X:=fun s hs=>wpAny_If (h.use hs (fun b s' τ' m' st q=>by cases b <;> exact W.cont q st) xx)
theorem iC {x:Str} {p pos:Pos} {op:Operator} {value:Expr} {v₀:Value} {Q:PF} (hv:m x=some v₀) (hk:bO c.env x=true)
  (h:W c (eval value c.env) τ m (KF c (inplaceOp op v₀) (KA x Q) X) X):W c (exec (.AugAssign (.Name x p) op value pos) c.env) τ m Q X:=fun s hs =>
 wpAny_AugAssign_Name ((uC (Q:=fun v τ' m'=>v=v₀∧τ'=τ∧m'=m) (X:=X) hk hv ⟨rfl,rfl,rfl⟩).use hs (fun v1 s0 τ₀ m₀ st0 q0=>by
  refine M6 q0 fun zB zC zD=>?_;clear q0;obtain rfl:=zB;obtain rfl:=zC;obtain rfl:=zD;exact h.use st0.at_ (fun v s1 τ1 m1 st1 q1=>q1.use st1.at_ (fun r s2 τ2 m2 st2 q2=>W.cont (nO (Q:=fun O=>Q .next) hk q2) ((st0.trans st1).trans st2)) (fun O O τ' m' st q=>⟨τ',m',(st0.trans st1).trans st,q⟩)) (fun O O τ' m' st q=>⟨τ',m',st0.trans st,q⟩)) xx)
end
noncomputable def G5 (τ:PH) (a:Addr) (o:Obj):PH:=fun b=>if b=a then some o else τ b
theorem I4 {τ:PH} {a:Addr} {o:Obj}:G5 τ a o a=some o:=by unfold G5;rw [if_pos rfl]
theorem P0 {τ:PH} {a b:Addr} {o o':Obj} (h:b≠a) (e:τ b=some o'):G5 τ a o b=some o':=by unfold G5;rw [if_neg h];exact e
theorem O9 {τ:PH} {a b:Addr} {o o':Obj} (hn:τ a=none) (e:τ b=some o'):G5 τ a o b=some o':=P0 (by rintro rfl;rw [hn] at e;cases e) e
theorem jc {m:Lo} {x:Str} {v:Value}:upd m x v x=some v:=by unfold upd;rw [if_pos rfl]
theorem iV {m:Lo} {x y:Str} {v w:Value} (h:(y==x)=false) (e:m y=some w):upd m x v y=some w:=by unfold upd;rw [if_neg (by simpa using h)];exact e
theorem jy {P:Params} {b:Addr} {o:Obj} (e:(H3 P).lookup b=some o):b<516:=by
 have z:=qG e;have q:(H3 P).map (·.1)=asL:=by kernel_rfl
 rw [q] at z;exact List.mem_range.mp z
section
variable {c:Cx} {τ:PH} {m:Lo} {X:PV}
theorem Step.put {s:Shared} {h':Heap} {a:Addr} {o o':Obj} {k:Nat} (hs:At c τ m s) (ha:τ a=some o) (hsb:Heap.SameBut a s.heap h') (hg:h'.get? a=some o'):Step c τ s (G5 τ a o') m { s with heap:=h',toks:=k }:=by
 obtain ⟨hl,hno⟩:=hs.low a o ha;have kp:∀ b o,b≠a→s.heap.get? b=some o→h'.get? b=some o:=fun b o hb e=>(hsb.2 b hb).trans e;obtain ⟨hn,hc⟩:=cU (s':={ s with heap:=h',toks:=k }) hs fun b o hb e=>dJ (kp b o (by rintro rfl;exact hno hb) e);refine ⟨⟨fun b o e=>kp b o (by rintro rfl;exact absurd hl (Nat.not_le.mpr (jy e))) (hs.top b o e),fun b o e=>?_,fun b o e=>?_,hs.mine,hn,hc,hs.apart,hs.noBoth,hs.gens,hs.os,hs.fr.keep fun b o hb e hn=>⟨o,kp b o (fun z=>hs.nofr a _ ha (z▸hb)) e,hn⟩,fun b o e=>?_⟩,fun b o e h1 O=>.same (kp b o (by rintro rfl;rw [ha] at h1;cases h1) e),fun b hb=>?_⟩
 ·unfold G5 at e;split at e
  ·rename_i q;subst q;cases e;exact hg
  ·rename_i q;exact kp b o q (hs.keep b o e)
 ·unfold G5 at e;split at e
  ·rename_i q;subst q;exact ⟨hl,hno⟩
  ·exact hs.low b o e
 ·unfold G5 at e;split at e
  ·rename_i q;subst q;exact hs.nofr _ _ ha
  ·exact hs.nofr b o e
 ·unfold G5 at hb;split at hb
  ·rename_i q;subst q;left;rw [ha];rfl
  ·exact .inl hb
theorem Step.new {s:Shared} {o:Obj} (hs:At c τ m s) (hf:o.isFreed=false):Step c τ s (G5 τ s.heap.objs.size o) m { s with heap:=s.heap.push o }:=by
 have hsz:=jF hs.top;have kp:∀ b o',s.heap.get? b=some o'→(s.heap.push o).get? b=some o':=fun b o' e=>X6 _ e;obtain ⟨hn,hc⟩:=cU (s':={ s with heap:=s.heap.push o }) hs fun b o' hb e=>dJ (kp b o' e);have hno:¬ c.own s.heap.objs.size:=by
  rintro (z | ⟨n,z⟩)
  ·refine G8 hs.ns fun ml zB O=>?_;refine R6 zB fun ob O O hob O=>?_;clear zB;have:=W0 hob;rw [← z] at this;exact absurd this (V1 _)
  ·obtain ⟨zC,_⟩:=hs.cell n _ z;refine G8 zC fun ob hob O=>?_;clear zC;exact absurd (W0 hob) (V1 _)
 refine ⟨⟨fun b o' e=>kp b o' (hs.top b o' e),fun b o' e=>?_,fun b o' e=>?_,hs.mine,hn,hc,hs.apart,hs.noBoth,hs.gens,hs.os,hs.fr.keeps kp,fun b o' e=>?_⟩,fun b o' e O O=>.same (kp b o' e),fun b hb=>?_⟩
 ·unfold G5 at e;split at e
  ·rename_i q;subst q;cases e;exact aN _ hf
  ·exact kp b o' (hs.keep b o' e)
 ·unfold G5 at e;split at e
  ·rename_i q;subst q;exact ⟨hsz,hno⟩
  ·exact hs.low b o' e
 ·unfold G5 at e;split at e
  ·rename_i q;subst q;exact hs.fr.old
  ·exact hs.nofr b o' e
 ·unfold G5 at hb;split at hb
  ·rename_i q;subst q;right;cases z:s.heap.get? s.heap.objs.size with
   | none=>rfl
   | some o'=>exact absurd (W0 z) (V1 _)
  ·exact .inl hb
theorem At.fresh {s:Shared} (hs:At c τ m s):τ s.heap.objs.size=none:=by
 cases q:τ s.heap.objs.size with
 | none=>rfl
 | some o=>exact absurd (W0 (hs.keep _ o q)) (V1 _)
theorem Ay {o:Obj} {Q:Addr→PH→Lo→Prop} (h:∀ a,τ a=none→Q a (G5 τ a o) m) (hf:autoParam (o.isFreed=false) aR):W c (PySem.alloc o) τ m Q X:=fun s hs=>wpAny_alloc ⟨_,_,Step.new hs hf,h _ hs.fresh⟩
noncomputable abbrev G3 (vs:List Value) (n:Nat):Obj:={ cls:=.type "list",data:=.seq vs.toArray n }
noncomputable abbrev H4 (vs:List Value):Obj:={ cls:=.type "tuple",data:=.seq vs.toArray }
theorem FQ {vs:List Value} {Q:PV} (hsz:vs.length≤sizeLine) (h:∀ a,τ a=none→Q (.ref a) (G5 τ a (G3 vs 0)) m):W c (newList vs) τ m Q X:=fun s hs =>
 wpAny_newObj_type (show V3 c τ s Q _ _ from ⟨_,_,Step.new hs rfl,h _ hs.fresh⟩) (by show vs.toArray.size≤sizeLine;rw [dH];exact hsz)
theorem Bc {vs:List Value} {Q:PV} (hsz:vs.length≤sizeLine) (h:∀ a,τ a=none→Q (.ref a) (G5 τ a (H4 vs)) m):W c (newTuple vs) τ m Q X:=fun s hs =>
 wpAny_newObj_type (show V3 c τ s Q _ _ from ⟨_,_,Step.new hs rfl,h _ hs.fresh⟩) (by show vs.toArray.size≤sizeLine;rw [dH];exact hsz)
theorem M3 {l r:Expr} {op:Operator} {pos:Pos} {Q:PV} (h:W c (eval l c.env) τ m (KB c r (binaryOp op) Q X) X):W c (eval (.BinOp l op r pos) c.env) τ m Q X:=fun s hs =>
 wpAny_BinOp (h.use hs (fun a s1 τ1 m1 st1 q1=>q1.use st1.at_ (fun b s2 τ2 m2 st2 q2=>W.cont q2 (st1.trans st2)) (fun O O τ' m' st q=>⟨τ',m',st1.trans st,q⟩)) xx)
theorem nC {l r:Expr} {op:CmpOp} {pos:Pos} {Q:PV} (h:W c (eval l c.env) τ m (KB c r (compareOp op) Q X) X)
  (hm:behindInMarks op r=false:=by with_unfolding_all rfl):W c (eval (.Compare l [op] [r] pos) c.env) τ m Q X:=fun s hs =>
 wpAny_Compare1 (h.use hs (fun a s1 τ1 m1 st1 q1=>q1.use st1.at_ (fun b s2 τ2 m2 st2 q2=>W.cont q2 (st1.trans st2)) (fun O O τ' m' st q=>⟨τ',m',st1.trans st,q⟩)) xx) hm
theorem J0 {l r:Expr} {op:CmpOp} {pos:Pos} {whole:Sem Value} {Q:PB} (h:W c (eval l c.env) τ m (KB c r (compareOp op) (KF c truthy Q X) X) X)
  (hm:behindInMarks op r=false:=by with_unfolding_all rfl):W c (isTrue (.Compare l [op] [r] pos) c.env whole) τ m Q X:=fun s hs =>
 wpAny_isTrue_Compare1 (h.use hs (fun a s1 τ1 m1 st1 q1=>q1.use st1.at_ (fun b s2 τ2 m2 st2 q2=>q2.use st2.at_ (fun v s3 τ3 m3 st3 q3=>W.cont q3 ((st1.trans st2).trans st3)) (fun O O τ' m' st q=>⟨τ',m',(st1.trans st2).trans st,q⟩)) (fun O O τ' m' st q=>⟨τ',m',st1.trans st,q⟩)) xx) hm
theorem jC {x:Expr} {pos:Pos} {whole:Sem Value} {Q:PB} (h:W c (isTrue x c.env (eval x c.env)) τ m (KN Q) X):W c (isTrue (.UnaryOp .Not x pos) c.env whole) τ m Q X:=fun s hs =>
 wpAny_isTrue_Not (h.use hs (fun b s' τ' m' st q=>⟨τ',m',st,q⟩) xx)
theorem aQ {op:BoolOp} {values:List Expr} {pos:Pos} {whole:Sem Value} {Q:PB} (h:W c (allTrue op values c.env) τ m Q X):W c (isTrue (.BoolOp op values pos) c.env whole) τ m Q X:=fun s hs=>wpAny_isTrue_BoolOp (h s hs)
theorem U3 {x:Expr} {rest:List Expr} {Q:PB} (h:W c (isTrue x c.env (eval x c.env)) τ m (KAnd c rest Q X) X):W c (allTrue .And (x::rest) c.env) τ m Q X:=fun s hs =>
 wpAny_allTrue_And_cons (h.use hs (fun b s' τ' m' st q=>by cases b <;> first | exact ⟨τ',m',st,q⟩ | exact W.cont q st) xx)
theorem ik {Q:PB} (h:Q true τ m):W c (allTrue .And [] c.env) τ m Q X:=fun s hs=>wpAny_allTrue_And_nil ⟨τ,m,Step.refl hs,h⟩
theorem gQ {x:Expr} {rest:List Expr} {Q:PB} (h:W c (isTrue x c.env (eval x c.env)) τ m (KOr c rest Q X) X):W c (allTrue .Or (x::rest) c.env) τ m Q X:=fun s hs =>
 wpAny_allTrue_Or_cons (h.use hs (fun b s' τ' m' st q=>by cases b <;> first | exact ⟨τ',m',st,q⟩ | exact W.cont q st) xx)
theorem pP {Q:PB} (h:Q false τ m):W c (allTrue .Or [] c.env) τ m Q X:=fun s hs=>wpAny_allTrue_Or_nil ⟨τ,m,Step.refl hs,h⟩
theorem U7 {e:Expr} {whole:Sem Value} {Q:PB} (h:W c whole τ m (KF c truthy Q X) X) (he:autoParam (isTrue e c.env whole=(do let v ← whole;standAt e.pos;PySem.holding [v] (truthy v))) aR):W c (isTrue e c.env whole) τ m Q X:=fun s hs =>
 wpAny_isTrue_value (h.use hs (fun v s' τ' m' st q=>W.cont q st) xx) he
theorem uG {test body orelse:Expr} {pos:Pos} {Q:PV} (h:W c (isTrue test c.env (eval test c.env)) τ m (fun b τ' m'=>W c (eval (if b then body else orelse) c.env) τ' m' Q X) X):W c (eval (.IfExp test body orelse pos) c.env) τ m Q X:=fun s hs =>
 wpAny_IfExp (h.use hs (fun b s' τ' m' st q=>by cases b <;> exact W.cont q st) xx)
theorem vA {x y:Expr} {pos:Pos} {Q:PV} (h:W c (eval x c.env) τ m (fun v τ1 m1=>W c (truthy v) τ1 m1 (fun b τ2 m2=>if b then Q v τ2 m2 else W c (eval y c.env) τ2 m2 Q X) X) X):W c (eval (.BoolOp .Or [x,y] pos) c.env) τ m Q X:=fun s hs =>
 wpAny_Or2 (h.use hs (fun v s1 τ1 m1 st1 q1=>q1.use st1.at_ (fun b s2 τ2 m2 st2 q2=>by cases b <;> first | exact ⟨τ2,m2,st1.trans st2,q2⟩ | exact W.cont q2 (st1.trans st2)) (fun O O τ' m' st q=>⟨τ',m',st1.trans st,q⟩)) xx)
theorem I6 {b:Bool} {Q:PB} (h:Q b τ m):W c (truthy (.bool b)) τ m Q X:=fun s hs=>wpAny_truthy_bool ⟨τ,m,Step.refl hs,h⟩
end
section
variable {c:Cx} {τ:PH} {m:Lo} {X:PV}
noncomputable abbrev KC0 (c:Cx) (pos:Pos) (args:List Expr) (Q X:PV):PV:=fun f τ m=>W c (callWith pos f [] (backTo pos (starEach args c.env)) []) τ m Q X
noncomputable abbrev KCons (v:Value) (Q:PL):PL:=fun vs=>Q (v::vs)
noncomputable abbrev KSp (c:Cx) (pos:Pos) (rest:List Expr) (Q:PL) (X:PV):PV:=fun v τ m=>W c (spliced (backTo pos (starEach rest c.env))) τ m (KCons v Q) X
noncomputable abbrev KCall (c:Cx) (f:Value) (first:List Value) (Q X:PV):PL:=fun vs τ m=>W c (PySem.call f (first++vs) []) τ m Q X
noncomputable abbrev KM2 (c:Cx) (pos:Pos) (args:List Expr) (Q X:PV):PM:=fun fx τ m=>W c (callWith pos fx.1 fx.2 (backTo pos (starEach args c.env)) []) τ m Q X
noncomputable abbrev KM (c:Cx) (name:Str) (pl:Sem Bool) (pos:Pos) (args:List Expr) (Q X:PV):PV:=fun ov τ m=>W c (getMethod ov name pl) τ m (KM2 c pos args Q X) X
theorem K8 {id:Str} {p pos:Pos} {args:List Expr} {Q:PV} (h:W c (eval (.Name id p) c.env) τ m (KC0 c pos args Q X) X) :
  W c (eval (.Call (.Name id p) args [] pos) c.env) τ m Q X:=fun s hs=>wpAny_Call_NameR (h.use hs (fun v s' τ' m' st q=>W.cont q st) xx)
theorem H5 {pos:Pos} {Q:PL} (h:Q [] τ m):W c (spliced (backTo pos (starEach [] c.env))) τ m Q X:=fun s hs=>spliced_none ⟨τ,m,Step.refl hs,h⟩
theorem G7 {e:Expr} {rest:List Expr} {pos:Pos} {Q:PL} (h:W c (eval e c.env) τ m (KSp c pos rest Q X) X)
  (he:autoParam (starEach (e::rest) c.env=(false,eval e c.env)::starEach rest c.env) aR):W c (spliced (backTo pos (starEach (e::rest) c.env))) τ m Q X:=fun s hs =>
 spliced_more (h.use hs (fun v s' τ' m' st q=>q.use st.at_ (fun vs s2 τ2 m2 st2 q2=>⟨τ2,m2,st.trans st2,q2⟩) (fun O O τ2 m2 st2 q2=>⟨τ2,m2,st.trans st2,q2⟩)) xx) he
noncomputable def qM (P:Params) (f:Value):Bool:=match f with
 | .ref _=>keepIn (H3 P) f
 | _=>true
theorem uT {M:Model} {P:Params} {f:Value} (hk:qM P f=true) (h:Heap) (X:(H3 P).In h):∃ k,(k=Keeper.frame∨k=Keeper.machine∨k=Keeper.boundFrame)∧Looks M h (keeperOf f) k:=by
 cases f with
 | ref a=>exact keeps_K (show keepIn (H3 P) (.ref a)=true from hk) h X
 | _=>exact ⟨.machine,.inr (.inl rfl),Looks.now⟩
theorem aq {f:Value} {first:List Value} {pos:Pos} {Q:PV} (hk:qM c.w.params f=true) (h:W c (PySem.call f (first++[]) []) τ m Q X):W c (callWith pos f first (backTo pos (starEach [] c.env)) []) τ m Q X:=fun s hs =>
 callWith_of (P:=fun h=>(H3 c.w.params).In h) rfl (uT hk) (evalArgs_nil3 ⟨hs.top,h s hs⟩)
theorem I2 {f:Value} {first:List Value} {e:Expr} {rest:List Expr} {pos:Pos} {Q:PV} (hk:qM c.w.params f=true)
  (h:W c (spliced (backTo pos (starEach (e::rest) c.env))) τ m (KCall c f first Q X) X)
  (he:autoParam (starEach (e::rest) c.env=(false,eval e c.env)::starEach rest c.env) aR) (hplain:autoParam ((backTo pos (starEach rest c.env)).any (·.1)=false) aR):W c (callWith pos f first (backTo pos (starEach (e::rest) c.env)) []) τ m Q X:=fun s hs=>by
 rw [he] at h ⊢;exact callWith_of (P:=fun h=>(H3 c.w.params).In h) (by show ((false||(backTo pos (starEach rest c.env)).any (·.1))||false)=false;rw [hplain];rfl) (uT hk) (Calls.evalArgs_plain (h.use hs (fun vs s' τ' m' st q=>⟨st.at_.top,W.cont q st⟩) xx))
theorem N7 {o:Expr} {name:Str} {apos pos:Pos} {args:List Expr} {pl:Sem Bool} {Q:PV}
  (h:W c (eval o c.env) τ m (KM c name pl pos args Q X) X)
  (he:autoParam (eval (.Call (.Attribute o name apos) args [] pos) c.env=(do
   let ov ← eval o c.env
   standAt apos.atName
   let (f,first) ← PySem.holding [ov] (getMethod ov name pl)
   callWith pos f first (backTo pos (starEach args c.env)) [])) aR):W c (eval (.Call (.Attribute o name apos) args [] pos) c.env) τ m Q X:=fun s hs=>by
 rw [he];refine wpAny_bind (h.use hs (fun ov s1 τ1 m1 st1 q1=>wpAny_bind (wpAny_standAt (wpAny_bind (wpAny_holding (q1.use st1.at_ (fun fx s2 τ2 m2 st2 q2=>?_) (fun O O τ' m' st q=>⟨τ',m',st1.trans st,q⟩)))))) xx);exact W.cont q2 (st1.trans st2)
theorem T8 {T id:String} {name:Str} {pl:Sem Bool} {a:Addr} {o:Obj} {Q:PM} (ha:τ a=some o) (pa:PlainAttrs T) (slot:Slot T name id) (hty:typeOf (.builtin id)=pure (.type "method_descriptor"))
  (h:Q (.builtin id,[.ref a]) τ m) (hc:autoParam (o.cls=.type T) aR) (hd:autoParam (o.dict=none) aR):W c (getMethod (.ref a) name pl) τ m Q X:=fun s hs =>
 getMethod_builtin (v:=.ref a) ⟨o,hs.keep a o ha,hc⟩ pa slot hty (fun b e=>by cases e;exact ⟨o,hs.keep a o ha,hd⟩) ⟨τ,m,Step.refl hs,h⟩
inductive FieldsAre:List DictEntry→List (Str×Value)→Prop where
 | nil:FieldsAre [] []
 | cons {h:Int} {x:Str} {t:Tok} {v:Value} {es:List DictEntry} {fs:List (Str×Value)}:FieldsAre es fs→FieldsAre (⟨h,.str x t,v⟩::es) ((x,v)::fs)
noncomputable def aM (name:Str) (v:Value):List (Str×Value)→List (Str×Value)
 | []=>[(name,v)]
 | p::r=>if p.1==name then (p.1,v)::r else p::aM name v r
theorem FieldsAre.get {name:Str}:∀ {es:List DictEntry} {fs:List (Str×Value)},FieldsAre es fs→getL name es=some (fs.lookup name)
 | _,_,.nil=>rfl
 | _,_,.cons (h:=hh) (x:=x) (t:=t) (v:=v) (es:=es) (fs:=fs) r=>by
  have ih:=r.get (name:=name);unfold getL at ih ⊢;rw [List.find?_cons,List.lookup_cons];have e:(Value.str x t).isStr name=(x==name):=rfl;have e2:(name==x)=(x==name):=by rw [Bool.eq_iff_iff,beq_iff_eq,beq_iff_eq,eq_comm]
  rw [e2];cases q:x==name with
  | true=>simp only [e,q]
  | false =>
   simp only [e,q];have:(⟨hh,.str x t,v⟩::es:List DictEntry).any (·.refKey)=es.any (·.refKey):=by simp [DictEntry.refKey]
   rw [this];exact ih
theorem FieldsAre.put {name:Str} {hsh:Int} {tk:Tok} {v:Value}:∀ {es:List DictEntry} {fs:List (Str×Value)},FieldsAre es fs→FieldsAre (putL name hsh (.str name tk) v es) (aM name v fs)
 | _,_,.nil=>.cons .nil
 | _,_,.cons (h:=hh) (x:=x) (t:=t) (v:=v') (es:=es) (fs:=fs) r=>by
  unfold putL aM;have e:(Value.str x t).isStr name=(x==name):=rfl;simp only [e];cases q:x==name with
  | true=>simp only [if_true];exact .cons r
  | false=>simp only [Bool.false_eq_true,if_false];exact .cons r.put
theorem vZ {name:Str} {v:Value}:∀ fs:List (Str×Value),(aM name v fs).length≤fs.length+1
 | []=>K9 _
 | p::r=>by
  unfold aM;split
  ·simp
  ·have:=vZ (name:=name) (v:=v) r;simp only [R8];exact (kq2 759219642766618869825) this
theorem FieldsAre.length {es:List DictEntry} {fs:List (Str×Value)} (h:FieldsAre es fs):es.length=fs.length:=by
 induction h with
 | nil=>rfl
 | cons _ ih=>simp [ih]
noncomputable def S8 (o:Obj) (fs:List (Str×Value)):Prop:=∃ es n,o=dictOf es n∧FieldsAre es fs
end
noncomputable def vD (P:Params) (C:Addr) (name:Str):Bool:=findIn (H3 P) (.ref C) "__getattribute__"==some (some (.builtin "object.__getattribute__"))&&hasDictIn (H3 P) C &&
 (match findIn (H3 P) (.ref C) name with | some attr=>noGet (H3 P) attr | none=>false)
noncomputable def putOk (P:Params) (C:Addr) (name:Str):Bool:=findIn (H3 P) (.ref C) "__setattr__"==some (some (.builtin "object.__setattr__"))&&hasDictIn (H3 P) C&&plainOver (H3 P) C&&takerIn (H3 P) C name==some none
noncomputable def ut (P:Params) (C:Addr) (name:Str) (f:Addr):Bool:=findIn (H3 P) (.ref C) "__getattribute__"==some (some (.builtin "object.__getattribute__"))&&findIn (H3 P) (.ref C) "__getattr__"==some none &&
 findIn (H3 P) (.ref C) name==some (some (.ref f))&&typeIn (H3 P) (.ref f)==some (.type "function")
section
variable {c:Cx} {τ:PH} {m:Lo} {X:PV}
theorem pQ {s:Shared} {x C dx:Addr} {od:Obj} (hs:At c τ m s) (hx:τ x=some (instObj C dx)) (hd:τ dx=some od):InstAt s.heap x (instObj C dx) C (some od):=⟨hs.keep x _ hx,rfl,rfl,hs.keep dx _ hd⟩
theorem T9 {x C dx:Addr} {od:Obj} {fs:List (Str×Value)} {name:Str} {v:Value} {expr:Bool} {Q:PV} (hx:τ x=some (instObj C dx)) (hd:τ dx=some od) (F:S8 od fs) (hl:fs.lookup name=some v)
  (ok:vD c.w.params C name=true) (hv:handedIn v=true) (h:Q v τ m):W c (getAttr (.ref x) name expr) τ m Q X:=fun s hs=>by
 refine ao F fun es n zB hf=>?_;clear F;obtain rfl:=zB;unfold vD at ok;obtain ⟨ok,h3⟩:=Bool.and_eq_true_iff.mp ok;obtain ⟨h1,h2⟩:=Bool.and_eq_true_iff.mp ok;cases q:findIn (H3 c.w.params) (.ref C) name with
 | none=>rw [q] at h3;cases h3
 | some attr =>
  rw [q] at h3;refine get_value hs.top (pQ hs hx hd) (beq_iff_eq.mp h1) (findObj_own h2 q h3 ?_) hv ⟨τ,m,Step.toks hs _,h⟩;rw [lookIn_dict,hf.get,hl]
noncomputable abbrev KG (c:Cx) (attr:Str) (Q X:PV):PV:=fun o τ m=>W c (getAttr o attr true) τ m Q X
noncomputable abbrev KSA1 (c:Cx) (attr:Str) (v:Value) (Q:PF) (X:PV):PV:=fun o τ m=>W c (setAttr o attr v) τ m (KX Q) X
noncomputable abbrev KSA0 (c:Cx) (o:Expr) (attr:Str) (Q:PF) (X:PV):PV:=fun v τ m=>W c (eval o c.env) τ m (KSA1 c attr v Q X) X
theorem R7 {x:Str} {xp pos:Pos} {attr:Str} {Q:PV} (h:W c (eval (.Name x xp) c.env) τ m (KG c attr Q X) X):W c (eval (.Attribute (.Name x xp) attr pos) c.env) τ m Q X:=fun s hs =>
 Attribute_Name_ (h.use hs (fun v s' τ' m' st q=>W.cont q st) xx)
theorem tC {value:Expr} {pos:Pos} {attr:Str} {Q:PV} (h:W c (eval value c.env) τ m (KG c attr Q X) X)
  (he:autoParam (eval (.Attribute value attr pos) c.env=(do
   let o ← eval value c.env
   standAt pos.atName
   let r ← PySem.holding [o] (getAttr o attr true)
   letTemporaryGo value o r
   pure r)) aR):W c (eval (.Attribute value attr pos) c.env) τ m Q X:=fun s hs =>
 Attribute_any_ (h.use hs (fun v s' τ' m' st q=>W.cont q st) xx) he
theorem bU {x C dx f:Addr} {od:Obj} {fs:List (Str×Value)} {name:Str} {pl:Sem Bool} {Q:PM} (hx:τ x=some (instObj C dx)) (hd:τ dx=some od) (F:S8 od fs) (hl:fs.lookup name=none)
  (ok:ut c.w.params C name f=true) (h:Q (.ref f,[.ref x]) τ m):W c (getMethod (.ref x) name pl) τ m Q X:=fun s hs=>by
 refine ao F fun es n zC hf=>?_;clear F;obtain rfl:=zC;unfold ut at ok;obtain ⟨ok,h4⟩:=Bool.and_eq_true_iff.mp ok;obtain ⟨ok,h3⟩:=Bool.and_eq_true_iff.mp ok;obtain ⟨h1,h2⟩:=Bool.and_eq_true_iff.mp ok;refine method_fn hs.top (pQ hs hx hd) (beq_iff_eq.mp h1) (beq_iff_eq.mp h2) (beq_iff_eq.mp h3) (beq_iff_eq.mp h4) ?_ ⟨τ,m,Step.refl hs,h⟩;show (lookIn name (dictOf es n)).map _=_;rw [lookIn_dict,hf.get,hl];rfl
theorem Y7 {x C dx:Addr} {od:Obj} {fs:List (Str×Value)} {name:Str} {v:Value} {Q:PU} (hx:τ x=some (instObj C dx)) (hd:τ dx=some od) (F:S8 od fs) (hz:fs.length≤900)
  (ok:putOk c.w.params C name=true) (h:∀ od',S8 od' (aM name v fs)→Q () (G5 τ dx od') m):W c (setAttr (.ref x) name v) τ m Q X:=fun s hs=>by
 refine ao F fun es n zD hf=>?_;clear F;obtain rfl:=zD;unfold putOk at ok;obtain ⟨ok,h4⟩:=Bool.and_eq_true_iff.mp ok;obtain ⟨ok,h3⟩:=Bool.and_eq_true_iff.mp ok;obtain ⟨h1,h2⟩:=Bool.and_eq_true_iff.mp ok;have I:=pQ hs hx hd;have I':InstAt ({ s with toks:=s.toks+1 }:Shared).heap x (instObj C dx) C (some (dictOf es n)):=I;refine set_plain hs.top I (beq_iff_eq.mp h1) (osa_open (s:={ s with toks:=s.toks+1 }) hs.top I' h3 (beq_iff_eq.mp h4) fun b=>?_);refine G8 (any_some h2) fun cd hc hd'=>?_;have D:=hs.keep dx _ hd;have hlen:=hf.length;refine wpAny_bind (wpAny_pure (wpAny_bind (wpAny_bind (wpAny_loadPart (o:=instObj C dx) (hs.keep x _ hx) (wpAny_bind (looks_clsIn (M:=MM c) hs.top hc _ _ _ _ (fun O O e=>e) ?_))))));rw [hd'];refine wpAny_pure (a:=some dx) (wpAny_bind (wpAny_pure (wpAny_bind ?_)));unfold nsSet;refine wpAny_bind (wpAny_bind (wpAny_askSetting (wpAny_pure (wpAny_bind (wpAny_mkText (wpAny_bind (wpAny_loadPart D ?_)))))));have hl:(lookIn name (dictOf es n)).isSome=true:=by rw [lookIn_dict,hf.get];rfl
 unfold lookIn at hl;dsimp only at hl ⊢;have cc:(!es.toArray.any (·.key.isStr name)&&es.toArray.any (·.refKey))=false:=by
  rw [← Array.any_toList,← Array.any_toList];split at hl
  ·rename_i en he;rw [List.any_eq_true.mpr ⟨en,List.mem_of_find?_eq_some he,List.find?_some he⟩];rfl
  ·split at hl
   ·cases hl
   ·rename_i z;rw [Bool.not_eq_true] at z;rw [z,Bool.and_false]
 rw [aRefKeyMayBeTheName_at,cc];have hp:∀ tk,Obj.putName name (PyData.keyHash c.w.params name) (.str name tk) v (dictOf es n)=dictOf (putL name (PyData.keyHash c.w.params name) (.str name tk) v es) (putN name es n):=fun tk=>putName_dict ..;have D':∀ tk,(s.heap.update dx (Obj.putName name (PyData.keyHash c.w.params name) (.str name tk) v)).get? dx=some (dictOf (putL name (PyData.keyHash c.w.params name) (.str name tk) v es) (putN name es n)):=fun tk=>by
  rw [← hp tk];exact Heap.get?_update_self _ D (by rw [hp];rfl)
 refine wpAny_updatePart D ?_;have hlen':∀ tk,(putL name (PyData.keyHash c.w.params name) (.str name tk) v es).length≤901:=fun tk=>by
  have z:=(hf.put (name:=name) (hsh:=PyData.keyHash c.w.params name) (tk:=tk) (v:=v)).length;rw [z];have:=vZ (name:=name) (v:=v) fs;exact (kq2 25353046058827399600865528385953) hz this
 refine wpAny_bind (wpAny_lookBehind (D' _) (pastItsLine_dict (by rw [dH,sizeLine_eq];have:=hlen' (s.toks+1);exact (kq1 796096541682623973669344673) this)) ?_);exact wpAny_pure ⟨_,_,Step.put hs hd (Heap.SameBut.update ..) (D' _),h _ ⟨_,_,rfl,hf.put⟩⟩
theorem bK {o:Expr} {attr:Str} {p:Pos} {value:Expr} {pos:Pos} {Q:PF} (h:W c (eval value c.env) τ m (KSA0 c o attr Q X) X)
  (hs:autoParam (swapsWith value (some (.Attribute o attr p)) pos.line c.env=pure false) aR):W c (exec (.Assign [.Attribute o attr p] value pos) c.env) τ m Q X:=fun s hs' =>
 plainObj_wpAny_Assign_Attribute (h.use hs' (fun v s1 τ1 m1 st1 q1=>q1.use st1.at_ (fun ov s2 τ2 m2 st2 q2=>W.cont q2 (st1.trans st2)) (fun O O τ' m' st q=>⟨τ',m',st1.trans st,q⟩)) xx) hs
theorem pZ {o value:Expr} {attr:Str} {tpos pos:Pos} {op:Operator} {Q:PF} (h:W c (eval o c.env) τ m (fun ov τ1 m1=>W c (getAttr ov attr true) τ1 m1 (fun old τ2 m2=>W c (eval value c.env) τ2 m2 (fun v τ3 m3 =>
   W c (inplaceOp op old v) τ3 m3 (fun new τ4 m4=>W c (setAttr ov attr new) τ4 m4 (fun O=>Q .next) X) X) X) X) X):W c (exec (.AugAssign (.Attribute o attr tpos) op value pos) c.env) τ m Q X:=fun s hs =>
 wpAny_AugAssign_AttributeAny (h.use hs (fun ov s1 τ1 m1 st1 q1=>q1.use st1.at_ (fun old s2 τ2 m2 st2 q2=>q2.use st2.at_ (fun v s3 τ3 m3 st3 q3=>q3.use st3.at_ (fun new s4 τ4 m4 st4 q4=>W.cont q4 (((st1.trans st2).trans st3).trans st4))
  (fun O O τ' m' st q=>⟨τ',m',((st1.trans st2).trans st3).trans st,q⟩)) (fun O O τ' m' st q=>⟨τ',m',(st1.trans st2).trans st,q⟩)) (fun O O τ' m' st q=>⟨τ',m',st1.trans st,q⟩)) xx)
end
noncomputable def fd36:FuncData:={ name:=z24,qualname:=(zs "_NodeInfo.__init__"),params:=fnP (mt 4 1),body:=.stmts (fnB (mt 4 1)),scope:=fnS (mt 4 1),globals:=3,closure:=[],defaults:=.none,kwdefaults:=.none,doc:=.none,pyModule:=(.str z4 194),annotations:=none,code:=(.ref 35),closureTuple:=.none,builtins:=0 }
theorem k36 (P:Params):(H3 P).lookup 36=some ⟨.type "function",none,.func fd36,#[]⟩:=by kernel_rfl
theorem cd36 (P:Params):codeIn (H3 P) fd36.code fd36.qualname=true:=by kernel_rfl
noncomputable def fd73:FuncData:={ name:=z24,qualname:=(zs "TopologicalSorter.__init__"),params:=fnP (mt 6 1),body:=.stmts (fnB (mt 6 1)),scope:=fnS (mt 6 1),globals:=3,closure:=[],defaults:=(.ref 66),kwdefaults:=.none,doc:=.none,pyModule:=(.str z4 194),annotations:=none,code:=(.ref 72),closureTuple:=.none,builtins:=0 }
theorem k73 (P:Params):(H3 P).lookup 73=some ⟨.type "function",none,.func fd73,#[]⟩:=by kernel_rfl
theorem cd73 (P:Params):codeIn (H3 P) fd73.code fd73.qualname=true:=by kernel_rfl
noncomputable def fd80:FuncData:={ name:=z32,qualname:=z45,params:=fnP (mt 6 2),body:=.stmts (fnB (mt 6 2)),scope:=fnS (mt 6 2),globals:=3,closure:=[],defaults:=.none,kwdefaults:=.none,doc:=.none,pyModule:=(.str z4 194),annotations:=none,code:=(.ref 79),closureTuple:=.none,builtins:=0 }
theorem k80 (P:Params):(H3 P).lookup 80=some ⟨.type "function",none,.func fd80,#[]⟩:=by kernel_rfl
theorem cd80 (P:Params):codeIn (H3 P) fd80.code fd80.qualname=true:=by kernel_rfl
noncomputable def fd87:FuncData:={ name:=(zs "add"),qualname:=(zs "TopologicalSorter.add"),params:=fnP (mt 6 3),body:=.stmts (fnB (mt 6 3)),scope:=fnS (mt 6 3),globals:=3,closure:=[],defaults:=.none,kwdefaults:=.none,doc:=(.str (Q6 (fnB (mt 6 3))) 304),pyModule:=(.str z4 194),annotations:=none,code:=(.ref 86),closureTuple:=.none,builtins:=0 }
theorem k87 (P:Params):(H3 P).lookup 87=some ⟨.type "function",none,.func fd87,#[]⟩:=by kernel_rfl
theorem cd87 (P:Params):codeIn (H3 P) fd87.code fd87.qualname=true:=by kernel_rfl
noncomputable def fd92:FuncData:={ name:=(zs "prepare"),qualname:=(zs "TopologicalSorter.prepare"),params:=fnP (mt 6 4),body:=.stmts (fnB (mt 6 4)),scope:=fnS (mt 6 4),globals:=3,closure:=[],defaults:=.none,kwdefaults:=.none,doc:=(.str (Q6 (fnB (mt 6 4))) 311),pyModule:=(.str z4 194),annotations:=none,code:=(.ref 91),closureTuple:=.none,builtins:=0 }
theorem k92 (P:Params):(H3 P).lookup 92=some ⟨.type "function",none,.func fd92,#[]⟩:=by kernel_rfl
theorem cd92 (P:Params):codeIn (H3 P) fd92.code fd92.qualname=true:=by kernel_rfl
noncomputable def fd99:FuncData:={ name:=(zs "get_ready"),qualname:=z52,params:=fnP (mt 6 5),body:=.stmts (fnB (mt 6 5)),scope:=fnS (mt 6 5),globals:=3,closure:=[],defaults:=.none,kwdefaults:=.none,doc:=(.str (Q6 (fnB (mt 6 5))) 322),pyModule:=(.str z4 194),annotations:=none,code:=(.ref 98),closureTuple:=.none,builtins:=0 }
theorem k99 (P:Params):(H3 P).lookup 99=some ⟨.type "function",none,.func fd99,#[]⟩:=by kernel_rfl
theorem cd99 (P:Params):codeIn (H3 P) fd99.code fd99.qualname=true:=by kernel_rfl
noncomputable def fd106:FuncData:={ name:=(zs "is_active"),qualname:=z53,params:=fnP (mt 6 6),body:=.stmts (fnB (mt 6 6)),scope:=fnS (mt 6 6),globals:=3,closure:=[],defaults:=.none,kwdefaults:=.none,doc:=(.str (Q6 (fnB (mt 6 6))) 330),pyModule:=(.str z4 194),annotations:=none,code:=(.ref 105),closureTuple:=.none,builtins:=0 }
theorem k106 (P:Params):(H3 P).lookup 106=some ⟨.type "function",none,.func fd106,#[]⟩:=by kernel_rfl
theorem cd106 (P:Params):codeIn (H3 P) fd106.code fd106.qualname=true:=by kernel_rfl
noncomputable def fd120:FuncData:={ name:=(zs "done"),qualname:=(zs "TopologicalSorter.done"),params:=fnP (mt 6 8),body:=.stmts (fnB (mt 6 8)),scope:=fnS (mt 6 8),globals:=3,closure:=[],defaults:=.none,kwdefaults:=.none,doc:=(.str (Q6 (fnB (mt 6 8))) 352),pyModule:=(.str z4 194),annotations:=none,code:=(.ref 119),closureTuple:=.none,builtins:=0 }
theorem k120 (P:Params):(H3 P).lookup 120=some ⟨.type "function",none,.func fd120,#[]⟩:=by kernel_rfl
theorem cd120 (P:Params):codeIn (H3 P) fd120.code fd120.qualname=true:=by kernel_rfl
noncomputable def fd127:FuncData:={ name:=(zs "_find_cycle"),qualname:=z64,params:=fnP (mt 6 9),body:=.stmts (fnB (mt 6 9)),scope:=fnS (mt 6 9),globals:=3,closure:=[],defaults:=.none,kwdefaults:=.none,doc:=.none,pyModule:=(.str z4 194),annotations:=none,code:=(.ref 126),closureTuple:=.none,builtins:=0 }
theorem k127 (P:Params):(H3 P).lookup 127=some ⟨.type "function",none,.func fd127,#[]⟩:=by kernel_rfl
theorem cd127 (P:Params):codeIn (H3 P) fd127.code fd127.qualname=true:=by kernel_rfl
noncomputable def fd202:FuncData:={ name:=(zs "__new__"),qualname:=(zs "Match.__new__"),params:=fnP (mt 9 4),body:=.stmts (fnB (mt 9 4)),scope:=fnS (mt 9 4),globals:=3,closure:=[],defaults:=.none,kwdefaults:=.none,doc:=(.str (Q6 (fnB (mt 9 4))) 474),pyModule:=(.str z71 385),annotations:=none,code:=(.ref 201),closureTuple:=.none,builtins:=0 }
theorem k202 (P:Params):(H3 P).lookup 202=some ⟨.type "function",none,.func fd202,#[]⟩:=by kernel_rfl
theorem cd202 (P:Params):codeIn (H3 P) fd202.code fd202.qualname=true:=by kernel_rfl
noncomputable def fd209:FuncData:={ name:=(zs "_make"),qualname:=(zs "Match._make"),params:=fnP (mt 9 5),body:=.stmts (fnB (mt 9 5)),scope:=fnS (mt 9 5),globals:=3,closure:=[],defaults:=.none,kwdefaults:=.none,doc:=(.str (Q6 (fnB (mt 9 5))) 484),pyModule:=(.str z71 385),annotations:=(some 212),code:=(.ref 208),closureTuple:=.none,builtins:=0 }
theorem k209 (P:Params):(H3 P).lookup 209=some ⟨.type "function",none,.func fd209,#[]⟩:=by kernel_rfl
theorem cd209 (P:Params):codeIn (H3 P) fd209.code fd209.qualname=true:=by kernel_rfl
noncomputable def fd280:FuncData:={ name:=z24,qualname:=(zs "SequenceMatcher.__init__"),params:=fnP (mt 11 1),body:=.stmts (fnB (mt 11 1)),scope:=fnS (mt 11 1),globals:=3,closure:=[],defaults:=(.ref 273),kwdefaults:=.none,doc:=(.str (Q6 (fnB (mt 11 1))) 607),pyModule:=(.str z71 385),annotations:=none,code:=(.ref 279),closureTuple:=.none,builtins:=0 }
theorem k280 (P:Params):(H3 P).lookup 280=some ⟨.type "function",none,.func fd280,#[]⟩:=by kernel_rfl
theorem cd280 (P:Params):codeIn (H3 P) fd280.code fd280.qualname=true:=by kernel_rfl
noncomputable def fd287:FuncData:={ name:=(zs "set_seqs"),qualname:=(zs "SequenceMatcher.set_seqs"),params:=fnP (mt 11 2),body:=.stmts (fnB (mt 11 2)),scope:=fnS (mt 11 2),globals:=3,closure:=[],defaults:=.none,kwdefaults:=.none,doc:=(.str (Q6 (fnB (mt 11 2))) 617),pyModule:=(.str z71 385),annotations:=none,code:=(.ref 286),closureTuple:=.none,builtins:=0 }
theorem k287 (P:Params):(H3 P).lookup 287=some ⟨.type "function",none,.func fd287,#[]⟩:=by kernel_rfl
theorem cd287 (P:Params):codeIn (H3 P) fd287.code fd287.qualname=true:=by kernel_rfl
noncomputable def fd294:FuncData:={ name:=(zs "set_seq1"),qualname:=(zs "SequenceMatcher.set_seq1"),params:=fnP (mt 11 3),body:=.stmts (fnB (mt 11 3)),scope:=fnS (mt 11 3),globals:=3,closure:=[],defaults:=.none,kwdefaults:=.none,doc:=(.str (Q6 (fnB (mt 11 3))) 626),pyModule:=(.str z71 385),annotations:=none,code:=(.ref 293),closureTuple:=.none,builtins:=0 }
theorem k294 (P:Params):(H3 P).lookup 294=some ⟨.type "function",none,.func fd294,#[]⟩:=by kernel_rfl
theorem cd294 (P:Params):codeIn (H3 P) fd294.code fd294.qualname=true:=by kernel_rfl
noncomputable def fd301:FuncData:={ name:=(zs "set_seq2"),qualname:=(zs "SequenceMatcher.set_seq2"),params:=fnP (mt 11 4),body:=.stmts (fnB (mt 11 4)),scope:=fnS (mt 11 4),globals:=3,closure:=[],defaults:=.none,kwdefaults:=.none,doc:=(.str (Q6 (fnB (mt 11 4))) 635),pyModule:=(.str z71 385),annotations:=none,code:=(.ref 300),closureTuple:=.none,builtins:=0 }
theorem k301 (P:Params):(H3 P).lookup 301=some ⟨.type "function",none,.func fd301,#[]⟩:=by kernel_rfl
theorem cd301 (P:Params):codeIn (H3 P) fd301.code fd301.qualname=true:=by kernel_rfl
noncomputable def fd308:FuncData:={ name:=(zs "__chain_b"),qualname:=(zs "SequenceMatcher.__chain_b"),params:=fnP (mt 11 5),body:=.stmts (fnB (mt 11 5)),scope:=fnS (mt 11 5),globals:=3,closure:=[],defaults:=.none,kwdefaults:=.none,doc:=.none,pyModule:=(.str z71 385),annotations:=none,code:=(.ref 307),closureTuple:=.none,builtins:=0 }
theorem k308 (P:Params):(H3 P).lookup 308=some ⟨.type "function",none,.func fd308,#[]⟩:=by kernel_rfl
theorem cd308 (P:Params):codeIn (H3 P) fd308.code fd308.qualname=true:=by kernel_rfl
noncomputable def fd316:FuncData:={ name:=kh,qualname:=z162,params:=fnP (mt 11 6),body:=.stmts (fnB (mt 11 6)),scope:=fnS (mt 11 6),globals:=3,closure:=[],defaults:=(.ref 309),kwdefaults:=.none,doc:=(.str (Q6 (fnB (mt 11 6))) 681),pyModule:=(.str z71 385),annotations:=none,code:=(.ref 315),closureTuple:=.none,builtins:=0 }
theorem k316 (P:Params):(H3 P).lookup 316=some ⟨.type "function",none,.func fd316,#[]⟩:=by kernel_rfl
theorem cd316 (P:Params):codeIn (H3 P) fd316.code fd316.qualname=true:=by kernel_rfl
noncomputable def fd323:FuncData:={ name:=kj,qualname:=z175,params:=fnP (mt 11 7),body:=.stmts (fnB (mt 11 7)),scope:=fnS (mt 11 7),globals:=3,closure:=[],defaults:=.none,kwdefaults:=.none,doc:=(.str (Q6 (fnB (mt 11 7))) 708),pyModule:=(.str z71 385),annotations:=none,code:=(.ref 322),closureTuple:=.none,builtins:=0 }
theorem k323 (P:Params):(H3 P).lookup 323=some ⟨.type "function",none,.func fd323,#[]⟩:=by kernel_rfl
theorem cd323 (P:Params):codeIn (H3 P) fd323.code fd323.qualname=true:=by kernel_rfl
noncomputable def fd330:FuncData:={ name:=(zs "get_opcodes"),qualname:=z180,params:=fnP (mt 11 8),body:=.stmts (fnB (mt 11 8)),scope:=fnS (mt 11 8),globals:=3,closure:=[],defaults:=.none,kwdefaults:=.none,doc:=(.str (Q6 (fnB (mt 11 8))) 723),pyModule:=(.str z71 385),annotations:=none,code:=(.ref 329),closureTuple:=.none,builtins:=0 }
theorem k330 (P:Params):(H3 P).lookup 330=some ⟨.type "function",none,.func fd330,#[]⟩:=by kernel_rfl
theorem cd330 (P:Params):codeIn (H3 P) fd330.code fd330.qualname=true:=by kernel_rfl
noncomputable def fd439:FuncData:={ name:=(zs "fspath"),qualname:=(zs "fspath"),params:=fnP (st 20),body:=.stmts (fnB (st 20)),scope:=fnS (st 20),globals:=3,closure:=[],defaults:=.none,kwdefaults:=.none,doc:=.none,pyModule:=(.str (zs "os") 861),annotations:=none,code:=(.ref 438),closureTuple:=.none,builtins:=0 }
theorem k439 (P:Params):(H3 P).lookup 439=some ⟨.type "function",none,.func fd439,#[]⟩:=by kernel_rfl
theorem cd439 (P:Params):codeIn (H3 P) fd439.code fd439.qualname=true:=by kernel_rfl
noncomputable def fd453:FuncData:={ name:=fQ,qualname:=fQ,params:=fnP (st 24),body:=.stmts (fnB (st 24)),scope:=fnS (st 24),globals:=3,closure:=[],defaults:=.none,kwdefaults:=.none,doc:=.none,pyModule:=(.str (zs "cpy313.posixpath") 886),annotations:=none,code:=(.ref 452),closureTuple:=.none,builtins:=0 }
theorem k453 (P:Params):(H3 P).lookup 453=some ⟨.type "function",none,.func fd453,#[]⟩:=by kernel_rfl
theorem cd453 (P:Params):codeIn (H3 P) fd453.code fd453.qualname=true:=by kernel_rfl
noncomputable def fd460:FuncData:={ name:=(zs "join"),qualname:=(zs "join"),params:=fnP (st 25),body:=.stmts (fnB (st 25)),scope:=fnS (st 25),globals:=3,closure:=[],defaults:=.none,kwdefaults:=.none,doc:=(.str (Q6 (fnB (st 25))) 905),pyModule:=(.str (zs "cpy313.posixpath") 886),annotations:=none,code:=(.ref 459),closureTuple:=.none,builtins:=0 }
theorem k460 (P:Params):(H3 P).lookup 460=some ⟨.type "function",none,.func fd460,#[]⟩:=by kernel_rfl
theorem cd460 (P:Params):codeIn (H3 P) fd460.code fd460.qualname=true:=by kernel_rfl
noncomputable def fd467:FuncData:={ name:=fG,qualname:=fG,params:=fnP (st 26),body:=.stmts (fnB (st 26)),scope:=fnS (st 26),globals:=3,closure:=[],defaults:=.none,kwdefaults:=.none,doc:=(.str (Q6 (fnB (st 26))) 915),pyModule:=(.str (zs "cpy313.posixpath") 886),annotations:=none,code:=(.ref 466),closureTuple:=.none,builtins:=0 }
theorem k467 (P:Params):(H3 P).lookup 467=some ⟨.type "function",none,.func fd467,#[]⟩:=by kernel_rfl
theorem cd467 (P:Params):codeIn (H3 P) fd467.code fd467.qualname=true:=by kernel_rfl
noncomputable def fd474:FuncData:={ name:=fU,qualname:=fU,params:=fnP (st 27),body:=.stmts (fnB (st 27)),scope:=fnS (st 27),globals:=3,closure:=[],defaults:=.none,kwdefaults:=.none,doc:=(.str (Q6 (fnB (st 27))) 931),pyModule:=(.str (zs "cpy313.posixpath") 886),annotations:=none,code:=(.ref 473),closureTuple:=.none,builtins:=0 }
theorem k474 (P:Params):(H3 P).lookup 474=some ⟨.type "function",none,.func fd474,#[]⟩:=by kernel_rfl
theorem cd474 (P:Params):codeIn (H3 P) fd474.code fd474.qualname=true:=by kernel_rfl
noncomputable def fd481:FuncData:={ name:=eY,qualname:=eY,params:=fnP (st 29),body:=.stmts (fnB (st 29)),scope:=fnS (st 29),globals:=3,closure:=[],defaults:=.none,kwdefaults:=.none,doc:=.none,pyModule:=(.str bM 933),annotations:=none,code:=(.ref 480),closureTuple:=.none,builtins:=0 }
theorem k481 (P:Params):(H3 P).lookup 481=some ⟨.type "function",none,.func fd481,#[]⟩:=by kernel_rfl
theorem cd481 (P:Params):codeIn (H3 P) fd481.code fd481.qualname=true:=by kernel_rfl
noncomputable def fd488:FuncData:={ name:=fD,qualname:=fD,params:=fnP (st 30),body:=.stmts (fnB (st 30)),scope:=fnS (st 30),globals:=3,closure:=[],defaults:=.none,kwdefaults:=.none,doc:=.none,pyModule:=(.str bM 933),annotations:=none,code:=(.ref 487),closureTuple:=.none,builtins:=0 }
theorem k488 (P:Params):(H3 P).lookup 488=some ⟨.type "function",none,.func fd488,#[]⟩:=by kernel_rfl
theorem cd488 (P:Params):codeIn (H3 P) fd488.code fd488.qualname=true:=by kernel_rfl
noncomputable def fd495:FuncData:={ name:=fH,qualname:=fH,params:=fnP (st 31),body:=.stmts (fnB (st 31)),scope:=fnS (st 31),globals:=3,closure:=[],defaults:=.none,kwdefaults:=.none,doc:=.none,pyModule:=(.str bM 933),annotations:=none,code:=(.ref 494),closureTuple:=.none,builtins:=0 }
theorem k495 (P:Params):(H3 P).lookup 495=some ⟨.type "function",none,.func fd495,#[]⟩:=by kernel_rfl
theorem cd495 (P:Params):codeIn (H3 P) fd495.code fd495.qualname=true:=by kernel_rfl
noncomputable def fd500:FuncData:={ name:=fK,qualname:=fK,params:=fnP (st 32),body:=.stmts (fnB (st 32)),scope:=fnS (st 32),globals:=3,closure:=[],defaults:=.none,kwdefaults:=.none,doc:=.none,pyModule:=(.str bM 933),annotations:=none,code:=(.ref 499),closureTuple:=.none,builtins:=0 }
theorem k500 (P:Params):(H3 P).lookup 500=some ⟨.type "function",none,.func fd500,#[]⟩:=by kernel_rfl
theorem cd500 (P:Params):codeIn (H3 P) fd500.code fd500.qualname=true:=by kernel_rfl
noncomputable def fd505:FuncData:={ name:=eU,qualname:=eU,params:=fnP (st 33),body:=.stmts (fnB (st 33)),scope:=fnS (st 33),globals:=3,closure:=[],defaults:=.none,kwdefaults:=.none,doc:=.none,pyModule:=(.str bM 933),annotations:=none,code:=(.ref 504),closureTuple:=.none,builtins:=0 }
theorem k505 (P:Params):(H3 P).lookup 505=some ⟨.type "function",none,.func fd505,#[]⟩:=by kernel_rfl
theorem cd505 (P:Params):codeIn (H3 P) fd505.code fd505.qualname=true:=by kernel_rfl
noncomputable def fd510:FuncData:={ name:=fM,qualname:=fM,params:=fnP (st 34),body:=.stmts (fnB (st 34)),scope:=fnS (st 34),globals:=3,closure:=[],defaults:=.none,kwdefaults:=.none,doc:=.none,pyModule:=(.str bM 933),annotations:=none,code:=(.ref 509),closureTuple:=.none,builtins:=0 }
theorem k510 (P:Params):(H3 P).lookup 510=some ⟨.type "function",none,.func fd510,#[]⟩:=by kernel_rfl
theorem cd510 (P:Params):codeIn (H3 P) fd510.code fd510.qualname=true:=by kernel_rfl
noncomputable def fd515:FuncData:={ name:=(zs "law"),qualname:=(zs "law"),params:=fnP (st 35),body:=.stmts (fnB (st 35)),scope:=fnS (st 35),globals:=3,closure:=[],defaults:=.none,kwdefaults:=.none,doc:=.none,pyModule:=(.str bM 933),annotations:=none,code:=(.ref 514),closureTuple:=.none,builtins:=0 }
theorem k515 (P:Params):(H3 P).lookup 515=some ⟨.type "function",none,.func fd515,#[]⟩:=by kernel_rfl
theorem cd515 (P:Params):codeIn (H3 P) fd515.code fd515.qualname=true:=by kernel_rfl
noncomputable def noH:PH:=fun O=>none
theorem HStep.less {w:World} {os:OsState} {A:Around} {τ τ' τ'':PH} {s s':Shared} (h:HStep w os A τ s τ' s') (hl:∀ b o,τ'' b=some o→τ' b=some o):HStep w os A τ s τ'' s' :=
 ⟨⟨h.at_.top,fun b o e=>h.at_.keep b o (hl b o e),fun b o e=>h.at_.low b o (hl b o e),h.at_.gens,h.at_.os,h.at_.fr,fun b o e=>h.at_.nofr b o (hl b o e)⟩,h.keep,fun b hb=>by
  obtain ⟨o,e⟩:=Option.isSome_iff_exists.mp hb;exact h.fresh b (by rw [hl b o e];rfl)⟩
theorem Spec.less {w:World} {os:OsState} {n:Nat} {f:Value} {args:Args} {τ:PH} {R R' RX:Value→PH→Prop} (h:Spec w os n f args τ R' RX) (hR:∀ v τ',R' v τ'→∃ τ'',(∀ b o,τ'' b=some o→τ' b=some o)∧R v τ''):Spec w os n f args τ R RX:=by
 intro A s hA hs;refine codeAny_mono (h A s hA hs) fun r s' hb=>?_;cases r with
 | ok fl =>
  cases fl with
  | ret v=>obtain ⟨τ',st,q⟩:=hb;obtain ⟨τ'',hl,q'⟩:=hR v τ' q;exact ⟨τ'',st.less hl,q'⟩
  | _=>exact hb
 | error e=>exact hb
noncomputable def lu (w:World) (os:OsState) (n:Nat) (f:Value) (args:Args) (P:Value→Prop):Prop:=Spec w os n f args noH (fun v τ'=>τ'=noH∧P v)
theorem Ff {τ:PH}:bQ noH noH τ=τ:=by funext b;rfl
theorem xF {τ1 τ' τ:PH} {b:Addr} {o:Obj} (e:τ' b=some o):bQ τ1 τ' τ b=some o:=by unfold bQ;rw [e]
noncomputable def cx (w:World) (os:OsState) (A:Around) (fd:FuncData) (fa L:Addr):Cx:=⟨w,os,A.deeper (callEnvC fd L fa),callEnvC fd L fa⟩
section
variable {w:World} {os:OsState}
theorem iJ {c:Cx} {τ:PH} {m:Lo} {X:PV} {n:Nat} {f:Value} {pos:List Value} {kw:List (Str×Value)} {P:Value→Prop} {Q:PV} (sp:lu c.w c.os n f ⟨pos,kw⟩ P) (hr:Room n c.A) (hQ:∀ v,P v→Q v τ m):W c (PySem.call f pos kw) τ m Q X :=
 qQ sp hr (fun O O e=>by cases e) (fun v τ' O h=>by obtain ⟨rfl,h⟩:=h;rw [Ff];exact hQ v h) (fun O O O h=>h.elim)
theorem ir {n:Nat} {fa:Addr} {od:Option Addr} {osl:Array (Option Value)} {fd:FuncData} {body:List Stmt} {binds:List (Str×Value)} {args:Args} {τ:PH} {R:Value→PH→Prop}
  (hK:∀ P,(H3 P).lookup fa=some ⟨.type "function",od,.func fd,osl⟩) (hcd:∀ P,codeIn (H3 P) fd.code fd.qualname=true) (hbody:fd.body=.stmts body)
  (hbind:∀ s A (Q:List (Str×Value)→Shared→Prop) E,(H3 w.params).In s.heap→Q binds s→wpAny (model pw w) A (bindArgs fd args) Q E s)
  (h:∀ (A:Around) (L:Addr),Room n (cx w os A fd fa L).A→W (cx w os A fd fa L) (execs body (cx w os A fd fa L).env) τ (iw binds) (fun fl τ' O=>∃ τ'',(∀ b o,τ'' b=some o→τ' b=some o)∧R (match fl with | .ret v=>v | _=>.none) τ'') (fun O O O=>False))
  (hclo:autoParam (fd.closure=[]) aR) (hco:autoParam (fd.scope.isCoroutine=false) aK) (hgen:autoParam (fd.scope.isGenerator=false) aK) (hk:autoParam (fd.scope.kind=.function) aK) (hap:autoParam (jN fd.scope=true) aK)
  (hkind:∀ n,(binds.all fun x=>fd.scope.names.lookup x.1==some .local||(fd.scope.names.lookup x.1==some .cell&&((cellsFrom n fd.scope.names []).lookup x.1).isSome))=true:=by intro _;kernel_rfl) :
  Spec w os (n+1) (.ref fa) args τ R :=
 Spec.less (vz (hK _) (hcd _) hbody hclo hco hgen hk hap hbind (fun k x hx=>by
   have z:=List.all_eq_true.mp (hkind k) x hx;rcases Bool.or_eq_true_iff.mp z with z | z
   ·exact .inl (by simpa using z)
   ·obtain ⟨z1,z2⟩:=Bool.and_eq_true_iff.mp z;exact .inr ⟨by simpa using z1,z2⟩)
  (fun A L hr=>W.mono (h A L hr) (fun fl τ' m' q=>q) fun O O O q=>q.elim)) fun v τ' h=>h
theorem V9 {fd:FuncData} {args:Args} {binds:List (Str×Value)} (e:∀ P:Params,PySem.W.peek (H3 P) ⟨pw,P⟩ (bindArgs fd args)=some binds) (s:Shared) (A:Around) (Q:List (Str×Value)→Shared→Prop) (E:Value→Shared→Prop) (X:(H3 w.params).In s.heap) (h:Q binds s) :
  wpAny (model pw w) A (bindArgs fd args) Q E s:=(Looks.of_peek X (e w.params):Looks (model pw w) s.heap _ _).here h
end
section
variable {c:Cx} {τ:PH} {m:Lo} {X:PV}
theorem di {α:Type} {t:Sem α} {a:α} {Q:α→PH→Lo→Prop} (r:∀ (Q:α→Shared→Prop) (E:Value→Shared→Prop) (s:Shared),At c τ m s→(∀ k,Q a { s with toks:=k })→wpAny (MM c) c.A t Q E s) (h:Q a τ m):W c t τ m Q X :=
 fun s hs=>r _ _ s hs fun k=>⟨τ,m,Step.toks hs k,h⟩
section
variable {a b:Int} {t u:Tok} {x y:Str} {p q:Bool} {Q:PV}
theorem Y4 (h:∀ t,Q (.int (a+b) t) τ m):W c (binaryOp .Add (.int a t) (.int b u)) τ m Q X:=cg (fun Q E s hs h=>PyProof.Rows.add_int (h _ _)) h
theorem cB (h:∀ t,Q (.int (a-b) t) τ m):W c (binaryOp .Sub (.int a t) (.int b u)) τ m Q X:=cg (fun Q E s hs h=>PyProof.Rows.sub_int (h _ _)) h
theorem yl (hm:IntMulOk a b) (h:∀ t,Q (.int (a*b) t) τ m):W c (inplaceOp .Mult (.int a t) (.int b u)) τ m Q X:=cg (fun Q E s hs h=>PyProof.Rows.imul_int (h _ _) hm) h
theorem iU (h:∀ t,Q (.int (a+b) t) τ m):W c (inplaceOp .Add (.int a t) (.int b u)) τ m Q X:=cg (fun Q E s hs h=>PyProof.Rows.iadd_int (h _ _)) h
theorem DW (h:∀ t,Q (.int (a-b) t) τ m):W c (inplaceOp .Sub (.int a t) (.int b u)) τ m Q X:=cg (fun Q E s hs h=>PyProof.Rows.isub_int (h _ _)) h
theorem gw (hb:b≠0) (h:∀ t,Q (.int (a.fmod b) t) τ m):W c (binaryOp .Mod (.int a t) (.int b u)) τ m Q X:=cg (fun Q E s hs h=>PyProof.Rows.mod_int hb (h _ _)) h
theorem W.divI (hb:b≠0) (hp:Builtin.divisionGoesByPylong a b=false) (h:∀ t,Q (.int (a.fdiv b) t) τ m):W c (binaryOp .FloorDiv (.int a t) (.int b u)) τ m Q X:=cg (fun Q E s hs h=>PyProof.Rows.floordiv_int hb (h _ _) (.inl hp)) h
theorem pO (h:∀ t,Q (.int (-a) t) τ m):W c (unaryOp .USub (.int a t)) τ m Q X:=cg (fun Q E s hs h=>PyProof.Rows.neg_int (h _ _)) h
theorem bL (h:Q (.bool (decide (a<b))) τ m):W c (compareOp .Lt (.int a t) (.int b u)) τ m Q X:=V8 (fun Q E s hs h=>PyProof.Rows.lt_int h) h
theorem fO (h:Q (.bool (decide (b<a))) τ m):W c (compareOp .Gt (.int a t) (.int b u)) τ m Q X:=V8 (fun Q E s hs h=>PyProof.Rows.gt_int h) h
theorem W.geI (h:Q (.bool (decide (b≤a))) τ m):W c (compareOp .GtE (.int a t) (.int b u)) τ m Q X:=V8 (fun Q E s hs h=>PyProof.Rows.ge_int h) h
theorem il (h:Q (.bool (a==b)) τ m):W c (compareOp .Eq (.int a t) (.int b u)) τ m Q X:=V8 (fun Q E s hs h=>PyProof.Rows.eq_int h) h
theorem iW (h:Q (.bool (a != b)) τ m):W c (compareOp .NotEq (.int a t) (.int b u)) τ m Q X:=V8 (fun Q E s hs h=>PyProof.Rows.ne_int h) h
theorem mG (h:Q (.bool (x==y)) τ m):W c (compareOp .Eq (.str x t) (.str y u)) τ m Q X:=V8 (fun Q E s hs h=>PyProof.Rows.eq_str h) h
theorem pM (h:Q (.bool (x != y)) τ m):W c (compareOp .NotEq (.str x t) (.str y u)) τ m Q X:=V8 (fun Q E s hs h=>PyProof.Rows.ne_str h) h
theorem W.eqB (h:Q (.bool (p==q)) τ m):W c (compareOp .Eq (.bool p) (.bool q)) τ m Q X:=V8 (fun Q E s hs h=>PyProof.Rows.eq_bool h) h
theorem ye (h:Q (.bool (p != q)) τ m):W c (compareOp .IsNot (.bool p) (.bool q)) τ m Q X:=V8 (fun Q E s hs h=>PyProof.Rows.isnot_bool h) h
theorem eX {v:Value} (h:Q (.bool (v==.none)) τ m):W c (compareOp .Is v .none) τ m Q X:=V8 (fun Q E s hs h=>PyProof.Rows.is_none_gen h) h
theorem mD {v:Value} (h:Q (.bool (!(v==.none))) τ m):W c (compareOp .IsNot v .none) τ m Q X:=V8 (fun Q E s hs h=>PyProof.Rows.isnot_none_gen h) h
theorem gk (hsz:x.length+y.length≤sizeLine) (h:∀ t,Q (.str (x++y) t) τ m):W c (binaryOp .Add (.str x t) (.str y u)) τ m Q X:=cg (fun Q E s hs h=>PyProof.Rows.add_str (fun t' k=>h k t') hsz) h
theorem xB (hsz:x.length+y.length≤sizeLine) (h:∀ t,Q (.str (x++y) t) τ m):W c (inplaceOp .Add (.str x t) (.str y u)) τ m Q X:=cg (fun Q E s hs h=>PyProof.Rows.iadd_str (fun t' k=>h k t') hsz) h
theorem rY (h:Q (.bool false) τ m):W c (PySem.call (.builtin "isinstance") [.str x t,.type "bytes"]) τ m Q X:=di (fun Q E s hs h=>IsiPair.str_bytes (h _)) h
theorem FN (h:Q (.type "str") τ m):W c (PySem.call (.type "type") [.str x t]) τ m Q X:=V8 (fun Q E s hs h=>call_type_of (Tx:="str") rfl (by decide +kernel) h) h
end
theorem kW {x:Str} {t:Tok} {Q:PB} (hfit:x.length<10000) (h:Q (decide (x.length≠0)) τ m):W c (truthy (.str x t)) τ m Q X:=di (fun Q E s hs h=>PySem.P.truthy_str (by lia) (by
 have e:((x.length:Int) != 0)=decide (x.length≠0):=by rw [Bool.eq_iff_iff];simp
 rw [e];exact h _)) h
theorem qi {a:Int} {t:Tok} {Q:PB} (h:Q (a != 0) τ m):W c (truthy (.int a t)) τ m Q X:=V8 (fun Q E s hs h=>PyProof.Rows.truthy_int h) h
theorem uO {Q:PB} (h:Q false τ m):W c (truthy .none) τ m Q X:=V8 (fun Q E s hs h=>PyProof.Rows.truthy_none h) h
end
theorem Aq (a b c:Value):argsOk "issubclass.nested" ⟨[a,b,c],[]⟩:=by unfold argsOk;kernel_rfl
theorem xY:builtinKind "issubclass.nested"=none:=by decide +kernel
theorem BV:plainId "issubclass.nested"=true:=by decide +kernel
theorem FJ:Meets (Builtin.«issubclass.nested» ⟨[.type "str",.type "str",rawInt (0+1)],[]⟩) (fun O R s=>R (.ok (.ret (.bool true))) s):=by
 intro prog w A R s h;have f1:=F.sub_str_str;have f2:typeOf (.type "str")=pure (.type "type"):=by kernel_rfl
 repeat (any_goals (first | assumption | (rw [f2]) | (rw [f1]) | wp_step))
theorem zg {rest cs:List Value} {A:Around} {prog:Program} {w:World} {s:Shared} {Q:Option Fin×Unit→Shared→Prop} {E:Value→Shared→Prop} (e:cs=.type "str"::rest) (hq:Q (some (.done (.ret (.bool true))),()) s) :
  wpAny (model prog w) A (forIn cs ((none:Option Fin),()) fun c O=>do
   if ← truthy (← call (.builtin "issubclass.nested") [.type "str",c,rawInt (0+1)]) then
    let r ← ret (.bool true)
    pure (ForInStep.done (some r,()))
   else pure (ForInStep.yield (none,()))) Q E s:=by
 subst e;rw [List.forIn_cons];refine wpAny_bind (wpAny_bind (call_function_meets xY BV F.entry_issubclass_nested (Aq _ _ _) FJ ?_));show wpAny _ _ (truthy (.bool true)>>=_) _ _ _;refine wpAny_bind (m:=truthy (.bool true)) (wpAny_pure ?_);exact wpAny_bind (wpAny_pure (wpAny_pure (wpAny_pure hq)))
theorem Cg {tp:Addr} {rest cs:List Value} {A:Around} {prog:Program} {w:World} {s:Shared} {Q:Fin→Shared→Prop} {E:Value→Shared→Prop} {k:Tok} (e:cs=.type "str"::rest)
  (ht:s.heap.get? tp=some { cls:=.type "tuple",data:=.seq cs.toArray }) (hq:Q (.done (.ret (.bool true))) s) :
  wpAny (model prog w) A (Builtin.«issubclass.nested» ⟨[.type "str",.ref tp,.int 0 k],[]⟩) Q E s:=by
 obtain ⟨h,g,d,t,os⟩:=s;have f1:=F.isi_sub_tuple;have hT2:(⟨h,g,d,t,os⟩:Shared).TypeIs (.ref tp) "tuple":=⟨_,ht,rfl⟩
 repeat (any_goals (first | assumption | wp_step))
 refine wpAny_arrayLoop ?_;simp only [Option.getD_some,List.toList_toArray];refine zg e ?_;repeat (any_goals (first | assumption | wp_step))
theorem Ck {tp:Addr} {A:Around} {prog:Program} {w:World} {s:Shared} {Q:Value→Shared→Prop} {E:Value→Shared→Prop}
  (ht:s.heap.get? tp=some { cls:=.type "tuple",data:=.seq [.type "str",.type "bytes"].toArray }) (hq:Q (.bool true) s) :
  wpAny (model prog w) A (call (.builtin "issubclass") [.type "str",.ref tp]) Q E s :=
 call_issubclass (S:=fun O R s=>s.heap.get? tp=some { cls:=.type "tuple",data:=.seq [.type "str",.type "bytes"].toArray }∧R (.ok (.ret (.bool true))) s)
  (fun O O O O O hs=>issubclass_outer (Cg rfl hs.1 hs.2)) ⟨ht,hq⟩
theorem Step.weaken {c:Cx} {τ τ' τ'':PH} {m':Lo} {s s':Shared} (st:Step c τ s τ' m' s') (hl:∀ b o,τ'' b=some o→τ' b=some o):Step c τ s τ'' m' s' :=
 ⟨⟨st.at_.top,fun b o e=>st.at_.keep b o (hl b o e),fun b o e=>st.at_.low b o (hl b o e),st.at_.mine,st.at_.ns,st.at_.cell,st.at_.apart,st.at_.noBoth,st.at_.gens,st.at_.os,st.at_.fr,fun b o e=>st.at_.nofr b o (hl b o e)⟩,st.keep,fun b hb=>by
  obtain ⟨o,e⟩:=Option.isSome_iff_exists.mp hb;exact st.fresh b (by rw [hl b o e];rfl)⟩
theorem zm {c:Cx} {τ:PH} {m:Lo} {s:Shared} {o:Obj} (hs:At c τ m s) (hf:o.isFreed=false):Step c τ s τ m { s with heap:=s.heap.push o } :=
 Step.weaken (Step.new (m:=m) hs hf) fun b o e=>O9 hs.fresh e
theorem Step.tk {c:Cx} {τ τ':PH} {m':Lo} {s s':Shared} (st:Step c τ s τ' m' s') (k:Nat):Step c τ s τ' m' { s' with toks:=k }:=st.trans (Step.toks st.at_ k)
noncomputable def TyAt (τ:PH) (v:Value) (T:String):Prop:=∀ s:Shared,(∀ b o,τ b=some o→s.heap.get? b=some o)→s.TypeIs v T
theorem TyAt.str {τ:PH} {x:Str} {t:Tok}:TyAt τ (.str x t) "str":=fun s O=>typeIs_str s x t
theorem TyAt.ref {τ:PH} {a:Addr} {o:Obj} {T:String} (h:τ a=some o) (hc:o.cls=.type T):TyAt τ (.ref a) T:=fun s k=>⟨o,k a o h,hc⟩
section
variable {c:Cx} {τ:PH} {m:Lo} {X:PV}
theorem pC {s:Shared} {l:Addr} {vs:List Value} {n:Nat} (hs:At c τ m s) (hl:τ l=some (G3 vs n)):IsL s.heap l vs.toArray n:=hs.keep _ _ hl
theorem Z9 {s:Shared} {l:Addr} {vs:List Value} {n:Nat} (hs:At c τ m s) (hl:τ l=some (G3 vs n)):s.heap.IsList l vs.toArray:=(pC hs hl).isList
noncomputable abbrev KL (Q:PV):PL:=fun vs τ' m'=>vs.length≤10000∧∀ a,τ' a=none→Q (.ref a) (G5 τ' a (G3 vs 0)) m'
noncomputable abbrev KT (Q:PV):PL:=fun vs τ' m'=>vs.length≤10000∧∀ a,τ' a=none→Q (.ref a) (G5 τ' a (H4 vs)) m'
noncomputable abbrev KU2 (c:Cx) (o:Value) (Q X:PV):PV:=fun i τ2 m2=>(∃ T id,TyAt τ2 o T∧typeLookup (.type T) "__getitem__"=pure (some (.builtin id)))∧W c (getItem o i) τ2 m2 Q X
noncomputable abbrev KU (c:Cx) (slice:Expr) (Q X:PV):PV:=fun o τ1 m1=>W c (eval slice c.env) τ1 m1 (KU2 c o Q X) X
theorem V6 {elts:List Expr} {pos:Pos} {Q:PV} (h:W c (spliced (backTo pos (starEach elts c.env))) τ m (KL Q) X):W c (eval (.List elts pos) c.env) τ m Q X:=by
 rw [arm_eval_List];exact T4 (iY (T4 (W.mono h (fun vs τ' m' q=>FQ (W2 q.1 (by rw [sizeLine_eq];lia)) q.2) fun O O O x=>x)))
theorem U6 {elts:List Expr} {x1:Nat} {pos:Pos} {Q:PV} (h:W c (spliced (backTo pos (starEach elts c.env))) τ m (KT Q) X):W c (eval (.Tuple elts x1 pos) c.env) τ m Q X:=by
 rw [arm_eval_Tuple];exact T4 (iY (T4 (W.mono h (fun vs τ' m' q=>Bc (W2 q.1 (by rw [sizeLine_eq];lia)) q.2) fun O O O x=>x)))
theorem T5 {value slice:Expr} {pos:Pos} {Q:PV}
  (h:W c (eval value c.env) τ m (KU c slice Q X) X)
  (hs:∀ o i,subscripted slice false o i=operate [o,i] (getItem o i)∨subscripted slice false o i=operate [i,o] (getItem o i)):W c (eval (.Subscript value slice pos) c.env) τ m Q X:=fun s hs'=>by
 refine Subscript_ (h.use hs' (fun o s1 τ1 m1 st1 q1=>q1.use st1.at_ (fun i s2 τ2 m2 st2 q2=>?_) (fun O O τ' m' st q=>⟨τ',m',st1.trans st,q⟩)) xx);obtain ⟨zB,q⟩:=q2;refine ao zB fun T id hT hl=>?_;clear zB;have hT:=hT s2 st2.at_.keep;unfold subscriptTail;refine wpAny_bind ?_;rw [getitemInPython_of_ne hT.not_modules];refine wpAny_bind (wpAny_specialOf hT hl ?_);have fin:wpAny (MM c) c.A (subscripted slice false o i) (fun r s3=>wpAny (MM c) c.A (letTemporaryGo value o r>>=fun O=>pure r) (V3 c τ s Q) (V3 c τ s X) s3) (V3 c τ s X) s2:=by
  have z:wpAny (MM c) c.A (getItem o i) (fun r s3=>wpAny (MM c) c.A (letTemporaryGo value o r>>=fun O=>pure r) (V3 c τ s Q) (V3 c τ s X) s3) (V3 c τ s X) s2 :=
   q.use st2.at_ (fun r s3 τ3 m3 st3 q3=>wpAny_bind (wpAny_letTemporaryGo (wpAny_pure ⟨τ3,m3,(st1.trans st2).trans st3,q3⟩))) fun O O τ' m' st q=>⟨τ',m',(st1.trans st2).trans st,q⟩
  rcases hs o i with e | e <;> rw [e] <;> exact wpAny_operating z
 first
  | exact wpAny_pure (wpAny_bind fin)
  | exact wpAny_bind (wpAny_pure (wpAny_bind fin))
  | exact wpAny_bind fin
theorem Y5 {l:Addr} {vs:List Value} {n:Nat} {k:Int} {t:Tok} {j:Nat} {x:Value} {Q:PV} (hl:τ l=some (G3 vs n)) (hn:vs.length≤10000) (hj:seqIndex? k vs.length=some j) (hx:vs[j]? = some x) (h:Q x τ m):W c (getItem (.ref l) (.int k t)) τ m Q X:=V8 (fun Q E s hs h=>by
 have hi:=Z9 hs hl;unfold seqIndex? at hj;by_cases h0:k<0
 ·have e:(if k<0 then k+vs.length else k)=k+vs.length:=if_pos h0;simp only [e] at hj;split at hj
  case isFalse=>cases hj
  case isTrue hb =>
   cases hj;exact wpAny_getItem_list_neg hi h0 (by simp at hb ⊢;lia) (by simp at hb;lia) (by simpa using hx) h
 ·have e:(if k<0 then k+vs.length else k)=k:=if_neg h0;simp only [e] at hj;split at hj
  case isFalse=>cases hj
  case isTrue hb =>
   cases hj;exact wpAny_getItem_list hi (by lia) (by simp at hb;lia) (by simpa using hx) h) h
theorem rD {l:Addr} {vs:List Value} {k:Int} {t:Tok} {j:Nat} {x:Value} {Q:PV} (hl:τ l=some (H4 vs)) (hn:vs.length≤10000) (hlo:-(2 ^ 63)≤k) (hhi:k<2 ^ 63) (hj:seqIndex? k vs.length=some j) (hx:vs[j]? = some x) (h:Q x τ m):W c (getItem (.ref l) (.int k t)) τ m Q X:=V8 (fun Q E s hs h =>
 PyProof.Rows.getItem_tuple (items:=vs.toArray) ⟨_,hs.keep _ _ hl,rfl,_,rfl⟩ hlo hhi (by simpa using hj) (by simpa using hx) h) h
theorem rM {x:Str} {t u:Tok} {k:Int} {ch:Nat} {Q:PV} (hr:(decide (k < -(2 ^ 63:Int))||decide (k≥2 ^ 63))=false) (hc:(seqIndex? k x.length).bind (x.cps[·]?)=some ch) (h:∀ t,Q (.str ⟨#[ch]⟩ t) τ m):W c (getItem (.str x t) (.int k u)) τ m Q X :=
 cg (fun Q E s hs h=>PyProof.Rows.getItem_str hr hc (h _ _)) h
theorem putL {s:Shared} {l:Addr} {vs:List Value} {n:Nat} (hs:At c τ m s) (hl:τ l=some (G3 vs n)) (f:Array Value→Array Value) (us:List Value) (hf:f vs.toArray=us.toArray) (k:Nat):∃ n',Step c τ s (G5 τ l (G3 us n')) m { s with heap:=s.heap.update l (Obj.mapSeq f),toks:=k }:=by
 have z:=(pC hs hl).update f;rw [hf] at z;exact ⟨_,Step.put hs hl (Heap.SameBut.update ..) z⟩
theorem V4 {l:Addr} {vs:List Value} {n:Nat} {x:Value} {Q:PV} (hl:τ l=some (G3 vs n)) (hn:vs.length≤10000) (h:∀ n',Q .none (G5 τ l (G3 (vs++[x]) n')) m):W c (PySem.call (.builtin "list.append") [.ref l,x]) τ m Q X:=fun s hs=>by
 obtain ⟨n',st⟩:=putL hs hl (fun xs=>xs.push x) (vs++[x]) (by simp) s.toks;exact call_meets F.slot_list_append (Z9 hs hl).typeIs F.entry_list_append (F.args_list_append_2 _ _) (list_append l vs.toArray n x (by rw [sizeLine_eq];simp;exact (kq1 774468103649805368836513) hn)) ⟨hs.keep _ _ hl,_,_,st,h n'⟩
theorem mq {l:Addr} {vs:List Value} {n:Nat} {x:Value} {Q:PV} (hl:τ l=some (G3 (vs++[x]) n)) (hn:vs.length≤10000) (h:∀ n',Q x (G5 τ l (G3 vs n')) m):W c (PySem.call (.builtin "list.pop") [.ref l]) τ m Q X:=fun s hs=>by
 obtain ⟨n',st⟩:=putL hs hl (fun xs=>xs.eraseIdxIfInBounds ((vs++[x]).toArray.size-1)) vs (by simp [Array.eraseIdxIfInBounds,List.eraseIdx_append_of_length_le]) s.toks;exact call_meets F.slot_list_pop (Z9 hs hl).typeIs F.entry_list_pop (F.args_list_pop_1 _) (PySem.MeetsSeq.list_pop_last l (vs++[x]).toArray n x (by simp) (by rw [sizeLine_eq];simp;exact (kq1 774468102523905461993889) hn)) ⟨hs.keep _ _ hl,_,_,st,h n'⟩
theorem Cj {l:Addr} {vs:List Value} {n:Nat} {Q:PV} (hl:τ l=some (G3 vs n)) (hn:vs.length≤10000) (h:∀ n',Q .none (G5 τ l (G3 [] n')) m):W c (PySem.call (.builtin "list.clear") [.ref l]) τ m Q X:=fun s hs=>by
 obtain ⟨n',st⟩:=putL hs hl (fun xs=>#[]) [] (by simp) s.toks;exact call_meets F.slot_list_clear (Z9 hs hl).typeIs F.entry_list_clear (F.args_list_clear_1 _) (AutoSeq1.list_clear_list_0 l vs.toArray n (by rw [sizeLine_eq];simp;exact (kq1 774468103649805368836513) hn)) ⟨hs.keep _ _ hl,_,_,st,h n'⟩
theorem jK {l b:Addr} {vs us:List Value} {n n2:Nat} {Q:PV} (hl:τ l=some (G3 vs n)) (hb:τ b=some (G3 us n2)) (hn:vs.length+us.length≤10000) (h:∀ a,τ a=none→Q (.ref a) (G5 τ a (G3 (vs++us) 0)) m):W c (binaryOp .Add (.ref l) (.ref b)) τ m Q X:=fun s hs=>by
 refine PySem.P.add_list (pC hs hl) (pC hs hb) ?_ (by rw [sizeLine_eq];simp;exact (kq2 812088666271651280525069830209) hn);have e:({ cls:=.type "list",data:=.seq (vs.toArray++us.toArray) }:Obj)=G3 (vs++us) 0:=by simp
 rw [e];exact ⟨_,_,Step.new hs rfl,h _ hs.fresh⟩
theorem cY {l:Addr} {vs:List Value} {n:Nat} {Q:PV} (hl:τ l=some (G3 vs n)) (hn:vs.length≤10000) (h:∀ t,Q (.int vs.length t) τ m):W c (PySem.call (.builtin "len") [.ref l]) τ m Q X :=
 cg (fun Q E s hs h=>PySem.Calls.call_len_list (Z9 hs hl) (by simp;lia) (by simpa using h _ _)) h
theorem nu {l:Addr} {vs:List Value} {n:Nat} {Q:PB} (hl:τ l=some (G3 vs n)) (hn:vs.length≤10000) (h:Q (!vs.isEmpty) τ m):W c (truthy (.ref l)) τ m Q X :=
 di (fun Q E s hs h=>wpAny_truthy_list (Z9 hs hl) (by simp;lia) (by simpa using h _)) h
end
noncomputable abbrev NoX:PV:=fun O O O=>False
noncomputable def Turn (Q:PF) (N:PH→Lo→Prop):PF
 | .next,τ,m=>N τ m
 | .cont,τ,m=>N τ m
 | .brk,τ,m=>Q .next τ m
 | .ret v,τ,m=>Q (.ret v) τ m
section
variable {c:Cx} {τ:PH} {m:Lo} {X:PV}
noncomputable abbrev KD (c:Cx) (body:List Stmt) (Q:PF) (X:PV):PU:=fun O τ m=>W c (execs body c.env) τ m Q X
noncomputable abbrev KWh (c:Cx) (body orelse:List Stmt) (N:PH→Lo→Prop) (Q:PF):PB:=fun b τ1 m1=>if b then W c (execs body c.env) τ1 m1 (Turn Q N) NoX else W c (execs orelse c.env) τ1 m1 Q NoX
noncomputable abbrev Less (J:PN) (n:Nat):PH→Lo→Prop:=fun τ2 m2=>∃ k,k<n∧J k τ2 m2
theorem jB {test:Expr} {body orelse:List Stmt} {pos:Pos} {Q:PF} (J:PN) (n:Nat) (h0:J n τ m)
  (turn:∀ n τ m,J n τ m→W c (isTrue test c.env (eval test c.env)) τ m (KWh c body orelse (Less J n) Q) NoX) :
  W c (exec (.While test body orelse pos) c.env) τ m Q X:=fun s hs=>by
 refine wpAny_While (codeAny_whileLoop (fun k s'=>∃ τ' m',Step c τ s τ' m' s'∧J k τ' m') ?_ n ⟨τ,m,Step.refl hs,h0⟩);intro k s' zB;refine ao zB fun τ' m' st hJ=>?_;clear zB;refine (turn k τ' m' hJ).use st.at_ (fun b s2 τ2 m2 st2 q=>?_) fun O O O O O q=>q.elim;cases b with
 | true =>
  refine W.use q st2.at_ (fun f s3 τ3 m3 st3 q=>?_) fun O O O O O q=>q.elim;cases f with
  | next=>obtain ⟨k',hk,hj⟩:=q;exact ⟨k',hk,τ3,m3,(st.trans st2).trans st3,hj⟩
  | cont=>obtain ⟨k',hk,hj⟩:=q;exact ⟨k',hk,τ3,m3,(st.trans st2).trans st3,hj⟩
  | brk=>exact ⟨τ3,m3,(st.trans st2).trans st3,q⟩
  | ret v=>exact ⟨τ3,m3,(st.trans st2).trans st3,q⟩
 | false=>exact W.use q st2.at_ (fun f s3 τ3 m3 st3 q=>⟨τ3,m3,(st.trans st2).trans st3,q⟩) fun O O O O O q=>q.elim
structure Iter (c:Cx) (τ:PH) (it:Value) (n:Nat) (P:Nat→Value→Prop) (fixed:List Addr) (s1 s:Shared):Prop where
 ex:∃ Ia fp wr St,it=.ref Ia∧Walks pw c.w c.A Ia fp wr n P St∧(∀ i h,St i h→∀ b∈wr,∃ o,h.get? b=some o)∧(∀ i s v target (Q:Unit→Shared→Prop) E,St i s.heap→Q () s→wpAny (MM c) c.A (letOwnedTupleGo target it v) Q E s)∧St 0 s.heap∧(∀ b∈wr,τ b=none∧¬ c.own b∧516≤b∧s1.heap.get? b=none)∧(∀ b∈fp,¬ c.own b)∧∀ b∈fp,b∈wr∨b∈fixed
 fx:∀ b∈fixed,∃ ob,τ b=some ob
noncomputable def Iters (c:Cx) (τ:PH) (m:Lo) (t:Sem Value) (n:Nat) (P:Nat→Value→Prop) (fixed:List Addr):Prop:=∀ s,At c τ m s→∀ (Q:Value→Shared→Prop) E,(∀ it s',Step c τ s τ m s'→Iter c τ it n P fixed s s'→Q it s')→wpAny (MM c) c.A t Q E s
noncomputable def pq (e:Value) (env:Env):Sem Unit:=do
 if (← field e 1)==.none then unsupported "frame.own-activation:exception-without-traceback"
 setFlight e env.frame
noncomputable def LoopX (c:Cx) (X:PV) (e:Value) (τ:PH) (m:Lo):Prop :=
 W c (noteFrame e c.env) τ m (fun O τ1 m1=>W c (pq e c.env) τ1 m1 (fun O τ2 m2=>X e τ2 m2) NoX) NoX
theorem LoopX.out {c:Cx} {X:PV} {e:Value} {τ₀ τ:PH} {m:Lo} {s0 s:Shared} (h:LoopX c X e τ m) (st:Step c τ₀ s0 τ m s):notedBy (MM c) c.A c.env (cameBackBy (MM c) c.A c.env (V3 c τ₀ s0 X)) e s:=by
 show wpAny (MM c) c.A (noteFrame e c.env) _ _ s;refine W.use h st.at_ (fun O s1 τ1 m1 st1 q1=>?_) fun O O O O O q=>q.elim;show wpAny (MM c) c.A (pq e c.env) _ _ s1;exact W.use q1 st1.at_ (fun O s2 τ2 m2 st2 q2=>⟨τ2,m2,(st.trans st1).trans st2,q2⟩) fun O O O O O q=>q.elim
noncomputable abbrev KFor (c:Cx) (target:Expr) (body orelse:List Stmt) (Q:PF) (X:PV):PV:=fun v τ1 m1=>∃ n P fixed,Iters c τ1 m1 (pyIter v) n P fixed∧∃ J:PN,J 0 τ1 m1∧(∀ i τ' m',J i τ' m'→∀ b∈fixed,τ' b=τ1 b) ∧
   (∀ i v τ' m',i<n→P i v→J i τ' m'→W c (assign target c.env v) τ' m' (KD c body (Turn Q (J (i+1))) X) X) ∧
   ∀ τ' m',J n τ' m'→W c (execs orelse c.env) τ' m' Q X
theorem sV {target iter:Expr} {body orelse:List Stmt} {pos:Pos} {Q:PF}
  (h:W c (eval iter c.env) τ m (KFor c target body orelse Q (LoopX c X)) X)
  (hs:∀ x,foldedSetIterable iter c.env x=pure x:=by intro _;rfl):W c (exec (.For target iter body orelse pos) c.env) τ m Q X:=fun s hs'=>by
 refine wpAny_For (h.use hs' (fun v s1 τ1 m1 st1 q1=>?_) xx) hs;obtain ⟨n,P,fixed,hit,J,h0,hfix,hbody,hend⟩:=q1;refine hit s1 st1.at_ _ _ fun it s2 st2 hI=>?_;refine E4_8 hI.ex fun Ia fp wr St zC hw hlive hgo hst hwr hfp hfx=>?_;obtain rfl:=zC;have hfx':=hI.fx;have wfr:∀ b,b∈wr→b∉frs c.A:=fun b hb hz=>by
  obtain ⟨_,o,e,_⟩:=st1.at_.fr.mem hz;rw [(hwr b hb).2.2.2] at e;cases e
 let KK:Nat→Shared→Prop:=fun k s'=>∃ i τ' m',Step c τ1 s1 τ' m' s'∧J i τ' m'∧St i s'.heap∧i≤n∧k=n+1-i∧∀ b∈wr,τ' b=none;refine codeAny_forLoop_any KK ?_ (n+1)
  ⟨0,τ1,m1,st2,h0,hst,T3 _,rfl,fun b hb=>(hwr b hb).1⟩
 intro k s' zD;refine fW zD fun i τ' m' st hJ hst' hi zE hwr'=>?_;clear zD;obtain rfl:=zE;have next:∀ h₁ tk1,(∀ b o,b∉wr→s'.heap.get? b=some o→h₁.get? b=some o)→Step c τ1 s1 τ' m' { s' with heap:=h₁,toks:=tk1 }:=fun h₁ tk1 hk=>by
  have notw:∀ b o,τ' b=some o→b∉wr:=fun b o e hb=>by rw [hwr' b hb] at e;cases e
  have hown:∀ b,c.own b→b∉wr:=fun b ho hb=>(hwr b hb).2.1 ho;refine O1 (cU (s':={ s' with heap:=h₁,toks:=tk1 }) st.at_ fun b o ho e=>dJ (hk b o (hown b ho) e)) fun hn hc=>?_;have A':=st.at_;have wfr:∀ b,b∈wr→b∉frs c.A:=fun b hb hz=>by
   obtain ⟨_,o,e,_⟩:=st1.at_.fr.mem hz;rw [(hwr b hb).2.2.2] at e;cases e
  refine ⟨⟨fun b o e=>hk b o (fun hb=>absurd (hwr b hb).2.2.1 (Nat.not_le.mpr (jy e))) (A'.top b o e),fun b o e=>hk b o (notw b o e) (A'.keep b o e),A'.low,A'.mine,hn,hc,A'.apart,A'.noBoth,A'.gens,A'.os,A'.fr.keep fun b o hb e hn=>⟨o,hk b o (fun z=>wfr b z hb) e,hn⟩,A'.nofr⟩,?_,st.fresh⟩;intro b o e h1 h2;refine (st.keep b o e h1 h2).trans fun o' e'=>.same (hk b o' (fun hb=>?_) e');rw [(hwr b hb).2.2.2] at e;cases e
 by_cases hlt:i<n
 ·refine hw.item i _ _ _ hlt hst' fun v h₁ tk1 hP hst1 hk1=>?_;have st':=next h₁ tk1 hk1
  have hl1:=hlive _ _ hst1;refine hgo (i+1) _ v target _ _ hst1 ?_;refine (hbody i v τ' m' hlt hP hJ).use st'.at_ (fun O s3 τ3 m3 st3 q3=>?_) fun O O O O st3 q=>q.out (st1.trans (st'.trans st3));refine q3.use st3.at_ (fun f s4 τ4 m4 st4 q4=>?_) fun O O O O st4 q=>q.out (st1.trans (st'.trans (st3.trans st4)));have stE:=st'.trans (st3.trans st4);have stZ:=st3.trans st4;have go:J (i+1) τ4 m4→∃ k,k<n+1-i∧∃ i' τ'' m'',Step c τ1 s1 τ'' m'' s4∧J i' τ'' m''∧St i' s4.heap∧i'≤n∧k=n+1-i'∧∀ b∈wr,τ'' b=none:=fun hj=>by
   refine ⟨n+1-(i+1),by exact (kq2 815847035392359399511105) hlt,i+1,τ4,m4,stE,hj,?_,hlt,rfl,fun b hb=>?_⟩
   ·refine hw.frame _ _ _ hst1 fun b hb o e=>?_;rcases hfx b hb with z | z
    ·exact (stZ.keep b o e (hwr' b z) (hwr b z).2.1).exact (wfr b z)
    ·have e1:=hfix i τ' m' hJ b z;have e2:=hfix (i+1) τ4 m4 hj b z;refine U0 (hfx' b z) fun o' q=>?_;have k1:=st'.at_.keep b o' (e1.trans q);have k2:=stE.at_.keep b o' (e2.trans q);have:o=o':=by
      have k1':h₁.get? b=some o':=k1;rw [e] at k1';exact aO k1'
     rw [this];exact k2
   ·cases q:τ4 b with
    | none=>rfl
    | some o =>
     refine U0 (hl1 b hb) fun ow hw1=>?_;rcases stZ.fresh b (by rw [q];rfl) with z | z
     ·rw [hwr' b hb] at z;cases z
     ·rw [show ({ s' with heap:=h₁,toks:=tk1 }:Shared).heap.get? b=some ow from hw1] at z;cases z
  cases f with
  | next=>exact go q4
  | cont=>exact go q4
  | brk=>exact ⟨τ4,m4,st1.trans stE,q4⟩
  | ret v=>exact ⟨τ4,m4,st1.trans stE,q4⟩
 ·have hin:i=n:=by exact (kq2 776316045545537) hi hlt
  subst hin;refine hw.done _ _ _ hst' fun h₁ tk1 hk1=>?_;have st':=next h₁ tk1 hk1
  exact W.use (hend τ' m' hJ) st'.at_ (fun f s3 τ3 m3 st3 q=>⟨τ3,m3,st1.trans (st'.trans st3),q⟩) fun O O O O st3 q=>q.out (st1.trans (st'.trans st3))
theorem aB {target iter:Expr} {body orelse:List Stmt} {pos:Pos} {Q:PF}
  (h:W c (eval iter c.env) τ m (KFor c target body orelse Q NoX) X)
  (hs:∀ x,foldedSetIterable iter c.env x=pure x:=by intro _;rfl):W c (exec (.For target iter body orelse pos) c.env) τ m Q X :=
 sV (W.mono h (fun v τ1 m1 ⟨n,P,fixed,h1,J,h2,h3,h4,h5⟩=>⟨n,P,fixed,h1,J,h2,h3,fun i v τ' m' hi hp hj=>W.mono (h4 i v τ' m' hi hp hj) (fun O O O q=>W.mono q (fun O O O q=>q) fun O O O q=>q.elim) fun O O O q=>q.elim,
  fun τ' m' hj=>W.mono (h5 τ' m' hj) (fun O O O q=>q) fun O O O q=>q.elim⟩) fun O O O q=>q) hs
theorem CV {a:Addr} {o:Obj} {T:String} {v:Value} {target:Expr} {s:Shared} {Q:Unit→Shared→Prop} {E:Value→Shared→Prop} (ho:s.heap.get? a=some o) (hc:o.cls=.type T) (hT:["enumerate","zip","dict_itemiterator","dict_reverseitemiterator","odict_iterator","itertools.zip_longest","itertools.pairwise"].contains T=false) (h:Q () s) :
  wpAny (MM c) c.A (letOwnedTupleGo target (.ref a) v) Q E s:=by
 have key:wpAny (MM c) c.A (do
  let o ← load a;match o.cls,o.data with
  | .type n,.fields vs =>
   if ["enumerate","zip","dict_itemiterator","dict_reverseitemiterator","odict_iterator","itertools.zip_longest","itertools.pairwise"].contains n&&vs[0]? == some (match v with | .ref b=>rawInt b | _=>.none) then
    rule "for.unpacks-the-owned-tuple"
    updateField a 0 .none
  | _,_=>pure ()) Q E s:=by
  refine wpAny_bind (wpAny_load ho ?_);rw [hc];cases o.data <;> first | exact wpAny_pure h | skip
  simp only [hT,Bool.false_and,Bool.false_eq_true,if_false];exact wpAny_pure h
 unfold letOwnedTupleGo;cases target <;> first | exact wpAny_pure h | skip
 all_goals (cases v <;> first | exact wpAny_pure h | exact key)
theorem pH {s:Shared} (hs:At c τ m s):¬ c.own s.heap.objs.size:=by
 rintro (z | ⟨n,z⟩)
 ·refine G8 hs.ns fun ml zF O=>?_;refine R6 zF fun ob O O hob O=>?_;clear zF;have:=W0 hob;rw [← z] at this;exact absurd this (V1 _)
 ·refine O1 (hs.cell n _ z) fun zG O=>?_;refine G8 zG fun ob hob O=>?_;clear zG;exact absurd (W0 hob) (V1 _)
theorem Iters.new {v:Value} {vs:List Value} {n:Nat} {P:Nat→Value→Prop} {fp fixed:List Addr} {o:Obj} {T:String} {St:Addr→Nat→Heap→Prop} (hc:o.cls=.type T)
  (hT:["enumerate","zip","dict_itemiterator","dict_reverseitemiterator","odict_iterator","itertools.zip_longest","itertools.pairwise"].contains T=false) (hf:o.isFreed=false)
  (hfp:∀ b∈fp,∃ ob,τ b=some ob∧b∈fixed) (hfx:∀ b∈fixed,∃ ob,τ b=some ob)
  (hw:∀ s,At c τ m s→Walks pw c.w c.A s.heap.objs.size (s.heap.objs.size::fp) [s.heap.objs.size] n P (St s.heap.objs.size)∧St s.heap.objs.size 0 (s.heap.push o)∧∀ (Q:Value→Shared→Prop) E,Q (.ref s.heap.objs.size) { s with heap:=s.heap.push o }→wpAny (MM c) c.A (pyIter v) Q E s)
  (hst:∀ a i h,St a i h→∃ ob,h.get? a=some ob∧ob.cls=.type T):Iters c τ m (pyIter v) n P fixed:=fun s hs Q E h=>by
 refine M6 (hw s hs) fun W h0 hit=>?_;refine hit Q E (h _ _ (zm hs hf) ⟨⟨_,_,_,_,rfl,W,?_,?_,h0,?_,?_,?_⟩,hfx⟩)
 ·intro i h st b hb;rw [I7] at hb;subst hb;refine G8 (hst _ _ _ st) fun ob e O=>?_;exact ⟨ob,e⟩
 ·intro i s' v target Q E st hQ;refine G8 (hst _ _ _ st) fun ob e hcb=>?_;exact CV e hcb hT hQ
 ·intro b hb;rw [I7] at hb;subst hb;refine ⟨hs.fresh,pH hs,jF hs.top,?_⟩;cases q:s.heap.get? s.heap.objs.size with
  | none=>rfl
  | some ob=>exact absurd (W0 q) (V1 _)
 ·intro b hb;rcases List.mem_cons.mp hb with e | e
  ·subst e;exact pH hs
  ·refine G8 (hfp b e) fun ob e1 O=>?_;exact (hs.low b ob e1).2
 ·intro b hb;rcases List.mem_cons.mp hb with e | e
  ·left;rw [e];exact List.mem_singleton_self _
  ·exact .inr (hfp b e).choose_spec.2
theorem Iters.list {l:Addr} {vs:List Value} {n:Nat} (hq:c.A.handled=none) (hl:τ l=some (G3 vs n)):Iters c τ m (pyIter (.ref l)) vs.length (fun i v=>vs[i]? = some v) [l] :=
 Iters.new (o:={ cls:=.type "list_iterator",data:=.fields #[.ref l,.int 0 0] }) (T:="list_iterator") (St:=fun a i h=>h.IsListIter a l i∧h.IsList l vs.toArray) (fp:=[l]) (vs:=vs) rfl (by decide) rfl (by simp [hl]) (by simp [hl])
  (fun s hs=>by
   have hne:l≠s.heap.objs.size:=Nat.ne_of_lt (W0 (hs.keep _ _ hl));exact ⟨by simpa using Walks.list hq s.heap.objs.size l hne vs.toArray,⟨⟨_,aN _ rfl,rfl,rfl⟩,(Z9 hs hl).at fun o e=>X6 _ e⟩,fun Q E h=>wpAny_pyIter_list (Z9 hs hl) h⟩)
  fun a i h st=>by obtain ⟨⟨o,e,hc,_⟩,_⟩:=st;exact ⟨o,e,hc⟩
theorem tM {s:Shared} {l:Addr} {vs:List Value} (hs:At c τ m s) (hl:τ l=some (H4 vs)):s.heap.IsTuple l vs.toArray:=⟨_,hs.keep _ _ hl,rfl,_,rfl⟩
theorem Iters.tuple {l:Addr} {vs:List Value} (hq:c.A.handled=none) (hl:τ l=some (H4 vs)):Iters c τ m (pyIter (.ref l)) vs.length (fun i v=>vs[i]? = some v) [l] :=
 Iters.new (o:={ cls:=.type "tuple_iterator",data:=.fields #[.ref l,.int 0 0] }) (T:="tuple_iterator") (St:=fun a i h=>h.IsTupleIter a l i∧h.IsTuple l vs.toArray) (fp:=[l]) (vs:=vs) rfl (by decide) rfl (by simp [hl]) (by simp [hl])
  (fun s hs=>by
   have hne:l≠s.heap.objs.size:=Nat.ne_of_lt (W0 (hs.keep _ _ hl));exact ⟨by simpa using Walks.tuple hq s.heap.objs.size l hne vs.toArray,⟨⟨_,aN _ rfl,rfl,rfl⟩,(tM hs hl).at fun o e=>X6 _ e⟩,fun Q E h=>wpAny_pyIter_tuple (tM hs hl) h⟩)
  fun a i h st=>by obtain ⟨⟨o,e,hc,_⟩,_⟩:=st;exact ⟨o,e,hc⟩
noncomputable abbrev aG (a b k:Int) (t u v:Tok):Obj:={ cls:=.type "range",data:=.fields #[.int a t,.int b u,.int k v] }
theorem Iters.range {r:Addr} {a b k:Int} {t u v:Tok} (hq:c.A.handled=none) (hl:τ r=some (aG a b k t u v)) (hsm:Builtin.Range.small a b k=true) (n:Nat) (hn:Builtin.Range.rangeSize a b k=n):Iters c τ m (pyIter (.ref r)) n (fun i v=>∃ t,v=.int (a+i*k) t) [] :=
 Iters.new (o:={ cls:=.type "range_iterator",data:=.fields #[rawInt a,rawInt (Builtin.Range.rangeSize a b k),rawInt k] }) (T:="range_iterator") (St:=fun x i h=>IsRangeIter h x (a+(i:Nat)*k) ((n:Int)-(i:Nat)) k) (fp:=[]) (vs:=[]) rfl (by decide) rfl (by simp) (by simp)
  (fun s hs=>by
   refine ⟨by simpa using Walks.range hq s.heap.objs.size a k n,?_,fun Q E h=>wpAny_pyIter_range (hs.keep _ _ hl) hsm h⟩;rw [hn];have e:(a+((0:Nat):Int)*k)=a:=by simp
   have e2:((n:Int)-((0:Nat):Int))=n:=by simp
   rw [e,e2];exact aN _ rfl)
  fun a i h st=>⟨_,st,rfl⟩
theorem iM {n:Int} {t:Tok} {Q:PV} (h:∀ a t u v,τ a=none→Q (.ref a) (G5 τ a (aG 0 n 1 t u v)) m):W c (PySem.call (.type "range") [.int n t]) τ m Q X:=fun s hs =>
 call_range_1 ⟨_,m,(Step.new (m:=m) (o:=aG 0 n 1 _ _ _) hs rfl).tk _,h _ _ _ _ hs.fresh⟩
theorem xR {n k:Int} {t u:Tok} {Q:PV} (h:∀ a t u v,τ a=none→Q (.ref a) (G5 τ a (aG n k 1 t u v)) m):W c (PySem.call (.type "range") [.int n t,.int k u]) τ m Q X:=fun s hs =>
 call_range_2 ⟨_,m,(Step.new (m:=m) (o:=aG n k 1 _ _ _) hs rfl).tk _,h _ _ _ _ hs.fresh⟩
theorem gD {r:Addr} {a b:Int} {t u v:Tok} (hq:c.A.handled=none) (hl:τ r=some (aG a b 1 t u v)) (h0:0≤a) (h1:a≤b) (h2:b≤10000):Iters c τ m (pyIter (.ref r)) (b-a).toNat (fun i v=>∃ t,v=.int (a+i) t) []:=by
 have z:=Iters.range (c:=c) (τ:=τ) (m:=m) hq hl (small_one (by lia) (by lia) (by lia) (by lia)) (b-a).toNat (by rw [rangeSize_one];split <;> lia);simpa using z
theorem oE {x:Str} {p:Pos} {v:Value} {Q:PU} (hk:bO c.env x=true) (h:Q () τ (upd m x v)):W c (assign (.Name x p) c.env v) τ m Q X:=fun s hs=>wpAny_assign_Name (nO hk h s hs)
end
theorem Step.ext {c:Cx} {τ:PH} {m:Lo} {s:Shared} {h':Heap} {k:Nat} (hs:At c τ m s) (hx:Heap.ExtBut s.heap.objs.size s.heap h'):Step c τ s τ m { s with heap:=h',toks:=k }:=by
 have kp:∀ b o,s.heap.get? b=some o→h'.get? b=some o:=fun b o e=>hx b o (Nat.ne_of_lt (W0 e)) e;obtain ⟨hn,hc⟩:=cU (s':={ s with heap:=h',toks:=k }) hs fun b o O e=>dJ (kp b o e);exact ⟨⟨fun b o e=>kp b o (hs.top b o e),fun b o e=>kp b o (hs.keep b o e),hs.low,hs.mine,hn,hc,hs.apart,hs.noBoth,hs.gens,hs.os,hs.fr.keeps kp,hs.nofr⟩,fun b o e O O=>.same (kp b o e),fun b hb=>.inl hb⟩
section
variable {c:Cx} {τ:PH} {m:Lo} {X:PV}
theorem ie {t:Addr} {vs:List Value} {n:Nat} {Q:PL} (hq:c.A.handled=none) (ht:τ t=some (H4 vs)) (hn:n=vs.length) (h:Q vs τ m):W c (unpackItems (.ref t) n none) τ m Q X:=fun s hs=>by
 have z:=wpAny_unpackItems_tuple (prog:=pw) (w:=c.w) (A:=c.A) (E:=V3 c τ s X) (items:=vs.toArray) (Q:=V3 c τ s Q) hq (tM hs ht) fun h' hx=>by
  exact ⟨τ,m,Step.ext (k:=s.toks) hs hx,h⟩
 rw [hn];simpa using z
theorem aj {Q:PU} (h:Q () τ m):W c (assignInOrder [] []) τ m Q X:=jl h
noncomputable abbrev KO (c:Cx) (fs:List (Value→Sem Unit)) (vs:List Value) (Q:PU) (X:PV):PU:=fun O τ m=>W c (assignInOrder fs vs) τ m Q X
noncomputable abbrev KAs (c:Cx) (t:Expr) (Q:PF) (X:PV):PV:=fun v τ m=>W c (assign t c.env v) τ m (KX Q) X
noncomputable abbrev KSw2 (c:Cx) (names:List Str) (Q:PF) (X:PV):PL:=fun items τ m=>W c (assignInOrder (names.reverse.map fun n=>bindName c.env n) items.reverse) τ m (KX Q) X
noncomputable abbrev KSw (c:Cx) (names:List Str) (Q:PF) (X:PV):PV:=fun v τ m=>W c (unpackItems v names.length none) τ m (KSw2 c names Q X) X
theorem M4 {f:Value→Sem Unit} {fs:List (Value→Sem Unit)} {v:Value} {vs:List Value} {Q:PU} (h:W c (f v) τ m (KO c fs vs Q X) X):W c (assignInOrder (f::fs) (v::vs)) τ m Q X:=by
 unfold assignInOrder;first
  | exact T4 h
  | exact T4 (gY h)
theorem eE {elts:List Expr} {x1:Nat} {pos:Pos} {t:Addr} {vs:List Value} {Q:PU} (hq:c.A.handled=none) (ht:τ t=some (H4 vs)) (hn:(assignEach elts c.env).length=vs.length) (hstar:(assignEach elts c.env).findIdx? (·.1)=none)
  (h:W c (assignInOrder ((assignEach elts c.env).map (·.2)) vs) τ m Q X):W c (assign (.Tuple elts x1 pos) c.env (.ref t)) τ m Q X:=by
 rw [arm_assign_Tuple];refine T4 (iY ?_);unfold unpack;rw [hstar];exact T4 (gY (ie hq ht hn h))
theorem mZ {elts:List Expr} {k:Nat} {tpos pos:Pos} {value:Expr} {Q:PF} (h:W c (eval value c.env) τ m (KAs c (.Tuple elts k tpos) Q X) X)
  (hs:autoParam (swapsWithSole [.Tuple elts k tpos] value pos.line c.env=pure false) aR) (hw:autoParam (swappedStores [.Tuple elts k tpos] value c.env=pure none) aR):W c (exec (.Assign [.Tuple elts k tpos] value pos) c.env) τ m Q X:=fun s hs' =>
 Assign_Tuple (h.use hs' (fun v s' τ' m' st q=>W.cont q st) xx) hs hw
theorem jz {elts:List Expr} {k:Nat} {tpos pos:Pos} {value:Expr} {names:List Str} {Q:PF} (h:W c (eval value c.env) τ m (KSw c names Q X) X)
  (hs:autoParam (swapsWithSole [.Tuple elts k tpos] value pos.line c.env=pure false) aR) (hw:autoParam (swappedStores [.Tuple elts k tpos] value c.env=pure (some names)) aR):W c (exec (.Assign [.Tuple elts k tpos] value pos) c.env) τ m Q X:=fun s hs' =>
 Assign_Tuple_swapped (h.use hs' (fun v s1 τ1 m1 st1 q1=>q1.use st1.at_ (fun items s2 τ2 m2 st2 q2=>W.cont q2 (st1.trans st2)) (fun O O τ' m' st q=>⟨τ',m',st1.trans st,q⟩)) xx) hs hw
theorem zc {x:Str} {v:Value} {Q:PU} (hk:bO c.env x=true) (h:Q () τ (upd m x v)):W c (bindName c.env x v) τ m Q X:=fun s hs=>wpAny_bindName (nO hk h s hs)
end
section
variable {c:Cx} {τ:PH} {m:Lo} {X:PV}
theorem I8 {x:Str} {p:Pos} {v:Value} {Q:PU} (h:Q () τ (upd m x v)) (hk:autoParam (bO c.env x=true) aK):W c (assign (.Name x p) c.env v) τ m Q X:=oE hk h
theorem aP {x:Str} {v:Value} {Q:PU} (h:Q () τ (upd m x v)) (hk:autoParam (bO c.env x=true) aK):W c (bindName c.env x v) τ m Q X:=zc hk h
theorem I9 {x:Str} {pos:Pos} (v:Value) {Q:PV} (h:Q v τ m) (e:autoParam (PySem.W.peek (H3 c.w.params) ⟨pw,c.w.params⟩ (loadName c.env x)=some v) aK) (hd:autoParam ((x==("__debug__":Str))=false) aK):W c (eval (.Name x pos) c.env) τ m Q X:=Av e hd h
theorem K3 {x:Str} {p pos:Pos} {value:Expr} {Q:PF} (h:W c (eval value c.env) τ m (KA x Q) X) (hk:autoParam (bO c.env x=true) aK) (hs:autoParam (swapsWith value (some (.Name x p)) pos.line c.env=pure false) aR):W c (exec (.Assign [.Name x p] value pos) c.env) τ m Q X:=Dw h hk hs
end
theorem W7 {α:Type} {c:Cx} {τ:PH} {m:Lo} {X:PV} {t:Sem α} {Q:α→PH→Lo→Prop} (h:∀ (Q':α→PH→Lo→Prop) (X':PV),(∀ {a τ' m'},Q a τ' m'→Q' a τ' m')→W c t τ m Q' X'):W c t τ m Q X:=h Q X id
theorem opJ {G:Prop} (B:PN) (k:∀ J:PN,(∀ {i τ m},J i τ m↔B i τ m)→G):G:=k B Iff.rfl
theorem W.cut {α:Type} {c:Cx} {τ:PH} {m:Lo} {X:PV} {t:Sem α} {Q:α→PH→Lo→Prop} (Q':α→PH→Lo→Prop) (h:∀ (Q₁:α→PH→Lo→Prop) (X1:PV),(∀ {a τ' m'},Q' a τ' m'→Q₁ a τ' m')→W c t τ m Q₁ X1) (hQ:∀ a τ' m',Q' a τ' m'→Q a τ' m'):W c t τ m Q X :=
 W.mono (h Q' (fun O O O=>False) id) hQ fun O O O h=>h.elim
theorem ju {p:Prop} [Decidable p] {c:Cx} {τ:PH} {m:Lo} {X:PV} {Q:PF} {a b:List Stmt} (h:p) (k:W c (execs a c.env) τ m Q X):W c (execs (if decide p=true then a else b) c.env) τ m Q X:=by rw [decide_eq_true h];exact k
theorem jD {p:Prop} [Decidable p] {c:Cx} {τ:PH} {m:Lo} {X:PV} {Q:PF} {a b:List Stmt} (h:¬p) (k:W c (execs b c.env) τ m Q X):W c (execs (if decide p=true then a else b) c.env) τ m Q X:=by rw [decide_eq_false h];exact k
theorem iT {p:Prop} [Decidable p] {A B:Prop} (h:p) (k:A):if decide p=true then A else B:=by rw [decide_eq_true h];exact k
theorem iF {p:Prop} [Decidable p] {A B:Prop} (h:¬p) (k:B):if decide p=true then A else B:=by rw [decide_eq_false h];exact k
theorem W8 {p:Bool} {c:Cx} {τ:PH} {m:Lo} {X:PV} {Q:PF} {a b:List Stmt} (h:p=true) (k:W c (execs a c.env) τ m Q X):W c (execs (if p=true then a else b) c.env) τ m Q X:=by rw [h];exact k
theorem Q7 {p:Bool} {c:Cx} {τ:PH} {m:Lo} {X:PV} {Q:PF} {a b:List Stmt} (h:p=false) (k:W c (execs b c.env) τ m Q X):W c (execs (if p=true then a else b) c.env) τ m Q X:=by rw [h];exact k
theorem bT {p:Bool} {A B:Prop} (h:p=true) (k:A):if p=true then A else B:=by rw [h];exact k
theorem bF {p:Bool} {A B:Prop} (h:p=false) (k:B):if p=true then A else B:=by rw [h];exact k
theorem leB {n m:Nat} (h:Nat.ble n m=true):n≤m:=Nat.le_of_ble_eq_true h
theorem K7 {m m':Lo} {x:Str} {v:Value} (e:m'=m) (h:m x=some v):m' x=some v:=by rw [e];exact h
theorem jU (n:Nat):(((n:Nat):Int)-0).toNat=n:=by rw [Int.sub_zero];exact Int.toNat_natCast n
theorem qj {n:Nat} (h:1≤n):((n:Int)-1)=((n-1:Nat):Int):=(Int.natCast_sub h).symm
theorem isubN {n k:Nat} (h:k≤n):((n:Int)-(k:Int))=((n-k:Nat):Int):=(Int.natCast_sub h).symm
theorem cast1 {P:PV} {v v':Value} {τ:PH} {m:Lo} (h:v=v') (k:P v' τ m):P v τ m:=by rw [h];exact k
theorem castI {P:PV} {i j:Int} {t:Tok} {τ:PH} {m:Lo} (h:i=j) (k:P (.int j t) τ m):P (.int i t) τ m:=by rw [h];exact k
theorem lq {a b c:Nat} (h:a≤b) (k:autoParam (Nat.ble b c=true) aR):a≤c:=W2 h (Nat.le_of_ble_eq_true k)
theorem lr {a b c:Nat} (h:a≤b) (k:autoParam (Nat.ble (b+1) c=true) aR):a<c:=qF h (Nat.le_of_ble_eq_true k)
theorem HStep.trans {w:World} {os:OsState} {A:Around} {τ τ1 τ2:PH} {s s1 s2:Shared} (a:HStep w os A τ s τ1 s1) (b:HStep w os A τ1 s1 τ2 s2):HStep w os A τ s τ2 s2:=by
 refine ⟨b.at_,fun x o e h1=>?_,fun x h=>?_⟩
 ·refine (a.keep x o e h1).trans fun o1 e1=>b.keep x o1 e1 ?_;cases q:τ1 x with
  | none=>rfl
  | some o' =>
   rcases a.fresh x (by rw [q];rfl) with z | z
   ·rw [h1] at z;cases z
   ·rw [e] at z;cases z
 ·rcases b.fresh x h with z | z
  ·exact a.fresh x z
  ·cases q:s.heap.get? x with
   | none=>exact .inr rfl
   | some o =>
    left;cases q1:τ x with
    | some _=>rfl
    | none=>exact absurd z (a.keep x o q q1).not_none
theorem HAt.in1 {w:World} {os:OsState} {A:Around} {τ:PH} {s:Shared} (h:HAt w os A τ s):HAt w os A.in1 τ s:=⟨h.top,h.keep,h.low,h.gens,h.os,h.fr,h.nofr⟩
theorem HStep.of_in1 {w:World} {os:OsState} {A:Around} {τ τ':PH} {s s':Shared} (h:HStep w os A.in1 τ s τ' s'):HStep w os A τ s τ' s' :=
 ⟨⟨h.at_.top,h.at_.keep,h.at_.low,h.at_.gens,h.at_.os,h.at_.fr,h.at_.nofr⟩,h.keep,h.fresh⟩
theorem HStep.new {w:World} {os:OsState} {A:Around} {τ:PH} {s:Shared} {o:Obj} (hs:HAt w os A τ s) (hf:o.isFreed=false):τ s.heap.objs.size=none∧HStep w os A τ s (G5 τ s.heap.objs.size o) { s with heap:=s.heap.push o }:=by
 have hsz:=jF hs.top;have kp:∀ b o',s.heap.get? b=some o'→(s.heap.push o).get? b=some o':=fun b o' e=>X6 _ e;refine ⟨?_,⟨fun b o' e=>kp b o' (hs.top b o' e),fun b o' e=>?_,fun b o' e=>?_,hs.gens,hs.os,hs.fr.keeps kp,fun b o' e=>?_⟩,fun b o' e O=>.same (kp b o' e),fun b hb=>?_⟩
 ·cases q:τ s.heap.objs.size with
  | none=>rfl
  | some o=>exact absurd (W0 (hs.keep _ o q)) (V1 _)
 ·unfold G5 at e;split at e
  ·rename_i q;subst q;cases e;exact aN _ hf
  ·exact kp b o' (hs.keep b o' e)
 ·unfold G5 at e;split at e
  ·rename_i q;subst q;exact hsz
  ·exact hs.low b o' e
 ·unfold G5 at e;split at e
  ·rename_i q;subst q;exact hs.fr.old
  ·exact hs.nofr b o' e
 ·unfold G5 at hb;split at hb
  ·rename_i q;subst q;right;cases z:s.heap.get? s.heap.objs.size with
   | none=>rfl
   | some o'=>exact absurd (W0 z) (V1 _)
  ·exact .inl hb
theorem Bv {w:World} {os:OsState} {n:Nat} {fa:Addr} {oc:Value} {od:Option Addr} {osl:Array (Option Value)} {fd:FuncData} {body:List Stmt} {B:List (Str×Value)→PH→Prop} {args:Args} {τ₀:PH} {R RX:Value→PH→Prop}
  (hK:(H3 w.params).lookup fa=some ⟨oc,od,.func fd,osl⟩) (hcd:codeIn (H3 w.params) fd.code fd.qualname=true) (hbody:fd.body=.stmts body) (hclo:fd.closure=[])
  (hco:fd.scope.isCoroutine=false) (hgen:fd.scope.isGenerator=false) (hk:fd.scope.kind=.function) (hap:jN fd.scope=true)
  (hbind:∀ s A (Q:List (Str×Value)→Shared→Prop) E,HAt w os A τ₀ s→(∀ binds τ1 s1,B binds τ1→HStep w os A τ₀ s τ1 s1→Q binds s1)→wpAny (model pw w) A (bindArgs fd args) Q E s)
  (hkind:∀ n binds τ1,B binds τ1→∀ x∈binds,fd.scope.names.lookup x.1=some .local∨(fd.scope.names.lookup x.1=some .cell∧((cellsFrom n fd.scope.names []).lookup x.1).isSome=true))
  (h:∀ (A:Around) (L:Addr) binds τ1,B binds τ1→Room n (A.deeper (callEnvC fd L fa))→W ⟨w,os,A.deeper (callEnvC fd L fa),callEnvC fd L fa⟩ (execs body (callEnvC fd L fa)) τ1 (iw binds) (fun fl τ' O=>R (match fl with | .ret v=>v | _=>.none) τ')
   (fun e τ' m'=>W ⟨w,os,A.deeper (callEnvC fd L fa),callEnvC fd L fa⟩ (leaving (callEnvC fd L fa) e) τ' m' (fun O τ'' O=>RX e τ'') (fun e' τ'' O=>RX e' τ''))) :
  Spec w os (n+1) (.ref fa) args τ₀ R RX:=by
 intro A s0 hA hs0;refine codeAny_call_function (by have:=hA.depth;show A.depth<1000;exact (kq2 831896887472885106471772700737) this) (hs0.top _ _ hK) rfl hco hgen hbody (codeRec_of hs0.top hcd) ?_;refine hbind s0 _ _ _ hs0.in1 fun binds τ s hB st0=>?_;replace st0:=st0.of_in1;have hs:=st0.at_;rw [hclo];refine wpAny_newFunctionEnv_cells hk (hkind _ binds τ hB) fun env he s' x=>?_;subst he;refine ⟨(wu hs.top).keeps x.toInCall.keep,codeAny_func ?_⟩;have hL:callEnvC fd s.heap.objs.size fa=newEnv fd.scope s.heap.objs.size fd.globals (cellsFrom (s.heap.objs.size+1) fd.scope.names []) (fd.qualname++".<locals>.") (some fa) fd.code none fd.builtins:=rfl;rw [← hL] at x ⊢;have hsz:=jF hs.top;refine dK x.toInCall.same fun h1 tk e1=>?_;have hat:At ⟨w,os,A.deeper (callEnvC fd s.heap.objs.size fa),callEnvC fd s.heap.objs.size fa⟩ τ (iw binds) s':=by
  refine ⟨hs.top.keeps x.toInCall.keep,fun b o e=>x.toInCall.keep b o (hs.keep b o e),fun b o e=>⟨hs.low b o e,?_⟩,?_,⟨_,x.toInCall.ns,fun y hy=>rJ _ _ _ _ (fun O O=>rfl) y hy⟩,?_,?_,fun n' a ha=>oV hap ha,?_,?_,?_,fun b o e=>?_⟩
  ·have hb:=W0 (hs.keep b o e);rintro (z | ⟨n',z⟩)
   ·rw [z] at hb;exact absurd hb (V1 _)
   ·have:=x.above n' b (mem_of_lookup z);exact absurd (Nat.lt_trans hb this) (V1 _)
  ·rintro b (z | ⟨n',z⟩)
   ·rw [z];exact hsz
   ·exact Nat.le_of_lt (qF hsz (x.above n' b (mem_of_lookup z)))
  ·intro n' a ha;have hc:=x.cell n' a ha;have hn:(callEnvC fd s.heap.objs.size fa).kindOf n'≠some .local:=oV hap ha;rw [sW _ _ _ _ (fun O O=>rfl) n' hn] at hc;exact ⟨hc,Nat.ne_of_gt (x.above n' a (mem_of_lookup ha))⟩
  ·intro n1 n2 a h1 h2;exact name_of_addr x.apart (mem_of_lookup h1) (mem_of_lookup h2)
  ·rw [e1];exact hs.gens
  ·rw [e1];exact hs.os
  ·refine G8 (rH x.toInCall.ns) fun oL hoL hnL=>?_;exact (hs.fr.keeps x.toInCall.keep).deeper (by rw [show (callEnvC fd s.heap.objs.size fa).scope=fd.scope from rfl,hk];intro z;cases z) rfl hsz hoL hnL
  ·have hb:=W0 (hs.keep b o e);show b∉frs (A.deeper (callEnvC fd s.heap.objs.size fa));rw [nP hs.fr (L:=s.heap.objs.size) rfl];intro z;rcases List.mem_cons.mp z with z | z
   ·rw [z] at hb;exact absurd hb (V1 _)
   ·exact hs.nofr b o e z
 have stepOf:∀ {τ':PH} {m':Lo} {s2:Shared},Step ⟨w,os,A.deeper (callEnvC fd s.heap.objs.size fa),callEnvC fd s.heap.objs.size fa⟩ τ s' τ' m' s2→HStep w os A τ₀ s0 τ' s2:=by
  intro τ' m' s2 st;have hfd:=nP hs.fr (L:=s.heap.objs.size) (env:=callEnvC fd s.heap.objs.size fa) rfl;have sub:∀ b,b∈frs A→b∈frs (A.deeper (callEnvC fd s.heap.objs.size fa)):=fun b hb=>by rw [hfd];exact H9 _ hb
  have fr':Frames A s2.heap:=by
   refine G8 hs.fr fun l el F=>?_;refine G8 st.at_.fr fun l' el' F'=>?_;have ell:l'=callEnvC fd s.heap.objs.size fa::l:=by
    have z:(A.deeper (callEnvC fd s.heap.objs.size fa)).frames=some l':=el';rw [show (A.deeper (callEnvC fd s.heap.objs.size fa)).frames=A.frames.map (callEnvC fd s.heap.objs.size fa::·) from rfl,el] at z;exact (aO z).symm
   exact ⟨l,el,fun env he=>F' env (by rw [ell];exact H9 _ he)⟩
  refine st0.trans ⟨⟨st.at_.top,st.at_.keep,fun b o e=>(st.at_.low b o e).1,st.at_.gens,st.at_.os,fr',fun b o e hb=>st.at_.nofr b o e (sub b hb)⟩,fun b o e ht=>?_,fun b hb=>?_⟩
  ·have hb:=W0 e;refine (fun k=>?_:Kept (A.deeper (callEnvC fd s.heap.objs.size fa)) s2.heap b o→Kept A s2.heap b o) (st.keep b o (x.toInCall.keep b o e) ht ?_)
   ·refine G8 k fun sl k1 k2=>?_;clear k;refine ⟨sl,k1,k2.imp_left fun z=>?_⟩;rw [hfd] at z;rcases List.mem_cons.mp z with z | z
    ·rw [z] at hb;exact absurd hb (V1 _)
    ·exact z
   rintro (z | ⟨n',z⟩)
   ·rw [z] at hb;exact absurd hb (V1 _)
   ·have:=x.above n' b (mem_of_lookup z);exact absurd (Nat.lt_trans hb this) (V1 _)
  ·rcases st.fresh b hb with z | z
   ·exact .inl z
   ·right;cases q:s.heap.get? b with
    | none=>rfl
    | some o=>rw [x.toInCall.keep b o q] at z;cases z
 refine wpAny_mono (h A s.heap.objs.size binds τ hB (hA.deeper _) s' hat) (fun fl s2 ⟨τ',m',st,q⟩=>⟨τ',stepOf st,q⟩) fun e s2 ⟨τ',m',st,q⟩=>?_;exact wpAny_mono (q s2 st.at_) (fun _ s3 ⟨τ3,m3,st3,q3⟩=>⟨τ3,stepOf (st.trans st3),q3⟩) fun e' s3 ⟨τ3,m3,st3,q3⟩=>⟨τ3,stepOf (st.trans st3),q3⟩
theorem yI (a b:Value):bindArgs fd460 ⟨[a,b],[]⟩=(do let t ← newTuple [b];pure [(G4 "a",a),(G4 "p",t)]):=by kernel_rfl
theorem Dz (a b:Value):bindArgs fd120 ⟨[a,b],[]⟩=(do let t ← newTuple [b];pure [(G4 "self",a),(G4 "nodes",t)]):=by kernel_rfl
theorem Af (a b:Value):bindArgs fd87 ⟨[a,b],[]⟩=(do let t ← newTuple [];pure [(G4 "self",a),(G4 "node",b),(G4 "predecessors",t)]):=by kernel_rfl
theorem Ei (a b v:Value):bindArgs fd87 ⟨[a,b,v],[]⟩=(do let t ← newTuple [v];pure [(G4 "self",a),(G4 "node",b),(G4 "predecessors",t)]):=by kernel_rfl
section
variable {w:World} {os:OsState}
theorem sX {n:Nat} {fa:Addr} {od:Option Addr} {osl:Array (Option Value)} {fd:FuncData} {body:List Stmt} {fixd:List (Str×Value)} {x:Str} {rest:List Value} {args:Args} {τ:PH} {R RX:Value→PH→Prop}
  (hK:∀ P,(H3 P).lookup fa=some ⟨.type "function",od,.func fd,osl⟩) (hcd:∀ P,codeIn (H3 P) fd.code fd.qualname=true) (hbody:fd.body=.stmts body)
  (hbind:bindArgs fd args=(do let t ← newTuple rest;pure (fixd++[(x,t)]))) (hsz:rest.length≤10000)
  (h:∀ (A:Around) (L:Addr) (tp:Addr),τ tp=none→Room n (cx w os A fd fa L).A→W (cx w os A fd fa L) (execs body (cx w os A fd fa L).env) (G5 τ tp (H4 rest)) (iw (fixd++[(x,.ref tp)])) (fun fl τ' O=>∃ τ'',(∀ b o,τ'' b=some o→τ' b=some o)∧R (match fl with | .ret v=>v | _=>.none) τ'') (fun e τ' m'=>W (cx w os A fd fa L) (leaving (cx w os A fd fa L).env e) τ' m' (fun O τ'' O=>RX e τ'') (fun e' τ'' O=>RX e' τ'')))
  (hclo:autoParam (fd.closure=[]) aR) (hco:autoParam (fd.scope.isCoroutine=false) aK) (hgen:autoParam (fd.scope.isGenerator=false) aK) (hk:autoParam (fd.scope.kind=.function) aK) (hap:autoParam (jN fd.scope=true) aK)
  (hkind:∀ n v,((fixd++[(x,v)]).all fun (y:Str×Value)=>fd.scope.names.lookup y.1==some NameKind.local||(fd.scope.names.lookup y.1==some NameKind.cell&&((cellsFrom n fd.scope.names []).lookup y.1).isSome))=true:=by intro _ _;kernel_rfl) :
  Spec w os (n+1) (.ref fa) args τ R RX :=
 Spec.less (Bv (B:=fun binds τ1=>∃ tp,τ tp=none∧binds=fixd++[(x,.ref tp)]∧τ1=G5 τ tp (H4 rest)) (hK _) (hcd _) hbody hclo hco hgen hk hap (fun s A Q E hs hQ=>by
   rw [hbind];obtain ⟨hf,st⟩:=HStep.new (o:=H4 rest) hs rfl;refine wpAny_bind (wpAny_newObj_type (wpAny_pure (hQ _ _ _ ⟨_,hf,rfl,rfl⟩ st)) ?_);show rest.toArray.size≤sizeLine;rw [dH,sizeLine_eq];exact (kq1 774468103649805368836513) hsz)
  (fun k binds τ1 hB y hy=>by
   refine R4 hB fun tp O zB O=>?_;clear hB;obtain rfl:=zB;have z:=List.all_eq_true.mp (hkind k (.ref tp)) y hy;rcases Bool.or_eq_true_iff.mp z with z | z
   ·exact .inl (by simpa using z)
   ·obtain ⟨z1,z2⟩:=Bool.and_eq_true_iff.mp z;exact .inr ⟨by simpa using z1,z2⟩)
  (fun A L binds τ1 hB hr=>by
   refine R4 hB fun tp hf zC zD=>?_;clear hB;obtain rfl:=zC;obtain rfl:=zD;exact h A L tp hf hr)) fun v τ' h=>h
end
theorem q1 {a b c:Nat} (h:autoParam (a≤b) aA) (k:autoParam (Nat.ble b c=true) aR):a≤c:=W2 h (Nat.le_of_ble_eq_true k)
theorem q2 {a b c:Nat} (h:autoParam (a≤b) aA) (k:autoParam (Nat.ble (b+1) c=true) aR):a<c:=qF h (Nat.le_of_ble_eq_true k)
theorem q3 {a b c:Nat} (h:autoParam (a≤b) aA) (k:autoParam (b≤c) aA):a≤c:=W2 h k
theorem q4 {a b c:Nat} (h:autoParam (a<b) aA) (k:autoParam (b≤c) aA):a<c:=Nat.lt_of_lt_of_le h k
theorem q5 {a b c:Nat} (h:autoParam (a≤b) aA) (k:autoParam (b<c) aA):a<c:=qF h k
theorem q6 {a c:Nat} (h:autoParam (a<c) aA):a≤c:=Nat.le_of_lt h
theorem q7 {a b c:Nat} (h:autoParam (a<b) aA) (k:autoParam (b<c) aA):a<c:=Nat.lt_trans h k
theorem q8 {a b c:Nat} (h:autoParam (a<b) aA) (k:autoParam (b≤c) aA):a≤c:=W2 (Nat.le_of_lt h) k
theorem q9 {a b:Nat} (h:autoParam (¬b<a) aA):a≤b:=Nat.le_of_not_lt h
noncomputable abbrev nQ (l u:Value):Obj:={ cls:=.type "slice",data:=.fields #[l,u,.none] }
section
variable {c:Cx} {τ:PH} {m:Lo} {X:PV}
theorem vB {lower upper:Option Expr} {p:Pos} {Q:PV} (h:W c (evalPart lower c.env) τ m (fun l τ1 m1=>W c (evalPart upper c.env) τ1 m1 (fun u τ2 m2=>∀ a,τ2 a=none→Q (.ref a) (G5 τ2 a (nQ l u)) m2) X) X):W c (eval (.Slice lower upper none p) c.env) τ m Q X:=fun s hs =>
 wpAny_Slice (h.use hs (fun l s1 τ1 m1 st1 q₁=>q₁.use st1.at_ (fun u s2 τ2 m2 st2 q₂=>by
  rw [evalPart_none];exact wpAny_pure ⟨_,_,(st1.trans st2).trans (Step.new (m:=m2) (o:=nQ l u) st2.at_ rfl),q₂ _ st2.at_.fresh⟩) (fun O O τ' m' st q=>⟨τ',m',st1.trans st,q⟩)) xx)
theorem lz {Q:PV} (h:Q .none τ m):W c (evalPart none c.env) τ m Q X:=jl h
theorem gr {e:Expr} {Q:PV} (h:W c (eval e c.env) τ m Q X):W c (evalPart (some e) c.env) τ m Q X:=h
theorem Fb {x y:Str} {t u:Tok} {Q:PV} (h:Q (.bool (Txt.startswith x y)) τ m):W c (PySem.call (.builtin "str.startswith") [.str x t,.str y u]) τ m Q X:=V8 (fun Q E s hs h=>SC.startswith h) h
theorem FP {x y:Str} {t u:Tok} {Q:PV} (h:Q (.bool (Txt.endswith x y)) τ m):W c (PySem.call (.builtin "str.endswith") [.str x t,.str y u]) τ m Q X:=V8 (fun Q E s hs h=>SC.endswith h) h
theorem zj {x:Str} {t:Tok} {pl:Sem Bool} {Q:PM} (h:Q (.builtin "str.startswith",[.str x t]) τ m):W c (getMethod (.str x t) "startswith" pl) τ m Q X:=V8 (fun Q E s hs h=>GM.startswith h) h
theorem yg {x:Str} {t:Tok} {pl:Sem Bool} {Q:PM} (h:Q (.builtin "str.endswith",[.str x t]) τ m):W c (getMethod (.str x t) "endswith" pl) τ m Q X:=V8 (fun Q E s hs h=>GM.endswith h) h
theorem Ej {x:Str} {t:Tok} {pl:Sem Bool} {Q:PM} (h:Q (.builtin "str.split",[.str x t]) τ m):W c (getMethod (.str x t) "split" pl) τ m Q X:=V8 (fun Q E s hs h=>GM.split h) h
theorem Fd {x:Str} {t:Tok} {pl:Sem Bool} {Q:PM} (h:Q (.builtin "str.join",[.str x t]) τ m):W c (getMethod (.str x t) "join" pl) τ m Q X:=V8 (fun Q E s hs h=>GM.join h) h
theorem FW {x y:Str} {t u:Tok} {Q:PV} (hy:(y.length==0)=false) (hsz:x.length≤10000) (hsz2:(Builtin.Str.partsBetween x (Builtin.Str.occurrences x y 0 x.length (x.length+1)) y.length).length≤10000)
  (h:∀ a l,τ a=none→l.map (·.1)=Txt.split x y→Q (.ref a) (G5 τ a (G3 (strValues l) 0)) m):W c (PySem.call (.builtin "str.split") [.str x t,.str y u]) τ m Q X:=fun s hs=>by
 cases h1:(decide (x.length<y.length)||decide (Builtin.Str.strKind x<Builtin.Str.strKind y))
 ·cases hf:(Builtin.Str.occurrences x y 0 x.length (x.length+1)).isEmpty
  ·refine call_meets F.slot_str_split (typeIs_str _ _ _) F.entry_str_split (F.args_str_split_2 _ _) (meets_str_split_sep x y t u h1 hy hf (by rw [sizeLine_eq];exact q1) (by rw [sizeLine_eq];exact q1)) ?_;show wants _ _ _ { s with toks:=_,heap:=s.heap.push { cls:=.type "list",data:=.seq (strsFrom s.toks (Builtin.Str.partsBetween x (Builtin.Str.occurrences x y 0 x.length (x.length+1)) y.length)).toArray } };rw [strsFrom_eq];exact ⟨_,m,(Step.new (m:=m) (o:=G3 _ 0) hs rfl).tk _,h _ (numbered s.toks _) hs.fresh ((numbered_texts _ _).trans ((if_neg (ne_true_of_eq_false h1)).trans (if_neg (ne_true_of_eq_false hf))).symm)⟩
  ·exact call_meets F.slot_str_split (typeIs_str _ _ _) F.entry_str_split (F.args_str_split_2 _ _) (meets_str_split_not_found x y t u h1 hy hf)
    ⟨_,m,(Step.new (m:=m) (o:=G3 _ 0) hs rfl),h _ [(x,t)] hs.fresh ((if_neg (ne_true_of_eq_false h1)).trans (if_pos hf)).symm⟩
 ·exact call_meets F.slot_str_split (typeIs_str _ _ _) F.entry_str_split (F.args_str_split_2 _ _) (meets_str_split_cannot_occur x y t u h1)
   ⟨_,m,(Step.new (m:=m) (o:=G3 _ 0) hs rfl),h _ [(x,t)] hs.fresh (if_pos h1).symm⟩
theorem Cp {x:Str} {t:Tok} {D:Addr} {l:List (Str×Tok)} {n:Nat} {Q:PV} (hl:τ D=some (G3 (strValues l) n)) (hok:JoinOk x (l.map (·.1))=true) (h:∀ t',Q (.str (Txt.join x (l.map (·.1))) t') τ m):W c (PySem.call (.builtin "str.join") [.str x t,.ref D]) τ m Q X :=
 cg (fun Q E s hs h=>SC.join (Z9 hs hl) rfl hok fun t' k=>h k t') h
theorem rI {body orelse:List Stmt} {h0:ExceptHandler} {hs:List ExceptHandler} {pos:Pos} {Q:PF}
  (h:W c (execs body c.env) τ m (fun f τ' m'=>match f with | .next=>W c (execs orelse c.env) τ' m' Q X | f=>Q f τ' m') (fun e τ' m'=>W c (noteFrame e c.env) τ' m' (fun O τ2 m2=>W c (setFlight e none) τ2 m2 (fun O τ3 m3=>W c (handleBy e c.env (h0::hs)) τ3 m3 Q X) X) X)) :
  W c (exec (.Try body (h0::hs) orelse [] pos) c.env) τ m Q X:=fun s hs' =>
 wpAny_Try_except (h.use hs' (fun f s1 τ1 m1 st1 q₁=>by
  cases f with
  | next=>exact W.cont q₁ st1
  | _=>exact ⟨τ1,m1,st1,q₁⟩) fun e s1 τ1 m1 st1 q₁=>q₁.use st1.at_ (fun O s2 τ2 m2 st2 q₂=>q₂.use st2.at_ (fun O s3 τ3 m3 st3 q3=>W.cont q3 ((st1.trans st2).trans st3)) fun O O τ' m' st q=>⟨τ',m',(st1.trans st2).trans st,q⟩) fun O O τ' m' st q=>⟨τ',m',st1.trans st,q⟩)
theorem sJ {τ:PH} {a:Addr} {o:Obj} (ha:τ a=none):∀ b o',τ b=some o'→G5 τ a o b=some o':=fun O O e=>O9 ha e
theorem Ey {x:Str} {t:Tok} {a:Addr} {l u:Option (Int×Tok)} {Q:PV} (ha:τ a=none) (hsz:x.length≤10000) (h:∀ t',Q (.str (Txt.slice x (l.map (·.1)) (u.map (·.1))) t') τ m):W c (getItem (.str x t) (.ref a)) (G5 τ a (nQ (partValue l) (partValue u))) m Q X:=fun s hs =>
 wpAny_getItem_str_slice (l:=l) (u:=u) (st:=none) ⟨_,hs.keep _ _ I4,rfl,rfl⟩ rfl (post_val_or_str ⟨W2 (Txt.slice_le x _ _) (by rw [sizeLine_eq];exact q1),fun t' k=>⟨τ,m,(Step.toks hs k).weaken (sJ ha),h t'⟩⟩)
theorem Al {l a:Addr} {vs:List Value} {n:Nat} {vl vu:Value} {lo hi:Option Int} {Q:PV} (hl:τ l=some (G3 vs n)) (hn:vs.length≤10000) (ha:τ a=none) (pl:IsPart vl lo) (pu:IsPart vu hi) (us:List Value) (hu:slicePick vs.toArray lo hi none=us.toArray)
  (h:∀ b,τ b=none→Q (.ref b) (G5 τ b (G3 us 0)) m):W c (getItem (.ref l) (.ref a)) (G5 τ a (nQ vl vu)) m Q X:=fun s hs=>by
 refine wpAny_getItem_list_slice (Z9 hs (sJ ha _ _ hl)) ⟨_,hs.keep _ _ I4,rfl,rfl⟩ pl pu IsPart.none (by intro z;cases z) ?_ (by rw [sizeLine_eq];simp;exact q1);rw [hu];have hf:=hs.fresh;have hf':τ s.heap.objs.size=none:=by
  unfold G5 at hf;split at hf
  ·cases hf
  ·exact hf
 refine ⟨_,m,(Step.new (m:=m) hs rfl).weaken (τ'':=G5 τ s.heap.objs.size (G3 us 0)) (fun b o e=>?_),h _ hf'⟩;unfold G5 at e ⊢;split
 ·rename_i q;rw [if_pos q] at e;exact e
 ·rename_i q;rw [if_neg q] at e;split
  ·rename_i q2;subst q2;rw [ha] at e;cases e
  ·exact e
theorem qW {e:Expr} {lower upper:Option Expr} {p pos:Pos} {Q:PV}
  (h:W c (eval e c.env) τ m (fun v τ1 m1=>W c (evalPart lower c.env) τ1 m1 (fun lv τ2 m2=>W c (evalPart upper c.env) τ2 m2 (fun uv τ3 m3=>∃ x t l u,v=.str x t∧x.length≤10000∧lv=partValue l∧uv=partValue u∧∀ t',Q (.str (Txt.slice x (l.map (·.1)) (u.map (·.1))) t') τ3 m3) X) X) X) :
  W c (eval (.Subscript e (.Slice lower upper none p) pos) c.env) τ m Q X:=by
 refine T5 (W.mono h (fun v τ1 m1 q=>vB (W.mono q (fun lv τ2 m2 q=>W.mono q (fun uv τ3 m3 q a ha=>?_) fun O O O x=>x) fun O O O x=>x)) fun O O O x=>x) fun o i=>.inr rfl;obtain ⟨x,t,l,u,rfl,hsz,rfl,rfl,q⟩:=q;exact ⟨⟨"str",_,TyAt.str,F.slot_str_getitem.lookup⟩,Ey ha hsz q⟩
theorem pL {e:Expr} {lower upper:Option Expr} {p pos:Pos} {Q:PV}
  (h:W c (eval e c.env) τ m (fun v τ1 m1=>W c (evalPart lower c.env) τ1 m1 (fun lv τ2 m2=>W c (evalPart upper c.env) τ2 m2 (fun uv τ3 m3=>∃ a vs n lo hi us,v=.ref a∧τ3 a=some (G3 vs n)∧vs.length≤10000∧IsPart lv lo∧IsPart uv hi∧slicePick vs.toArray lo hi none=us.toArray∧∀ b,τ3 b=none→Q (.ref b) (G5 τ3 b (G3 us 0)) m3) X) X) X) :
  W c (eval (.Subscript e (.Slice lower upper none p) pos) c.env) τ m Q X:=by
 refine T5 (W.mono h (fun v τ1 m1 q=>vB (W.mono q (fun lv τ2 m2 q=>W.mono q (fun uv τ3 m3 q a ha=>?_) fun O O O x=>x) fun O O O x=>x)) fun O O O x=>x) fun o i=>.inr rfl;obtain ⟨b,vs,n,lo,hi,us,rfl,hl,hn,pl,pu,hu,q⟩:=q;exact ⟨⟨"list",_,TyAt.ref (sJ ha _ _ hl) rfl,list_getitem_lookup⟩,Al hl hn ha pl pu us hu q⟩
end
mutual
inductive Rd (τ:PH):Value→PyData→Prop
 | int (i t):Rd τ (.int i t) (.int i)
 | str (x t):Rd τ (.str x t) (.str x)
 | bool (b):Rd τ (.bool b) (.bool b)
 | list {a vs n xs}:τ a=some (G3 vs n)→RdAll τ vs xs→Rd τ (.ref a) (.list xs)
 | tuple {a vs xs}:τ a=some (H4 vs)→RdAll τ vs xs→Rd τ (.ref a) (.tuple xs)
inductive RdAll (τ:PH):List Value→List PyData→Prop
 | nil:RdAll τ [] []
 | cons {v vs d ds}:Rd τ v d→RdAll τ vs ds→RdAll τ (v::vs) (d::ds)
end
mutual
theorem Rd.reads {τ:PH} {h:Heap} (k:∀ b o,τ b=some o→h.get? b=some o):∀ {v d},Rd τ v d→∃ as,Reads h v d as
 | _,_,.int i t=>⟨_,.int i t⟩
 | _,_,.str x t=>⟨_,.str x t⟩
 | _,_,.bool b=>⟨_,.bool b⟩
 | _,_,.list (vs:=vs) e r=>by
  obtain ⟨as,z⟩:=RdAll.reads k r;exact ⟨_,.list (k _ _ e) rfl rfl (by simpa using z)⟩
 | _,_,.tuple e r=>by
  obtain ⟨as,z⟩:=RdAll.reads k r;exact ⟨_,.tuple (k _ _ e) rfl rfl (by simpa using z)⟩
theorem RdAll.reads {τ:PH} {h:Heap} (k:∀ b o,τ b=some o→h.get? b=some o):∀ {vs ds},RdAll τ vs ds→∃ as,ReadsAll h vs ds as
 | _,_,.nil=>⟨_,.nil⟩
 | _,_,.cons r rs=>by
  obtain ⟨as,z⟩:=Rd.reads k r;obtain ⟨bs,y⟩:=RdAll.reads k rs;exact ⟨_,.cons z y⟩
end
mutual
theorem Rd.sub {τ τ':PH} (k:∀ b o,τ b=some o→τ' b=some o):∀ {v d},Rd τ v d→Rd τ' v d
 | _,_,.int i t=>.int i t
 | _,_,.str x t=>.str x t
 | _,_,.bool b=>.bool b
 | _,_,.list e r=>.list (k _ _ e) (RdAll.sub k r)
 | _,_,.tuple e r=>.tuple (k _ _ e) (RdAll.sub k r)
theorem RdAll.sub {τ τ':PH} (k:∀ b o,τ b=some o→τ' b=some o):∀ {vs ds},RdAll τ vs ds→RdAll τ' vs ds
 | _,_,.nil=>.nil
 | _,_,.cons r rs=>.cons (Rd.sub k r) (RdAll.sub k rs)
end
section
variable {c:Cx} {τ:PH} {m:Lo} {X:PV}
theorem sI {a b:Value} {da db:PyData} {Q:PV} (ra:Rd τ a da) (rb:Rd τ b db) (ha:da.canLay0=true) (hb:db.canLay0=true) (hr:c.A.units≤9000) (hd:da.depth≤100) (h:Q (.bool (PyData.eqv da db)) τ m):W c (compareOp .Eq a b) τ m Q X :=
 V8 (fun Q E s hs h=>by
  obtain ⟨as,ra⟩:=ra.reads hs.keep;obtain ⟨bs,rb⟩:=rb.reads hs.keep;exact SeqAt.compareEq_reads ra rb ha hb (by have:cLine=9900:=rfl;lia) h) h
theorem rN {a b:Value} {da db:PyData} {Q:PV} (ra:Rd τ a da) (rb:Rd τ b db) (ha:da.canLay0=true) (hb:db.canLay0=true) (hr:c.A.units≤9000) (hd:da.depth≤100) (h:Q (.bool (!PyData.eqv da db)) τ m):W c (compareOp .NotEq a b) τ m Q X :=
 V8 (fun Q E s hs h=>by
  obtain ⟨as,ra⟩:=ra.reads hs.keep;obtain ⟨bs,rb⟩:=rb.reads hs.keep;exact SeqAt.compareNe_reads ra rb ha hb (by have:cLine=9900:=rfl;lia) h) h
theorem W.inD {x:Value} {l:Addr} {vs:List Value} {n:Nat} {dx:PyData} {ds:List PyData} {Q:PV} (hl:τ l=some (G3 vs n)) (rs:RdAll τ vs ds) (rx:Rd τ x dx) (e:Value→Bool) (he:∀ y∈vs,∃ t u z w,y=.str z t∧x=.str w u∧e y=(z==w)) (h:Q (.bool (vs.any e)) τ m):W c (compareOp .In x (.ref l)) τ m Q X :=
 V8 (fun Q E s hs h=>SeqAt.in_listAt e (Z9 hs hl) (fun y hy=>by
  refine E4_3 (he y (by simpa using hy)) fun t u z w zB zC e1=>?_;obtain rfl:=zB;obtain rfl:=zC;rw [e1];exact SeqAt.EqAt.str_str z t w u) (by simpa using h)) h
theorem Cu {x:Value} {l:Addr} {vs:List Value} {n:Nat} {Q:PV} (hl:τ l=some (G3 vs n)) (e:Value→Bool) (he:∀ y∈vs,∃ t u z w,y=.str z t∧x=.str w u∧e y=(z==w)) (h:Q (.bool (!vs.any e)) τ m):W c (compareOp .NotIn x (.ref l)) τ m Q X :=
 V8 (fun Q E s hs h=>SeqAt.notIn_listAt e (Z9 hs hl) (fun y hy=>by
  refine E4_3 (he y (by simpa using hy)) fun t u z w zD zE e1=>?_;obtain rfl:=zD;obtain rfl:=zE;rw [e1];exact SeqAt.EqAt.str_str z t w u) (by simpa using h)) h
end
noncomputable def uL (P:Params) (C fI:Addr):Bool:=makesIn (H3 P) C&&findIn (H3 P) (.ref C) "__init__"==some (some (.ref fI))&&typeIn (H3 P) (.ref fI)==some (.type "function")
theorem sU {w:World} {os:OsState} {C fI:Addr} {n:Nat} {rest:List Value} {τ:PH} {R:Value→PH→Prop} (ok:∀ P,uL P C fI=true)
  (sp:∀ x dx,τ x=none→τ dx=none→x≠dx→Spec w os n (.ref fI) ⟨.ref x::rest,[]⟩ (G5 (G5 τ dx emptyDict) x (instObj C dx)) (fun v τ'=>v=.none∧R (.ref x) τ')):Spec w os (n+1) (.ref C) ⟨rest,[]⟩ τ R:=by
 intro A s hA hs;have ok:=ok w.params;unfold uL at ok;obtain ⟨ok,h3⟩:=Bool.and_eq_true_iff.mp ok;obtain ⟨h1,h2⟩:=Bool.and_eq_true_iff.mp ok;obtain ⟨hf1,st1⟩:=HStep.new (o:=emptyDict) hs rfl;obtain ⟨hf2,st2⟩:=HStep.new (o:=instObj C s.heap.objs.size) st1.at_ rfl;have st:=st1.trans st2;obtain ⟨hh,g,d,t,o⟩:=s;rw [Heap.size_push] at hf2 st2 st;refine make_core (makes_of hs.top h1) (looks_findIn hs.top (beq_iff_eq.mp h2)) (fun self=>bind_fn hs.top self (beq_iff_eq.mp h3)) (.inl rfl) ?_;have hx:τ (hh.objs.size+1)=none:=by
  have z:=hf2;unfold G5 at z
  rwa [if_neg (Nat.succ_ne_self _)] at z
 refine codeAny_mono (sp (hh.objs.size+1) hh.objs.size hx hf1 (Nat.succ_ne_self _) (A.under (.builtin "type.__call__" ⟨.ref C::rest,[]⟩)) _ ⟨by have:=hA.depth;show A.depth+1+n≤900;exact (kq2 830768612036378983802083481951486017) this,by have:=hA.units;show A.units+1+8*n≤9000;exact (kq2 871134542536030111816399676432777865674817) this,hA.quiet⟩ (by exact ⟨st.at_.top,st.at_.keep,st.at_.low,st.at_.gens,st.at_.os,st.at_.fr,st.at_.nofr⟩)) fun r s' hb=>?_;cases r with
 | error e=>obtain ⟨τ',_,z⟩:=hb;exact z.elim
 | ok fl =>
  cases fl with
  | ret v =>
   refine R4 hb fun τ' st' zB hR=>?_;clear hb;obtain rfl:=zB;exact ⟨rfl,τ',st.trans ⟨⟨st'.at_.top,st'.at_.keep,st'.at_.low,st'.at_.gens,st'.at_.os,st'.at_.fr,st'.at_.nofr⟩,st'.keep,st'.fresh⟩,hR⟩
  | _=>exact hb.elim
section
variable {c:Cx} {τ:PH} {m:Lo} {X:PV} {K:Type} [DecidableEq K] {knd:KeyKind pw c.w K}
theorem cG {s:Shared} {d:Addr} {o:Obj} {kvs:List (K×Value)} (hs:At c τ m s) (hd:τ d=some o) (D:o.IsDictOf knd kvs):s.heap.DictOf knd d kvs:=Heap.dictOf_iff.mpr ⟨o,hs.keep _ _ hd,D⟩
theorem iu {s:Shared} {d:Addr} {o:Obj} (hs:At c τ m s) (hd:τ d=some o):(d==sysModules)=false:=by
 have:=(hs.low d o hd).1;have e:sysModules<516:=by decide +kernel
 exact beq_false_of_ne fun z=>absurd this (by rw [z];exact Nat.not_le.mpr e)
theorem xr {d:Addr} {o:Obj} {kvs:List (K×Value)} {k:K} {key:Value} {Q:PV} (hd:τ d=some o) (D:o.IsDictOf knd kvs) (hk:knd.is k key=true) (h:Q ((valueAt kvs k).getD .none) τ m):W c (PySem.call (.builtin "dict.get") [.ref d,key]) τ m Q X :=
 di (fun Q E s hs h=>call_meetsIn F.slot_dict_get (cG hs hd D).typeIs F.entry_dict_get (F.args_dict_get_2 _ _) (meets_dict_get knd d hk (iu hs hd)) ⟨_,(cG hs hd D).mapOf,h _⟩) h
theorem Cw {d:Addr} {o:Obj} {kvs:List (K×Value)} {k:K} {key dflt:Value} {Q:PV} (hd:τ d=some o) (D:o.IsDictOf knd kvs) (hk:knd.is k key=true) (h:Q ((valueAt kvs k).getD dflt) τ m):W c (PySem.call (.builtin "dict.get") [.ref d,key,dflt]) τ m Q X :=
 di (fun Q E s hs h=>call_meetsIn F.slot_dict_get (cG hs hd D).typeIs F.entry_dict_get (F.args_dict_get_3 _ _ _) (meets_dict_get_default knd d hk (iu hs hd) dflt) ⟨_,(cG hs hd D).mapOf,h _⟩) h
theorem Bp {d:Addr} {o:Obj} {kvs:List (K×Value)} {k:K} {key:Value} {Q:PV} (hd:τ d=some o) (D:o.IsDictOf knd kvs) (hk:knd.is k key=true) (h:Q (.bool (valueAt kvs k).isSome) τ m):W c (compareOp .In key (.ref d)) τ m Q X :=
 di (fun Q E s hs h=>wpAny_in_of hk (iu hs hd) (cG hs hd D).mapOf (h _)) h
theorem W.getD {d:Addr} {o:Obj} {kvs:List (K×Value)} {k:K} {key v:Value} {Q:PV} (hd:τ d=some o) (D:o.IsDictOf knd kvs) (hk:knd.is k key=true) (hv:valueAt kvs k=some v) (h:Q v τ m):W c (getItem (.ref d) key) τ m Q X :=
 di (fun Q E s hs h=>wpAny_getItem_of hk (cG hs hd D).mapOf hv (h _)) h
theorem rZ {d:Addr} {o:Obj} {kvs:List (K×Value)} {k:K} {key v:Value} {Q:PU} (hd:τ d=some o) (D:o.IsDictOf knd kvs) (hk:knd.is k key=true) (hsz:kvs.length≤10000) (h:∀ o',o'.IsDictOf knd (stored kvs k v)→Q () (G5 τ d o') m):W c (setItem (.ref d) key v) τ m Q X:=fun s hs=>by
 refine wpAny_setItem_pairs hk (cG hs hd D) (fun h' hD hsb=>?_) (by rw [sizeLine_eq];exact (kq1 774468103649805368836513) hsz);refine G8 (Heap.dictOf_iff.mp hD) fun o' ho D'=>?_;exact ⟨_,_,Step.put hs hd hsb ho,h o' D'⟩
theorem nU:emptyDict.IsDictOf knd []:=by
 have z:∀ h:Heap,emptyDict.IsDictOf knd []:=fun h=>by
  refine G8 (Heap.dictOf_iff.mp (Heap.DictOf.new (knd:=knd) h)) fun o ho D=>?_;rw [aN _ rfl] at ho;cases ho;exact D
 exact z default
end
open PySem.Builtin PySem.Builtin.ObjectAttr PySem.Builtin.Getset_descriptor PySem.Calls
noncomputable abbrev lE (C dx:Addr) (sl:Array (Option Value)):Obj:={ cls:=.ref C,dict:=some dx,data:=.plain,slots:=sl }
noncomputable def vW (P:Params) (C:Addr) (name:Str) (p:Addr) (i:Nat):Bool:=plainGet (H3 P) C name&&isClsIn (H3 P) C&&findIn (H3 P) (.ref C) name==some (some (.ref p))&&specialIn (H3 P) (.ref p) "__get__"==some (some (.builtin "member_descriptor.__get__"))&&takesIn (H3 P) (.ref p)==some true&&slotIn (H3 P) p C==some i
section
variable {c:Cx} {τ:PH} {m:Lo} {X:PV}
theorem eV {x C dx p:Addr} {i:Nat} {sl:Array (Option Value)} {od:Obj} {name:Str} {v:Value} {expr:Bool} {Q:PV} (hx:τ x=some (lE C dx sl)) (hd:τ dx=some od) (hv:(sl[i]?).join=some v)
  (ok:vW c.w.params C name p i=true) (hh:handedIn v=true) (h:Q v τ m):W c (getAttr (.ref x) name expr) τ m Q X:=fun s hs=>by
 unfold vW at ok;simp only [Bool.and_eq_true,beq_iff_eq] at ok;obtain ⟨⟨⟨⟨⟨hg,hc⟩,ha⟩,hn⟩,ht⟩,hp⟩:=ok;have I:InstAt s.heap x (lE C dx sl) C (some od):=⟨hs.keep x _ hx,rfl,rfl,hs.keep dx _ hd⟩
 exact get_bind hs.top I (plainGet_of hg).1 (findObj_data hc ha hn ht) (plainGet_of hg).2 (wpAny_call (slot_get (s:={ s with toks:=s.toks+1 }) hs.top I hp hv (handed_on hh ⟨τ,m,Step.toks hs _,h⟩)))
theorem Cz {A:Around} {w:World} {R:Result→Shared→Prop} {K:Frag} {s:Shared} {x C p:Addr} {i:Nat} {ox:Obj} {od:Option Obj} {v:Value} (X:K.In s.heap) (I:InstAt s.heap x ox C od) (hp:slotIn K p C=some i) (hi:i<1000)
  (h:R (.ok (.ret .none)) { s with heap:=s.heap.update x (fun o=>{ o with slots:=(o.slots++Array.replicate (i+1-o.slots.size) none).setIfInBounds i (some v) }) }) :
  codeAny (model pw w) A (.call (.builtin "member_descriptor.__set__") ⟨[.ref p,.ref x,v],[]⟩) R s:=by
 refine E8_5 (slot_of X hp) fun n tn owner behind tb d sl cd ho hc hm hb zB=>?_;obtain rfl:=zB;obtain ⟨hh,g,dr,t,os⟩:=s;have L0:=I.type (M:=model pw w);have L1:=looks_mroIn (M:=model pw w) X hm;have L2:Looks (model pw w) hh (Builtin.Slots.slotNamesOf (.ref C)) cd.slotNames:=(looks_clsIn X hc).andThen .now;have hx:=I.at_;dsimp only at ho hx L0 L1;have f0:=looks_field (M:=model pw w) ho 0 (v:=.str n tn) rfl;have f1:=looks_field (M:=model pw w) ho 1 (v:=owner) rfl;have f3:=looks_field (M:=model pw w) ho 3 (v:=.builtin "proto.slot#set") rfl;have f4:=looks_field (M:=model pw w) ho 4 (v:=.int behind tb) rfl;refine codeAny_call_builtin KF.slot_mset.plain KF.entry_mset (KF.slot_mset.check _ _ _ _ _ _ _ _ ⟨_,ho,rfl⟩ (KF.args_mset _ _ _) ?_);unfold Builtin.«member_descriptor.__set__» descrSet descrStoreThrough descrCheckInstance descrNameAndClass isInstance;have f5:Looks (model pw w) hh (descrItself (.ref p)) [.ref p]:=((Looks.ld (part:=none) ho).andThen .now).andThen (Looks.of_pure (by kernel_rfl));repeat lk
 refine ⟨Code.quiet_builtin _ (by decide +kernel),codeAny_builtin KF.entry_slotset ?_⟩;unfold Builtin.«proto.slot#set» Slots.target;repeat lk
 rw [if_neg hb];refine wpAny_pure (wpAny_bind ?_);unfold setSlotAt;dsimp only;rw [if_neg (by rw [sizeLine_eq];exact (kq2 32757008656963622933319449475518909953) hi)];exact wpAny_updatePart hx (wpAny_pure h)
noncomputable def uc (P:Params) (C:Addr) (name:Str) (p:Addr) (i:Nat):Bool:=findIn (H3 P) (.ref C) "__setattr__"==some (some (.builtin "object.__setattr__"))&&plainOver (H3 P) C&&takerIn (H3 P) C name==some (some (.ref p))&&typeIn (H3 P) (.ref p)==some (.type "member_descriptor")&&slotIn (H3 P) p C==some i
theorem iI {x C dx p:Addr} {i:Nat} {sl:Array (Option Value)} {od:Obj} {name:Str} {v:Value} {Q:PU} (hx:τ x=some (lE C dx sl)) (hd:τ dx=some od) (hi:i<1000) (ok:uc c.w.params C name p i=true)
  (h:Q () (G5 τ x (lE C dx ((sl++Array.replicate (i+1-sl.size) none).setIfInBounds i (some v)))) m):W c (setAttr (.ref x) name v) τ m Q X:=fun s hs=>by
 unfold uc at ok;simp only [Bool.and_eq_true,beq_iff_eq] at ok;obtain ⟨⟨⟨⟨h1,h2⟩,h3⟩,h4⟩,h5⟩:=ok;have I:InstAt s.heap x (lE C dx sl) C (some od):=⟨hs.keep x _ hx,rfl,rfl,hs.keep dx _ hd⟩
 refine set_plain hs.top I h1 (osa_descr (s:={ s with toks:=s.toks+1 }) KF.slot_mset hs.top I h2 h3 h4 (Cz (s:={ s with toks:=s.toks+1 }) hs.top I h5 hi ?_));exact ⟨_,m,Step.put hs hx (Heap.SameBut.update ..) (Heap.get?_update_self _ (hs.keep _ _ hx) rfl),h⟩
end
section
variable {c:Cx} {τ:PH} {m:Lo} {X:PV}
theorem wY {x:Str} {p pos:Pos} {e:Expr} {Q:PV} (hk:bO c.env x=true) (h:W c (eval e c.env) τ m (fun v τ1 m1=>Q v τ1 (upd m1 x v)) X):W c (eval (.NamedExpr (.Name x p) e pos) c.env) τ m Q X:=fun s hs =>
 wpAny_NamedExpr (h.use hs (fun v s' τ' m' st q=>W.cont (oE (Q:=fun O=>Q v) hk q) st) xx)
theorem cZ {t1 t2 value:Expr} {pos:Pos} {Q:PF} (h:W c (eval value c.env) τ m (fun v τ1 m1=>W c (assign t1 c.env v) τ1 m1 (fun O τ2 m2=>W c (assign t2 c.env v) τ2 m2 (fun O=>Q .next) X) X) X)
  (he:autoParam ((assignEach [t1,t2] c.env).map (·.2)=[assign t1 c.env,assign t2 c.env]) aR) (hw:autoParam (swappedStores [t1,t2] value c.env=pure none) aR):W c (exec (.Assign [t1,t2] value pos) c.env) τ m Q X:=fun s hs =>
 wpAny_Assign_two (h.use hs (fun v s1 τ1 m1 st1 q1=>q1.use st1.at_ (fun O s2 τ2 m2 st2 q2=>W.cont q2 (st1.trans st2)) (fun O O τ' m' st q=>⟨τ',m',st1.trans st,q⟩)) xx) he hw
theorem uz {a k:List Value} {Q:PU} (h:Q () τ m):W c (release a k) τ m Q X:=V8 (fun Q E s hs h=>wpAny_release h) h
noncomputable abbrev KSA (c:Cx) (attr:Str) (v:Value) (Q:PU) (X:PV):PV:=fun o τ m=>W c (setAttr o attr v) τ m Q X
noncomputable abbrev KSI2 (c:Cx) (o v:Value) (Q:PU) (X:PV):PV:=fun i τ m=>W c (setItem o i v) τ m Q X
noncomputable abbrev KSI (c:Cx) (i:Expr) (v:Value) (Q:PU) (X:PV):PV:=fun o τ m=>W c (eval i c.env) τ m (KSI2 c o v Q X) X
theorem dZ {o:Expr} {attr:Str} {pos:Pos} {v:Value} {Q:PU} (h:W c (eval o c.env) τ m (KSA c attr v Q X) X):W c (assign (.Attribute o attr pos) c.env v) τ m Q X:=by
 rw [arm_assign_Attribute];exact T4 (gY (W.mono h (fun ov τ1 m1 q=>T4 (iY (T4 (gY (W.mono q (fun O O O q=>uz q) fun O O O x=>x))))) fun O O O x=>x))
theorem tW {o i:Expr} {pos:Pos} {v:Value} {Q:PU} (h:W c (eval o c.env) τ m (KSI c i v Q X) X):W c (assign (.Subscript o i pos) c.env v) τ m Q X:=by
 rw [arm_assign_Subscript];exact T4 (gY (W.mono h (fun ov τ1 m1 q=>T4 (gY (W.mono q (fun iv τ2 m2 q=>T4 (iY (T4 (gY (W.mono q (fun O O O q=>uz q) fun O O O x=>x))))) fun O O O x=>x))) fun O O O x=>x))
end
local macro_rules | `(tactic| walk_at "mv") => `(tactic| first | with_reducible exact jc | with_reducible assumption | ((with_reducible refine' iV ?mvk ?mvr); (case mvk => kernel_rfl); (case mvr => walk_at "mv")))
local macro_rules | `(tactic| walk_at "nm") => `(tactic| (refine' Br ?nmv ?nmk ?_; (case nmv => walk_at "mv"); (case nmk => kernel_rfl)))
theorem Fi {w:World} {os:OsState} (x:Str) (t:Tok):lu w os 3 (.ref 453) ⟨[.str x t],[]⟩ (fun v=>∃ t',v=.str (G4 "/") t'):=by
 refine ir k453 cd453 rfl (binds:=[(G4 "path",.str x t)]) (V9 (fun P=>by kernel_rfl)) fun A L hr=>?_;show W _ _ _ (upd (fun O=>none) (G4 "path") (.str x t)) _ _;refine W7 fun Q X hQ=>?_;refine G6 (K6 ?_);refine U7 (K8 (I9 (.builtin "isinstance") (I2 rfl (G7 ?_))));walk_at "nm";refine G7 (I9 (.type "bytes") (H5 ?_));refine rY (I6 ?_);refine G6 (Y9 (O8 fun t'=>?_));exact hQ ⟨noH,fun O O e=>e,rfl,t',rfl⟩
theorem Eh {c:Cx} {τ:PH} {m:Lo} {X:PV} {tp:Addr} {Q:PV} (ht:τ tp=some (H4 [.type "str",.type "bytes"])) (h:Q (.bool true) τ m):W c (PySem.call (.builtin "issubclass") [.type "str",.ref tp]) τ m Q X :=
 V8 (fun Q E s hs h=>Ck (hs.keep _ _ ht) h) h
theorem oY {w:World} {os:OsState} (x:Str) (t:Tok):lu w os 3 (.ref 439) ⟨[.str x t],[]⟩ (fun v=>v=.str x t):=by
 refine ir k439 cd439 rfl (binds:=[(G4 "path",.str x t)]) (V9 (fun P=>by kernel_rfl)) fun A L hr=>?_;show W _ _ _ (upd (fun O=>none) (G4 "path") (.str x t)) _ _;refine W7 fun Q X hQ=>?_;refine G6 (K3 (K8 (I9 (.type "type") (I2 rfl (G7 ?_)))));walk_at "nm";refine H5 (FN ?_);refine G6 (K6 (U7 (K8 (I9 (.builtin "issubclass") (I2 rfl (G7 ?_))))));walk_at "nm";refine G7 (U6 (G7 (I9 (.type "str") (G7 (I9 (.type "bytes") (H5 ⟨by decide,fun tp htp=>?_⟩))))));refine H5 (Eh I4 (I6 ?_));refine G6 (Y9 ?_);walk_at "nm";exact hQ ⟨noH,fun O O e=>(by cases e),rfl,rfl⟩
noncomputable def cC (a b:Str):Str:=if Txt.startswith b (G4 "/")||decide (a.length=0) then b else if Txt.endswith a (G4 "/") then a++b else a++(G4 "/"++b)
theorem join_ {w:World} {os:OsState} (x y:Str) (t u:Tok) (hx:x.length≤1000) (hy:y.length≤1000):lu w os 4 (.ref 460) ⟨[.str x t,.str y u],[]⟩ (fun v=>∃ t',v=.str (cC x y) t'):=by
 refine sX k460 cd460 rfl (fixd:=[(G4 "a",.str x t)]) (x:=G4 "p") (rest:=[.str y u]) (yI _ _) (by simp) fun A L tp htp hr=>?_;show W _ _ _ (upd (upd (fun O=>none) (G4 "a") (.str x t)) (G4 "p") (.ref tp)) _ _;have hr3:Room 3 (cx w os A fd460 460 L).A:=hr;refine G6 (O7 (O8 fun O=>?_));refine G6 (K3 (K8 (I9 (.ref 439) (I2 (by kernel_rfl) (G7 ?_)))));walk_at "nm";refine H5 (iJ (oY x t) hr3 fun v hv=>?_);subst hv;refine G6 (K3 (K8 (I9 (.ref 453) (I2 (by kernel_rfl) (G7 ?_)))));walk_at "nm";refine H5 (iJ (Fi x t) hr3 fun v hv=>?_);obtain ⟨t1,rfl⟩:=hv;refine G6 (K3 ?_);walk_at "nm";refine G6 (rI (G6 (aB ?_)));walk_at "nm";refine R0 _ _ _ (Iters.tuple hr.quiet I4) (Q0 (fun i τ' m'=>τ'=G5 noH tp (H4 [.str y u])∧(match i with | 0=>m'=_ | _=>∃ t',vl m' "path" (.str (cC x y) t'))) ⟨rfl,rfl⟩ (fun i τ' m' hJ b O=>by rw [hJ.1]) ?_ ?_)
 ·rintro i v τ' m' hi hv ⟨rfl,hm⟩;have:i=0:=by simp at hi;exact (kq1 756079137) hi
  subst this;obtain rfl:m'=_:=hm;obtain rfl:Value.str y u=v:=by simpa using hv
  refine I8 ?_;refine G6 (K3 (K8 (I9 (.ref 439) (I2 (by kernel_rfl) (G7 ?_)))));walk_at "nm";refine H5 (iJ (oY y u) hr3 fun v hv=>?_);subst hv;refine G6 (K6 (aQ (gQ (U7 (N7 ?_)))));walk_at "nm";refine zj (I2 rfl (G7 ?_));walk_at "nm";refine H5 (Fb (I6 ?_));cases hst:Txt.startswith y (G4 "/")
  ·refine bF rfl ?_;refine gQ (jC (U7 ?_));walk_at "nm";refine kW (lr (by assumption)) ?_;by_cases h0:x.length=0
   ·refine bT (by simp only [h0,ne_eq,not_true_eq_false,decide_false,Bool.not_false]) ?_;refine G6 (K3 ?_);walk_at "nm";refine G9 (G9 ⟨rfl,⟨u,?_⟩⟩);have e:cC x y=y:=by unfold cC;rw [hst];simp [h0]
    rw [e];exact jc
   ·refine bF (by simp only [h0,ne_eq,not_false_eq_true,decide_true,Bool.not_true]) ?_;refine pP ?_;refine Q7 rfl ?_;refine G6 (K6 (U7 (N7 ?_)));walk_at "nm";refine yg (I2 rfl (G7 ?_));walk_at "nm";refine H5 (FP (I6 ?_));cases hen:Txt.endswith x (G4 "/")
    ·refine Q7 rfl ?_;refine G6 (iC (v₀:=.str x t) (by walk_at "mv") (by kernel_rfl) (M3 ?_));walk_at "nm";walk_at "nm";refine gk (by rw [sizeLine_eq];show 1+_≤_;exact (kq1 793055338155890761930875297) hy) fun t2=>?_;refine xB (by rw [sizeLine_eq,Str.length_append];show _+(1+_)≤_;exact (kq2 892900931351419038904178705873520429080993) hx hy) fun t3=>?_;refine G9 (G9 (G9 ⟨rfl,⟨t3,?_⟩⟩));have e:cC x y=x++(G4 "/"++y):=by unfold cC;rw [hst,hen];simp [h0]
     rw [e];exact jc
    ·refine W8 rfl ?_;refine G6 (iC (v₀:=.str x t) (by walk_at "mv") (by kernel_rfl) ?_);walk_at "nm";refine xB (by rw [sizeLine_eq];exact (kq2 871973565772250125432791041079614874017) hx hy) fun t3=>?_;refine G9 (G9 (G9 ⟨rfl,⟨t3,?_⟩⟩));have e:cC x y=x++y:=by unfold cC;rw [hst,hen];simp [h0]
     rw [e];exact jc
  ·refine W8 rfl ?_;refine G6 (K3 ?_);walk_at "nm";refine G9 (G9 ⟨rfl,⟨u,?_⟩⟩);have e:cC x y=y:=by unfold cC;rw [hst];rfl
   rw [e];exact jc
 ·rintro τ' m' ⟨rfl,hm⟩;obtain ⟨t',hm⟩:∃ t',vl m' "path" (.str (cC x y) t'):=hm;refine G9 (G9 (G9 (G6 (Y9 ?_))));walk_at "nm";exact M8 noH (fun O O e=>(by cases e)) rfl ⟨t',rfl⟩
theorem Di {w:World} {os:OsState} (x:Str) (t:Tok) (hx:x.length≤1000) (h1:Txt.slice x none (some 1)=G4 "/") (h2:(Txt.slice x (some 1) (some 2)==G4 "/")=false) :
  Spec w os 4 (.ref 467) ⟨[.str x t],[]⟩ noH (fun v τ'=>∃ tp t1 t2 t3,v=.ref tp∧τ'=G5 noH tp (H4 [.str (G4 "") t1,.str (G4 "/") t2,.str (Txt.slice x (some 1) none) t3])):=by
 refine ir k467 cd467 rfl (binds:=[(G4 "p",.str x t)]) (V9 (fun P=>by kernel_rfl)) fun A L hr=>?_;show W _ _ _ (upd (fun O=>none) (G4 "p") (.str x t)) _ _;refine W7 fun Q X hQ=>?_;have hr3:Room 3 (cx w os A fd467 467 L).A:=hr;refine G6 (O7 (O8 fun O=>?_));refine G6 (K3 (K8 (I9 (.ref 439) (I2 (by kernel_rfl) (G7 ?_)))));walk_at "nm";refine H5 (iJ (oY x t) hr3 fun v hv=>?_);subst hv;refine G6 (K6 (U7 (K8 (I9 (.builtin "isinstance") (I2 rfl (G7 ?_))))));walk_at "nm";refine G7 (I9 (.type "bytes") (H5 (rY (I6 ?_))));refine G6 (K3 (O8 fun t2=>?_));refine G6 (K3 (O8 fun t1=>G9 ?_));refine G6 (K6 (J0 (qW ?_)));walk_at "nm";refine lz (gr (J9 fun O=>(I4_5 x t none (some (1,_)) rfl (lq (by assumption)) rfl rfl (fun t'=>?_))));show W _ _ _ _ _ _;walk_at "nm";refine pM (I6 ?_);refine Q7 (by simp only [Option.map_none,Option.map_some,h1,bne_self_eq_false]) ?_;refine G6 (K6 (aQ (gQ (J0 (qW ?_)))));walk_at "nm";refine gr (J9 fun k1=>gr (J9 fun k2=>(I4_5 x t (some (1,k1)) (some (2,k2)) rfl (lq (by assumption)) rfl rfl (fun t'=>?_))));show W _ _ _ _ _ _;walk_at "nm";have h2':(Txt.slice x (some 1) (some 2) != G4 "/")=true:=by rw [bne,h2];rfl
 refine pM (I6 ?_);refine bT (by simp only [Option.map_none,Option.map_some,h2']) ?_;refine G6 (Y9 (U6 (G7 ?_)));walk_at "nm";refine G7 ?_;walk_at "nm";refine G7 (qW ?_);walk_at "nm";refine gr (J9 fun k1=>lz (I4_5 x t (some (1,k1)) none rfl (lq (by assumption)) rfl rfl (fun t3=>?_)));refine H5 ⟨leB rfl,fun tp htp=>?_⟩;exact hQ (H6 _ (fun O O e=>e) (lH tp t1 t2 t3 rfl rfl))
noncomputable def V5 (acc:List (Str×Tok)) (p:Str×Tok):List (Str×Tok) :=
 bif decide (p.1.length=0)||p.1==G4 "." then acc else bif p.1==G4 ".." then acc.dropLast else acc++[p]
theorem yf (acc:List (Str×Tok)) (p:Str×Tok):(V5 acc p).length≤acc.length+1:=by
 unfold V5;cases (decide (p.1.length=0)||p.1==G4 ".") <;> cases (p.1==G4 "..") <;> simp <;> exact (kq1 22096199713)
theorem Dl (acc:List (Str×Tok)) (p:Str×Tok) (h:∀ q∈acc,(q.1==G4 "..")=false):∀ q∈V5 acc p,(q.1==G4 "..")=false:=by
 unfold V5;intro q hq;cases h1:(decide (p.1.length=0)||p.1==G4 ".") with
 | true=>rw [h1] at hq;exact h q hq
 | false =>
  rw [h1] at hq;cases h2:(p.1==G4 "..") with
  | true=>rw [h2] at hq;exact h q (List.dropLast_subset _ hq)
  | false =>
   rw [h2] at hq;rcases List.mem_append.mp hq with z | z
   ·exact h q z
   ·rw [I7] at z;subst z;exact h2
theorem vy:∀ (l acc:List (Str×Tok)),(∀ q∈acc,(q.1==G4 "..")=false)→∀ q∈l.foldl V5 acc,(q.1==G4 "..")=false
 | [],_,h=>h
 | p::r,acc,h=>vy r _ (Dl acc p h)
theorem xE:∀ (l acc:List (Str×Tok)),(l.foldl V5 acc).length≤acc.length+l.length
 | [],acc=>by simp
 | p::r,acc=>by
  have h1:=yf acc p;have h2:=xE r (V5 acc p);simp only [List.foldl_cons,R8];exact (kq4 24880382798654013985865793) h1 h2
theorem bx (a b:List (Str×Tok)):strValues (a++b)=strValues a++strValues b:=by simp [strValues]
theorem Z0 {τ:PH} {a:Addr} {o o':Obj}:G5 (G5 τ a o) a o'=G5 τ a o':=by
 funext b;unfold G5;split <;> rfl
theorem qw {op:UnaryOp} {e:Expr} {pos:Pos} {c:Cx} {τ:PH} {m:Lo} {X:PV} {Q:PV} (h:W c (eval e c.env) τ m (fun v τ1 m₁=>W c (unaryOp op v) τ1 m₁ Q X) X):W c (eval (.UnaryOp op e pos) c.env) τ m Q X:=fun s hs =>
 wpAny_UnaryOp (h.use hs (fun v s' τ' m' st q=>W.cont q st) xx)
theorem xU {w:World} {os:OsState} (x:Str) (t:Tok) (hx:x.length≤1000) (hx0:x.length≠0) (h1:Txt.slice x none (some 1)=G4 "/") (h2:(Txt.slice x (some 1) (some 2)==G4 "/")=false)
  (hsp:(Builtin.Str.partsBetween (Txt.slice x (some 1) none) (Builtin.Str.occurrences (Txt.slice x (some 1) none) (G4 "/") 0 (Txt.slice x (some 1) none).length ((Txt.slice x (some 1) none).length+1)) 1).length≤1000)
  (y:Str) (hy:∀ l:List (Str×Tok),l.map (·.1)=Txt.split (Txt.slice x (some 1) none) (G4 "/")→(l.length≤1000∧∀ p∈l,p.1.length≤1000)∧JoinOk (G4 "/") ((l.foldl V5 []).map (·.1))=true∧G4 "/"++Txt.join (G4 "/") ((l.foldl V5 []).map (·.1))=y) (hy1:y.length≤1000) :
  lu w os 5 (.ref 474) ⟨[.str x t],[]⟩ (fun v=>∃ t',v=.str y t'):=by
 refine ir k474 cd474 rfl (binds:=[(G4 "path",.str x t)]) (V9 (fun P=>by kernel_rfl)) fun A L hr=>?_;let c0:Cx:=cx w os A fd474 474 L;show W c0 (execs _ c0.env) _ (upd (fun O=>none) (G4 "path") (.str x t)) _ _;refine W7 fun Q X hQ=>?_;have hr4:Room 4 (cx w os A fd474 474 L).A:=hr;refine G6 (O7 (O8 fun O=>?_));refine G6 (K3 (K8 (I9 (.ref 439) (I2 (by kernel_rfl) (G7 ?_)))));walk_at "nm";refine H5 (iJ (oY x t) (hr4.less (by decide)) fun v hv=>?_);subst hv;refine G6 (K6 (U7 (K8 (I9 (.builtin "isinstance") (I2 rfl (G7 ?_))))));walk_at "nm";refine G7 (I9 (.type "bytes") (H5 (rY (I6 ?_))));refine G6 (K3 (O8 fun t2=>?_));refine G6 (K3 (O8 fun t3=>?_));refine G6 (K3 (O8 fun t4=>G9 ?_));refine G6 (K6 (jC (U7 ?_)));walk_at "nm";refine kW (lr (by assumption)) ?_;refine Q7 (by simp only [hx0,ne_eq,not_false_eq_true,decide_true,Bool.not_true]) ?_;refine G9 (G6 (mZ (K8 (I9 (.ref 467) (I2 (by kernel_rfl) (G7 ?_))))));walk_at "nm";refine H5 (qQ (Di x t hx h1 h2) hr4 (fun O O e=>by cases e) (fun v τ' hf hv=>?_) (fun O O O h=>h.elim));refine E4_2 hv fun tp t5 t6 t7 zB zC=>?_;clear hv;obtain rfl:=zB;obtain rfl:=zC;refine vO (τ₀:=G5 noH tp (H4 [.str (G4 "") t5,.str (G4 "/") t6,.str (Txt.slice x (some 1) none) t7])) (fun b o e=>xF e) ?_;refine eE hr4.quiet I4 rfl rfl ?_;refine M4 (I8 (M4 (I8 (M4 (I8 (aj ?_))))));refine G6 (K3 (N7 ?_));walk_at "nm";refine Ej (I2 rfl (G7 ?_));walk_at "nm";refine H5 (FW (by decide +kernel) (W2 (Txt.slice_le _ _ _) (lq (by assumption))) (W2 hsp (by decide)) fun cl l hcl hl=>?_);refine M6 (hy l hl) fun zD hl2 hl3=>?_;refine O1 zD fun hl1 hl4=>?_;clear zD;refine G6 (K3 (V6 (H5 ⟨leB rfl,fun nl hnl=>?_⟩)));refine G6 (aB ?_);walk_at "nm";have hne:cl≠nl:=by rintro rfl;rw [I4] at hnl;cases hnl
 generalize hτs:G5 noH tp (H4 [.str (G4 "") t5,.str (G4 "/") t6,.str (Txt.slice x (some 1) none) t7])=τs at *;have fold:∀ i p,l[i]? = some p→(l.take (i+1)).foldl V5 []=V5 ((l.take i).foldl V5 []) p:=fun i p e=>by
  rw [aC,e,List.foldl_append];rfl
 let J1:PN:=fun i τ' m'=>(∃ n',τ'=G5 (G5 τs cl (G3 (strValues l) 0)) nl (G3 (strValues ((l.take i).foldl V5 [])) n'))∧vl m' "new_comps" (.ref nl) ∧
  vl m' "dot" (.str (G4 ".") t3)∧vl m' "dotdot" (.str (G4 "..") t4)∧vl m' "initial_slashes" (.str (G4 "/") t6)∧vl m' "sep" (.str (G4 "/") t2)
 refine R0 _ _ _ (Iters.list hr4.quiet (P0 hne I4)) (Q0 J1 ⟨⟨0,rfl⟩,?_,?_,?_,?_,?_⟩ ?_ ?_ ?_)
 ·walk_at "mv"
 ·walk_at "mv"
 ·walk_at "mv"
 ·walk_at "mv"
 ·walk_at "mv"
 ·intro i τ' m' zB b hb;refine O1 zB fun zC O=>?_;clear zB;refine U0 zC fun n' zD=>?_;clear zC;obtain rfl:=zD;rw [I7] at hb;subst hb;rw [P0 hne I4,P0 hne I4]
 ·intro i v τ' m' hi hv zE;refine gq zE fun zF m1 m2 m3 m4 m5=>?_;clear zE;refine U0 zF fun n' zE=>?_;clear zF;obtain rfl:=zE;obtain ⟨p,hp,hv⟩:∃ p,l[i]? = some p∧v=.str p.1 p.2:=by
   unfold strValues at hv;rw [S9] at hv;cases q:l[i]? with
   | none=>rw [q] at hv;cases hv
   | some p=>rw [q] at hv;exact (H6 p rfl (by simpa using hv.symm))
  subst hv;have hfold:=fold i p hp;have hno:∀ q∈(l.take i).foldl V5 [],(q.1==G4 "..")=false:=vy _ [] (by simp);generalize hacc:(l.take i).foldl V5 []=acc at *;have hal:acc.length≤1000:=by
   have:=xE (l.take i) [];rw [hacc] at this;have h3:(l.take i).length≤l.length:=by rw [eQ];lia
   simp at this;lia
  have hpl:p.1.length≤1000:=hl4 p (aW hp);refine I8 ?_;have done:∀ n'' acc',acc'=V5 acc p→(fun i τ' m'=>(∃ n',τ'=G5 (G5 τs cl (G3 (strValues l) 0)) nl (G3 (strValues ((l.take i).foldl V5 [])) n'))∧vl m' "new_comps" (.ref nl) ∧
    vl m' "dot" (.str (G4 ".") t3)∧vl m' "dotdot" (.str (G4 "..") t4)∧vl m' "initial_slashes" (.str (G4 "/") t6)∧vl m' "sep" (.str (G4 "/") t2))
    (i+1) (G5 (G5 τs cl (G3 (strValues l) 0)) nl (G3 (strValues acc') n'')) (upd m' (G4 "comp") (.str p.1 p.2)):=fun n'' acc' e=>by
   refine ⟨⟨n'',by rw [hfold,e]⟩,?_,?_,?_,?_,?_⟩;all_goals walk_at "mv"
  have nlv:∀ {acc':List (Str×Tok)} {k:Nat},G5 (G5 τs cl (G3 (strValues l) 0)) nl (G3 (strValues acc') k) nl=some (G3 (strValues acc') k):=I4;have svl:(strValues acc).length≤1000:=by unfold strValues;rw [I3];exact hal
  refine G6 (K6 (aQ (gQ (jC (U7 ?_)))));walk_at "nm";refine kW (lr (by assumption)) ?_;by_cases hz:p.1.length=0
  ·refine bT (by simp only [hz,ne_eq,not_true_eq_false,decide_false,Bool.not_false]) ?_;refine G6 (pD (done n' acc ?_));unfold V5;simp only [hz,decide_true,Bool.true_or,cond_true]
  ·refine bF (by simp only [hz,ne_eq,not_false_eq_true,decide_true,Bool.not_true]) ?_;refine gQ (J0 ?_);walk_at "nm";walk_at "nm";refine mG (I6 ?_);cases hd:p.1==G4 "."
   ·refine bF rfl ?_;refine pP ?_;refine Q7 rfl ?_;refine G9 (G6 (K6 (aQ (gQ (J0 ?_)))));walk_at "nm";walk_at "nm";refine pM (I6 ?_);cases hdd:p.1==G4 ".."
    ·refine bT (by simp only [bne,hdd,Bool.not_false]) ?_;refine G6 (O7 (N7 ?_));walk_at "nm";refine T8 nlv F.plainAttrs_list F.slot_list_append F.type_list_append (I2 rfl (G7 ?_));walk_at "nm";refine H5 (V4 nlv (lq (by assumption)) fun n''=>?_);rw [Z0];have e:strValues acc++[.str p.1 p.2]=strValues (V5 acc p):=by
      unfold V5;simp only [hz,hd,hdd,decide_false,Bool.false_or,cond_false];rw [bx];rfl
     rw [e];exact G9 (G9 (done n'' _ rfl))
    ·refine bF (by simp only [bne,hdd,Bool.not_true]) ?_;refine gQ (aQ (U3 (jC (U7 ?_))));walk_at "nm";refine kW (by decide +kernel) ?_;have e1:decide ((G4 "/").length≠0)=true:=by decide +kernel
     refine bF (by simp only [e1,Bool.not_true]) ?_;refine gQ (aQ (U3 (U7 ?_)));walk_at "nm";refine nu nlv (lq (by assumption)) ?_;have e2:V5 acc p=acc.dropLast:=by
      unfold V5;simp only [hz,hd,hdd,decide_false,Bool.false_or,cond_false,cond_true]
     rcases List.eq_nil_or_concat acc with rfl | ⟨ac,q,rfl⟩
     ·refine bF rfl ?_;refine pP ?_;refine Q7 rfl ?_;refine G6 (K6 (U7 ?_));walk_at "nm";refine nu nlv (leB rfl) ?_;refine Q7 rfl ?_;exact G9 (G9 (G9 (done n' _ e2.symm)))
     ·rw [List.concat_eq_append] at *;have e3:(strValues (ac++[q])).isEmpty=false:=by simp [strValues]
      have hq:(q.1==G4 "..")=false:=hno q (by simp);refine bT (by simp only [e3,Bool.not_false]) ?_;refine U3 (J0 (T5 ?_ fun O O=>.inl rfl));walk_at "nm";refine qw (J9 fun O=>pO fun O=>⟨(I5 "list" _ (TyAt.ref nlv rfl) list_getitem_lookup),?_⟩);refine Y5 (j:=ac.length) (x:=.str q.1 q.2) nlv (lq (by assumption)) ?_ ?_ ?_
      ·have hl':(strValues (ac++[q])).length=ac.length+1:=by simp [strValues]
       rw [hl'];have e:(if (-1:Int)<0 then (-1:Int)+((ac.length+1:Nat):Int) else -1)=ac.length:=by rw [if_pos (by decide)];exact (kq1 256994604222195563440)
       unfold seqIndex?;simp only [e];rw [if_pos (by simp;exact (kq1 208974772078497))];rfl
      ·unfold strValues;simp
      ·show W _ _ _ _ _ _;walk_at "nm";refine mG (I6 ?_);refine bF hq ?_;refine pP ?_;refine Q7 rfl ?_;refine G6 (K6 (U7 ?_));walk_at "nm";refine nu nlv (lq (by assumption)) ?_;refine W8 (by simp only [e3,Bool.not_false]) ?_;refine G6 (O7 (N7 ?_));walk_at "nm";refine T8 nlv F.plainAttrs_list F.slot_list_pop F.type_list_pop (aq rfl ?_);refine mq (vs:=strValues ac) (x:=.str q.1 q.2) (n:=n') (by rw [I4,bx];rfl) (by rw [bx] at svl;simp at svl;exact (kq2 773724054238612689925883969) svl) fun n''=>?_;rw [Z0];refine G9 (G9 (G9 (done n'' _ ?_)));rw [e2];simp
   ·refine W8 rfl ?_;refine G6 (pD (done n' acc ?_));unfold V5;simp only [hd,Bool.or_true,cond_true]
 ·intro τ' m' zG;refine gq zG fun zH m1 m2 m3 m4 m5=>?_;clear zG;refine U0 zH fun n' zF=>?_;clear zH;obtain rfl:=zF;have hlen:(strValues l).length=l.length:=by unfold strValues;rw [I3]
  rw [hlen,aD];generalize l.foldl V5 []=res at *;refine G9 (G6 (K3 ?_));walk_at "nm";refine G6 (K3 (M3 ?_));walk_at "nm";refine N7 ?_;walk_at "nm";refine Fd (I2 rfl (G7 ?_));walk_at "nm";refine H5 (Cp I4 hl2 fun t8=>?_);have hyl:1+(Txt.join (G4 "/") (res.map (·.1))).length=y.length:=by rw [← hl3,Str.length_append];rfl
  refine gk (by rw [sizeLine_eq];show 1+_≤_;exact (kq2 26610521416390024924450740216242593) hy1 hyl) fun t9=>?_;rw [hl3];refine G6 (Y9 (vA ?_));walk_at "nm";refine kW (lr (by assumption)) ?_;rw [show decide (y.length≠0)=true by rw [decide_eq_true_eq];exact (kq2 27162537183280) hyl];refine bT rfl ?_;exact hQ (M8 noH (fun O O e=>(by cases e)) rfl ⟨t9,rfl⟩)
noncomputable def lU (acc:List Str) (p:Str):List Str :=
 bif decide (p.length=0)||p==G4 "." then acc else bif p==G4 ".." then acc.dropLast else acc++[p]
theorem Ad (acc:List (Str×Tok)) (p:Str×Tok):(V5 acc p).map (·.1)=lU (acc.map (·.1)) p.1:=by
 unfold V5 lU;cases (decide (p.1.length=0)||p.1==G4 ".") <;> cases (p.1==G4 "..") <;> simp [List.map_dropLast]
theorem uP:∀ (l acc:List (Str×Tok)),(l.foldl V5 acc).map (·.1)=(l.map (·.1)).foldl lU (acc.map (·.1))
 | [],_=>rfl
 | p::r,acc=>by
  rw [List.foldl_cons,uP r,Ad];rfl
noncomputable def oM (x y:Str):Bool :=
 let tl:=Txt.slice x (some 1) none;let sp:=Txt.split tl (G4 "/");let r:=sp.foldl lU [];decide (x.length≤1000)&&decide (x.length≠0)&&(Txt.slice x none (some 1)==G4 "/")&&!(Txt.slice x (some 1) (some 2)==G4 "/") &&
 decide ((Builtin.Str.partsBetween tl (Builtin.Str.occurrences tl (G4 "/") 0 tl.length (tl.length+1)) 1).length≤1000) &&
 decide (sp.length≤1000)&&sp.all (fun p=>decide (p.length≤1000))&&JoinOk (G4 "/") r&&(G4 "/"++Txt.join (G4 "/") r==y)&&decide (y.length≤1000)
theorem yL {w:World} {os:OsState} (x y:Str) (t:Tok) (h:oM x y=true):lu w os 5 (.ref 474) ⟨[.str x t],[]⟩ (fun v=>∃ t',v=.str y t'):=by
 unfold oM at h;simp only [Bool.and_eq_true,decide_eq_true_eq,Bool.not_eq_true',beq_iff_eq,List.all_eq_true] at h;obtain ⟨⟨⟨⟨⟨⟨⟨⟨⟨h1,h2⟩,h3⟩,h4⟩,h5⟩,h6⟩,h7⟩,h8⟩,h9⟩,h10⟩:=h;refine xU x t h1 h2 h3 h4 h5 y (fun l hl=>?_) h10;have e:(l.foldl V5 []).map (·.1)=(Txt.split (Txt.slice x (some 1) none) (G4 "/")).foldl lU []:=by rw [uP,hl];rfl
 refine ⟨⟨?_,fun p hp=>h7 p.1 (by rw [← hl];exact O3 hp)⟩,?_,?_⟩
 ·have:=congrArg List.length hl;rw [I3] at this;exact (kq2 24758837694280597939554328993) h6 this
 ·rw [e];exact h8
 ·rw [e];exact h9
noncomputable def lg (k:Nat):Str:=⟨#[97+k]⟩
noncomputable def M5 (k:Nat):Str:=G4 "/"++lg k
noncomputable def jQ (up:Str):Nat→Str
 | 0=>G4 "/"
 | 1=>up++G4 "/"
 | _=>G4 "./../"++up++G4 "//"
noncomputable def qy (folder up:Str):Bool:=(List.range 8).all fun k=>(List.range 3).all fun j=>oM (cC folder (jQ up j++lg k)) (M5 k)&&decide ((jQ up j++lg k).length≤1000)
theorem Gd:qy (G4 "/u/v") (G4 "../..")=true:=by decide +kernel
theorem DQ:qy (G4 "/u") (G4 "..")=true:=by decide +kernel
noncomputable abbrev Sub (a b:PH):Prop:=∀ x o,a x=some o→b x=some o
theorem Sub.new {τ τ':PH} {a:Addr} {o:Obj} (h:Sub τ τ') (ha:τ' a=none):Sub τ (G5 τ' a o):=fun x o' e=>O9 ha (h x o' e)
noncomputable def H8 (l:List (Int×Tok)):List Value:=l.map fun p=>.int p.1 p.2
theorem iH {l:List (Int×Tok)} {i:Nat} {p:Int×Tok} (h:l[i]? = some p):(H8 l)[i]? = some (.int p.1 p.2):=by unfold H8;rw [S9,h];rfl
theorem Z8 {i n:Nat} (h:i<n):seqIndex? (i:Int) n=some i:=by
 have e:(if (i:Int)<0 then (i:Int)+(n:Int) else (i:Int))=i:=if_neg (kq1 25970001825);unfold seqIndex?;simp only [e];rw [if_pos (by simp;exact (kq2 706794561) h)];rfl
noncomputable def gW (lack:Int) (x:Int) (k:Nat):List Str:=bif x.fmod 3 != lack then [M5 k] else []
noncomputable def W5 (lack:Int) (xs:List Int):Nat→List Str
 | 0=>[]
 | k+1=>W5 lack xs k++(match xs[k]? with | some x=>gW lack x k | none=>[])
theorem qL:∀ k:Nat,k<8→(seqIndex? (k:Int) (G4 "abcdefgh").length).bind ((G4 "abcdefgh").cps[·]?)=some (97+k):=by decide +kernel
theorem read_ {w:World} {os:OsState} (lack:Int) (folder up:Str) (tl tf tu:Tok) (na:Addr) (l:List (Int×Tok)) (n:Nat) (τ:PH) (hl:τ na=some (G3 (H8 l) n)) (h8:l.length≤8) (hok:qy folder up=true) (hfo:folder.length≤1000) (hup:up.length≤100) :
  Spec w os 6 (.ref 481) ⟨[.ref na,.int lack tl,.str folder tf,.str up tu],[]⟩ τ (fun v τ'=>∃ r n' res,v=.ref r∧τ r=none∧τ'=G5 τ r (G3 (strValues res) n')∧res.map (·.1)=W5 lack (l.map (·.1)) l.length):=by
 refine ir k481 cd481 rfl (binds:=[(G4 "numbers",.ref na),(G4 "lacking",.int lack tl),(G4 "folder",.str folder tf),(G4 "up",.str up tu)]) (V9 (fun P=>by kernel_rfl)) fun A L hr=>?_;let c0:Cx:=cx w os A fd481 481 L;show W c0 (execs _ c0.env) _ (upd (upd (upd (upd (fun O=>none) (G4 "numbers") (.ref na)) (G4 "lacking") (.int lack tl)) (G4 "folder") (.str folder tf)) (G4 "up") (.str up tu)) _ _;refine W7 fun Q X hQ=>?_;have hr5:Room 5 (cx w os A fd481 481 L).A:=hr;have hil:(H8 l).length=l.length:=by unfold H8;rw [I3]
 refine G6 (K3 (V6 (H5 ⟨leB rfl,fun r hrn=>?_⟩)));have hnr:na≠r:=by rintro rfl;rw [hl] at hrn;cases hrn
 refine G6 (aB (K8 (I9 (.type "range") (I2 rfl (G7 (K8 (I9 (.builtin "len") (I2 rfl (G7 ?_)))))))));walk_at "nm";refine H5 (cY (P0 hnr hl) ((kq2 23612184272455143662017) h8 hil) fun t1=>H5 (iM fun ra t2 t3 t4 hra=>?_));let J1:PN:=fun i τ' m'=>(∃ n' res,Sub (G5 τ r (G3 (strValues res) n')) τ'∧res.length≤i∧res.map (·.1)=W5 lack (l.map (·.1)) i)∧vl m' "numbers" (.ref na)∧vl m' "row" (.ref r) ∧
  vl m' "lacking" (.int lack tl)∧vl m' "folder" (.str folder tf)∧vl m' "up" (.str up tu)
 refine R0 _ _ _ (gD hr5.quiet I4 (kq0 166643633 []) (kq1 166627249) ((kq2 192105879782625610771866049) h8 hil)) (Q0 J1 ⟨(X8 0 [] (Sub.new (fun O O e=>e) hra) (K9 _) rfl),?_,?_,?_,?_,?_⟩ (fun O O O O b hb=>(by cases hb)) ?_ ?_)
 ·walk_at "mv"
 ·walk_at "mv"
 ·walk_at "mv"
 ·walk_at "mv"
 ·walk_at "mv"
 ·rintro i v τ' m' hi ⟨t5,rfl⟩ zB;refine gq zB fun zC m1 m2 m3 m4 m5=>?_;clear zB;refine aV zC fun n' res hsub hres hrow=>?_;clear zC;have hi':i<l.length:=by rw [hil] at hi;lia
  obtain ⟨p,hp⟩:∃ p,l[i]? = some p:=⟨_,Z6 hi'⟩
  refine vO hsub ?_;refine I8 ?_;have ei:((0:Int)+(i:Int))=(i:Int):=by exact (kq1 245089153484721)
  rw [ei];have hrow':W5 lack (l.map (·.1)) (i+1)=W5 lack (l.map (·.1)) i++gW lack p.1 i:=by
   show W5 lack (l.map (·.1)) i++_=_;rw [S9,hp];rfl
  refine G6 (K6 (J0 (M3 (T5 ?_ fun O O=>.inl rfl))));walk_at "nm";walk_at "nm";refine ⟨(I5 "list" _ (TyAt.ref (P0 hnr hl) rfl) list_getitem_lookup),Y5 (P0 hnr hl) ((kq2 23612184272455143662017) h8 hil) (Z8 (by assumption)) (iH hp) ?_⟩;refine J9 fun O=>gw (by decide) fun O=>?_;walk_at "nm";refine iW (I6 ?_);have rlen:(strValues res).length≤8:=by unfold strValues;rw [I3];exact (kq3 747600530039298990529) h8 hres hi'
  cases hne:p.1.fmod 3 != lack
  ·refine Q7 rfl ?_;refine G9 (G9 ⟨(X8 n' res (fun O O e=>e) ((kq2 707061141569) hres) ?_),?_,?_,?_,?_,?_⟩)
   ·rw [hrow',hrow];unfold gW;rw [hne];simp
   all_goals walk_at "mv"
  ·refine W8 rfl ?_;refine G6 (K3 (T5 (V6 (G7 (O8 fun t6=>G7 (M3 ?_)))) fun O O=>.inl rfl));walk_at "nm";refine O8 fun O=>gk (by rw [sizeLine_eq];show _+1≤_;exact (kq1 793055338156402034836869537) hup) fun t7=>G7 (M3 (M3 (O8 fun O=>?_)));walk_at "nm";refine gk (by rw [sizeLine_eq];show 5+_≤_;exact (kq1 25377770820988111443787354529) hup) fun O=>O8 fun O=>gk (by rw [sizeLine_eq,Str.length_append];show 5+_+2≤_;exact (kq1 831578794262185828486801608774049) hup) fun t8=>?_;refine H5 ⟨leB rfl,fun a ha=>?_⟩;refine M3 (M3 (T5 ?_ fun O O=>.inl rfl));walk_at "nm";walk_at "nm";have har:a≠na:=by rintro rfl;rw [P0 hnr hl] at ha;cases ha
   refine ⟨(I5 "list" _ (TyAt.ref (P0 har.symm (P0 hnr hl)) rfl) list_getitem_lookup),Y5 (P0 har.symm (P0 hnr hl)) ((kq2 23612184272455143662017) h8 hil) (Z8 (by assumption)) (iH hp) ?_⟩;refine J9 fun O=>W.divI (by decide) rfl fun O=>J9 fun O=>gw (by decide) fun t9=>?_;have hj0:0≤(p.1.fdiv 3).fmod 3:=Int.fmod_nonneg_of_pos _ (by decide);have hj1:(p.1.fdiv 3).fmod 3<3:=Int.fmod_lt_of_pos _ (by decide);obtain ⟨j,hj,hje⟩:∃ j:Nat,j<3∧(p.1.fdiv 3).fmod 3=j:=(H6 (((p.1.fdiv 3).fmod 3).toNat) (by lia) (by lia))
   rw [hje];obtain ⟨th,hth⟩:∃ th,[Value.str (G4 "/") t6,.str (up++G4 "/") t7,.str (G4 "./../"++up++G4 "//") t8][j]? = some (.str (jQ up j) th):=by
    rcases j with _ | _ | _ | j
    ·exact ⟨_,rfl⟩
    ·exact ⟨_,rfl⟩
    ·exact ⟨_,rfl⟩
    ·lia
   refine ⟨(I5 "list" _ (TyAt.ref I4 rfl) list_getitem_lookup),Y5 I4 (by simp) (Z8 hj) hth ?_⟩;obtain ⟨hk1,hk2⟩:oM (cC folder (jQ up j++lg i)) (M5 i)=true∧(jQ up j++lg i).length≤1000:=by
    have z:=List.all_eq_true.mp hok i (List.mem_range.mpr ((kq2 23940857487565249) h8 hi'));have z:=List.all_eq_true.mp z j (List.mem_range.mpr hj);simpa using z
   refine G6 (O7 (N7 ?_));walk_at "nm";have hra':a≠r:=by rintro rfl;rw [I4] at ha;cases ha
   refine T8 (P0 hra'.symm I4) F.plainAttrs_list F.slot_list_append F.type_list_append (I2 rfl (G7 ?_));refine K8 (I9 (.ref 474) (I2 (by kernel_rfl) (G7 ?_)));refine K8 (I9 (.ref 460) (I2 (by kernel_rfl) (G7 ?_)));walk_at "nm";refine G7 (M3 ?_);walk_at "nm";refine T5 (O8 fun O=>?_) fun O O=>.inl rfl;walk_at "nm";refine ⟨(I5 "str" _ TyAt.str F.slot_str_getitem.lookup),rM (by simp;lia) (qL i ((kq2 23940857487565249) h8 hi')) fun O=>?_⟩;refine gk (by rw [sizeLine_eq];rw [Str.length_append] at hk2;exact W2 hk2 (by decide)) fun t10=>?_;refine H5 (iJ (join_ folder (jQ up j++lg i) tf t10 hfo hk2) (hr5.less (by decide)) fun v hv=>?_);obtain ⟨t11,rfl⟩:=hv;refine H5 (iJ (yL _ _ t11 hk1) hr5 fun v hv=>?_);obtain ⟨t12,rfl⟩:=hv;refine H5 (V4 (P0 hra'.symm I4) (lq (by assumption)) fun n''=>?_);refine G9 (G9 ⟨(X8 n'' (res++[(M5 i,t12)]) ?_ (by simp;exact (kq2 673239105) hres) ?_),?_,?_,?_,?_,?_⟩)
   ·rw [bx];intro b o e;unfold G5 at e ⊢;split
    ·rename_i q;rw [if_pos q] at e;exact e
    ·rename_i q;rw [if_neg q] at e;split
     ·rename_i q2;subst q2;rw [P0 hra'.symm.symm e] at ha;cases ha
     ·exact e
   ·rw [hrow',← hrow];unfold gW;rw [hne];simp
   all_goals walk_at "mv"
 ·intro τ' m' zD;refine gq zD fun zE m1 m2 m3 m4 m5=>?_;clear zD;refine aV zE fun n' res hsub hres hrow=>?_;clear zE;refine G9 (G6 (Y9 ?_));walk_at "nm";have e:((H8 l).length:Int)-0=l.length:=by exact (kq2 8031117665807423553) hil
  rw [e] at hrow;exact hQ (H6 _ hsub (gG r n' res rfl hrn rfl hrow))
theorem vd:S8 emptyDict []:=(I5 [] _ rfl .nil)
theorem mz {c:Cx} {τ:PH} {m:Lo} {X:PV} {pos:Pos} {Q:PV} (h:∀ a,τ a=none→Q (.ref a) (G5 τ a emptyDict) m):W c (eval (.Dict [] [] pos) c.env) τ m Q X:=by
 rw [eval_Dict_empty];refine T4 (iY ?_);show W c (alloc emptyDict>>=fun a=>Pure.pure (Value.ref a)) _ _ _ _;exact T4 (Ay fun a ha=>jl (h a ha))
theorem tsInit {w:World} {os:OsState} (x dx:Addr) (τ:PH) (hx:τ x=some (instObj 137 dx)) (hd:τ dx=some emptyDict) (hne:x≠dx) :
  Spec w os 3 (.ref 73) ⟨[.ref x],[]⟩ τ (fun v τ'=>v=.none∧∃ d od t1 t2,τ d=none∧τ'=G5 (G5 τ d emptyDict) dx od∧S8 od [(G4 "_node2info",.ref d),(G4 "_ready_nodes",.none),(G4 "_npassedout",.int 0 t1),(G4 "_nfinished",.int 0 t2)]):=by
 refine ir k73 cd73 rfl (binds:=[(G4 "self",.ref x),(G4 "graph",.none)]) (V9 (fun P=>by kernel_rfl)) fun A L hr=>?_;show W _ _ _ (upd (upd (fun O=>none) (G4 "self") (.ref x)) (G4 "graph") .none) _ _;refine W7 fun Q X hQ=>?_;refine G6 (bK (mz fun d hdn=>?_));walk_at "nm";have hxd:x≠d:=by rintro rfl;rw [hx] at hdn;cases hdn
 have hdd:dx≠d:=by rintro rfl;rw [hd] at hdn;cases hdn
 refine Y7 (P0 hxd hx) (P0 hdd hd) vd (by simp) (by kernel_rfl) fun o1 f1=>?_;replace f1:S8 o1 [(G4 "_node2info",.ref d)]:=f1;refine G6 (bK (aL ?_));walk_at "nm";refine Y7 (P0 hne (P0 hxd hx)) I4 f1 (by simp) (by kernel_rfl) fun o2 f2=>?_;rw [show aM _ _ _=[(G4 "_node2info",.ref d),(G4 "_ready_nodes",.none)] by kernel_rfl] at f2;refine G6 (bK (J9 fun t1=>?_));walk_at "nm";rw [Z0];refine Y7 (P0 hne (P0 hxd hx)) I4 f2 (by simp) (by kernel_rfl) fun o3 f3=>?_;rw [show aM _ _ _=[(G4 "_node2info",.ref d),(G4 "_ready_nodes",.none),(G4 "_npassedout",.int 0 t1)] by kernel_rfl] at f3;refine G6 (bK (J9 fun t2=>?_));walk_at "nm";rw [Z0];refine Y7 (P0 hne (P0 hxd hx)) I4 f3 (by simp) (by kernel_rfl) fun o4 f4=>?_;rw [show aM _ _ _=[(G4 "_node2info",.ref d),(G4 "_ready_nodes",.none),(G4 "_npassedout",.int 0 t1),(G4 "_nfinished",.int 0 t2)] by kernel_rfl] at f4;rw [Z0];refine G6 (K6 (J0 ?_));walk_at "nm";refine aL (mD (I6 ?_));refine G9 (G9 (hQ (M8 _ (fun O O e=>e) rfl (I4_3 d o4 t1 t2 hdn rfl f4))))
noncomputable abbrev bV (dx:Addr) (nm:Str) (t:Tok) (k:Int) (tk:Tok) (l:Addr):Obj:=lE 40 dx #[some (.str nm t),some (.int k tk),some (.ref l)]
theorem Fy {w:World} {os:OsState} (x dx:Addr) (nm:Str) (t:Tok) (τ:PH) (hx:τ x=some (instObj 40 dx)) (hd:τ dx=some emptyDict) (hne:x≠dx) :
  Spec w os 3 (.ref 36) ⟨[.ref x,.str nm t],[]⟩ τ (fun v τ'=>v=.none∧∃ l tk,τ l=none∧τ'=G5 (G5 τ l (G3 [] 0)) x (bV dx nm t 0 tk l)):=by
 refine ir k36 cd36 rfl (binds:=[(G4 "self",.ref x),(G4 "node",.str nm t)]) (V9 (fun P=>by kernel_rfl)) fun A L hr=>?_;show W _ _ _ (upd (upd (fun O=>none) (G4 "self") (.ref x)) (G4 "node") (.str nm t)) _ _;refine W7 fun Q X hQ=>?_;refine G6 (bK ?_);walk_at "nm";walk_at "nm";refine iI (p:=41) (i:=0) (sl:=#[]) hx hd (by decide) (by kernel_rfl) ?_;refine G6 (bK (J9 fun tk=>?_));walk_at "nm";refine iI (p:=42) (i:=1) I4 (P0 hne.symm hd) (by decide) (by kernel_rfl) ?_;rw [Z0];refine G6 (bK (V6 (H5 ⟨leB rfl,fun l hl=>?_⟩)));walk_at "nm";have hxl:x≠l:=by rintro rfl;rw [I4] at hl;cases hl
 have hdl:dx≠l:=by rintro rfl;rw [P0 hne.symm hd] at hl;cases hl
 have hτl:τ l=none:=by
  unfold G5 at hl
  rwa [if_neg hxl.symm] at hl
 refine iI (p:=43) (i:=2) (P0 hxl I4) (P0 hdl (P0 hne.symm hd)) (by decide) (by kernel_rfl) ?_;refine G9 (hQ (M8 _ (fun b o e=>?_) rfl (I5 l tk hτl rfl)));unfold G5 at e ⊢;split
 ·rename_i q;rw [if_pos q] at e;refine Eq.trans ?_ e;kernel_rfl
 ·rename_i q;rw [if_neg q] at e;split
  ·rename_i q2;rw [if_pos q2] at e;exact e
  ·rename_i q2;rw [if_neg q2] at e;exact e
noncomputable abbrev H7:=Addr×(Obj→Prop)
noncomputable abbrev ecl (a:Addr) (o:Obj):H7:=(a,fun x=>x=o)
structure Cells (τ:PH) (L:List H7):Prop where
 at_:∀ p∈L,∃ o,τ p.1=some o∧p.2 o
 nd:(L.map (·.1)).Nodup
theorem Cells.nil {τ:PH}:Cells τ []:=⟨fun O h=>absurd h cV,List.nodup_nil⟩
theorem Cells.perm {τ:PH} {L L':List H7} (h:Cells τ L) (p:L.Perm L'):Cells τ L' :=
 ⟨fun q hq=>h.at_ q (p.mem_iff.mpr hq),(p.map _).nodup_iff.mp h.nd⟩
theorem Cells.get {τ:PH} {L:List H7} {a:Addr} {P:Obj→Prop} (h:Cells τ L) (hm:(a,P)∈L):∃ o,τ a=some o∧P o:=h.at_ _ hm
theorem Cells.is {τ:PH} {L:List H7} {a:Addr} {o:Obj} (h:Cells τ L) (hm:(ecl a o)∈L):τ a=some o:=by obtain ⟨_,e,rfl⟩:=h.at_ _ hm;exact e
theorem Cells.sub {τ τ':PH} {L:List H7} (h:Cells τ L) (k:Sub τ τ'):Cells τ' L :=
 ⟨fun p hp=>by obtain ⟨o,e,q⟩:=h.at_ p hp;exact ⟨o,k _ _ e,q⟩,h.nd⟩
theorem Cells.left {τ:PH} {L F:List H7} (h:Cells τ (L++F)):Cells τ L :=
 ⟨fun p hp=>h.at_ p (O2 _ hp),by have:=h.nd;rw [N6,List.nodup_append] at this;exact this.1⟩
theorem Cells.right {τ:PH} {L F:List H7} (h:Cells τ (L++F)):Cells τ F :=
 ⟨fun p hp=>h.at_ p (O6 _ hp),by have:=h.nd;rw [N6,List.nodup_append] at this;exact this.2.1⟩
theorem Cells.tail {τ:PH} {p:H7} {F:List H7} (h:Cells τ (p::F)):Cells τ F:=Cells.right (L:=[p]) h
theorem Cells.apart {τ:PH} {L:List H7} (h:Cells τ L) {a:Addr} (ha:τ a=none):a∉L.map (·.1):=fun hm=>by
 refine G8 (List.mem_map.mp hm) fun p hp zB=>?_;obtain rfl:=zB;refine G8 (h.at_ p hp) fun o e O=>?_;rw [ha] at e;cases e
theorem Cells.cons {τ:PH} {L:List H7} (h:Cells τ L) {a:Addr} {o:Obj} {P:Obj→Prop} (ha:a∉L.map (·.1)) (e:τ a=some o) (hP:P o):Cells τ ((a,P)::L) :=
 ⟨fun p hp=>by
  rcases List.mem_cons.mp hp with rfl | hp
  ·exact ⟨o,e,hP⟩
  ·exact h.at_ p hp,List.nodup_cons.mpr ⟨ha,h.nd⟩⟩
theorem Cells.new {τ:PH} {L:List H7} (h:Cells τ L) {a:Addr} {o:Obj} {P:Obj→Prop} (ha:τ a=none) (hP:P o):Cells (G5 τ a o) ((a,P)::L) :=
 (h.sub (fun O O e=>O9 ha e)).cons (h.apart ha) I4 hP
theorem Cells.keep {τ:PH} {L:List H7} (h:Cells τ L) {a:Addr} {o:Obj} (ha:τ a=none):Cells (G5 τ a o) L:=h.sub fun O O e=>O9 ha e
theorem Cells.put {τ:PH} {L:List H7} {a:Addr} {o:Obj} {P P':Obj→Prop} (h:Cells τ ((a,P)::L)) (hP:P' o):Cells (G5 τ a o) ((a,P')::L):=by
 obtain ⟨h1,h2⟩:=h;have hn:a∉L.map (·.1):=(List.nodup_cons.mp h2).1;refine ⟨fun p hp=>?_,h2⟩;rcases List.mem_cons.mp hp with rfl | hp
 ·exact ⟨o,I4,hP⟩
 ·refine G8 (h1 p (H9 _ hp)) fun o' e q=>?_;exact ⟨o',P0 (fun z=>hn (z▸O3 (f:=(·.1)) hp)) e,q⟩
noncomputable def cut (τ:PH) (L:List Addr):PH:=fun b=>if b∈L then τ b else none
theorem ux {τ:PH} {L:List Addr}:Sub (cut τ L) τ:=fun b o e=>by
 unfold cut at e;split at e
 ·exact e
 ·cases e
theorem Cells.cut {τ:PH} {L:List H7} (h:Cells τ L):Cells (cut τ (L.map (·.1))) L :=
 ⟨fun p hp=>by
  refine G8 (h.at_ p hp) fun o e q=>?_;exact ⟨o,by unfold Mine.cut;rw [if_pos (O3 hp)];exact e,q⟩,h.nd⟩
theorem Cells.frame {τ τ':PH} {L F L':List H7} (h:Cells τ (L++F)) (h':Cells τ' L') (hf:∀ b,(τ' b).isSome=true→(Mine.cut τ (L.map (·.1)) b).isSome=true∨τ b=none):Cells (bQ (Mine.cut τ (L.map (·.1))) τ' τ) (L'++F):=by
 have hnd:=h.nd;rw [N6,List.nodup_append] at hnd;have hF:∀ p∈F,p.1∉L.map (·.1):=fun p hp hm=>hnd.2.2 _ hm _ (O3 hp) rfl;have hF':∀ p∈F,τ' p.1=none:=fun p hp=>by
  cases q:τ' p.1 with
  | none=>rfl
  | some o =>
   refine G8 (h.at_ p (O6 _ hp)) fun o' e O=>?_;rcases hf p.1 (by rw [q];rfl) with z | z
   ·unfold Mine.cut at z;rw [if_neg (hF p hp)] at z;cases z
   ·rw [e] at z;cases z
 refine ⟨fun p hp=>?_,?_⟩
 ·rcases List.mem_append.mp hp with hp | hp
  ·refine G8 (h'.at_ p hp) fun o e q=>?_;exact ⟨o,xF e,q⟩
  ·refine G8 (h.at_ p (O6 _ hp)) fun o e q=>?_;refine ⟨o,?_,q⟩;unfold bQ;rw [hF' p hp];have:Mine.cut τ (L.map (·.1)) p.1=none:=by unfold Mine.cut;rw [if_neg (hF p hp)]
   simp only [this];exact e
 ·rw [N6,List.nodup_append];refine ⟨h'.nd,hnd.2.1,fun a ha b hb e=>?_⟩;subst e;refine G8 (List.mem_map.mp ha) fun p hp zC=>?_;obtain rfl:=zC;refine G8 (List.mem_map.mp hb) fun q hq e=>?_;refine G8 (h'.at_ p hp) fun o e1 O=>?_;rw [← e,hF' q hq] at e1;cases e1
noncomputable def U4 (w:World) (os:OsState) (n:Nat) (f:Value) (args:Args) (L:List H7) (R:Value→List H7→Prop) (RX:Value→List H7→Prop:=fun O O=>False):Prop :=
 ∀ τ,Cells τ L→Spec w os n f args τ (fun v τ'=>∃ L',Cells τ' L'∧R v L') (fun v τ'=>∃ L',Cells τ' L'∧RX v L')
section
variable {c:Cx} {τ:PH} {m:Lo} {X:PV}
theorem V7 {n:Nat} {f:Value} {pos:List Value} {kw:List (Str×Value)} {L F:List H7} {R RX:Value→List H7→Prop} {Q:PV} (sp:U4 c.w c.os n f ⟨pos,kw⟩ L R RX) (hr:Room n c.A) (h:Cells τ (L++F))
  (hQ:∀ v τ' L',Cells τ' (L'++F)→R v L'→Q v τ' m) (hX:∀ v τ' L',Cells τ' (L'++F)→RX v L'→X v τ' m):W c (PySem.call f pos kw) τ m Q X :=
 qQ (sp _ h.left.cut) hr ux (fun v τ' hf ⟨L',hc,q⟩=>hQ v _ L' (h.frame hc hf) q) (fun v τ' hf ⟨L',hc,q⟩=>hX v _ L' (h.frame hc hf) q)
end
theorem tV {α:Type}:∀ {l:List (Addr×α)} {b:Addr},b∈l.map (·.1)→∃ o,l.lookup b=some o
 | [],_,h=>by cases h
 | (a,x)::r,b,h=>by
  rw [List.lookup_cons];cases q:b==a with
  | true=>exact ⟨x,rfl⟩
  | false =>
   rcases List.mem_cons.mp h with e | e
   ·rw [e] at q;simp at q
   ·exact tV e
theorem uJ {P:Params} {h:Heap} (X:(H3 P).In h) {a:Addr} (e:h.get? a=none):516≤a:=by
 rcases Nat.lt_or_ge a 516 with z | z
 ·have q:(H3 P).map (·.1)=asL:=by kernel_rfl
  obtain ⟨o,ho⟩:=tV (l:=H3 P) (b:=a) (by rw [q];exact List.mem_range.mpr z);rw [X a o ho] at e;cases e
 ·exact z
section
variable {c:Cx} {τ:PH} {m:Lo} {X:PV}
theorem jt {s:Shared} {h':Heap} {k:Nat} (hs:At c τ m s) (kp:∀ b o,s.heap.get? b=some o→h'.get? b=some o):Step c τ s τ m { s with heap:=h',toks:=k }:=by
 refine O1 (cU (s':={ s with heap:=h',toks:=k }) hs fun b o O e=>dJ (kp b o e)) fun hn hc=>?_;exact ⟨⟨fun b o e=>kp b o (hs.top b o e),fun b o e=>kp b o (hs.keep b o e),hs.low,hs.mine,hn,hc,hs.apart,hs.noBoth,hs.gens,hs.os,hs.fr.keeps kp,hs.nofr⟩,fun b o e O O=>.same (kp b o e),fun b hb=>.inl hb⟩
theorem qe {s:Shared} {h':Heap} {k:Nat} {a:Addr} {o:Obj} (hs:At c τ m s) (kp:∀ b o,s.heap.get? b=some o→h'.get? b=some o) (hn:s.heap.get? a=none) (ho:h'.get? a=some o) :
  τ a=none∧Step c τ s (G5 τ a o) m { s with heap:=h',toks:=k }:=by
 have st:=jt (k:=k) hs kp;have hown:¬ c.own a:=by
  rintro (z | ⟨n,z⟩)
  ·refine G8 hs.ns fun ml zB O=>?_;refine R6 zB fun ob O O hob O=>?_;clear zB;rw [← z,hn] at hob;cases hob
  ·refine O1 (hs.cell n _ z) fun zC O=>?_;refine G8 zC fun ob hob O=>?_;clear zC;rw [hn] at hob;cases hob
 have hfr:a∉frs c.A:=fun z=>by
  obtain ⟨_,zz⟩:=hs.fr.mem z;refine G8 zz fun ob e O=>?_;clear zz;rw [hn] at e;cases e
 have hτ:τ a=none:=by
  cases q:τ a with
  | none=>rfl
  | some ob=>rw [hs.keep a ob q] at hn;cases hn
 have A':=st.at_;refine ⟨hτ,⟨⟨A'.top,fun b o' e=>?_,fun b o' e=>?_,A'.mine,A'.ns,A'.cell,A'.apart,A'.noBoth,A'.gens,A'.os,A'.fr,fun b o' e=>?_⟩,st.keep,fun b hb=>?_⟩⟩
 ·unfold G5 at e;split at e
  ·rename_i q;subst q;cases e;exact ho
  ·exact A'.keep b o' e
 ·unfold G5 at e;split at e
  ·rename_i q;subst q;exact ⟨uJ hs.top hn,hown⟩
  ·exact A'.low b o' e
 ·unfold G5 at e;split at e
  ·rename_i q;subst q;exact hfr
  ·exact A'.nofr b o' e
 ·unfold G5 at hb;split at hb
  ·rename_i q;subst q;exact .inr hn
  ·exact .inl hb
theorem Step.slots {s:Shared} {h':Heap} (hs:At c τ m s) (hx:Heap.SlotsOnly (frs c.A) s.heap h'):Step c τ s τ m { s with heap:=h' }:=by
 refine M6 hx fun O h1 h2=>?_;clear hx;refine O1 (cU (s':={ s with heap:=h' }) hs fun b o O e=>h2 b o e) fun hn hc=>?_;refine ⟨⟨fun b o e=>?_,fun b o e=>(h1 b (hs.nofr b o e)).trans (hs.keep b o e),hs.low,hs.mine,hn,hc,hs.apart,hs.noBoth,hs.gens,hs.os,hs.fr.keep fun b o O e hn=>?_,hs.nofr⟩,fun b o e O O=>?_,fun b hb=>.inl hb⟩
 ·refine (h1 b fun z=>?_).trans (hs.top b o e);exact absurd (hs.fr.mem z).1 (Nat.not_le.mpr (jy e))
 ·refine U0 (h2 b o e) fun sl e'=>?_;exact H6 _ e' hn
 ·by_cases hb:b∈frs c.A
  ·refine U0 (h2 b o e) fun sl e'=>?_;exact H6 sl e' (.inl hb)
  ·exact .same ((h1 b hb).trans e)
theorem xm {h:Heap}:∀ {l:List Env},(∀ env∈l,env.scope.kind≠.module∧∃ L o,env.frame=some L∧516≤L∧h.get? L=some o∧∀ vs,o.data≠.fields vs)→h.FunFrames (default:Heap) l
 | [],_=>trivial
 | env::r,F=>by
  obtain ⟨hk,L,o,e,_,ho,hn⟩:=F env K4;exact ⟨hk,(cR L o e (Heap.get?_none_of_le (T3 _)) ho hn),xm fun env' he=>F env' (H9 _ he)⟩
structure TopOf (c:Cx):Prop where
 top:∃ f:Option (List Env),c.A.frames=f.map (c.env::·)
 own:c.env.frame=some c.env.locals
theorem yx {Q:PV} (ht:TopOf c) (h:Q (.ref c.env.locals) τ m):W c (frameOf c.env) τ m Q X:=fun s hs=>by
 refine U0 ht.top fun f hf=>?_;refine G8 hs.fr fun l' hl' F=>?_;obtain ⟨l,hl,rfl⟩:∃ l,c.A.frames=some (c.env::l)∧l'=c.env::l:=by
  rw [hf] at hl' ⊢;cases f with
  | none=>cases hl'
  | some l=>exact (H6 l rfl ((aO hl').symm))
 exact wpAny_frameOf_fun hl (xm F) ht.own fun h' hx=>(I5 τ m (Step.slots hs (by rw [mV hl];exact hx)) h)
theorem gO {a:Addr} {o:Obj} {vs:Array Value} {i:Nat} {x:Value} {Q:PV} (ha:τ a=some o) (hd:o.data=.fields vs) (hi:vs[i]? = some x) (h:Q x τ m):W c (field (.ref a) i) τ m Q X :=
 fun s hs=>wpAny_field (hs.keep _ _ ha) hd hi (I5 τ m (Step.refl hs) h)
theorem pg {a:Addr} {o:Obj} {vs:Array Value} {i:Nat} {x:Value} {Q:PU} (ha:τ a=some o) (hd:o.data=.fields vs) (hi:i<vs.size) (h:Q () (G5 τ a (o.mapFields (·.setIfInBounds i x))) m):W c (setField (.ref a) i x) τ m Q X :=
 fun s hs=>wpAny_setField (hs.keep _ _ ha) hd hi (I5 _ m (Step.put hs ha (Heap.SameBut.update ..) (Heap.get?_update_self _ (hs.keep _ _ ha) (Obj.isFreed_of_fields (Obj.data_mapFields hd _)))) h)
theorem xK {f:Addr} {b:Bool} {Q:PL} (h:∀ pl,IsPlace pl→Q pl τ m):W c (entryPlaceOf f b) τ m Q X :=
 fun s hs=>wpAny_entryPlaceOf fun pl hp=>(I5 τ m (Step.refl hs) (h pl hp))
theorem CJ {T:String} {vs:List Value} {Q:PV} (hz:sizeOk (.fields vs.toArray)) (h:∀ a,τ a=none→Q (.ref a) (G5 τ a { cls:=.type T,data:=.fields vs.toArray }) m):W c (newFields T vs) τ m Q X :=
 fun s hs=>wpAny_newObj_type (I5 _ m (Step.new hs rfl) (h _ hs.fresh)) hz
noncomputable def km (cls:String):Obj→Prop:=fun o=>o.cls=.type cls∧∃ vs,o.data=.fields vs∧vs[1]? = some .none
noncomputable def X7 (cls:String) (T:Addr):Obj→Prop:=fun o=>o.cls=.type cls∧∃ vs,o.data=.fields vs∧vs[1]? = some (.ref T)
noncomputable def tbC (fl:Value):Obj→Prop:=fun o=>∃ ts,o.data=.fields ts∧ts[3]? = some fl
theorem uh {e:Addr} {cls:String} {F:List H7} {P:Obj→Prop} {head:Value} {b:Bool} {Q:PU} (ht:TopOf c) (hP:∀ o,P o→o.cls=.type cls∧∃ vs,o.data=.fields vs∧1<vs.size) (hc:Cells τ ((e,P)::F))
  (h:∀ T τ',Cells τ' ((e,X7 cls T)::(T,tbC (rawInt c.env.locals))::F)→Q () τ' m) :
  W c (do let a ← frameOf c.env;let pl ← entryPlaceOf c.env.locals b;let r ← EntryCells.newEntry head a .none (rawInt c.env.locals) .none pl;setField (.ref e) 1 r) τ m Q X:=by
 refine T4 (yx ht (T4 (xK fun pl hpl=>T4 ?_)));unfold EntryCells.newEntry;refine CJ (hpl.sizeOk5 _ _ _ _ _) fun T hT=>?_;refine G8 (hc.get K4) fun o ho hPo=>?_;obtain ⟨hcls,vs,hd,hsz⟩:=hP o hPo;have hTe:T≠e:=by rintro rfl;rw [ho] at hT;cases hT
 refine pg (P0 hTe.symm ho) hd hsz (h T _ ?_);refine ((hc.new (P:=tbC (rawInt c.env.locals)) hT ?_).perm (List.Perm.swap _ _ _)).put ?_
 ·refine H6 _ rfl ?_;rcases hpl with rfl | ⟨_,_,_,_,_,_,_,rfl⟩ <;> rfl
 ·exact ⟨(Obj.cls_mapFields _ _).trans hcls,(H6 _ (Obj.data_mapFields hd _) (by simp [hsz]))⟩
theorem xd {e:Addr} {cls:String} {F:List H7} {Q:PU} (ht:TopOf c) (hc:Cells τ ((e,km cls)::F))
  (h:∀ T τ',Cells τ' ((e,X7 cls T)::(T,tbC (rawInt c.env.locals))::F)→Q () τ' m):W c (noteFrame (.ref e) c.env) τ m Q X:=by
 obtain ⟨o,ho,hcls,zz⟩:=hc.get K4;refine G8 zz fun vs hd h1=>?_;clear zz;unfold noteFrame;simp only [ht.own];refine T4 (gO ho hd h1 ?_);rw [if_neg (by decide)];exact uh ht (fun o ⟨a,vs,b,e⟩=>⟨a,(H6 vs b ((Array.getElem?_eq_some_iff.mp e).1))⟩) hc h
theorem Bx {e T:Addr} {cls:String} {F:List H7} {Q:PU} (ht:TopOf c) (hc:Cells τ ((e,X7 cls T)::(T,tbC .none)::F))
  (h:∀ T' τ',Cells τ' ((e,X7 cls T')::(T',tbC (rawInt c.env.locals))::F)→Q () τ' m):W c (noteFrame (.ref e) c.env) τ m Q X:=by
 obtain ⟨o,ho,hcls,zz⟩:=hc.get K4;refine G8 zz fun vs hd h1=>?_;clear zz;obtain ⟨ot,hot,zz⟩:=hc.get (H9 _ K4);refine G8 zz fun ts hdt h3=>?_;clear zz;unfold noteFrame;simp only [ht.own];refine T4 (gO ho hd h1 ?_);rw [if_pos (show (Value.ref T != Value.none)=true from by simp)];refine T4 (gO hot hdt h3 ?_);rw [if_neg (show ¬ ((Value.none==rawInt c.env.locals)=true) from by simp [rawInt])];refine T4 (pg hot hdt (Array.getElem?_eq_some_iff.mp h3).1 ?_);refine uh ht (fun o ⟨a,vs,b,e⟩=>⟨a,(H6 vs b ((Array.getElem?_eq_some_iff.mp e).1))⟩) (F:=F) (P:=X7 cls T) ?_ h;have:=(hc.perm (List.Perm.swap _ _ _)).put (o:=ot.mapFields (·.setIfInBounds 3 .none)) (P':=fun O=>True) trivial;exact this.tail
theorem lQ {e T:Addr} {cls:String} {fl:Value} {F:List H7} {Q:PU} (hc:Cells τ ((e,X7 cls T)::(T,tbC fl)::F))
  (h:∀ τ',Cells τ' ((e,X7 cls T)::(T,tbC .none)::F)→Q () τ' m):W c (setFlight (.ref e) none) τ m Q X:=by
 obtain ⟨o,ho,hcls,zz⟩:=hc.get K4;refine G8 zz fun vs hd h1=>?_;clear zz;obtain ⟨ot,hot,zz⟩:=hc.get (H9 _ K4);refine G8 zz fun ts hdt h3=>?_;clear zz;unfold setFlight;refine T4 (gO ho hd h1 ?_);rw [if_pos (show (Value.ref T != Value.none)=true from by simp)];refine pg hot hdt (Array.getElem?_eq_some_iff.mp h3).1 (h _ ?_);have hsz:=(Array.getElem?_eq_some_iff.mp h3).1;have:=(hc.perm (List.Perm.swap _ _ _)).put (o:=ot.mapFields (·.setIfInBounds 3 .none)) (P':=tbC .none) (H6 _ (Obj.data_mapFields hdt _) (by simp [hsz]));exact this.perm (List.Perm.swap _ _ _)
theorem Ge {e T:Addr} {cls:String} {F:List H7} {Q:PU} (ht:TopOf c) (hc:Cells τ ((e,X7 cls T)::(T,tbC (rawInt c.env.locals))::F)) (h:Q () τ m):W c (noteFrame (.ref e) c.env) τ m Q X:=by
 obtain ⟨o,ho,hcls,zz⟩:=hc.get K4;refine G8 zz fun vs hd h1=>?_;clear zz;obtain ⟨ot,hot,zz⟩:=hc.get (H9 _ K4);refine G8 zz fun ts hdt h3=>?_;clear zz;unfold noteFrame;simp only [ht.own];refine T4 (gO ho hd h1 ?_);rw [if_pos (show (Value.ref T != Value.none)=true from by simp)];refine T4 (gO hot hdt h3 ?_);rw [if_pos (show (rawInt c.env.locals==rawInt c.env.locals)=true from by first | (simp;done) | exact beq_self_eq_true _)];exact jl h
theorem Ai {e T:Addr} {cls:String} {fl:Value} {F:List H7} {Q:PU} (ht:TopOf c) (hc:Cells τ ((e,X7 cls T)::(T,tbC fl)::F))
  (h:∀ τ',Cells τ' ((e,X7 cls T)::(T,tbC (rawInt c.env.locals))::F)→Q () τ' m):W c (setFlight (.ref e) c.env.frame) τ m Q X:=by
 obtain ⟨o,ho,hcls,zz⟩:=hc.get K4;refine G8 zz fun vs hd h1=>?_;clear zz;obtain ⟨ot,hot,zz⟩:=hc.get (H9 _ K4);refine G8 zz fun ts hdt h3=>?_;clear zz;unfold setFlight;rw [ht.own];refine T4 (gO ho hd h1 ?_);rw [if_pos (show (Value.ref T != Value.none)=true from by simp)];refine pg hot hdt (Array.getElem?_eq_some_iff.mp h3).1 (h _ ?_);have hsz:=(Array.getElem?_eq_some_iff.mp h3).1;have:=(hc.perm (List.Perm.swap _ _ _)).put (o:=ot.mapFields (·.setIfInBounds 3 (rawInt c.env.locals))) (P':=tbC (rawInt c.env.locals)) (H6 _ (Obj.data_mapFields hdt _) (by simp [hsz]));exact this.perm (List.Perm.swap _ _ _)
theorem Fx {e T:Addr} {cls:String} {fl:Value} {F:List H7} {Q:PU} (ht:TopOf c) (hc:Cells τ ((e,X7 cls T)::(T,tbC fl)::F))
  (h:∀ τ',Cells τ' ((e,X7 cls T)::(T,tbC (rawInt c.env.locals))::F)→Q () τ' m):W c (pq (.ref e) c.env) τ m Q X:=by
 obtain ⟨o,ho,hcls,zz⟩:=hc.get K4;refine G8 zz fun vs hd h1=>?_;clear zz;unfold pq;refine T4 (gO ho hd h1 ?_);rw [if_neg (show ¬ ((Value.ref T==Value.none)=true) from by simp)];exact Ai ht hc h
theorem loopX0 {e:Addr} {cls:String} {F:List H7} (ht:TopOf c) (hc:Cells τ ((e,km cls)::F)) (h:∀ T τ',Cells τ' ((e,X7 cls T)::(T,tbC (rawInt c.env.locals))::F)→X (.ref e) τ' m):LoopX c X (.ref e) τ m :=
 xd ht hc fun T τ' hc'=>Fx ht hc' fun τ'' hc''=>h T τ'' hc''
theorem DY {e T:Addr} {cls:String} {F:List H7} {Q:PU} (ht:TopOf c) (hc:Cells τ ((e,X7 cls T)::(T,tbC (rawInt c.env.locals))::F))
  (h:∀ τ',Cells τ' ((e,X7 cls T)::(T,tbC .none)::F)→Q () τ' m):W c (leaving c.env (.ref e)) τ m Q X:=by
 unfold leaving;exact T4 (Ge ht hc (lQ hc h))
theorem wC {cls newId initId:String} (FC:ExcCallFacts cls newId initId) (FR:ExcRaiseFacts cls) {x:Str} {np cpos pos:Pos} {e0:Expr} {rest:List Expr} {Q:PF} (hh:c.A.handled=none)
  (h:W c (eval (.Name x np) c.env) τ m (fun f τ1 m1=>f=.type cls∧W c (spliced (backTo cpos (starEach (e0::rest) c.env))) τ1 m1 (fun vs τ2 m2=>vs.length≤10000∧∀ e o,τ2 e=none→km cls o→X (.ref e) (G5 τ2 e o) m2) X) X)
  (he:autoParam (starEach (e0::rest) c.env=(false,eval e0 c.env)::starEach rest c.env) aR) (hplain:autoParam ((backTo cpos (starEach rest c.env)).any (·.1)=false) aR) :
  W c (exec (.Raise (some (.Call (.Name x np) (e0::rest) [] cpos)) none pos) c.env) τ m Q X:=fun s hs =>
 Raise_madeB FC FR hh (h.use hs (fun f s1 τ1 m1 st1 q1=>⟨q1.1,q1.2.use st1.at_ (fun vs s2 τ2 m2 st2 q2=>⟨W2 q2.1 (by rw [sizeLine_eq];lia),fun h' e hx=>by
  refine R4 hx.there fun t ht O O=>?_;refine O1 (qe (k:=s2.toks) st2.at_ hx.keeps hx.new ht) fun hτ st=>?_;exact (I5 _ _ ((st1.trans st2).trans st) (q2.2 e _ hτ ⟨rfl,(H6 _ rfl rfl)⟩))⟩) fun O O τ' m' st q=>(I5 τ' m' (st1.trans st) q)⟩) xx) he hplain
end
noncomputable def Cx.mk' (c:Cx) (e:Addr):Cx:={ c with A:=c.A.mark (some (.ref e)) }
theorem pG {w:World} {os:OsState} {A:Around} {fd:FuncData} {fa L:Addr}:TopOf (cx w os A fd fa L):=⟨⟨A.frames,rfl⟩,rfl⟩
section
variable {c:Cx} {τ:PH} {m:Lo} {X:PV}
theorem At.mk' {e:Addr} {s:Shared} (h:At c τ m s):At (c.mk' e) τ m s:=⟨h.top,h.keep,h.low,h.mine,h.ns,h.cell,h.apart,h.noBoth,h.gens,h.os,h.fr,h.nofr⟩
theorem At.of_mk' {e:Addr} {s:Shared} (h:At (c.mk' e) τ m s):At c τ m s:=⟨h.top,h.keep,h.low,h.mine,h.ns,h.cell,h.apart,h.noBoth,h.gens,h.os,h.fr,h.nofr⟩
theorem Step.of_mk' {e:Addr} {s s':Shared} {τ':PH} {m':Lo} (h:Step (c.mk' e) τ s τ' m' s'):Step c τ s τ' m' s':=⟨h.at_.of_mk',h.keep,h.fresh⟩
theorem uU {e:Addr} {Xc T:String} {b:Bool} {t:Expr} {b0:Stmt} {suite:List Stmt} {pos:Pos} {rest:List ExceptHandler} {Q:PF}
  (hexc:isSubtype (.type T) (.type "BaseException")=pure true) (hnt:isSubtype (.type ((Manifest.find? T).elim "type" fun x=>x.metatype)) (.type "tuple")=pure false)
  (hsub:isSubtype (.type Xc) (.type T)=pure b)
  (h:W (c.mk' e) (eval t c.env) τ m (fun v τ1 m1=>v=.type T∧TyAt τ1 (.ref e) Xc∧if b then W (c.mk' e) (setFlight (.ref e) none) τ1 m1 (fun O τ2 m2=>W (c.mk' e) (execs (b0::suite) c.env) τ2 m2 Q NoX) NoX
   else W c (handleBy (.ref e) c.env rest) τ1 m1 Q X) NoX) :
  W c (handleBy (.ref e) c.env (.ExceptHandler (some t) none (b0::suite) pos::rest)) τ m Q X:=fun s hs=>by
 refine wpAny_handleBy_builtin hexc hnt hsub (W.use h hs.mk' (fun v s1 τ1 m1 st1 q1=>?_) fun O O O O O q=>q.elim);obtain ⟨rfl,hT,q1⟩:=q1;refine ⟨rfl,hT s1 st1.at_.keep,?_⟩;cases b with
 | true=>exact W.use q1 st1.at_ (fun O s2 τ2 m2 st2 q2=>W.use q2 st2.at_ (fun f s3 τ3 m3 st3 q3=>(I5 τ3 m3 (((st1.trans st2).trans st3).of_mk') q3)) fun O O O O O q=>q.elim) fun O O O O O q=>q.elim
 | false=>exact W.use q1 st1.at_.of_mk' (fun f s2 τ2 m2 st2 q2=>(I5 τ2 m2 (st1.of_mk'.trans st2) q2)) fun O O τ' m' st q=>(I5 τ' m' (st1.of_mk'.trans st) q)
end
section
variable {w:World} {os:OsState}
theorem Z7 {n:Nat} {fa:Addr} {od:Option Addr} {osl:Array (Option Value)} {fd:FuncData} {body:List Stmt} {binds:List (Str×Value)} {args:Args} {τ:PH} {R RX:Value→PH→Prop}
  (hK:∀ P,(H3 P).lookup fa=some ⟨.type "function",od,.func fd,osl⟩) (hcd:∀ P,codeIn (H3 P) fd.code fd.qualname=true) (hbody:fd.body=.stmts body)
  (hbind:∀ s A (Q:List (Str×Value)→Shared→Prop) E,(H3 w.params).In s.heap→Q binds s→wpAny (model pw w) A (bindArgs fd args) Q E s)
  (h:∀ (A:Around) (L:Addr),Room n (cx w os A fd fa L).A→W (cx w os A fd fa L) (execs body (cx w os A fd fa L).env) τ (iw binds) (fun fl τ' O=>∃ τ'',(∀ b o,τ'' b=some o→τ' b=some o)∧R (match fl with | .ret v=>v | _=>.none) τ'')
   (fun e τ' m'=>W (cx w os A fd fa L) (leaving (cx w os A fd fa L).env e) τ' m' (fun O τ'' O=>RX e τ'') NoX))
  (hclo:autoParam (fd.closure=[]) aR) (hco:autoParam (fd.scope.isCoroutine=false) aK) (hgen:autoParam (fd.scope.isGenerator=false) aK) (hk:autoParam (fd.scope.kind=.function) aK) (hap:autoParam (jN fd.scope=true) aK)
  (hkind:∀ n,(binds.all fun x=>fd.scope.names.lookup x.1==some .local||(fd.scope.names.lookup x.1==some .cell&&((cellsFrom n fd.scope.names []).lookup x.1).isSome))=true:=by intro _;kernel_rfl) :
  Spec w os (n+1) (.ref fa) args τ R RX :=
 Spec.less (vz (hK _) (hcd _) hbody hclo hco hgen hk hap hbind (fun k x hx=>by
   have z:=List.all_eq_true.mp (hkind k) x hx;rcases Bool.or_eq_true_iff.mp z with z | z
   ·exact .inl (by simpa using z)
   ·refine O1 (Bool.and_eq_true_iff.mp z) fun z1 z2=>?_;exact .inr ⟨by simpa using z1,z2⟩)
  (fun A L hr=>W.mono (h A L hr) (fun fl τ' m' q=>q) fun O O O q=>W.mono q (fun O O O q=>q) fun O O O q=>q.elim)) fun v τ' h=>h
end
theorem ur:∀ l:List (Str×Tok),StrsAre (strValues l) (l.map (·.1))
 | []=>.nil
 | p::r=>.cons _ _ (ur r)
theorem vJ:∀ {vs:List Value} {ss:List Str},StrsAre vs ss→∃ l:List (Str×Tok),vs=strValues l∧l.map (·.1)=ss
 | _,_,.nil=>⟨[],rfl,rfl⟩
 | _,_,.cons x t r=>by
  refine G8 (vJ r) fun l zB zC=>?_;obtain rfl:=zB;obtain rfl:=zC;exact ⟨(x,t)::l,rfl,rfl⟩
section
variable {c:Cx} {τ:PH} {m:Lo} {X:PV}
theorem xQ {l:Addr} {vs:List Value} {n:Nat} {Q:PV} (hl:τ l=some (G3 vs n)) (hn:vs.length≤10000) (h:∀ a,τ a=none→Q (.ref a) (G5 τ a (H4 vs)) m):W c (PySem.call (.type "tuple") [.ref l]) τ m Q X:=fun s hs=>by
 refine call_tuple_list (Z9 hs hl) (fun h' hk=>?_) (by rw [sizeLine_eq];simp;exact (kq1 774468103649805368836513) hn);have st:=jt (k:=s.toks) hs hk;exact ⟨_,m,st.trans (Step.new st.at_ rfl),h _ st.at_.fresh⟩
theorem Dy {l:Addr} {o:Obj} {T:String} {vs:List Value} {n:Nat} {Q:PV} (hT:T="list"∨T="tuple") (hl:τ l=some o) (hc:o.cls=.type T) (hd:o.data=.seq vs.toArray n) (hn:vs.length≤10000) (h:∀ a j,τ a=none→Q (.ref a) (G5 τ a (G3 vs j)) m):W c (PySem.call (.type "list") [.ref l]) τ m Q X:=fun s hs=>by
 refine call_list_seq l hT (hs.keep _ _ hl) hc hd (fun h' j hk ho=>?_) (by rw [sizeLine_eq];simp;exact (kq1 774468103649805368836513) hn);obtain ⟨hτ,st⟩:=qe (k:=s.toks) hs hk (Heap.get?_none_of_le (K9 _)) ho;exact ⟨_,m,st,h _ j hτ⟩
theorem Az {l:Addr} {vs:List Value} {Q:PV} (hl:τ l=some (H4 vs)) (hn:vs.length≤10000) (h:∀ a j,τ a=none→Q (.ref a) (G5 τ a (G3 vs j)) m):W c (PySem.call (.type "list") [.ref l]) τ m Q X :=
 Dy (.inr rfl) hl rfl rfl hn h
theorem yc {l b:Addr} {vs us:List Value} {n:Nat} {Q:PV} (hl:τ l=some (G3 vs n)) (hb:τ b=some (H4 us)) (hn:vs.length+us.length≤10000) (h:∀ n',Q .none (G5 τ l (G3 (vs++us) n')) m):W c (PySem.call (.builtin "list.extend") [.ref l,.ref b]) τ m Q X:=fun s hs=>by
 obtain ⟨n',st⟩:=putL hs hl (fun xs=>xs++us.toArray) (vs++us) (by simp) s.toks;refine call_meets F.slot_list_extend (Z9 hs hl).typeIs F.entry_list_extend (F.args_list_extend_2 _ _) (AutoSeq1.list_extend_list_tuple_0 l vs.toArray n b us.toArray 0 ?_ (by rw [sizeLine_eq];simp;exact (kq2 793055338137400697688606785) hn) (by rw [sizeLine_eq];simp;exact (kq2 812088667452242901242481133633) hn)) ⟨hs.keep _ _ hl,hs.keep _ _ hb,⟨_,_,st,h n'⟩⟩;have e:Builtin.List.listTooLong (vs.toArray.size+us.toArray.size)=false:=by
  unfold Builtin.List.listTooLong;rw [sizeLine_eq];simp <;> exact (kq2 812088666271651280525069830209) hn
 rw [e];simp
theorem wj {l:Addr} {xs:List (Str×Tok)} {n:Nat} {Q:PV} (hl:τ l=some (G3 (strValues xs) n)) (hn:xs.length<64) (h:∀ a j ys,τ a=none→(ys.map (·.1)).Perm (xs.map (·.1))→sortedS (ys.map (·.1))=true→Q (.ref a) (G5 τ a (G3 (strValues ys) j)) m):W c (PySem.call (.builtin "sorted") [.ref l]) τ m Q X:=fun s hs=>by
 refine sorted_strs (Z9 hs hl) (ur xs) (by unfold strValues;rw [I3];exact hn) fun out ss' a1 a2 a3=>?_;refine G8 (vJ a1) fun ys e zD=>?_;obtain rfl:=zD;obtain ⟨j,hj⟩:=sortedAll_at s.heap (strValues xs) out;have ho:out=(strValues ys).toArray:=by rw [← e]
 rw [ho] at hj ⊢;obtain ⟨hτ,st⟩:=qe (k:=s.toks) hs (fun O O=>sortedAll_old) (Heap.get?_none_of_le (Nat.le_succ _)) hj;exact ⟨_,m,st,h _ j ys hτ a2 a3⟩
end
theorem Cv (l:Addr) (vs:List Value) (hn:vs.length≤10000):Meets (Builtin.«bool.__new__» ⟨[.type "bool",.ref l],[]⟩) (fun O R s=>s.heap.IsList l vs.toArray∧∀ k,R (.ok (.ret (.bool (!vs.isEmpty)))) { s with toks:=k }):=by
 refine Meets.of_wp fun prog w A R s hs=>?_;obtain ⟨hp,g,d,tk,os⟩:=s;obtain ⟨hl,h⟩:=hs;have f1:=F.conv_sub_bool;have hz:(vs.toArray.size:Int)<2 ^ 63:=by simp;lia
 repeat (any_goals (first | assumption | with_reducible refine wpAny_truthy_list hl hz ?_ | wp_step))
 exact ⟨_,rfl,by simpa using h _⟩
section
variable {c:Cx} {τ:PH} {m:Lo} {X:PV}
theorem DK {l:Addr} {vs:List Value} {n:Nat} {Q:PV} (hl:τ l=some (G3 vs n)) (hn:vs.length≤10000) (h:Q (.bool (!vs.isEmpty)) τ m):W c (PySem.call (.type "bool") [.ref l]) τ m Q X :=
 di (fun Q E s hs h=>call_bool_1 (Cv l vs hn) ⟨Z9 hs hl,fun k=>⟨rfl,h k⟩⟩) h
end
theorem mH {a:H7} {l:List H7}:a∈a::l:=K4
theorem mC {b a:H7} {l:List H7} (h:a∈l):a∈b::l:=H9 _ h
theorem mL {a:H7} {l r:List H7} (h:a∈l):a∈l++r:=O2 _ h
theorem mR {a:H7} {l r:List H7} (h:a∈r):a∈l++r:=O6 _ h
theorem Cells.putAt {τ:PH} {A B:List H7} {a:Addr} {o:Obj} {P P':Obj→Prop} (h:Cells τ (A++(a,P)::B)) (hP:P' o):Cells (G5 τ a o) (A++(a,P')::B) :=
 ((h.perm List.perm_middle).put hP).perm List.perm_middle.symm
noncomputable abbrev lsC (l:List (Str×Tok)):Obj→Prop:=fun o=>∃ j,o=G3 (strValues l) j
structure Nd where
 nm:Str
 t:Tok
 x:Addr
 dx:Addr
 l:Addr
 k:Int
 tk:Tok
 succ:List (Str×Tok)
 nl:Nat
noncomputable def Nd.cells (n:Nd):List H7:=[(ecl n.x (bV n.dx n.nm n.t n.k n.tk n.l)),(ecl n.dx emptyDict),(ecl n.l (G3 (strValues n.succ) n.nl))]
structure So where
 x:Addr
 dx:Addr
 d:Addr
 rd:Option (Addr×List (Str×Tok))
 po:Int
 fi:Int
 nds:List Nd
noncomputable def So.rdV (S:So):Value:=match S.rd with | none=>.none | some r=>.ref r.1
noncomputable def So.rdC (S:So):List H7:=match S.rd with | none=>[] | some r=>[(r.1,lsC r.2)]
noncomputable def bH (d:Addr) (rd:Value) (po fi:Int) (t1 t2:Tok):List (Str×Value):=[(G4 "_node2info",.ref d),(G4 "_ready_nodes",rd),(G4 "_npassedout",.int po t1),(G4 "_nfinished",.int fi t2)]
noncomputable def So.kvs (S:So):List (Str×Value):=S.nds.map fun n=>(n.nm,.ref n.x)
noncomputable def aY (d:Addr) (rd:Value) (po fi:Int):Obj→Prop:=fun o=>∃ t1 t2,S8 o (bH d rd po fi t1 t2)
noncomputable def T6 (w:World) (kvs:List (Str×Value)):Obj→Prop:=fun o=>o.IsDictOf (strKind pw w) kvs
noncomputable def So.cells (w:World) (S:So):List H7:=(ecl S.x (instObj 137 S.dx))::(S.dx,aY S.d S.rdV S.po S.fi)::(S.d,T6 w S.kvs)::(S.rdC++S.nds.flatMap Nd.cells)
section
variable {w:World} {τ:PH} {S:So} {F:List H7}
theorem U5 (h:Cells τ (S.cells w++F)):τ S.x=some (instObj 137 S.dx):=by
 obtain ⟨o,e,rfl⟩:=h.at_ (ecl S.x (instObj 137 S.dx)) (by simp [So.cells]);exact e
theorem Z2 (h:Cells τ (S.cells w++F)):∃ od t1 t2,τ S.dx=some od∧S8 od (bH S.d S.rdV S.po S.fi t1 t2):=by
 obtain ⟨o,e,t1,t2,f⟩:=h.at_ (S.dx,aY S.d S.rdV S.po S.fi) (by simp [So.cells]);exact (R0 o t1 t2 e f)
theorem gH (h:Cells τ (S.cells w++F)):∃ o,τ S.d=some o∧o.IsDictOf (strKind pw w) S.kvs:=h.at_ (S.d,T6 w S.kvs) (by simp [So.cells])
theorem oO {r:Addr} {l:List (Str×Tok)} (h:Cells τ (S.cells w++F)) (e:S.rd=some (r,l)):∃ j,τ r=some (G3 (strValues l) j):=by
 obtain ⟨o,e,j,rfl⟩:=h.at_ (r,lsC l) (by simp [So.cells,So.rdC,e]);exact ⟨j,e⟩
theorem dF {n:Nd} (h:Cells τ (S.cells w++F)) (hn:n∈S.nds):τ n.x=some (bV n.dx n.nm n.t n.k n.tk n.l)∧τ n.dx=some emptyDict∧τ n.l=some (G3 (strValues n.succ) n.nl):=by
 have hm:∀ p∈n.cells,p∈S.cells w++F:=fun p hp=>by
  unfold So.cells;refine O2 _ (H9 _ (H9 _ (H9 _ (O6 _ ?_))));exact List.mem_flatMap.mpr (H6 n hn hp)
 refine G8 (h.at_ (ecl n.x (bV n.dx n.nm n.t n.k n.tk n.l)) (hm _ (by simp [Nd.cells]))) fun o1 e1 zB=>?_;obtain rfl:=zB;refine G8 (h.at_ (ecl n.dx emptyDict) (hm _ (by simp [Nd.cells]))) fun o2 e2 zC=>?_;obtain rfl:=zC;refine G8 (h.at_ (ecl n.l (G3 (strValues n.succ) n.nl)) (hm _ (by simp [Nd.cells]))) fun o3 e3 zD=>?_;obtain rfl:=zD;exact ⟨e1,e2,e3⟩
theorem So.names (h:Cells τ (S.cells w++F)):(S.nds.map Nd.nm).Nodup:=by
 obtain ⟨o,_,es,ep,_,_,_,_,z⟩:=gH h;simpa [So.kvs,Function.comp_def] using z
theorem xq {od:Obj} {po fi:Int} {t1 t2:Tok} (h:Cells τ (S.cells w++F)) (f:S8 od (bH S.d S.rdV po fi t1 t2)):Cells (G5 τ S.dx od) (So.cells w { S with po,fi }++F) :=
 Cells.putAt (A:=[(ecl S.x (instObj 137 S.dx))]) (P:=aY S.d S.rdV S.po S.fi) (P':=aY S.d S.rdV po fi) h (fc t1 t2 f)
theorem BK {od:Obj} {r:Addr} {l:List (Str×Tok)} {t1 t2:Tok} (h:Cells τ (S.cells w++(r,lsC l)::F)) (hn:S.rd=none) (f:S8 od (bH S.d (.ref r) S.po S.fi t1 t2)):Cells (G5 τ S.dx od) (So.cells w { S with rd:=some (r,l) }++F):=by
 have z:=Cells.putAt (A:=[(ecl S.x (instObj 137 S.dx))]) (P:=aY S.d S.rdV S.po S.fi) (P':=aY S.d (.ref r) S.po S.fi) h (fc t1 t2 f);refine z.perm ?_;unfold So.cells So.rdC So.kvs;simp only [hn,So.rdV,aX,bz,List.singleton_append];refine List.Perm.cons _ (List.Perm.cons _ (List.Perm.cons _ ?_));exact List.perm_middle
theorem uq {r:Addr} {l l':List (Str×Tok)} {j:Nat} (h:Cells τ (S.cells w++F)) (e:S.rd=some (r,l)):Cells (G5 τ r (G3 (strValues l') j)) (So.cells w { S with rd:=some (r,l') }++F):=by
 have z:=Cells.putAt (τ:=τ) (A:=[(ecl S.x (instObj 137 S.dx)),(S.dx,aY S.d S.rdV S.po S.fi),(S.d,T6 w S.kvs)]) (a:=r) (B:=S.nds.flatMap Nd.cells++F) (P:=lsC l) (P':=lsC l') (o:=G3 (strValues l') j) (by
  have h':=h;unfold So.cells So.rdC at h';simp only [e] at h';exact h') ⟨j,rfl⟩
 have e2:So.cells w { S with rd:=some (r,l') }++F=[(ecl S.x (instObj 137 S.dx)),(S.dx,aY S.d S.rdV S.po S.fi),(S.d,T6 w S.kvs)]++(r,lsC l')::(S.nds.flatMap Nd.cells++F):=by
  unfold So.cells So.rdC So.kvs So.rdV;simp only [e,bz,aX,List.singleton_append]
 rw [e2];exact z
theorem vX {L R:List Nd} {n n':Nd} {a:Addr} {o:Obj} {A B:List H7} {P P':Obj→Prop} (h:Cells τ (S.cells w++F)) (hs:S.nds=L++n::R) (hc:n.cells=A++(a,P)::B) (hc':n'.cells=A++(a,P')::B) (hnm:n'.nm=n.nm) (hx:n'.x=n.x) (hP:P' o) :
  Cells (G5 τ a o) (So.cells w { S with nds:=L++n'::R }++F):=by
 have e1:S.cells w++F=([(ecl S.x (instObj 137 S.dx)),(S.dx,aY S.d S.rdV S.po S.fi),(S.d,T6 w S.kvs)]++S.rdC++L.flatMap Nd.cells++A)++(a,P)::(B++R.flatMap Nd.cells++F):=by
  unfold So.cells;rw [hs];simp only [eO,List.flatMap_cons,hc,bz,W4,aX]
 have e2:So.cells w { S with nds:=L++n'::R }++F=([(ecl S.x (instObj 137 S.dx)),(S.dx,aY S.d S.rdV S.po S.fi),(S.d,T6 w S.kvs)]++S.rdC++L.flatMap Nd.cells++A)++(a,P')::(B++R.flatMap Nd.cells++F):=by
  unfold So.cells So.kvs So.rdC So.rdV;simp only [hs,N6,O4,hnm,hx,eO,List.flatMap_cons,hc',bz,W4,aX]
 rw [e1] at h;rw [e2];exact h.putAt hP
theorem So.putK {L R:List Nd} {n:Nd} {k:Int} {tk:Tok} (h:Cells τ (S.cells w++F)) (hs:S.nds=L++n::R):Cells (G5 τ n.x (bV n.dx n.nm n.t k tk n.l)) (So.cells w { S with nds:=L++{ n with k,tk }::R }++F) :=
 vX (n':={ n with k,tk }) h hs (A:=[]) rfl rfl rfl rfl rfl
theorem So.putS {L R:List Nd} {n:Nd} {l:List (Str×Tok)} {j:Nat} (h:Cells τ (S.cells w++F)) (hs:S.nds=L++n::R):Cells (G5 τ n.l (G3 (strValues l) j)) (So.cells w { S with nds:=L++{ n with succ:=l,nl:=j }::R }++F) :=
 vX (n':={ n with succ:=l,nl:=j }) h hs (A:=[(ecl n.x (bV n.dx n.nm n.t n.k n.tk n.l)),(ecl n.dx emptyDict)]) rfl rfl rfl rfl rfl
theorem So.addN {n:Nd} {o:Obj} (h:Cells τ (S.cells w++(n.cells++F))) (D:o.IsDictOf (strKind pw w) (S.kvs++[(n.nm,.ref n.x)])):Cells (G5 τ S.d o) (So.cells w { S with nds:=S.nds++[n] }++F):=by
 have z:=Cells.putAt (τ:=τ) (A:=[(ecl S.x (instObj 137 S.dx)),(S.dx,aY S.d S.rdV S.po S.fi)]) (a:=S.d) (B:=S.rdC++S.nds.flatMap Nd.cells++(n.cells++F)) (P:=T6 w S.kvs) (P':=T6 w (S.kvs++[(n.nm,Value.ref n.x)])) (o:=o) (by unfold So.cells at h;simpa only [bz,W4,aX] using h) D;have e2:So.cells w { S with nds:=S.nds++[n] }++F=[(ecl S.x (instObj 137 S.dx)),(S.dx,aY S.d S.rdV S.po S.fi)]++(S.d,T6 w (S.kvs++[(n.nm,Value.ref n.x)]))::(S.rdC++S.nds.flatMap Nd.cells++(n.cells++F)):=by
  unfold So.cells So.kvs So.rdC So.rdV;simp only [N6,O4,bB,eO,List.flatMap_cons,List.flatMap_nil,X4,W4,bz,aX]
 rw [e2];exact z
end
structure Abs (S:So) (ns:List Str) (kf:Str→Int) (sf:Str→List Str):Prop where
 names:S.nds.map Nd.nm=ns
 node:∀ n∈S.nds,n.k=kf n.nm∧n.succ.map (·.1)=sf n.nm
 out:∀ x,x∉ns→kf x=0∧sf x=[]
theorem Abs.split {S:So} {ns:List Str} {kf:Str→Int} {sf:Str→List Str} (h:Abs S ns kf sf) {x:Str} (hx:x∈ns):∃ L n R,S.nds=L++n::R∧n.nm=x:=by
 rw [← h.names] at hx;refine G8 (List.mem_map.mp hx) fun n hn zE=>?_;obtain rfl:=zE;refine dK (List.append_of_mem hn) fun L R e=>?_;exact R0 L n R e rfl
theorem my {L R:List Nd} {n:Nd} {nds:List Nd} (e:nds=L++n::R) (hn:(nds.map Nd.nm).Nodup):valueAt (nds.map fun n=>(n.nm,Value.ref n.x)) n.nm=some (.ref n.x):=by
 subst e;refine valueAt_of_get (i:=L.length) (by simpa [Function.comp_def] using hn) ?_;simp
theorem Ag {nds:List Nd} {x:Str} (hn:x∉nds.map Nd.nm):valueAt (nds.map fun n=>(n.nm,Value.ref n.x)) x=none:=by
 unfold valueAt;rw [Option.map_eq_none_iff,List.find?_eq_none];intro p hp;refine G8 (List.mem_map.mp hp) fun n hn' zF=>?_;obtain rfl:=zF;simp only [decide_eq_true_eq];rintro rfl;exact hn (O3 hn')
theorem Dp {nds:List Nd} {x:Str} {v:Value} (hn:x∉nds.map Nd.nm):stored (nds.map fun n=>(n.nm,Value.ref n.x)) x v=(nds.map fun n=>(n.nm,Value.ref n.x))++[(x,v)]:=by
 unfold stored;rw [if_neg];intro h;refine G8 (List.any_eq_true.mp h) fun p hp e=>?_;refine G8 (List.mem_map.mp hp) fun n hn' zG=>?_;obtain rfl:=zG;exact hn (List.mem_map.mpr (H6 n hn' (by simpa using e)))
noncomputable def fup (f:Str→Int) (x:Str) (v:Int):Str→Int:=fun y=>if y=x then v else f y
noncomputable def sup (f:Str→List Str) (x:Str) (v:List Str):Str→List Str:=fun y=>if y=x then v else f y
theorem Abs.putK {S:So} {ns:List Str} {kf:Str→Int} {sf:Str→List Str} (h:Abs S ns kf sf) (hnd:(S.nds.map Nd.nm).Nodup) {L R:List Nd} {n:Nd} (e:S.nds=L++n::R) (k:Int) (tk:Tok):Abs { S with nds:=L++{ n with k,tk }::R } ns (fup kf n.nm k) sf:=by
 obtain ⟨h1,h2,h3⟩:=h;rw [e] at h1 h2 hnd;have hnn:∀ q,q∈L∨q∈R→q.nm≠n.nm:=by
  intro q hq z;rw [N6,O4,List.nodup_append] at hnd;rcases hq with hq | hq
  ·exact hnd.2.2 q.nm (O3 hq) n.nm K4 z
  ·exact (List.nodup_cons.mp hnd.2.1).1 (z▸O3 hq)
 refine ⟨by rw [← h1];simp,fun q hq=>?_,fun x hx=>?_⟩
 ·rcases List.mem_append.mp hq with hq | hq
  ·have z:=hnn q (.inl hq);unfold fup;rw [if_neg z];exact h2 q (O2 _ hq)
  ·rcases List.mem_cons.mp hq with rfl | hq
   ·refine ⟨by unfold fup;simp,(h2 n (by simp)).2⟩
   ·have z:=hnn q (.inr hq);unfold fup;rw [if_neg z];exact h2 q (by simp [hq])
 ·refine ⟨?_,(h3 x hx).2⟩;unfold fup;rw [if_neg]
  ·exact (h3 x hx).1
  ·rintro rfl;exact hx (by rw [← h1];simp)
theorem Abs.putS {S:So} {ns:List Str} {kf:Str→Int} {sf:Str→List Str} (h:Abs S ns kf sf) (hnd:(S.nds.map Nd.nm).Nodup) {L R:List Nd} {n:Nd} (e:S.nds=L++n::R) (l:List (Str×Tok)) (j:Nat):Abs { S with nds:=L++{ n with succ:=l,nl:=j }::R } ns kf (sup sf n.nm (l.map (·.1))):=by
 obtain ⟨h1,h2,h3⟩:=h;rw [e] at h1 h2 hnd;have hnn:∀ q,q∈L∨q∈R→q.nm≠n.nm:=by
  intro q hq z;rw [N6,O4,List.nodup_append] at hnd;rcases hq with hq | hq
  ·exact hnd.2.2 q.nm (O3 hq) n.nm K4 z
  ·exact (List.nodup_cons.mp hnd.2.1).1 (z▸O3 hq)
 refine ⟨by rw [← h1];simp,fun q hq=>?_,fun x hx=>?_⟩
 ·rcases List.mem_append.mp hq with hq | hq
  ·have z:=hnn q (.inl hq);unfold sup;rw [if_neg z];exact h2 q (O2 _ hq)
  ·rcases List.mem_cons.mp hq with rfl | hq
   ·refine ⟨(h2 n (by simp)).1,by unfold sup;simp⟩
   ·have z:=hnn q (.inr hq);unfold sup;rw [if_neg z];exact h2 q (by simp [hq])
 ·refine ⟨(h3 x hx).1,?_⟩;unfold sup;rw [if_neg]
  ·exact (h3 x hx).2
  ·rintro rfl;exact hx (by rw [← h1];simp)
theorem Abs.addN {S:So} {ns:List Str} {kf:Str→Int} {sf:Str→List Str} (h:Abs S ns kf sf) {n:Nd} (hn:n.nm∉ns) (hk:n.k=0) (hsu:n.succ=[]):Abs { S with nds:=S.nds++[n] } (ns++[n.nm]) kf sf:=by
 obtain ⟨h1,h2,h3⟩:=h;refine ⟨by simp [h1],fun q hq=>?_,fun x hx=>h3 x fun z=>hx (O2 _ z)⟩;rcases List.mem_append.mp hq with hq | hq
 ·exact h2 q hq
 ·rw [I7] at hq;subst hq;have z:=h3 q.nm hn;exact ⟨hk.trans z.1.symm,by rw [hsu,z.2];rfl⟩
theorem Spec.exc {w:World} {os:OsState} {n:Nat} {f:Value} {args:Args} {τ:PH} {R RX RX':Value→PH→Prop} (h:Spec w os n f args τ R RX) (k:∀ e τ',RX e τ'→RX' e τ'):Spec w os n f args τ R RX':=by
 intro A s hA hs;refine codeAny_mono (h A s hA hs) fun r s' hb=>?_;cases r with
 | error e=>obtain ⟨τ',st,z⟩:=hb;exact (H6 τ' st (k _ _ z))
 | ok fl =>
  cases fl with
  | ret v=>exact hb
  | _=>exact hb
theorem CW {w:World} {os:OsState} (nm:Str) (t:Tok):U4 w os 4 (.ref 40) ⟨[.str nm t],[]⟩ [] (fun v L'=>∃ n:Nd,L'=n.cells∧v=.ref n.x∧n.nm=nm∧n.k=0∧n.succ=[]):=by
 intro τ _;have z:Spec w os 4 (.ref 40) ⟨[.str nm t],[]⟩ τ (fun v τ'=>∃ L',Cells τ' L'∧∃ n:Nd,L'=n.cells∧v=.ref n.x∧n.nm=nm∧n.k=0∧n.succ=[]):=by
  refine sU (fI:=36) (fun P=>by kernel_rfl) fun x dx hx hdx hne=>?_;have h1:(G5 τ dx emptyDict) x=none:=by unfold G5;rw [if_neg hne];exact hx
  have c1:Cells (G5 (G5 τ dx emptyDict) x (instObj 40 dx)) [(x,fun O=>True),(ecl dx emptyDict)]:=(Cells.nil.new (P:=(·=emptyDict)) hdx rfl).new (P:=fun O=>True) h1 trivial;refine Spec.less (Fy x dx nm t _ I4 (P0 hne.symm I4) hne) fun v τ' h=>?_;obtain ⟨zB,l,tk,hl,zC⟩:=h;obtain rfl:=zB;obtain rfl:=zC;refine M8 _ (fun O O e=>e) rfl (H6 _ ?_ (gP ⟨nm,t,x,dx,l,0,tk,[],0⟩ rfl rfl rfl rfl rfl));have c2:=c1.new (P:=(·=G3 [] 0)) hl rfl;have c3:=Cells.putAt (A:=[(ecl l (G3 [] 0))]) (P':=(·=bV dx nm t 0 tk l)) (o:=bV dx nm t 0 tk l) c2 rfl;exact c3.perm (List.perm_append_comm (l₁:=[(ecl l (G3 [] 0))]) (l₂:=[(x,_),(dx,_)]))
 exact z.exc fun O O h=>h.elim
noncomputable def ak (ns:List Str) (x:Str):List Str:=if x∈ns then ns else ns++[x]
theorem cI {o:Obj} {w:World} {kvs:List (Str×Value)} (D:o.IsDictOf (strKind pw w) kvs):o.cls=.type "dict"∧o.dict=none:=by
 refine ao D fun es ep hE O=>?_;clear D;exact ⟨hE.1,hE.2.1⟩
theorem vK {w:World} {os:OsState} (S:So) (nm:Str) (t:Tok) {ns:List Str} {kf:Str→Int} {sf:Str→List Str} (hA:Abs S ns kf sf) (hsz:S.nds.length≤100) :
  U4 w os 5 (.ref 80) ⟨[.ref S.x,.str nm t],[]⟩ (S.cells w) (fun v L'=>∃ S':So,L'=S'.cells w∧Abs S' (ak ns nm) kf sf∧S'.x=S.x∧S'.rd=S.rd∧S'.po=S.po∧S'.fi=S.fi∧∃ n∈S'.nds,n.nm=nm∧v=.ref n.x):=by
 intro τ hC;refine Z7 (RX:=fun v τ'=>∃ L',Cells τ' L'∧False) k80 cd80 rfl (binds:=[(G4 "self",.ref S.x),(G4 "node",.str nm t)]) (V9 (fun P=>by kernel_rfl)) fun A L hr=>?_;let c0:Cx:=cx w os A fd80 80 L;show W c0 (execs _ c0.env) _ (upd (upd (fun O=>none) (G4 "self") (.ref S.x)) (G4 "node") (.str nm t)) _ _;refine W7 fun Q X hQ=>?_;have hr4:Room 4 (cx w os A fd80 80 L).A:=hr;rw [← X4 (S.cells w)] at hC;refine R6 (Z2 hC) fun od t1 t2 hdx hf=>?_;refine G8 (gH hC) fun o hd D=>?_;refine G6 (K6 (J0 (wY (by kernel_rfl) (N7 (R7 ?_)))));walk_at "nm";refine T9 (U5 hC) hdx hf (v:=.ref S.d) (by kernel_rfl) (by kernel_rfl) rfl ?_;refine T8 hd F.plainAttrs_dict F.slot_dict_get F.type_dict_get (I2 rfl (G7 ?_)) (cI D).1 (cI D).2;walk_at "nm";refine H5 (xr hd D (strKind_is _ _ _ _) ?_);refine aL (eX (I6 ?_));by_cases hin:nm∈ns
 ·refine R6 (hA.split hin) fun L1 n R1 e zD=>?_;obtain rfl:=zD;have hv:=my e (So.names hC);rw [show valueAt S.kvs n.nm=some (.ref n.x) from hv];refine Q7 (by simp only [Option.getD_some,show (Value.ref n.x==Value.none)=false from rfl]) ?_;refine G9 (G6 (Y9 ?_));walk_at "nm";refine hQ (H6 _ (fun O O e=>e) (H6 _ hC (I1_7 S (by simp) ?_ rfl rfl rfl rfl (M8 n (by rw [e];simp) rfl rfl))));unfold ak;rw [if_pos hin];exact hA
 ·have hin':nm∉S.nds.map Nd.nm:=by rw [hA.names];exact hin
  rw [show valueAt S.kvs nm=none from Ag hin'];refine W8 (by simp only [Option.getD_none,show (Value.none==Value.none)=true from rfl]) ?_;refine G6 (cZ (K8 (I9 (.ref 40) (I2 (by kernel_rfl) (G7 ?_)))));walk_at "nm";refine H5 (V7 (CW nm t) hr4 (show Cells τ ([]++(S.cells w++[])) from hC) (fun v τ1 L' hC1 hv=>?_) fun O O O O h=>h.elim);refine E1_5 hv fun n zE zF zG hk hsu=>?_;clear hv;obtain rfl:=zE;obtain rfl:=zF;obtain rfl:=zG;replace hC1:Cells τ1 (S.cells w++(n.cells++[])):=hC1.perm (by simpa using List.perm_append_comm);refine R6 (Z2 hC1) fun od1 t1 t2 hdx1 hf1=>?_;refine G8 (gH hC1) fun o1 hd1 D1=>?_;refine tW (R7 ?_);walk_at "nm";refine T9 (U5 hC1) hdx1 hf1 (v:=.ref S.d) (by kernel_rfl) (by kernel_rfl) rfl ?_;walk_at "nm";refine rZ hd1 D1 (strKind_is _ _ _ _) (by unfold So.kvs;rw [I3];exact (kq1 755589896717395204084129) hsz) fun o' D'=>?_;rw [show stored S.kvs n.nm (.ref n.x)=S.kvs++[(n.nm,.ref n.x)] from Dp hin'] at D';have hC2:=So.addN hC1 D';refine I8 ?_;refine G9 (G6 (Y9 ?_));walk_at "nm";refine hQ (H6 _ (fun O O e=>e) (H6 _ hC2 (I1_7 ({ S with nds:=S.nds++[n] }) (by simp) ?_ rfl rfl rfl rfl (M8 n (by simp) rfl rfl))));unfold ak;rw [if_neg hin];exact hA.addN hin hk hsu
theorem ww {c:Cx} {τ:PH} {m:Lo} {X:PV} {l:Addr} {vs:List Value} {Q:PV} (hl:τ l=some (H4 vs)) (hn:vs.length≤10000) (h:∀ t,Q (.int vs.length t) τ m):W c (PySem.call (.builtin "len") [.ref l]) τ m Q X :=
 cg (fun Q E s hs h=>by
  refine len_tuple (items:=vs.toArray) (M8 _ (hs.keep _ _ hl) rfl ⟨_,rfl⟩) (by simp;lia) ?_;simpa using h _ _) h
noncomputable abbrev tpC (vs:List Value):Obj→Prop:=fun o=>o=H4 vs
noncomputable def fu (ns:List Str) (ps:List Str):List Str:=ps.foldl ak ns
noncomputable def dB (nm:Str) (sf:Str→List Str) (ps:List Str):Str→List Str:=ps.foldl (fun f p=>sup f p (f p++[nm])) sf
theorem ue (ns:List Str) (x:Str):(ak ns x).length≤ns.length+1:=by
 unfold ak;split <;> simp
theorem xA:∀ (ps ns:List Str),(fu ns ps).length≤ns.length+ps.length
 | [],_=>K9 _
 | p::r,ns=>by
  have h1:=ue ns p;have h2:=xA r (ak ns p);show (fu (ak ns p) r).length≤_;simp only [R8];exact (kq4 24880382798654013985865793) h1 h2
theorem Abs.length {S:So} {ns:List Str} {kf:Str→Int} {sf:Str→List Str} (h:Abs S ns kf sf):S.nds.length=ns.length:=by rw [← h.names,I3]
theorem add_ {w:World} {os:OsState} (S:So) (nm:Str) (t:Tok) (rest:List (Str×Tok)) {args:Args} (hbind:bindArgs fd87 args=(do let t' ← newTuple (strValues rest);pure ([(G4 "self",.ref S.x),(G4 "node",.str nm t)]++[(G4 "predecessors",t')])))
  {ns:List Str} {kf:Str→Int} {sf:Str→List Str} (hA:Abs S ns kf sf) (hrd:S.rd=none) (hsz:ns.length+rest.length≤90) (hsu:∀ x,(sf x).length≤900) :
  U4 w os 6 (.ref 87) args (S.cells w) (fun v L'=>v=.none∧∃ S':So,L'=S'.cells w∧Abs S' (fu (ak ns nm) (rest.map (·.1))) (fup kf nm (kf nm+rest.length)) (dB nm sf (rest.map (·.1)))∧S'.x=S.x∧S'.rd=none∧S'.po=S.po∧S'.fi=S.fi):=by
 intro τ hC;refine sX (RX:=fun v τ'=>∃ L',Cells τ' L'∧False) k87 cd87 rfl (x:=G4 "predecessors") (rest:=strValues rest) hbind (by unfold strValues;simp;exact (kq2 773724054239738588878522433) hsz) fun A L tp htp hr=>?_;show W _ _ _ (upd (upd (upd (fun O=>none) (G4 "self") (.ref S.x)) (G4 "node") (.str nm t)) (G4 "predecessors") (.ref tp)) _ _;have hr5:Room 5 (cx w os A fd87 87 L).A:=hr;have hrl:(strValues rest).length=rest.length:=by unfold strValues;simp
 have hC0:Cells (G5 τ tp (H4 (strValues rest))) (S.cells w++[(tp,tpC (strValues rest))]):=(hC.new (P:=tpC (strValues rest)) htp rfl).perm (List.perm_append_comm (l₁:=[(tp,tpC (strValues rest))]));generalize G5 τ tp (H4 (strValues rest))=τ₀ at hC0 ⊢;clear hC htp;refine R6 (Z2 hC0) fun od t1 t2 hdx hf=>?_;refine G6 (O7 (O8 fun O=>?_));refine G6 (K6 (J0 (R7 ?_)));walk_at "nm";refine T9 (U5 hC0) hdx hf (v:=S.rdV) (by kernel_rfl) (by kernel_rfl) (by rw [So.rdV,hrd];rfl) ?_;refine aL (mD (I6 ?_));refine Q7 (by simp only [So.rdV,hrd,show (!(Value.none==Value.none))=false from rfl]) ?_;refine G9 (G6 (K3 (N7 ?_)));walk_at "nm";refine bU (f:=80) (U5 hC0) hdx hf (by kernel_rfl) (by kernel_rfl) (I2 (by kernel_rfl) (G7 ?_));walk_at "nm";refine H5 (V7 (vK S nm t hA (by rw [hA.length];exact (kq2 773712640315717081186617409) hsz)) hr5 hC0 (fun v τ1 L' hC1 hv=>?_) fun O O O O h=>h.elim);refine E1_7 hv fun S1 zB hA1 hx1 hrd1 hpo1 hfi1 zz=>?_;refine R4 zz fun n hn zC zD=>?_;clear zz;obtain rfl:=zB;obtain rfl:=zC;obtain rfl:=zD;refine M6 (dF hC1 hn) fun e1 e2 e3=>?_;refine dK (List.append_of_mem hn) fun L1 R1 hs=>?_;refine G6 (pZ ?_);walk_at "nm";refine eV (p:=42) (i:=1) e1 e2 (v:=.int n.k n.tk) rfl (by kernel_rfl) rfl ?_;refine K8 (I9 (.builtin "len") (I2 rfl (G7 ?_)));walk_at "nm";refine G8 (hC1.at_ (tp,tpC (strValues rest)) (by exact mR mH)) fun O etp zE=>?_;obtain rfl:=zE;refine H5 (ww etp ((kq3 25353389809367029547402409723969) hsz hrl) fun t3=>iU fun t4=>?_);refine iI (p:=42) (i:=1) e1 e2 (by decide) (by kernel_rfl) ?_;have hC2:=So.putK (k:=n.k+(strValues rest).length) (tk:=t4) hC1 hs;have hA2:=hA1.putK (So.names hC1) hs (n.k+(strValues rest).length) t4;rw [(hA1.node n hn).1,hrl] at hA2;rw [(hA1.node n hn).1,hrl] at hC2 ⊢;generalize hS2:({ S1 with nds:=L1++{ n with k:=kf n.nm+(rest.length:Int),tk:=t4 }::R1 }:So)=S2 at hA2 hC2;have hx2:S2.x=S.x:=by rw [← hS2];exact hx1
 have hrd2:S2.rd=none:=by rw [← hS2];exact hrd1.trans hrd
 have hpo2:S2.po=S.po:=by rw [← hS2];exact hpo1
 have hfi2:S2.fi=S.fi:=by rw [← hS2];exact hfi1
 clear hS2;show W _ _ (G5 τ1 n.x (bV n.dx n.nm n.t (kf n.nm+(rest.length:Int)) t4 n.l)) _ _ _;generalize G5 τ1 n.x (bV n.dx n.nm n.t (kf n.nm+(rest.length:Int)) t4 n.l)=τ2 at hC2 ⊢;refine G6 (aB ?_);walk_at "nm";refine G8 (hC2.at_ (tp,tpC (strValues rest)) (by exact mR mH)) fun O etp2 zF=>?_;obtain rfl:=zF;have hns1:(ak ns n.nm).length≤ns.length+1:=ue _ _;let J1:PN:=fun i τ' m'=>(∃ S':So,Cells τ' (S'.cells w++[(tp,tpC (strValues rest))])∧Abs S' (fu (ak ns n.nm) ((rest.take i).map (·.1))) (fup kf n.nm (kf n.nm+rest.length)) (dB n.nm sf ((rest.take i).map (·.1)))∧S'.x=S.x∧S'.rd=none∧S'.po=S.po∧S'.fi=S.fi) ∧
  vl m' "self" (.ref S.x)∧vl m' "node" (.str n.nm t)
 refine R0 _ _ _ (Iters.tuple hr5.quiet etp2) (Q0 J1 ⟨(bu S2 hC2 (by simpa [fu,dB] using hA2) hx2 hrd2 hpo2 hfi2),?_,?_⟩ ?_ ?_ ?_)
 ·walk_at "mv"
 ·walk_at "mv"
 ·intro i τ' m' zG b hb;obtain ⟨zH,_⟩:=zG;refine G8 zH fun S' hC' O=>?_;clear zH;rw [I7] at hb;subst hb;refine G8 (hC'.at_ (b,tpC (strValues rest)) (by exact mR mH)) fun O e zI=>?_;obtain rfl:=zI;rw [e,etp2]
 ·intro i v τ' m' hi hv zJ;refine M6 zJ fun zK m1 m2=>?_;clear zJ;refine dU zK fun S' hC' hA' hx' hrd' hpo' hfi'=>?_;clear zK;rw [hrl] at hi;obtain ⟨p,hp,rfl⟩:∃ p,rest[i]? = some p∧v=.str p.1 p.2:=by
   unfold strValues at hv;rw [S9] at hv;cases q:rest[i]? with
   | none=>rw [q] at hv;cases hv
   | some p=>rw [q] at hv;exact (H6 p rfl (by simpa using hv.symm))
  refine R6 (Z2 hC') fun od' t1' t2' hdx' hf'=>?_;have hlen:=xA ((rest.take i).map (·.1)) (ak ns n.nm);have htk:((rest.take i).map (·.1)).length≤rest.length:=by rw [I3,eQ];lia
  have etake:(rest.take (i+1)).map (·.1)=(rest.take i).map (·.1)++[p.1]:=by rw [aC,hp];simp
  refine I8 ?_;refine G6 (K3 (N7 ?_));walk_at "nm";rw [← hx'] at m1;try rw [← hx']
  refine bU (f:=80) (U5 hC') hdx' hf' (by kernel_rfl) (by kernel_rfl) (I2 (by kernel_rfl) (G7 ?_));walk_at "nm";refine H5 (V7 (vK S' p.1 p.2 hA' (by rw [hA'.length];exact (kq5 28544958125120951344519399567513231572607617089) hsz hns1 hlen htk)) hr5 hC' (fun v τ1 L' hC1 hv=>?_) fun O O O O h=>h.elim);refine E1_7 hv fun S3 zL hA3 hx3 hrd3 hpo3 hfi3 zz=>?_;refine R4 zz fun q hq hqn zM=>?_;clear zz;obtain rfl:=zL;obtain rfl:=zM;refine M6 (dF hC1 hq) fun q1 q2 q3=>?_;refine dK (List.append_of_mem hq) fun L3 R3 hs3=>?_;refine G6 (O7 (N7 (R7 ?_)));walk_at "nm";refine eV (p:=43) (i:=2) q1 q2 (v:=.ref q.l) rfl (by kernel_rfl) rfl ?_;refine T8 q3 F.plainAttrs_list F.slot_list_append F.type_list_append (I2 rfl (G7 ?_));walk_at "nm";have hql:(strValues q.succ).length≤10000:=by
   have z:=(hA3.node q hq).2;have z2:=congrArg List.length z;rw [I3] at z2;unfold strValues;rw [I3,z2];have:∀ (ps:List Str) (f:Str→List Str) (x:Str),(dB n.nm f ps x).length≤(f x).length+ps.length:=by
    intro ps;induction ps with
    | nil=>intro f x;exact K9 _
    | cons p r ih =>
     intro f x;have h1:=ih (sup f p (f p++[n.nm])) x;have h2:(sup f p (f p++[n.nm]) x).length≤(f x).length+1:=by
      unfold sup;split
      ·rename_i e;subst e;simp
      ·exact (kq1 21577761)
     show (dB n.nm (sup f p (f p++[n.nm])) r x).length≤_;simp only [R8];exact (kq4 24880381715538719107779649) h1 h2
   have z3:=this ((rest.take i).map (·.1)) sf q.nm;have z4:=hsu q.nm;exact (kq5 935374986430052032775708226094014689892572103886913) hsz htk z3 z4
  refine H5 (V4 q3 hql fun n'=>?_);have e5:strValues q.succ++[.str n.nm t]=strValues (q.succ++[(n.nm,t)]):=by rw [bx];rfl
  rw [e5];have hC4:=So.putS (l:=q.succ++[(n.nm,t)]) (j:=n') hC1 hs3;have hA4:=hA3.putS (So.names hC1) hs3 (q.succ++[(n.nm,t)]) n';rw [hx'] at m1;refine G9 ⟨(bu _ hC4 ?_ (hx3.trans hx') (hrd3.trans hrd') (hpo3.trans hpo') (hfi3.trans hfi')),?_,?_⟩
  ·rw [etake];have z1:fu (ak ns n.nm) ((rest.take i).map (·.1)++[p.1])=ak (fu (ak ns n.nm) ((rest.take i).map (·.1))) p.1:=by unfold fu;rw [List.foldl_append];rfl
   have z2:dB n.nm sf ((rest.take i).map (·.1)++[p.1])=sup (dB n.nm sf ((rest.take i).map (·.1))) p.1 (dB n.nm sf ((rest.take i).map (·.1)) p.1++[n.nm]):=by unfold dB;rw [List.foldl_append];rfl
   rw [z1,z2,← hqn];have z3:(q.succ++[(n.nm,t)]).map (·.1)=dB n.nm sf ((rest.take i).map (·.1)) q.nm++[n.nm]:=by rw [N6,(hA3.node q hq).2];rfl
   rw [z3,← hqn] at hA4;exact hA4
  ·walk_at "mv"
  ·walk_at "mv"
 ·intro τ' m' zN;refine M6 zN fun zO m1 m2=>?_;clear zN;refine dU zO fun S' hC' hA' hx' hrd' hpo' hfi'=>?_;clear zO;rw [hrl,aD] at hA';refine G9 (G9 (H6 _ (fun O O e=>e) (M8 _ hC'.left rfl (bu S' rfl hA' hx' hrd' hpo' hfi'))))
theorem Q8 (l:List (Str×Tok)):(strValues l).length=l.length:=by unfold strValues;simp
theorem gZ {l:List (Str×Tok)} {i:Nat} {v:Value} (hv:(strValues l)[i]? = some v):∃ p,l[i]? = some p∧v=.str p.1 p.2:=by
 unfold strValues at hv;rw [S9] at hv;cases q:l[i]? with
 | none=>rw [q] at hv;cases hv
 | some p=>rw [q] at hv;exact (H6 p rfl (by simpa using hv.symm))
noncomputable def cD (kf:Str→Int) (xs:List Str):Str→Int:=fun y=>if y∈xs then -1 else kf y
theorem Cm (kf:Str→Int) (xs:List Str) (x:Str):cD kf (xs++[x])=fup (cD kf xs) x (-1):=by
 funext y;unfold cD fup;by_cases h:y=x
 ·simp [h]
 ·by_cases h2:y∈xs <;> simp [h,h2]
theorem vG {w:World} {os:OsState} (S:So) {ns:List Str} {kf:Str→Int} {sf:Str→List Str} {r:Addr} {l:List (Str×Tok)} (hA:Abs S ns kf sf) (hrd:S.rd=some (r,l)) (hin:∀ p∈l,p.1∈ns) (hl:l.length≤1000) :
  U4 w os 5 (.ref 99) ⟨[.ref S.x],[]⟩ (S.cells w) (fun v L'=>∃ (S':So) (tp:Addr),v=.ref tp∧L'=S'.cells w++[(tp,tpC (strValues l))]∧Abs S' ns (cD kf (l.map (·.1))) sf∧S'.x=S.x∧S'.rd=some (r,[])∧S'.po=S.po+l.length∧S'.fi=S.fi):=by
 intro τ hC;refine Z7 (RX:=fun v τ'=>∃ L',Cells τ' L'∧False) k99 cd99 rfl (binds:=[(G4 "self",.ref S.x)]) (V9 (fun P=>by kernel_rfl)) fun A L hr=>?_;let c0:Cx:=cx w os A fd99 99 L;show W c0 (execs _ c0.env) _ (upd (fun O=>none) (G4 "self") (.ref S.x)) _ _;refine W7 fun Q X hQ=>?_;have hr4:Room 4 (cx w os A fd99 99 L).A:=hr;rw [← X4 (S.cells w)] at hC;refine R6 (Z2 hC) fun od t1 t2 hdx hf=>?_;refine U0 (oO hC hrd) fun j hr=>?_;have hV:S.rdV=.ref r:=by unfold So.rdV;rw [hrd]
 have hll:(strValues l).length≤1000:=by rw [Q8];exact hl
 refine G6 (O7 (O8 fun O=>?_));refine G6 (K6 (J0 (R7 ?_)));walk_at "nm";refine T9 (U5 hC) hdx hf (v:=S.rdV) (by kernel_rfl) (by kernel_rfl) (by rw [hV];rfl) ?_;refine aL (eX (I6 ?_));refine Q7 (by simp only [hV,show (Value.ref r==Value.none)=false from rfl]) ?_;refine G9 (G6 (K3 (K8 (I9 (.type "tuple") (I2 rfl (G7 (R7 ?_)))))));walk_at "nm";refine T9 (U5 hC) hdx hf (v:=S.rdV) (by kernel_rfl) (by kernel_rfl) (by rw [hV];rfl) ?_;rw [hV];refine H5 (xQ hr (lq (by assumption)) fun tp htp=>?_);have hC1:Cells (G5 τ tp (H4 (strValues l))) (S.cells w++[(tp,tpC (strValues l))]):=(hC.new (P:=tpC (strValues l)) htp rfl).perm (by simpa using List.perm_append_comm (l₁:=[(tp,tpC (strValues l))]));generalize G5 τ tp (H4 (strValues l))=τ1 at hC1 ⊢;refine R6 (Z2 hC1) fun od t1 t2 hdx hf=>?_;refine G6 (K3 (R7 ?_));walk_at "nm";refine T9 (U5 hC1) hdx hf (v:=.ref S.d) (by kernel_rfl) (by kernel_rfl) rfl ?_;refine G6 (aB ?_);walk_at "nm";refine G8 (hC1.at_ (tp,tpC (strValues l)) (by exact mR mH)) fun O etp zB=>?_;obtain rfl:=zB;let J1:PN:=fun i τ' m'=>(∃ S':So,Cells τ' (S'.cells w++[(tp,tpC (strValues l))])∧Abs S' ns (cD kf ((l.take i).map (·.1))) sf∧S'.x=S.x∧S'.d=S.d∧S'.rd=some (r,l)∧S'.po=S.po∧S'.fi=S.fi) ∧
  vl m' "self" (.ref S.x)∧vl m' "n2i" (.ref S.d)∧vl m' "result" (.ref tp)
 refine R0 _ _ _ (Iters.tuple hr4.quiet etp) (Q0 J1 ⟨(I1_7 S hC1 ?_ rfl rfl hrd rfl rfl),?_,?_,?_⟩ ?_ ?_ ?_)
 ·have:cD kf ((l.take 0).map (·.1))=kf:=by funext y;unfold cD;simp
  rw [this];exact hA
 ·walk_at "mv"
 ·walk_at "mv"
 ·walk_at "mv"
 ·intro i τ' m' zC b hb;refine O1 zC fun zD O=>?_;clear zC;refine G8 zD fun S' hC' O=>?_;clear zD;rw [I7] at hb;subst hb;refine G8 (hC'.at_ (b,tpC (strValues l)) (by exact mR mH)) fun O e zE=>?_;obtain rfl:=zE;rw [e,etp]
 ·intro i v τ' m' hi hv zF;refine bR zF fun zG m1 m2 m3=>?_;clear zF;refine E1_7 zG fun S' hC' hA' hx' hd' hrd' hpo' hfi'=>?_;clear zG;refine G8 (gZ hv) fun p hp zH=>?_;obtain rfl:=zH;refine R6 (hA'.split (hin p (aW hp))) fun L1 n R1 hs hnm=>?_;refine G8 (gH hC') fun o' hd D=>?_;have hva:=my hs (So.names hC');obtain ⟨e1,e2,_⟩:=dF hC' (n:=n) (by rw [hs];simp);refine I8 ?_;refine G6 (bK (I9 (.int (-1) 197) (T5 ?_ fun O O=>.inl rfl)));walk_at "nm";walk_at "nm";rw [← hd'] at m2;try rw [← hd']
  refine ⟨(I5 "dict" _ (TyAt.ref hd (cI D).1) F.slot_dict_getitem.lookup),W.getD hd D (strKind_is _ _ _ _) (by rw [← hnm];exact hva) ?_⟩;refine iI (p:=42) (i:=1) e1 e2 (by decide) (by kernel_rfl) ?_;have hC2:=So.putK (k:=-1) (tk:=197) hC' hs;have hA2:=hA'.putK (So.names hC') hs (-1) 197;rw [hd'] at m2;refine G9 ⟨(I1_7 _ hC2 ?_ hx' hd' hrd' hpo' hfi'),?_,?_,?_⟩
  ·have e:(l.take (i+1)).map (·.1)=(l.take i).map (·.1)++[p.1]:=by rw [aC,hp];simp
   rw [e,Cm,← hnm];exact hA2
  ·walk_at "mv"
  ·walk_at "mv"
  ·walk_at "mv"
 ·intro τ' m' zI;refine bR zI fun zJ m1 m2 m3=>?_;clear zI;refine E1_7 zJ fun S' hC' hA' hx' hd' hrd' hpo' hfi'=>?_;clear zJ;rw [Q8,aD] at hA';have hV':S'.rdV=.ref r:=by unfold So.rdV;rw [hrd']
  refine R6 (Z2 hC') fun od t1 t2 hdx hf=>?_;refine U0 (oO hC' hrd') fun j hr=>?_;refine G9 (G6 (O7 (N7 (R7 ?_))));walk_at "nm";rw [← hx'] at m1;try rw [← hx']
  refine T9 (U5 hC') hdx hf (v:=S'.rdV) (by kernel_rfl) (by kernel_rfl) (by rw [hV'];rfl) ?_;rw [hV'];refine T8 hr F.plainAttrs_list F.slot_list_clear F.type_list_clear (aq rfl ?_);refine Cj hr (lq (by assumption)) fun n'=>?_;have hC3:=uq (l':=[]) (j:=n') hC' hrd';generalize hS3:({ S' with rd:=some (r,[]) }:So)=S3 at hC3;have hA3:Abs S3 ns (cD kf (l.map (·.1))) sf:=by rw [← hS3];exact ⟨hA'.names,hA'.node,hA'.out⟩
  have hx3:S3.x=S'.x:=by rw [← hS3]
  have hrd3:S3.rd=some (r,[]):=by rw [← hS3]
  have hpo3:S3.po=S.po:=by rw [← hS3];exact hpo'
  have hfi3:S3.fi=S.fi:=by rw [← hS3];exact hfi'
  clear hS3;show W _ _ (G5 τ' r (G3 (strValues []) n')) _ _ _;generalize G5 τ' r (G3 (strValues []) n')=τ3 at hC3 ⊢;refine R6 (Z2 hC3) fun od t1 t2 hdx hf=>?_;rw [← hx3] at m1;try rw [← hx3]
  refine G6 (pZ ?_);walk_at "nm";refine T9 (U5 hC3) hdx hf (v:=.int S3.po t1) (by kernel_rfl) (by kernel_rfl) rfl ?_;refine K8 (I9 (.builtin "len") (I2 rfl (G7 ?_)));walk_at "nm";refine G8 (hC3.at_ (tp,tpC (strValues l)) (by exact mR mH)) fun O etp3 zK=>?_;obtain rfl:=zK;refine H5 (ww etp3 (lq (by assumption)) fun t3=>iU fun t4=>?_);refine Y7 (U5 hC3) hdx hf (by simp [bH]) (by kernel_rfl) fun od' hf'=>?_;replace hf':S8 od' (bH S3.d S3.rdV (S3.po+(strValues l).length) S3.fi t4 t2):=by
   have:aM (G4 "_npassedout") (.int (S3.po+(strValues l).length) t4) (bH S3.d S3.rdV S3.po S3.fi t1 t2)=bH S3.d S3.rdV (S3.po+(strValues l).length) S3.fi t4 t2:=by kernel_rfl
   rw [this] at hf';exact hf'
  have hC4:=xq hC3 hf';refine G6 (Y9 ?_);walk_at "nm";refine hQ (H6 _ (fun O O e=>e) (H6 _ hC4 (I2_7 _ tp rfl rfl ⟨hA3.names,hA3.node,hA3.out⟩ (hx3.trans hx') hrd3 ?_ hfi3)));show S3.po+((strValues l).length:Int)=_;rw [hpo3,Q8]
theorem svl {xs:List (Str×Tok)} {n:Nat} (h:xs.length≤n):(strValues xs).length≤n:=by rw [Q8];exact h
theorem mpl {α β:Type} {f:α→β} {xs:List α} {n:Nat} (h:xs.length≤n):(xs.map f).length≤n:=by rw [I3];exact h
section
variable {c:Cx} {τ:PH} {m:Lo} {X:PV}
theorem zA {v1 v2:Expr} {rest:List Expr} {pos:Pos} {Q:PV} (h:W c (joinParts Str.empty (eval v1 c.env::eval v2 c.env::evalEach rest c.env)) τ m Q X):W c (eval (.JoinedStr (v1::v2::rest) pos) c.env) τ m Q X:=fun s hs=>JoinedStr_many (h s hs)
theorem W.wjp0 {out:Str} {Q:PV} (hz:out.length≤10000) (h:∀ t,Q (.str out t) τ m):W c (joinParts out []) τ m Q X:=fun s hs=>joinParts_nil ⟨τ,m,Step.toks hs _,h _⟩ (by rw [sizeLine_eq];exact (kq1 774468103649805368836513) hz)
theorem rT {out:Str} {x:Sem Value} {rest:List (Sem Value)} {Q:PV} (h:W c x τ m (fun v τ1 m1=>∃ y t,v=.str y t∧(out++y).length≤10000∧W c (joinParts (out++y) rest) τ1 m1 Q X) X):W c (joinParts out (x::rest)) τ m Q X:=fun s hs =>
 joinParts_cons (h.use hs (fun v s1 τ1 m1 st1 q1=>by
  refine aV q1 fun y t zB hz q=>?_;clear q1;obtain rfl:=zB;exact ⟨by rw [sizeLine_eq];exact (kq1 774468103649805368836513) hz,W.cont q st1⟩) xx)
theorem Ez {value:Expr} {pos:Pos} {Q:PV} (h:W c (eval value c.env) τ m (fun v τ1 m1=>∃ x t,v=.str x t∧(reprText x).length≤10000∧∀ t',Q (.str (reprText x) t') τ1 m1) X):W c (eval (.FormattedValue value 114 none pos) c.env) τ m Q X:=fun s hs =>
 wpAny_FormattedValue_repr (h.use hs (fun v s1 τ1 m1 st1 q1=>by
  refine aV q1 fun x t zC hz q=>?_;clear q1;obtain rfl:=zC;exact pyReprObj_str (formatField_str (fun t' tk=>⟨τ1,m1,st1.tk _,q t'⟩) (by rw [sizeLine_eq];exact (kq1 774468103649805368836513) hz)) (by rw [sizeLine_eq];exact (kq1 774468103649805368836513) hz)) xx)
theorem vM {a b x:Str} {t:Tok} {n:Expr} {k1 k2:Nat} {p1 p2 p3 pos:Pos} {Q:PV} (ha:a.length≤1000) (hb:b.length≤1000) (hx:(reprText x).length≤1000)
  (h:W c (eval n c.env) τ m (fun v τ1 m1=>v=.str x t∧∀ y t',Q (.str y t') τ1 m1) X) :
  W c (eval (.JoinedStr [.Constant (.str a) k1 p1,.FormattedValue n 114 none p2,.Constant (.str b) k2 p3] pos) c.env) τ m Q X:=by
 have e0:(Str.empty++a).length=a.length:=by rw [Str.length_append];show 0+_=_;exact (kq1 23119921)
 refine zA (rT (O8 fun O=>⟨_,_,rfl,by exact (kq2 24759169735673924711483416993) ha e0,rT (Ez (W.mono h (fun v τ1 m1 ⟨hv,q⟩=>⟨x,t,hv,by exact (kq1 755589896717395205005729) hx,fun t'=>⟨_,_,rfl,?_,?_⟩⟩) fun O O O x=>x))⟩))
 ·rw [Str.length_append,e0];exact (kq2 850718594345693753760345095147183120801) ha hx
 ·show W c (joinParts _ [eval (.Constant (.str b) k2 p3) c.env]) _ _ _ _;refine rT (O8 fun O=>⟨_,_,rfl,?_,W.wjp0 ?_ fun t'=>q _ _⟩)
  ·rw [Str.length_append,Str.length_append,e0];exact (kq3 957823986123127051965155022308556955526488320981836193) ha hb hx
  ·rw [Str.length_append,Str.length_append,e0];exact (kq3 957823986123127051965155022308556955526488320981836193) ha hb hx
end
namespace BF
theorem slot_md_get:Slot "method_descriptor" "__get__" "method_descriptor.__get__" :=
 .of (owner:="method_descriptor") (n:="__get__") (by rw [typeLookup_type,builtinLookup_eq_fast];kernel_rfl) (by decide +kernel) (by decide +kernel) (by decide +kernel)
  (by first | exact .inl (by decide +kernel) | exact .inr (by decide +kernel)) (by rw [isSubtype_type];kernel_rfl)
theorem slot_wd_get:Slot "wrapper_descriptor" "__get__" "wrapper_descriptor.__get__" :=
 .of (owner:="wrapper_descriptor") (n:="__get__") (by rw [typeLookup_type,builtinLookup_eq_fast];kernel_rfl) (by decide +kernel) (by decide +kernel) (by decide +kernel)
  (by first | exact .inl (by decide +kernel) | exact .inr (by decide +kernel)) (by rw [isSubtype_type];kernel_rfl)
theorem entry_md_get:entryFor PySem.table "method_descriptor.__get__"=some Builtin.«method_descriptor.__get__»:=entryFor_of_tree (by kernel_rfl)
theorem entry_wd_get:entryFor PySem.table "wrapper_descriptor.__get__"=some Builtin.«wrapper_descriptor.__get__»:=entryFor_of_tree (by kernel_rfl)
theorem args_md_get (a b c:Value):argsOk "method_descriptor.__get__" ⟨[a,b,c],[]⟩:=by unfold argsOk;kernel_rfl
theorem args_wd_get (a b c:Value):argsOk "wrapper_descriptor.__get__" ⟨[a,b,c],[]⟩:=by unfold argsOk;kernel_rfl
theorem md_get:typeLookup (.type "method_descriptor") (G4 "__get__")=pure (some (.builtin "method_descriptor.__get__")):=slot_md_get.lookup
theorem md_set:typeLookup (.type "method_descriptor") (G4 "__set__")=pure none:=by rw [typeLookup_type,builtinLookup_eq_fast];kernel_rfl
theorem md_del:typeLookup (.type "method_descriptor") (G4 "__delete__")=pure none:=by rw [typeLookup_type,builtinLookup_eq_fast];kernel_rfl
theorem wd_get:typeLookup (.type "wrapper_descriptor") (G4 "__get__")=pure (some (.builtin "wrapper_descriptor.__get__")):=slot_wd_get.lookup
theorem wd_set:typeLookup (.type "wrapper_descriptor") (G4 "__set__")=pure none:=by rw [typeLookup_type,builtinLookup_eq_fast];kernel_rfl
theorem wd_del:typeLookup (.type "wrapper_descriptor") (G4 "__delete__")=pure none:=by rw [typeLookup_type,builtinLookup_eq_fast];kernel_rfl
end BF
noncomputable abbrev R9 (id:String) (a:Addr):Obj:={ cls:=.type "builtin_function_or_method",data:=.fields #[.builtin id,.ref a] }
noncomputable abbrev mwO (id:String) (a:Addr):Obj:={ cls:=.type "method-wrapper",data:=.fields #[.builtin id,.ref a] }
theorem BL:isSubtype (.type "dict") (.type (".".intercalate ("dict.get".cutAt '.').dropLast))=pure true:=by
 rw [show ".".intercalate ("dict.get".cutAt '.').dropLast="dict" by decide +kernel,isSubtype_type];kernel_rfl
theorem CX:isSubtype (.type "set") (.type (".".intercalate ("set.__contains__".cutAt '.').dropLast))=pure true:=by
 rw [show ".".intercalate ("set.__contains__".cutAt '.').dropLast="set" by decide +kernel,isSubtype_type];kernel_rfl
theorem Fq:isSubtype (.type "list_iterator") (.type (".".intercalate ("list_iterator.__next__".cutAt '.').dropLast))=pure true:=by
 rw [show ".".intercalate ("list_iterator.__next__".cutAt '.').dropLast="list_iterator" by decide +kernel,isSubtype_type];kernel_rfl
theorem Ew (a:Addr) (o:Obj) (hc:o.cls=.type "dict") :
  Meets (Builtin.«method_descriptor.__get__» ⟨[.builtin "dict.get",.ref a,.type "dict"],[]⟩) (fun A R s=>s.heap.get? a=some o∧R (.ok (.ret (.ref s.heap.objs.size))) { s with heap:=s.heap.push (R9 "dict.get" a) }) :=
 Meets.of_wp fun prog w A R s hs=>by
  obtain ⟨hp,g,d,tk,os⟩:=s;obtain ⟨hx,hs⟩:=hs;have hT:(⟨hp,g,d,tk,os⟩:Shared).TypeIs (.ref a) "dict":=⟨_,hx,hc⟩
  have f1:=BL;unfold Builtin.«method_descriptor.__get__»;repeat (any_goals (first | assumption | wp_step))
  exact ⟨_,rfl,hs⟩
theorem Ax (a:Addr) (o:Obj) (hc:o.cls=.type "set") :
  Meets (Builtin.«method_descriptor.__get__» ⟨[.builtin "set.__contains__",.ref a,.type "set"],[]⟩) (fun A R s=>s.heap.get? a=some o∧R (.ok (.ret (.ref s.heap.objs.size))) { s with heap:=s.heap.push (R9 "set.__contains__" a) }) :=
 Meets.of_wp fun prog w A R s hs=>by
  obtain ⟨hp,g,d,tk,os⟩:=s;obtain ⟨hx,hs⟩:=hs;have hT:(⟨hp,g,d,tk,os⟩:Shared).TypeIs (.ref a) "set":=⟨_,hx,hc⟩
  have f1:=CX;unfold Builtin.«method_descriptor.__get__»;repeat (any_goals (first | assumption | wp_step))
  exact ⟨_,rfl,hs⟩
theorem FZ (a:Addr) (o:Obj) (hc:o.cls=.type "list_iterator") :
  Meets (Builtin.«wrapper_descriptor.__get__» ⟨[.builtin "list_iterator.__next__",.ref a,.type "list_iterator"],[]⟩) (fun A R s=>s.heap.get? a=some o∧R (.ok (.ret (.ref s.heap.objs.size))) { s with heap:=s.heap.push (mwO "list_iterator.__next__" a) }) :=
 Meets.of_wp fun prog w A R s hs=>by
  obtain ⟨hp,g,d,tk,os⟩:=s;obtain ⟨hx,hs⟩:=hs;have hT:(⟨hp,g,d,tk,os⟩:Shared).TypeIs (.ref a) "list_iterator":=⟨_,hx,hc⟩
  have f1:=Fq;unfold Builtin.«wrapper_descriptor.__get__»;repeat (any_goals (first | assumption | wp_step))
  exact ⟨_,rfl,hs⟩
theorem yK (a:Addr) (es:Array DictEntry) (k:Nat) (sl:Array (Option Value)) (u:Tok) :
  Meets (Builtin.«object.__getattribute__» ⟨[.ref a,.str "get" u],[]⟩) (fun A R s=>s.heap.get? a=some { cls:=.type "dict",dict:=none,data:=.dict es k,slots:=sl }∧R (.ok (.ret (.ref s.heap.objs.size))) { s with heap:=s.heap.push (R9 "dict.get" a) }) :=
 Meets.of_wp fun prog w A R s hs=>by
  obtain ⟨hp,g,d,tk,os⟩:=s;obtain ⟨hx,hs⟩:=hs;have hT:(⟨hp,g,d,tk,os⟩:Shared).TypeIs (.ref a) "dict":=⟨_,hx,rfl⟩
  have f1:=F.slot_dict_get.lookup;have f2:=F.type_dict_get;have f3:=BF.md_get;have f4:=BF.md_set;have f5:=BF.md_del;unfold Builtin.«object.__getattribute__»;repeat (any_goals (first | assumption | ((with_reducible show wpAny _ _ (call (Value.builtin "method_descriptor.__get__") _ _) _ _ _);refine call_meets BF.slot_md_get (show Shared.TypeIs _ _ _ from F.type_dict_get) BF.entry_md_get (BF.args_md_get _ _ _) (Ew a _ rfl) ⟨hx,?_⟩) | wp_step))
  exact wpAny_pure ⟨_,rfl,hs⟩
theorem Df (a:Addr) (es:Array (Int×Value)) (k:Nat) (tb:SetTable) (sl:Array (Option Value)) (u:Tok) :
  Meets (Builtin.«object.__getattribute__» ⟨[.ref a,.str "__contains__" u],[]⟩) (fun A R s=>s.heap.get? a=some { cls:=.type "set",dict:=none,data:=.set es k tb,slots:=sl }∧R (.ok (.ret (.ref s.heap.objs.size))) { s with heap:=s.heap.push (R9 "set.__contains__" a) }) :=
 Meets.of_wp fun prog w A R s hs=>by
  obtain ⟨hp,g,d,tk,os⟩:=s;obtain ⟨hx,hs⟩:=hs;have hT:(⟨hp,g,d,tk,os⟩:Shared).TypeIs (.ref a) "set":=⟨_,hx,rfl⟩
  have f1:=F.slot_set_contains.lookup;have f2:=F.type_set_contains;have f3:=BF.md_get;have f4:=BF.md_set;have f5:=BF.md_del;unfold Builtin.«object.__getattribute__»;repeat (any_goals (first | assumption | ((with_reducible show wpAny _ _ (call (Value.builtin "method_descriptor.__get__") _ _) _ _ _);refine call_meets BF.slot_md_get (show Shared.TypeIs _ _ _ from F.type_set_contains) BF.entry_md_get (BF.args_md_get _ _ _) (Ax a _ rfl) ⟨hx,?_⟩) | wp_step))
  exact wpAny_pure ⟨_,rfl,hs⟩
namespace BF
theorem slot_li_next:Slot "list_iterator" "__next__" "list_iterator.__next__" :=
 .of (owner:="list_iterator") (n:="__next__") (by rw [typeLookup_type,builtinLookup_eq_fast];kernel_rfl) (by decide +kernel) (by decide +kernel) (by decide +kernel)
  (by first | exact .inl (by decide +kernel) | exact .inr (by decide +kernel)) (by rw [isSubtype_type];kernel_rfl)
theorem type_li_next:typeOf (.builtin "list_iterator.__next__")=pure (.type "wrapper_descriptor"):=by show builtinType _=_;rw [builtinType_eq_fast];kernel_rfl
theorem slot_li_ga:Slot "list_iterator" "__getattribute__" "object.__getattribute__" :=
 .of (owner:="object") (n:="__getattribute__") (by rw [typeLookup_type,builtinLookup_eq_fast];kernel_rfl) (by decide +kernel) (by decide +kernel) (by decide +kernel)
  (by first | exact .inl (by decide +kernel) | exact .inr (by decide +kernel)) (by rw [isSubtype_type];kernel_rfl)
theorem entry_set_ga:entryFor PySem.table "set.__getattribute__"=some Builtin.«object.__getattribute__» :=
 entryFor_alias (id':="object.__getattribute__") (by kernel_rfl) (by decide +kernel) (by decide +kernel) (by kernel_rfl)
theorem args_set_ga (a b:Value):argsOk "set.__getattribute__" ⟨[a,b],[]⟩:=by unfold argsOk;kernel_rfl
theorem args_obj_ga (a b:Value):argsOk "object.__getattribute__" ⟨[a,b],[]⟩:=by unfold argsOk;kernel_rfl
theorem dict_nga:typeLookup (.type "dict") "__getattr__"=pure none:=am_dict_getattr_none
theorem set_nga:typeLookup (.type "set") "__getattr__"=pure none:=by rw [typeLookup_type,builtinLookup_eq_fast];kernel_rfl
theorem li_nga:typeLookup (.type "list_iterator") "__getattr__"=pure none:=by rw [typeLookup_type,builtinLookup_eq_fast];kernel_rfl
end BF
theorem Eu (a:Addr) (vs:Array Value) (sl:Array (Option Value)) (u:Tok) :
  Meets (Builtin.«object.__getattribute__» ⟨[.ref a,.str "__next__" u],[]⟩) (fun A R s=>s.heap.get? a=some { cls:=.type "list_iterator",dict:=none,data:=.fields vs,slots:=sl }∧R (.ok (.ret (.ref s.heap.objs.size))) { s with heap:=s.heap.push (mwO "list_iterator.__next__" a) }) :=
 Meets.of_wp fun prog w A R s hs=>by
  obtain ⟨hp,g,d,tk,os⟩:=s;obtain ⟨hx,hs⟩:=hs;have hT:(⟨hp,g,d,tk,os⟩:Shared).TypeIs (.ref a) "list_iterator":=⟨_,hx,rfl⟩
  have f1:=BF.slot_li_next.lookup;have f2:=BF.type_li_next;have f3:=BF.wd_get;have f4:=BF.wd_set;have f5:=BF.wd_del;unfold Builtin.«object.__getattribute__»;repeat (any_goals (first | assumption | ((with_reducible show wpAny _ _ (call (Value.builtin "wrapper_descriptor.__get__") _ _) _ _ _);refine call_meets BF.slot_wd_get (show Shared.TypeIs _ _ _ from BF.type_li_next) BF.entry_wd_get (BF.args_wd_get _ _ _) (FZ a _ rfl) ⟨hx,?_⟩) | wp_step))
  exact wpAny_pure ⟨_,rfl,hs⟩
section
variable {prog:Program} {w:World} {A:Around} {E:Value→Shared→Prop} {s:Shared} {a:Addr} {Q:Value→Shared→Prop}
theorem EY {es:Array DictEntry} {k:Nat} {sl:Array (Option Value)} (hx:s.heap.get? a=some { cls:=.type "dict",dict:=none,data:=.dict es k,slots:=sl })
  (h:∀ tk,Q (.ref s.heap.objs.size) { s with heap:=s.heap.push (R9 "dict.get" a),toks:=tk }):wpAny (model prog w) A (getAttr (.ref a) "get" true) Q E s:=by
 obtain ⟨hp,g,d,tk,os⟩:=s;have hT:∀ tk',(⟨hp,g,d,tk',os⟩:Shared).TypeIs (.ref a) "dict":=fun O=>⟨_,hx,rfl⟩
 have f3:=F.slot_dict_getattribute.lookup;have f4:=F.slot_dict_getattribute.bind (.ref a);have f5:=BF.dict_nga;unfold getAttr getAttrBy;repeat (any_goals (first | assumption | exact hT _ | ((with_reducible show wpAny _ _ (call (Value.builtin "dict.__getattribute__") _ _) _ _ _);refine call_meets F.slot_dict_getattribute (hT _) am_entry_dict_getattribute (F.args_dict_getattribute_2 _ _) (yK a es k sl _) ⟨hx,?_⟩) | wp_step))
 exact wpAny_pure (h _)
theorem xZ {es:Array (Int×Value)} {k:Nat} {tb:SetTable} {sl:Array (Option Value)} (hx:s.heap.get? a=some { cls:=.type "set",dict:=none,data:=.set es k tb,slots:=sl })
  (h:∀ tk,Q (.ref s.heap.objs.size) { s with heap:=s.heap.push (R9 "set.__contains__" a),toks:=tk }):wpAny (model prog w) A (getAttr (.ref a) "__contains__" true) Q E s:=by
 obtain ⟨hp,g,d,tk,os⟩:=s;have hT:∀ tk',(⟨hp,g,d,tk',os⟩:Shared).TypeIs (.ref a) "set":=fun O=>⟨_,hx,rfl⟩
 have f3:=F.slot_set_getattribute.lookup;have f4:=F.slot_set_getattribute.bind (.ref a);have f5:=BF.set_nga;unfold getAttr getAttrBy;repeat (any_goals (first | assumption | exact hT _ | ((with_reducible show wpAny _ _ (call (Value.builtin "set.__getattribute__") _ _) _ _ _);refine call_meets F.slot_set_getattribute (hT _) BF.entry_set_ga (BF.args_set_ga _ _) (Df a es k tb sl _) ⟨hx,?_⟩) | wp_step))
 exact wpAny_pure (h _)
theorem xO {vs:Array Value} {sl:Array (Option Value)} (hx:s.heap.get? a=some { cls:=.type "list_iterator",dict:=none,data:=.fields vs,slots:=sl })
  (h:∀ tk,Q (.ref s.heap.objs.size) { s with heap:=s.heap.push (mwO "list_iterator.__next__" a),toks:=tk }):wpAny (model prog w) A (getAttr (.ref a) "__next__" true) Q E s:=by
 obtain ⟨hp,g,d,tk,os⟩:=s;have hT:∀ tk',(⟨hp,g,d,tk',os⟩:Shared).TypeIs (.ref a) "list_iterator":=fun O=>⟨_,hx,rfl⟩
 have f3:=BF.slot_li_ga.lookup;have f4:=BF.slot_li_ga.bind (.ref a);have f5:=BF.li_nga;unfold getAttr getAttrBy;repeat (any_goals (first | assumption | exact hT _ | ((with_reducible show wpAny _ _ (call (Value.builtin "object.__getattribute__") _ _) _ _ _);refine call_meets BF.slot_li_ga (hT _) F.entry_object_getattribute (BF.args_obj_ga _ _) (Eu a vs sl _) ⟨hx,?_⟩) | wp_step))
 exact wpAny_pure (h _)
end
noncomputable abbrev iK (cls id:String) (x:Addr):Obj:={ cls:=.type cls,data:=.fields #[.builtin id,.ref x] }
section
variable {prog:Program} {w:World} {A:Around} {E:Value→Shared→Prop} {s:Shared} {f x:Addr} {Q:Value→Shared→Prop}
theorem oR {cls id:String} {B:Builtin} {rest:List Value} {S:PySem.Spec} (ho:s.heap.get? f=some (iK cls id x)) (hc:cls="builtin_function_or_method"∨cls="method-wrapper")
  (chk:∀ A (Q:Unit→Shared→Prop) E,Q () s→wpAny (model prog w) A (checkBoundCall id ⟨.ref x::rest,[]⟩) Q E s) (plain:plainId id=true) (entry:entryFor PySem.table id=some B)
  (g:MeetsIn prog w (B ⟨.ref x::rest,[]⟩) S) (h:S A (wants Q E) s):wpAny (model prog w) A (call (.ref f) rest) Q E s:=by
 refine wpAny_call (codeAny_of_tree ?_);show wpAny _ _ (callAny (.ref f) ⟨rest,[]⟩) _ _ _;simp only [callAny];refine wpAny_bind (wpAny_load ho ?_);have e1:(((Value.type cls==Value.type "method")||(Value.type cls==Value.type "builtin_function_or_method"))||(Value.type cls==Value.type "method-wrapper"))=true:=by rcases hc with rfl | rfl <;> decide +kernel
 have e2:(Value.type cls != Value.type "method")=true:=by rcases hc with rfl | rfl <;> decide +kernel
 dsimp only [iK];rw [if_pos e1];show wpAny _ _ (if (Value.type cls != Value.type "method")=true then _ else _) _ _ _;rw [if_pos e2];refine wpAny_bind (chk _ _ _ (wpAny_pure ⟨plainId_quiet plain _,codeAny_builtin entry ?_⟩));rw [Around.under_plainId plain];exact g A (wants Q E) s h
end
section
variable {prog:Program} {w:World} {A:Around} {E:Value→Shared→Prop} {s:Shared} {x:Addr} {Q:Unit→Shared→Prop}
theorem El {es:Array DictEntry} {k:Nat} {sl:Array (Option Value)} {a b:Value} (ho:s.heap.get? x=some { cls:=.type "dict",dict:=none,data:=.dict es k,slots:=sl }) (h:Q () s) :
  wpAny (model prog w) A (checkBoundCall "dict.get" ⟨[.ref x,a,b],[]⟩) Q E s:=by
 obtain ⟨hp,g,d,tk,os⟩:=s;have hT:(⟨hp,g,d,tk,os⟩:Shared).TypeIs (.ref x) "dict":=⟨_,ho,rfl⟩
 have f1:isSubtype (.type "dict") (.type "module")=pure false:=by rw [isSubtype_type];kernel_rfl
 unfold checkBoundCall;repeat (any_goals (first | assumption | wp_step))
theorem Bg {es:Array (Int×Value)} {k:Nat} {tb:SetTable} {sl:Array (Option Value)} {a:Value} (ho:s.heap.get? x=some { cls:=.type "set",dict:=none,data:=.set es k tb,slots:=sl }) (h:Q () s) :
  wpAny (model prog w) A (checkBoundCall "set.__contains__" ⟨[.ref x,a],[]⟩) Q E s:=by
 obtain ⟨hp,g,d,tk,os⟩:=s;have hT:(⟨hp,g,d,tk,os⟩:Shared).TypeIs (.ref x) "set":=⟨_,ho,rfl⟩
 have f1:isSubtype (.type "set") (.type "module")=pure false:=by rw [isSubtype_type];kernel_rfl
 unfold checkBoundCall;repeat (any_goals (first | assumption | wp_step))
theorem ul (h:Q () s):wpAny (model prog w) A (checkBoundCall "list_iterator.__next__" ⟨[.ref x],[]⟩) Q E s:=by
 obtain ⟨hp,g,d,tk,os⟩:=s;unfold checkBoundCall;repeat (any_goals (first | assumption | wp_step))
end
noncomputable abbrev liO (l:Value) (i:Int):Obj:={ cls:=.type "list_iterator",data:=.fields #[l,.int i 0] }
theorem Fg:firstArgMember (.type "StopIteration") []=pure Value.none:=by kernel_rfl
theorem Cy:ownMembersOf (.type "StopIteration") []=#[]:=by kernel_rfl
theorem Fo {M:Model} {A:Around} {E:Value→Shared→Prop} {s:Shared} {Q:Value→Shared→Prop} (h:∀ h' e,Heap.MadeExc s.heap h' e "StopIteration" []→Q (.ref e) { s with heap:=h' }):wpAny M A (newExc (.type "StopIteration") []) Q E s:=by
 unfold newExc newTuple;refine wpAny_bind (wpAny_newObj_type ?_ (show _≤_ from T3 _));refine wpAny_bind (m:=firstArgMember _ _) (wpAny_of_eq (a:=Value.none) Fg ?_);rw [Cy];refine wpAny_newObj_type (h _ _ ⟨fun b o hb=>X6 _ (X6 _ hb),Heap.get?_none_of_le (by simp),s.heap.objs.size,?_,Heap.get?_none_of_le (K9 _),?_⟩)
 ·exact aN _ rfl
 ·exact X6 _ (aN _ rfl)
theorem Bq:entryFor PySem.table "iter"=some Builtin.«iter»:=by first | exact entryFor_of_fast (by kernel_rfl) | exact entryFor_of_tree (by kernel_rfl)
theorem Be (a l:Addr) (i:Nat) (vs:Array Value) (k:Nat) (x:Value) (hx:vs[i]? = some x) :
  Meets (Builtin.«list_iterator.__next__» ⟨[.ref a],[]⟩) (fun A R s=>s.heap.get? a=some (liO (.ref l) i)∧s.heap.get? l=some { cls:=.type "list",data:=.seq vs k }∧R (.ok (.ret x)) { s with heap:=s.heap.update a (Obj.mapFields (·.setIfInBounds 1 (rawInt (i+1)))) }) :=
 Meets.of_wp fun prog w A R s hs=>by
  obtain ⟨hp,g,d,tk,os⟩:=s;obtain ⟨ha,hl,hs⟩:=hs;have hT:(⟨hp,g,d,tk,os⟩:Shared).TypeIs (.ref a) "list_iterator":=(H6 _ ha rfl)
  have hTl:(⟨hp,g,d,tk,os⟩:Shared).TypeIs (.ref l) "list":=(H6 _ hl rfl)
  unfold Builtin.«list_iterator.__next__»;repeat (any_goals (first | assumption | wp_step))
  rw [Int.toNat_natCast,hx];exact wpAny_bind (wpAny_setField ha rfl (by simp) (wpAny_pure (H6 _ rfl hs)))
theorem Et (a l:Addr) (i:Nat) (vs:Array Value) (k:Nat) (hx:vs[i]? = none) :
  Meets (Builtin.«list_iterator.__next__» ⟨[.ref a],[]⟩) (fun A R s=>A.handled=none∧s.heap.get? a=some (liO (.ref l) i)∧s.heap.get? l=some { cls:=.type "list",data:=.seq vs k }∧∀ h' e,Heap.MadeExc (s.heap.update a (Obj.mapFields (·.setIfInBounds 0 .none))) h' e "StopIteration" []→R (.error (.ref e)) { s with heap:=h' }) :=
 Meets.of_wp fun prog w A R s hs=>by
  obtain ⟨hp,g,d,tk,os⟩:=s;obtain ⟨hA,ha,hl,hs⟩:=hs;have hT:(⟨hp,g,d,tk,os⟩:Shared).TypeIs (.ref a) "list_iterator":=(H6 _ ha rfl)
  have hTl:(⟨hp,g,d,tk,os⟩:Shared).TypeIs (.ref l) "list":=(H6 _ hl rfl)
  unfold Builtin.«list_iterator.__next__»;repeat (any_goals (first | assumption | wp_step))
  rw [Int.toNat_natCast,hx];refine wpAny_bind (wpAny_rule (wpAny_bind (wpAny_setField ha rfl (by simp) ?_)));unfold Builtin.SmallTypes.stopIteration;refine wpAny_bind (Fo fun h' e hm=>?_);exact wpAny_raiseNew_none hA (hs h' e hm)
section
variable {c:Cx} {τ:PH} {m:Lo} {X:PV}
theorem Du {l:Addr} {vs:List Value} {n:Nat} {Q:PV} (hl:τ l=some (G3 vs n)) (h:∀ a,τ a=none→Q (.ref a) (G5 τ a (liO (.ref l) 0)) m):W c (PySem.call (.builtin "iter") [.ref l]) τ m Q X:=fun s hs=>by
 refine Calls.call_function_entry (id:="iter") (by decide +kernel) (by decide +kernel) Bq (by unfold argsOk;kernel_rfl) ?_;unfold Builtin.«iter»;refine wpAny_bind (wpAny_of_eq (a:=[.ref l]) (by first | rfl | kernel_rfl) ?_);dsimp only;refine wpAny_bind (wpAny_pyIter_list (Z9 hs hl) (wpAny_pure ?_));exact H6 _ rfl (I5 _ m (Step.new (o:=liO (.ref l) 0) hs rfl) (h _ hs.fresh))
theorem FT {it:Addr} {vs:Array Value} {Q:PV} (hi:τ it=some { cls:=.type "list_iterator",data:=.fields vs }) (h:∀ a,τ a=none→Q (.ref a) (G5 τ a (mwO "list_iterator.__next__" it)) m):W c (getAttr (.ref it) "__next__" true) τ m Q X:=fun s hs =>
 xO (hs.keep _ _ hi) fun tk=>(I5 _ m ((Step.new (o:=mwO "list_iterator.__next__" it) hs rfl).tk _) (h _ hs.fresh))
theorem Ex {d:Addr} {o:Obj} {K:Type} [DecidableEq K] {knd:KeyKind pw c.w K} {kvs:List (K×Value)} {Q:PV} (hd:τ d=some o) (D:o.IsDictOf knd kvs) (h:∀ a,τ a=none→Q (.ref a) (G5 τ a (R9 "dict.get" d)) m):W c (getAttr (.ref d) "get" true) τ m Q X:=fun s hs=>by
 refine aV D fun es ep zB hdat O=>?_;clear D;refine M6 zB fun h1 h2 h3=>?_;clear zB;obtain ⟨oc,od,odt,osl⟩:=o;dsimp only at h1 h2 h3 hdat;subst h1 h2 h3 hdat;exact EY (hs.keep _ _ hd) fun tk=>(I5 _ m ((Step.new (o:=R9 "dict.get" d) hs rfl).tk _) (h _ hs.fresh))
section
variable {K:Type} [DecidableEq K] {knd:KeyKind pw c.w K}
theorem Ek {a:Addr} {o:Obj} {S:K→Bool} {n:Nat} {Q:PV} (ha:τ a=some o) (D:o.SetObjOf knd S n) (h:∀ b,τ b=none→Q (.ref b) (G5 τ b (R9 "set.__contains__" a)) m):W c (getAttr (.ref a) "__contains__" true) τ m Q X:=fun s hs=>by
 obtain ⟨zC,es,ep,t,hdat,_⟩:=D;refine M6 zC fun h1 h2 h3=>?_;clear zC;obtain ⟨oc,od,odt,osl⟩:=o;dsimp only at h1 h2 h3 hdat;subst h1 h2 h3 hdat;exact xZ (hs.keep _ _ ha) fun tk=>(I5 _ m ((Step.new (o:=R9 "set.__contains__" a) hs rfl).tk _) (h _ hs.fresh))
theorem tE {Q:PV} (h:∀ a o,τ a=none→o.SetObjOf knd (fun O=>false) 0→Q (.ref a) (G5 τ a o) m):W c (PySem.call (.type "set") []) τ m Q X:=fun s hs =>
 call_set_0 fun led=>(I5 _ m (Step.new (o:={ cls:=.type "set",dict:=none,data:=.set #[] 0 (.fresh 0 0 led) }) hs rfl) (h _ _ hs.fresh (setObjOf_fresh led)))
theorem xH {a:Addr} {o:Obj} {S:K→Bool} {n:Nat} {k:K} {key:Value} {Q:PV} (ha:τ a=some o) (D:o.SetObjOf knd S n) (hn:n<scanBound) (hk:knd.is k key=true) (hsc:key.scannable=true) (h:Q (.bool (S k)) τ m):W c (compareOp .In key (.ref a)) τ m Q X :=
 di (fun Q E s hs h=>wpAny_inSet_of hk hsc (D.setOf (hs.keep _ _ ha) hn) (h _)) h
theorem CK {a:Addr} {o:Obj} {S:K→Bool} {n:Nat} {k:K} {key:Value} {Q:PV} (ha:τ a=some o) (D:o.SetObjOf knd S n) (hn:n+1<scanBound) (hk:knd.is k key=true) (hsc:key.scannable=true)
  (h:∀ o',o'.SetObjOf knd (fun k'=>S k'||decide (k'=k)) (if S k then n else n+1)→Q .none (G5 τ a o') m):W c (PySem.call (.builtin "set.add") [.ref a,key]) τ m Q X:=fun s hs =>
 call_set_add hk hsc (D.setOf (hs.keep _ _ ha) ((kq2 723757648385) hn)) hn fun h' hsb hS'=>by
  refine G8 hS'.objOf fun o' ho' hso'=>?_;exact I5 _ m (Step.put hs ha hsb ho') (h o' hso')
theorem W.delD {d:Addr} {o:Obj} {kvs:List (K×Value)} {k:K} {key:Value} {Q:PU} (hd:τ d=some o) (D:o.IsDictOf knd kvs) (hk:knd.is k key=true) (hv:(valueAt kvs k).isSome=true) (hsz:kvs.length≤10000) (h:∀ o',o'.IsDictOf knd (without kvs k)→Q () (G5 τ d o') m) :
  W c (delItem (.ref d) key) τ m Q X:=fun s hs=>by
 have hD:=cG hs hd D;unfold delItem;try with_reducible refine wpAny_holding ?_
 refine wpAny_bind (wpAny_sequenceKey hD.typeIs (by decide) ?_);refine wpAny_bind (wpAny_callSpecial?_slot (name:=G4 "__delitem__") hD.typeIs PySem.F.slot_dict_delitem
  (call_meetsIn PySem.F.slot_dict_delitem hD.typeIs PySem.F.entry_dict_delitem (PySem.F.args_dict_delitem_2 _ _) (meets_dict_delitem_pairs knd d hk) (Q0 kvs hD (by rw [sizeLine_eq];exact (kq1 774468103649805368836513) hsz) hv (fun h' hmm hsb=>?_))))
 refine G8 (Heap.dictOf_iff.mp hmm) fun o' ho' hd'=>?_;exact wpAny_pure (I5 _ m (Step.put hs hd hsb ho') (h o' hd'))
end
theorem Ae {o i:Expr} {p pos:Pos} {Q:PF} (h:W c (eval o c.env) τ m (KB c i delItem (KX Q) X) X):W c (exec (.Delete [.Subscript o i p] pos) c.env) τ m Q X:=fun s hs =>
 wpAny_Delete (wpAny_deleteEach_cons (delete_Subscript (h.use hs (fun ov s1 τ1 m1 st1 q1=>q1.use st1.at_ (fun iv s2 τ2 m2 st2 q2=>q2.use st2.at_ (fun O s3 τ3 m3 st3 q3=>wpAny_deleteEach_nil (I5 τ3 m3 ((st1.trans st2).trans st3) q3)) fun O O τ' m' st q=>(I5 τ' m' ((st1.trans st2).trans st) q)) fun O O τ' m' st q=>(I5 τ' m' (st1.trans st) q)) xx)))
end
theorem wF {M:Model} {f:Addr} {cls id:String} {x:Addr} (hc:cls="builtin_function_or_method"∨cls="method-wrapper") (h:Heap) (e:h.get? f=some (iK cls id x)):∃ k,(k=Keeper.frame∨k=Keeper.machine∨k=Keeper.boundFrame)∧Looks M h (keeperOf (.ref f)) k:=by
 refine H6 .machine (.inr (.inl rfl)) ?_;rcases hc with rfl | rfl
 ·exact (Looks.ld (part:=none) e).andThen .now
 ·exact (Looks.ld (part:=none) e).andThen .now
theorem zf {prog:Program} {w:World} {K:Type} [DecidableEq K] (knd:KeyKind prog w K) (a:Addr) (k:K) (key:Value) (hkey:knd.is k key=true) (hsc:key.scannable=true) (S:K→Bool) (n:Nat) :
  MeetsIn prog w (Builtin.«frozenset.__contains__» ⟨[.ref a,key],[]⟩) (fun O R s=>s.heap.SetOf knd a S n∧∀ tk,R (.ok (.ret (.bool (S k)))) { s with toks:=tk }):=fun A R s hs=>by
 obtain ⟨hS,h⟩:=hs;unfold Builtin.«frozenset.__contains__» Builtin.Frozenset.oneOther;simp only [List.isEmpty_nil,bind_assoc];unfold Builtin.Frozenset.addrOf Builtin.Frozenset.withSetAsKey setContains;refine wpAny_bind (wpAny_pure ?_);try dsimp only
 refine wpAny_bind (wpAny_pure ?_);try dsimp only
 refine wpAny_bind (wpAny_tryCatch ?_);refine wpAny_holding ?_;refine wpAny_bind (knd.pyHash hkey ?_);refine wpAny_bind (wpAny_setFind_of (s:={ s with toks:=s.toks+1 }) hkey hsc hS fun r hr=>?_);refine wpAny_pure ?_;show wpAny _ _ (ret (Value.bool r.isSome)) _ _ _;rw [hr];exact wpAny_pure (h _)
section
variable {c:Cx} {τ:PH} {m:Lo} {X:PV}
theorem xV {func:Expr} {args:List Expr} {pos:Pos} {Q:PV} (h:W c (eval func c.env) τ m (KC0 c pos args Q X) X)
  (he:autoParam (eval (.Call func args [] pos) c.env=(do callWith pos (← eval func c.env) [] (backTo pos (starEach args c.env)) [])) aR):W c (eval (.Call func args [] pos) c.env) τ m Q X:=by
 rw [he];exact T4 h
theorem yC {f x:Addr} {cls id:String} {pos:Pos} {Q:PV} (hf:τ f=some (iK cls id x)) (hc:cls="builtin_function_or_method"∨cls="method-wrapper") (h:W c (PySem.call (.ref f) ([]++[]) []) τ m Q X) :
  W c (callWith pos (.ref f) [] (backTo pos (starEach [] c.env)) []) τ m Q X:=fun s hs =>
 callWith_of (P:=fun h=>h.get? f=some (iK cls id x)) rfl (wF hc) (evalArgs_nil3 ⟨hs.keep _ _ hf,h s hs⟩)
theorem mU {f x:Addr} {cls id:String} {e:Expr} {rest:List Expr} {pos:Pos} {Q:PV} (hc:cls="builtin_function_or_method"∨cls="method-wrapper")
  (h:W c (spliced (backTo pos (starEach (e::rest) c.env))) τ m (fun vs τ' m'=>τ' f=some (iK cls id x)∧W c (PySem.call (.ref f) ([]++vs) []) τ' m' Q X) X)
  (he:autoParam (starEach (e::rest) c.env=(false,eval e c.env)::starEach rest c.env) aR) (hplain:autoParam ((backTo pos (starEach rest c.env)).any (·.1)=false) aR):W c (callWith pos (.ref f) [] (backTo pos (starEach (e::rest) c.env)) []) τ m Q X:=fun s hs=>by
 rw [he] at h ⊢;exact callWith_of (P:=fun h=>h.get? f=some (iK cls id x)) (by show ((false||(backTo pos (starEach rest c.env)).any (·.1))||false)=false;rw [hplain];rfl) (wF hc) (Calls.evalArgs_plain (h.use hs (fun vs s' τ' m' st q=>⟨st.at_.keep _ _ q.1,W.cont q.2 st⟩) xx))
theorem CZ {f it l:Addr} {vs:List Value} {n i:Nat} {x:Value} {Q:PV} (hf:τ f=some (mwO "list_iterator.__next__" it)) (hi:τ it=some (liO (.ref l) i)) (hl:τ l=some (G3 vs n)) (hx:vs[i]? = some x)
  (h:Q x (G5 τ it (liO (.ref l) ((i+1:Nat):Int))) m):W c (PySem.call (.ref f) []) τ m Q X:=fun s hs=>by
 refine oR (hs.keep _ _ hf) (.inr rfl) (fun A Q E h=>ul h) BF.slot_li_next.plain PySem.entry_listiter_next ((Be it l i vs.toArray n x (by simpa using hx)).inModel pw c.w) ⟨hs.keep _ _ hi,hs.keep _ _ hl,?_⟩;exact I5 _ m (Step.put hs hi (Heap.SameBut.update ..) (Heap.get?_update_self _ (hs.keep _ _ hi) rfl)) h
theorem zb {f it l:Addr} {vs:List Value} {n i:Nat} {Q:PV} (hq:c.A.handled=none) (hf:τ f=some (mwO "list_iterator.__next__" it)) (hi:τ it=some (liO (.ref l) i)) (hl:τ l=some (G3 vs n)) (hx:vs[i]? = none)
  (h:∀ e o,(G5 τ it (liO .none i)) e=none→km "StopIteration" o→X (.ref e) (G5 (G5 τ it (liO .none i)) e o) m):W c (PySem.call (.ref f) []) τ m Q X:=fun s hs=>by
 refine oR (hs.keep _ _ hf) (.inr rfl) (fun A Q E h=>ul h) BF.slot_li_next.plain PySem.entry_listiter_next ((Et it l i vs.toArray n (by simpa using hx)).inModel pw c.w) ⟨hq,hs.keep _ _ hi,hs.keep _ _ hl,fun h' e hm=>?_⟩;have st:=Step.put (k:=s.toks) hs hi (Heap.SameBut.update s.heap it (Obj.mapFields (·.setIfInBounds 0 .none))) (Heap.get?_update_self _ (hs.keep _ _ hi) rfl);refine G8 hm.there fun t ht O=>?_;obtain ⟨hτ,st2⟩:=qe (k:=s.toks) st.at_ hm.keeps hm.new ht;exact I5 _ m (st.trans st2) (h e _ hτ ⟨rfl,(H6 _ rfl rfl)⟩)
section
variable {K:Type} [DecidableEq K] {knd:KeyKind pw c.w K}
theorem Dh {f d:Addr} {o:Obj} {kvs:List (K×Value)} {k:K} {key dflt:Value} {Q:PV} (hf:τ f=some (R9 "dict.get" d)) (hd:τ d=some o) (D:o.IsDictOf knd kvs) (hk:knd.is k key=true) (h:Q ((valueAt kvs k).getD dflt) τ m):W c (PySem.call (.ref f) [key,dflt]) τ m Q X :=
 di (fun Q E s hs h=>by
  have hD:=cG hs hd D;have hm:=iu hs hd;refine aV D fun es ep zB hdat O=>?_;clear D;refine M6 zB fun h1 h2 h3=>?_;clear zB;have hx:=hs.keep _ _ hd;obtain ⟨oc,od,odt,osl⟩:=o;dsimp only at h1 h2 h3 hdat;subst h1 h2 h3 hdat;exact oR (hs.keep _ _ hf) (.inl rfl) (fun A Q E h=>El hx h) F.slot_dict_get.plain F.entry_dict_get (meets_dict_get_default knd d hk hm dflt) (H6 _ hD.mapOf (h _))) h
theorem nM {f a:Addr} {o:Obj} {S:K→Bool} {n:Nat} {k:K} {key:Value} {Q:PV} (hf:τ f=some (R9 "set.__contains__" a)) (ha:τ a=some o) (D:o.SetObjOf knd S n) (hn:n<scanBound) (hk:knd.is k key=true) (hsc:key.scannable=true) (h:Q (.bool (S k)) τ m):W c (PySem.call (.ref f) [key]) τ m Q X :=
 di (fun Q E s hs h=>by
  have hS:=D.setOf (hs.keep _ _ ha) hn;obtain ⟨zC,es,ep,t,hdat,_⟩:=D;refine M6 zC fun h1 h2 h3=>?_;clear zC;have hx:=hs.keep _ _ ha;obtain ⟨oc,od,odt,osl⟩:=o;dsimp only at h1 h2 h3 hdat;subst h1 h2 h3 hdat;exact oR (hs.keep _ _ hf) (.inl rfl) (fun A Q E h=>Bg hx h) F.slot_set_contains.plain entry_set_contains (zf knd a k key hk hsc S n) ⟨hS,fun tk=>h tk⟩) h
end
end
theorem lV:∀ (names:List (Str×NameKind)) (n:Nat) (acc:List (Str×Addr)),cellsFrom n names acc=cellsFrom n names []++acc
 | [],_,_=>rfl
 | (x,k)::r,n,acc=>by
  unfold cellsFrom;split
  ·rw [lV r (n+1) ((x,n)::acc),lV r (n+1) [(x,n)],W4];rfl
  ·exact lV r n acc
noncomputable def Cx.comp (c:Cx) (scope:Scope) (cl:List (Str×Addr)) (L:Addr):Cx :=
 { c with env:={ scope:=relabel scope c.env,locals:=L,globals:=c.env.globals,cells:=cellsFrom (L+1) scope.names cl,qual:=c.env.qual,func:=none,code:=c.env.code,frame:=c.env.frame,builtins:=c.env.builtins } }
structure CompOk (c:Cx) (scope:Scope) (cl:List (Str×Addr)):Prop where
 kind:scope.kind=.function
 clos:closureFor scope c.env=pure cl
 cells:∀ p∈cl,c.env.cells.lookup p.1=some p.2
 apart:((cellsFrom 0 scope.names []).all fun p=>(cl.lookup p.1).isNone)=true
 noLocal:(((cellsFrom 0 scope.names []).map (·.1)++cl.map (·.1)).all fun x=>(relabel scope c.env).names.lookup x != some .local)=true
 names:(scope.names.all fun x=>x.2 != .local||scope.names.lookup x.1==some .local)=true
noncomputable def aH (cl:List (Str×Addr)) (m:Lo):Lo:=fun n=>if (cl.lookup n).isSome then m n else none
noncomputable def nG (h:Heap) (scope:Scope):Heap:=pushCells (h.push { cls:=.type "dict",data:=.dict #[] }) scope.names
section
variable {c:Cx} {τ:PH} {m:Lo} {X:PV} {scope:Scope} {cl:List (Str×Addr)}
theorem mJ {h:Heap} {b:Addr} {o:Obj} (e:h.get? b=some o):(nG h scope).get? b=some o:=pushCells_keeps _ _ b o (X6 _ e)
theorem uE {h:Heap}:CellsOk (nG h scope) (h.objs.size+1) (cellsFrom (h.objs.size+1) scope.names []):=by
 have z:=cellsFrom_ok scope.names (h.push { cls:=.type "dict",data:=.dict #[] }) (h.objs.size+1) [] ⟨fun O O hm=>(nomatch hm),List.Pairwise.nil⟩ (by rw [Heap.size_push];exact K9 _);rw [Heap.size_push] at z;exact z
theorem lZ (ok:CompOk c scope cl) {L:Addr} {n:Str} {a:Addr} (h:(cellsFrom (L+1) scope.names cl).lookup n=some a) :
  ((n,a)∈cellsFrom (L+1) scope.names []∧cl.lookup n=none)∨(cl.lookup n=some a∧c.env.cells.lookup n=some a):=by
 rw [lV,List.lookup_append] at h;cases q:(cellsFrom (L+1) scope.names []).lookup n with
 | some a' =>
  rw [q] at h;obtain rfl:a'=a:=by simpa using h
  left;have hm:=mem_of_lookup q;refine ⟨hm,?_⟩;have hn:n∈(cellsFrom (L+1) scope.names []).map (·.1):=O3 (f:=(·.1)) hm;rw [kZ scope.names (L+1) 0 [] [] rfl] at hn;refine G8 (List.mem_map.mp hn) fun p hp zB=>?_;obtain rfl:=zB;have:=List.all_eq_true.mp ok.apart p hp;simpa using this
 | none =>
  rw [q] at h;have h:cl.lookup n=some a:=by simpa using h
  exact .inr ⟨h,ok.cells (n,a) (mem_of_lookup h)⟩
theorem Ab (ok:CompOk c scope cl) {L:Addr} {p:Str×Addr} (hp:p∈cl) (hl:cl.lookup p.1=some p.2):(cellsFrom (L+1) scope.names cl).lookup p.1=some p.2:=by
 rw [lV,List.lookup_append];cases q:(cellsFrom (L+1) scope.names []).lookup p.1 with
 | some a' =>
  have hn:p.1∈(cellsFrom (L+1) scope.names []).map (·.1):=O3 (f:=(·.1)) (mem_of_lookup q);rw [kZ scope.names (L+1) 0 [] [] rfl] at hn;refine G8 (List.mem_map.mp hn) fun p' hp' e=>?_;have:=List.all_eq_true.mp ok.apart p' hp';rw [e,hl] at this;simp at this
 | none=>simpa using hl
theorem sE (ok:CompOk c scope cl) {L b:Addr} (h:(c.comp scope cl L).own b):b=L∨(∃ n,(n,b)∈cellsFrom (L+1) scope.names [])∨∃ n,cl.lookup n=some b∧c.env.cells.lookup n=some b:=by
 rcases h with h | ⟨n,h⟩
 ·exact .inl h
 ·rcases lZ ok h with z | z
  ·exact .inr (.inl ⟨n,z.1⟩)
  ·exact .inr (.inr ⟨n,z⟩)
theorem At.comp {s:Shared} (ok:CompOk c scope cl) (hs:At c τ m s):At (c.comp scope cl s.heap.objs.size) τ (aH cl m) { s with heap:=nG s.heap scope }:=by
 have hsz:=jF hs.top;have new:=uE (h:=s.heap) (scope:=scope);have nl:∀ {L:Addr} {n:Str} {a:Addr},(cellsFrom (L+1) scope.names cl).lookup n=some a→(relabel scope c.env).names.lookup n≠some .local:=by
  intro L n a h;have hn:n∈(cellsFrom 0 scope.names []).map (·.1)++cl.map (·.1):=by
   rcases lZ ok h with z | z
   ·refine O2 _ ?_;rw [kZ scope.names 0 (L+1) [] [] rfl];exact O3 (f:=(·.1)) z.1
   ·exact O6 _ (O3 (f:=(·.1)) (mem_of_lookup z.1))
  have:=List.all_eq_true.mp ok.noLocal n hn;simpa using this
 refine ⟨fun b o e=>mJ (hs.top b o e),fun b o e=>mJ (hs.keep b o e),fun b o e=>⟨(hs.low b o e).1,fun ho=>?_⟩,fun b ho=>?_,(H6 (fun O=>none) ((Heap.Ns.new s.heap (.type "dict")).keeps (pushCells_keeps _ _)) (fun x hx=>?_)),fun n a h=>?_,fun n n' a h h'=>?_,fun n a h=>nl h,hs.gens,hs.os,hs.fr.keeps fun b o e=>mJ e,hs.nofr⟩
 ·have hb:=W0 (hs.keep b o e);rcases sE ok ho with z | ⟨n,z⟩ | ⟨n,_,z⟩
  ·rw [z] at hb;exact absurd hb (V1 _)
  ·exact absurd hb (Nat.not_lt.mpr (Nat.le_of_succ_le (new.empty n b z).2))
  ·exact (hs.low b o e).2 (.inr ⟨n,z⟩)
 ·rcases sE ok ho with z | ⟨n,z⟩ | ⟨n,_,z⟩
  ·rw [z];exact hsz
  ·exact W2 hsz (Nat.le_of_succ_le (new.empty n b z).2)
  ·exact hs.mine b (.inr ⟨n,z⟩)
 ·(try unfold vl);unfold aH
  cases q:cl.lookup x with
  | none=>simp
  | some a =>
   exfalso;have:=List.all_eq_true.mp ok.noLocal x (O6 _ (O3 (f:=(·.1)) (mem_of_lookup q)));have hx':(relabel scope c.env).names.lookup x=some .local:=hx;rw [hx'] at this;simp at this
 ·rcases lZ ok h with ⟨z,zn⟩ | ⟨z,z'⟩
  ·refine ⟨?_,fun e=>?_⟩
   ·have:=(new.empty n a z).1;unfold aH;rw [zn];exact this
   ·have:=(new.empty n a z).2;rw [e] at this;exact absurd this (Nat.not_succ_le_self _)
  ·obtain ⟨hc,hne⟩:=hs.cell n a z';refine ⟨?_,fun e=>?_⟩
   ·unfold aH;rw [z];exact hc.keeps fun b o e=>mJ e
   ·have:=hc.lt;rw [e] at this;exact absurd this (V1 _)
 ·rcases lZ ok h with ⟨z,_⟩ | ⟨_,z⟩ <;> rcases lZ ok h' with ⟨y,_⟩ | ⟨_,y⟩
  ·exact name_of_addr new.apart z y
  ·have h1:=(new.empty n a z).2;have h2:=(hs.cell n' a y).1.lt;exact absurd h2 (Nat.not_lt.mpr (Nat.le_of_succ_le h1))
  ·have h1:=(new.empty n' a y).2;have h2:=(hs.cell n a z).1.lt;exact absurd h2 (Nat.not_lt.mpr (Nat.le_of_succ_le h1))
  ·exact hs.apart n n' a z y
structure CS (c:Cx) (scope:Scope) (cl:List (Str×Addr)) (τ:PH) (s1 s3:Shared) (τ':PH) (m':Lo) (s':Shared):Prop where
 at_:At (c.comp scope cl s3.heap.objs.size) τ' m' s'
 keep:∀ b o,s1.heap.get? b=some o→τ b=none→¬ c.own b→Kept c.A s'.heap b o
 fresh:∀ b,(τ' b).isSome=true→(τ b).isSome=true∨s1.heap.get? b=none
 own:∀ b,c.own b→¬ (c.comp scope cl s3.heap.objs.size).own b→∀ o,s3.heap.get? b=some o→∃ sl,s'.heap.get? b=some { o with slots:=sl }
theorem oG {s:Shared} (hs:At c τ m s) {b:Addr} (h:c.own b):∃ o,s.heap.get? b=some o:=by
 rcases h with h | ⟨n,h⟩
 ·refine G8 hs.ns fun ml zC O=>?_;refine R6 zC fun o O O ho O=>?_;clear zC;rw [h];exact ⟨o,ho⟩
 ·obtain ⟨zD,_⟩:=hs.cell n b h;refine G8 zD fun o ho O=>?_;clear zD;exact ⟨o,ho⟩
theorem qz (ok:CompOk c scope cl) {s3:Shared} {b:Addr} {o:Obj} (e:s3.heap.get? b=some o) (ho:(c.comp scope cl s3.heap.objs.size).own b):∃ n,cl.lookup n=some b∧c.env.cells.lookup n=some b:=by
 have hb:=W0 e;rcases sE ok ho with z | ⟨n,z⟩ | z
 ·rw [z] at hb;exact absurd hb (V1 _)
 ·exact absurd hb (Nat.not_lt.mpr (Nat.le_of_succ_le ((uE (h:=s3.heap) (scope:=scope)).empty n b z).2))
 ·exact z
theorem CS.step {τ' τ'':PH} {m' m'':Lo} {s1 s3 s' s'':Shared} {τ3:PH} {m3:Lo} (ok:CompOk c scope cl) (hs1:At c τ m s1) (st3:Step c τ s1 τ3 m3 s3) (C:CS c scope cl τ s1 s3 τ' m' s') (st:Step (c.comp scope cl s3.heap.objs.size) τ' s' τ'' m'' s''):CS c scope cl τ s1 s3 τ'' m'' s'':=by
 have hlow:∀ b,c.own b→τ' b=none:=fun b hb=>by
  cases q:τ' b with
  | none=>rfl
  | some o =>
   obtain ⟨ob,e⟩:=oG hs1 hb;rcases C.fresh b (by rw [q];rfl) with z | z
   ·obtain ⟨o',e'⟩:=Option.isSome_iff_exists.mp z;exact absurd hb (hs1.low b o' e').2
   ·rw [e] at z;cases z
 have hno:∀ {b o},s1.heap.get? b=some o→τ b=none→¬ c.own b→¬ (c.comp scope cl s3.heap.objs.size).own b:=fun {b o} e h1 h2 z=>by
  obtain ⟨sl,e'⟩:=(st3.keep b o e h1 h2).ex;refine G8 (qz ok e' z) fun n O y=>?_;exact h2 (.inr ⟨n,y⟩)
 refine ⟨st.at_,fun b o e h1 h2=>?_,fun b hb=>?_,fun b hb hn o e=>?_⟩
 ·refine (C.keep b o e h1 h2).trans fun o' e'=>?_;refine st.keep b o' e' ?_ (hno e h1 h2);cases q:τ' b with
  | none=>rfl
  | some ob =>
   rcases C.fresh b (by rw [q];rfl) with z | z
   ·rw [h1] at z;cases z
   ·rw [e] at z;cases z
 ·rcases st.fresh b hb with z | z
  ·exact C.fresh b z
  ·cases q:s1.heap.get? b with
   | none=>exact .inr rfl
   | some o =>
    left;cases q1:τ b with
    | some _=>rfl
    | none =>
     by_cases ho:c.own b
     ·obtain ⟨ob,e⟩:=oG st3.at_ ho;by_cases hc':(c.comp scope cl s3.heap.objs.size).own b
      ·obtain ⟨o2,e2⟩:=oG C.at_ hc';rw [e2] at z;cases z
      ·obtain ⟨sl,e2⟩:=C.own b ho hc' ob e;rw [e2] at z;cases z
     ·exact absurd z (C.keep b o q q1 ho).not_none
 ·obtain ⟨sl,e'⟩:=C.own b hb hn o e;obtain ⟨sl',e''⟩:=(st.keep b _ e' (hlow b hb) hn).ex;exact ⟨sl',e''⟩
theorem CS.done {τ3 τ':PH} {m'':Lo} {s1 s3 s':Shared} (ok:CompOk c scope cl) (hs1:At c τ m s1) (st3:Step c τ s1 τ3 m s3) (st:CS c scope cl τ s1 s3 τ' m'' s') (hm:∀ p∈cl,m'' p.1=m p.1):Step c τ s1 τ' m s':=by
 have hs:=st3.at_;have A':=st.at_;have hlow:∀ b,c.own b→τ' b=none:=fun b hb=>by
  cases q:τ' b with
  | none=>rfl
  | some o =>
   obtain ⟨ob,e⟩:=oG hs1 hb;rcases st.fresh b (by rw [q];rfl) with z | z
   ·obtain ⟨o',e'⟩:=Option.isSome_iff_exists.mp z;exact absurd hb (hs1.low b o' e').2
   ·rw [e] at z;cases z
 refine ⟨⟨A'.top,A'.keep,fun b o e=>⟨(A'.low b o e).1,fun ho=>by rw [hlow b ho] at e;cases e⟩,hs.mine,?_,fun n a h=>?_,hs.apart,hs.noBoth,A'.gens,A'.os,A'.fr,A'.nofr⟩,st.keep,st.fresh⟩
 ·refine G8 hs.ns fun ml zE hml=>?_;refine R6 zE fun o es ep ho r=>?_;clear zE;have hno:¬ (c.comp scope cl s3.heap.objs.size).own c.env.locals:=fun z=>by
   refine G8 (qz ok ho z) fun n O y=>?_;exact (hs.cell n _ y).2 rfl
  obtain ⟨sl,e⟩:=st.own _ (.inl rfl) hno o ho;exact H6 ml (R0 _ es ep e r) hml
 ·obtain ⟨zF,hne⟩:=hs.cell n a h;refine G8 zF fun o ho hd=>?_;clear zF;refine ⟨?_,hne⟩;by_cases z:(c.comp scope cl s3.heap.objs.size).own a
  ·refine G8 (qz ok ho z) fun n' y1 y2=>?_;obtain rfl:n=n':=hs.apart n n' a h y2;have hp:=mem_of_lookup y1;have:=(A'.cell n a (Ab ok hp y1)).1;rw [hm (n,a) hp] at this;exact this
  ·obtain ⟨sl,e⟩:=st.own a (.inr ⟨n,h⟩) z o ho;exact H6 _ e hd
theorem Step.hole {τ':PH} {m':Lo} {s s':Shared} {C:Addr} {h':Heap} (st:Step c τ s τ' m' s') (hx:Heap.SameBut C s'.heap h') (h1:s.heap.get? C=none) (h2:τ' C=none) (h3:¬ c.own C) (h4:C∉frs c.A) (h5:516≤C):Step c τ s τ' m' { s' with heap:=h' }:=by
 have A':=st.at_;have kp:∀ b o,b≠C→s'.heap.get? b=some o→h'.get? b=some o:=fun b o hb e=>(hx.2 b hb).trans e;obtain ⟨hn,hc⟩:=cU (s':={ s' with heap:=h' }) A' fun b o hb e=>dJ (kp b o (by rintro rfl;exact h3 hb) e);refine ⟨⟨fun b o e=>kp b o (by rintro rfl;exact absurd h5 (Nat.not_le.mpr (jy e))) (A'.top b o e),fun b o e=>kp b o (by rintro rfl;rw [h2] at e;cases e) (A'.keep b o e),A'.low,A'.mine,hn,hc,A'.apart,A'.noBoth,A'.gens,A'.os,A'.fr.keep fun b o hb e hnf=>(H6 o (kp b o (by rintro rfl;exact h4 hb) e) hnf),A'.nofr⟩,fun b o e a1 a2=>?_,st.fresh⟩;refine (st.keep b o e a1 a2).trans fun o' e'=>.same (kp b o' ?_ e');rintro rfl;rw [h1] at e;cases e
end
noncomputable def jX (env:Env) (ifs:List Expr):Sem Bool:=forIn ifs true fun cnd r=>if r=true then do let ok ← isTrue cnd env (eval cnd env);pure (ForInStep.yield ok) else pure (ForInStep.yield r)
section
variable {prog:Program} {w:World} {A:Around}
theorem yj {R:Result→Shared→Prop} {elt target iter:Expr} {ifs:List Expr} {scope:Scope} {pos:Pos} {it acc:Value} {env:Env} (I:Nat→Shared→Prop)
  (turn:∀ n s,I n s→wpAny (model prog w) A (pyNext it) (fun r s1=>match r with
   | none=>R (.ok .next) s1
   | some v=>wpAny (model prog w) A (letOwnedTupleGo target it v) (fun O s1'=>wpAny (model prog w) A (assign target env v) (fun O s2 =>
     wpAny (model prog w) A (jX env ifs) (fun ok s3 =>
      if ok=true then wpAny (model prog w) A (eval elt env) (fun x s4 =>
       wpAny (model prog w) A (call (.builtin "list.append") [acc,x]) (fun O s5=>∃ m,m<n∧I m s5) (notedBy (model prog w) A env fun e s'=>R (.error e) s') s4) (notedBy (model prog w) A env fun e s'=>R (.error e) s') s3
      else ∃ m,m<n∧I m s3) (notedBy (model prog w) A env fun e s'=>R (.error e) s') s2) (notedBy (model prog w) A env fun e s'=>R (.error e) s') s1') (notedBy (model prog w) A env fun e s'=>R (.error e) s') s1) (notedBy (model prog w) A env fun e s'=>R (.error e) s') s)
  (n:Nat) {s:Shared} (h:I n s):codeAny (model prog w) A (.compLoop (.ListComp elt [⟨target,iter,ifs,0⟩] scope pos) 0 it acc env) R s:=by
 refine codeAny_loop rfl I (fun n s hI=>?_) n h;show wpAny _ A ((compTurn (.ListComp elt [⟨target,iter,ifs,0⟩] scope pos) 0 it acc env).onRaise (fun x=>do noteFrame x env;theTreesLotGoes x)) _ _ s;refine wpAny_noted ?_;rw [compTurn_list];refine wpAny_bind (wpAny_standAt (wpAny_bind (wpAny_mono (turn n s hI) (fun r s1 h₁=>?_) fun O O h'=>h')));cases r with
 | none=>exact wpAny_pure h₁
 | some v =>
  refine wpAny_bind (wpAny_mono h₁ (fun O s1' h1'=>?_) fun O O h'=>h');refine wpAny_bind (wpAny_mono h1' (fun O s2 h₂=>wpAny_bind (wpAny_mono h₂ (fun ok s3 h3=>?_) fun O O h'=>h')) fun O O h'=>h');cases ok with
  | false=>exact wpAny_pure ⟨rfl,h3⟩
  | true =>
   exact wpAny_bind (wpAny_bind (wpAny_mono h3 (fun x s4 h4=>wpAny_bind (wpAny_mono h4 (fun O s5 h5=>wpAny_pure (wpAny_pure ⟨rfl,h5⟩)) fun O O h'=>h')) fun O O h'=>h'))
end
section
variable {c:Cx} {τ1:PH} {m1:Lo} {X:PV} {scope:Scope} {cl:List (Str×Addr)}
theorem Ep {M:Model} {A:Around} {E:Value→Shared→Prop} {s:Shared} {env:Env} {Q:Env→Shared→Prop}
  (h:Q { scope:=scope,locals:=s.heap.objs.size,globals:=env.globals,cells:=cellsFrom (s.heap.objs.size+1) scope.names cl,qual:=env.qual,func:=none,code:=env.code,frame:=env.frame,builtins:=env.builtins } { s with heap:=nG s.heap scope }) :
  wpAny M A (newFunctionEnv scope env.globals cl [] env.qual none .none (some env)) Q E s:=by
 simp only [newFunctionEnv,Option.isSome_some,if_true];refine wpAny_bind (wpAny_alloc ?_);refine wpAny_bind (wpAny_layCells _ (fun name kind cells=>by cases hkc:kind==NameKind.cell <;> simp [hkc]) _ _ _ _ ?_);rw [show ({ s with heap:=s.heap.push { cls:=.type "dict",data:=.dict #[] } }:Shared).heap.objs.size=s.heap.objs.size+1 from Heap.size_push ..];first
  | exact wpAny_pure h
  | exact wpAny_bind (wpAny_pure (wpAny_pure h))
theorem tZ {elt target iter:Expr} {ifs:List Expr} {pos:Pos} {it:Value} {n:Nat} {P:Nat→Value→Prop} {fixed:List Addr} (ok:CompOk c scope cl) {s1 s2:Shared} (hs1:At c τ1 m1 s1) (st2:Step c τ1 s1 τ1 m1 s2) (hI:Iter c τ1 it n P fixed s1 s2)
  (J:Addr→PN) (Qe:Addr→PH→Prop)
  (h0:∀ acc,τ1 acc=none→J acc 0 (G5 τ1 acc (G3 [] 0)) (aH cl m1))
  (hfix:∀ acc i τ' m',J acc i τ' m'→∀ b∈fixed,τ' b=τ1 b)
  (hbody:∀ acc L i v τ' m',i<n→P i v→J acc i τ' m'→W (c.comp scope cl L) (assign target (c.comp scope cl L).env v) τ' m' (fun O τ'' m''=>W (c.comp scope cl L) (jX (c.comp scope cl L).env ifs) τ'' m'' (fun ok τ3 m3 =>
   if ok=true then W (c.comp scope cl L) (eval elt (c.comp scope cl L).env) τ3 m3 (fun x τ4 m4=>W (c.comp scope cl L) (PySem.call (.builtin "list.append") [.ref acc,x]) τ4 m4 (fun O τ5 m5=>J acc (i+1) τ5 m5) NoX) NoX else J acc (i+1) τ3 m3) NoX) NoX)
  (hend:∀ acc τ' m',J acc n τ' m'→(∀ p∈cl,m' p.1=m1 p.1)∧Qe acc τ') {RR:Value→Addr→Result→Shared→Prop} {E:Value→Shared→Prop}
  (hR:∀ acc C s' τ',Step c τ1 s1 τ' m1 s'→Qe acc τ'→s1.heap.get? C=none→τ' C=none→¬ c.own C→C∉frs c.A→516≤C→(∃ mm,s'.heap.Ns C mm)→RR (.ref acc) C (.ok .next) s') :
  wpAny (MM c) c.A (newList []) (fun acc s3=>wpAny (MM c) c.A (newFunctionEnv scope c.env.globals cl [] c.env.qual none .none (some c.env)) (fun cenv s4 =>
   codeAny (MM c) c.A (.compStart (.ListComp elt [⟨target,iter,ifs,0⟩] scope pos) 0 it acc { cenv with scope:=relabel scope c.env }) (RR acc cenv.locals) s4) E s3) E s2:=by
 refine wpAny_newObj_type ?_ (show _≤_ from T3 _);have hs2:=st2.at_;have st3:Step c τ1 s1 (G5 τ1 s2.heap.objs.size (G3 [] 0)) m1 { s2 with heap:=s2.heap.push (G3 [] 0) }:=st2.trans (Step.new hs2 rfl);have hacc:τ1 s2.heap.objs.size=none:=hs2.fresh;show wpAny (MM c) c.A (newFunctionEnv scope c.env.globals cl [] c.env.qual none .none (some c.env)) _ _ { s2 with heap:=s2.heap.push (G3 [] 0) };have hJ0:=h0 _ hacc;generalize hAcc:s2.heap.objs.size=acc at st3 hacc hJ0 ⊢;have hacc1:s1.heap.get? acc=none:=by
  rcases st3.fresh acc (by rw [I4];rfl) with z | z
  ·rw [hacc] at z;cases z
  ·exact z
 generalize hS3:({ s2 with heap:=s2.heap.push (G3 [] 0) }:Shared)=s3 at st3 ⊢;have k23:∀ b o,s2.heap.get? b=some o→s3.heap.get? b=some o:=fun b o e=>by rw [← hS3];exact X6 _ e
 generalize hτ2:G5 τ1 acc (G3 [] 0)=τ2 at st3 hJ0;have hs3:=st3.at_;refine Ep ?_;have ha4:=At.comp ok hs3;have hLnew:s3.heap.get? s3.heap.objs.size=none:=Heap.get?_none_of_le (K9 _);have hL1:s1.heap.get? s3.heap.objs.size=none:=by
  cases q:s1.heap.get? s3.heap.objs.size with
  | none=>rfl
  | some o =>
   exfalso;by_cases hτL:τ1 s3.heap.objs.size=none
   ·by_cases hoL:c.own s3.heap.objs.size
    ·exact pH hs3 hoL
    ·exact (st3.keep _ o q hτL hoL).not_none hLnew
   ·cases q2:τ1 s3.heap.objs.size with
    | none=>exact hτL q2
    | some o' =>
     have:=hs2.keep _ o' q2;rw [k23 _ _ this] at hLnew;cases hLnew
 have hown:=pH hs3;have hfrL:=hs3.fr.old;have hszL:=jF hs3.top;generalize hS4:({ s3 with heap:=nG s3.heap scope }:Shared)=s4 at ha4;have k34:∀ b o,s3.heap.get? b=some o→s4.heap.get? b=some o:=fun b o e=>by rw [← hS4];exact mJ e
 have hLs:∀ L,L=s3.heap.objs.size→({ scope:=relabel scope c.env,locals:=L,globals:=c.env.globals,cells:=cellsFrom (L+1) scope.names cl,qual:=c.env.qual,func:=none,code:=c.env.code,frame:=c.env.frame,builtins:=c.env.builtins }:Env)=(c.comp scope cl L).env:=fun O O=>rfl;show codeAny (MM c) c.A (.compStart (.ListComp elt [⟨target,iter,ifs,0⟩] scope pos) 0 it (.ref acc) (c.comp scope cl s3.heap.objs.size).env) (RR (.ref acc) s3.heap.objs.size) s4;have C4:CS c scope cl τ1 s1 s3 τ2 (aH cl m1) s4:=⟨ha4,fun b o e h1 h2=>(st3.keep b o e h1 h2).trans fun o' e'=>.same (k34 _ _ e'),st3.fresh,fun b O O o e=>dJ (k34 _ _ e)⟩
 refine E4_8 hI.ex fun Ia fp wr St zB hw hlive hgo hst hwr hfp hfx=>?_;obtain rfl:=zB;have hfx':=hI.fx;have wfr:∀ b,b∈wr→b∉frs c.A:=fun b hb hz=>by
  obtain ⟨_,o,e,_⟩:=hs1.fr.mem hz;rw [(hwr b hb).2.2.2] at e;cases e
 have wown:∀ b,b∈wr→¬ (c.comp scope cl s3.heap.objs.size).own b:=fun b hb ho=>by
  refine U0 (hlive 0 _ hst b hb) fun o e=>?_;refine G8 (qz ok (k23 _ _ e) ho) fun nm O y=>?_;exact (hwr b hb).2.1 (.inr ⟨nm,y⟩)
 have hwr2:∀ b∈wr,τ2 b=none:=fun b hb=>by
  refine U0 (hlive 0 _ hst b hb) fun o e=>?_;have hne:b≠acc:=fun z=>by
   have:=W0 e;rw [z,← hAcc] at this;exact absurd this (V1 _)
  rw [← hτ2];unfold G5;rw [if_neg hne];exact (hwr b hb).1
 have hst4:St 0 s4.heap:=hw.frame _ _ _ hst fun b O o e=>k34 _ _ (k23 _ _ e);have loop:codeAny (MM c) c.A (.compLoop (.ListComp elt [⟨target,iter,ifs,0⟩] scope pos) 0 (.ref Ia) (.ref acc) (c.comp scope cl s3.heap.objs.size).env) (RR (.ref acc) s3.heap.objs.size) s4:=by
  refine yj (fun k s'=>∃ i τ' m',CS c scope cl τ1 s1 s3 τ' m' s'∧J acc i τ' m'∧St i s'.heap∧i≤n∧k=n+1-i∧∀ b∈wr,τ' b=none) ?_ (n+1) (dX 0 τ2 (aH cl m1) C4 hJ0 hst4 (T3 _) rfl hwr2);intro k s' zC;refine fW zC fun i τ' m' C hJ hst' hi zD hwr'=>?_;clear zC;obtain rfl:=zD;have next:∀ h₁ tk1,(∀ b o,b∉wr→s'.heap.get? b=some o→h₁.get? b=some o)→CS c scope cl τ1 s1 s3 τ' m' { s' with heap:=h₁,toks:=tk1 }:=fun h₁ tk1 hk=>by
   have notw:∀ b o,τ' b=some o→b∉wr:=fun b o e hb=>by rw [hwr' b hb] at e;cases e
   have hown':∀ b,(c.comp scope cl s3.heap.objs.size).own b→b∉wr:=fun b ho hb=>wown b hb ho;have A':=C.at_;refine O1 (cU (s':={ s' with heap:=h₁,toks:=tk1 }) A' fun b o ho e=>dJ (hk b o (hown' b ho) e)) fun hn hc=>?_;refine ⟨⟨fun b o e=>hk b o (fun hb=>absurd (hwr b hb).2.2.1 (Nat.not_le.mpr (jy e))) (A'.top b o e),fun b o e=>hk b o (notw b o e) (A'.keep b o e),A'.low,A'.mine,hn,hc,A'.apart,A'.noBoth,A'.gens,A'.os,A'.fr.keep fun b o hb e hnf=>(H6 o (hk b o (fun z=>wfr b z hb) e) hnf),A'.nofr⟩,fun b o e h1 h2=>?_,C.fresh,fun b hb hno o e=>?_⟩
   ·refine (C.keep b o e h1 h2).trans fun o' e'=>.same (hk b o' (fun hb=>?_) e');rw [(hwr b hb).2.2.2] at e;cases e
   ·refine U0 (C.own b hb hno o e) fun sl e'=>?_;exact ⟨sl,hk b _ (fun hw=>(hwr b hw).2.1 hb) e'⟩
  by_cases hlt:i<n
  ·refine hw.item i _ _ _ hlt hst' fun v h₁ tk1 hP hst1 hk1=>?_;have C':=next h₁ tk1 hk1
   have hl1:=hlive _ _ hst1;refine hgo (i+1) _ v target _ _ hst1 ?_;refine W.use (c:=c.comp scope cl s3.heap.objs.size) (hbody acc s3.heap.objs.size i v τ' m' hlt hP hJ) C'.at_ (fun O s5 τ5 m5 st5 q5=>?_) fun O O O O O q=>q.elim;have C5:=C'.step ok hs1 st3 st5;have go:∀ {τ6:PH} {m6:Lo} {s6:Shared},Step (c.comp scope cl s3.heap.objs.size) τ' { s' with heap:=h₁,toks:=tk1 } τ6 m6 s6→J acc (i+1) τ6 m6→∃ k,k<n+1-i∧∃ i' τ'' m'',CS c scope cl τ1 s1 s3 τ'' m'' s6∧J acc i' τ'' m''∧St i' s6.heap∧i'≤n∧k=n+1-i'∧∀ b∈wr,τ'' b=none:=fun {τ6 m6 s6} stZ hj=>by
    have CE:=C'.step ok hs1 st3 stZ;refine H6 (n+1-(i+1)) ((kq2 815847035392359399511105) hlt) (dX (i+1) τ6 m6 CE hj ?_ hlt rfl (fun b hb=>?_))
    ·refine hw.frame _ _ _ hst1 fun b hb o e=>?_;rcases hfx b hb with z | z
     ·exact (stZ.keep b o e (hwr' b z) (wown b z)).exact (wfr b z)
     ·have e1:=hfix acc i τ' m' hJ b z;have e2:=hfix acc (i+1) τ6 m6 hj b z;refine U0 (hfx' b z) fun o' q=>?_;have k1:=C'.at_.keep b o' (e1.trans q);have k2:=CE.at_.keep b o' (e2.trans q);have:o=o':=by
       have k1':h₁.get? b=some o':=k1;rw [e] at k1';exact aO k1'
      rw [this];exact k2
    ·cases q:τ6 b with
     | none=>rfl
     | some o =>
      refine U0 (hl1 b hb) fun ow hw1=>?_;rcases stZ.fresh b (by rw [q];rfl) with z | z
      ·rw [hwr' b hb] at z;cases z
      ·rw [show ({ s' with heap:=h₁,toks:=tk1 }:Shared).heap.get? b=some ow from hw1] at z;cases z
   refine W.use (c:=c.comp scope cl s3.heap.objs.size) q5 st5.at_ (fun okb s6 τ6 m6 st6 q6=>?_) fun O O O O O q=>q.elim;cases okb with
   | true =>
    simp only [if_true] at q6 ⊢;refine W.use (c:=c.comp scope cl s3.heap.objs.size) q6 st6.at_ (fun x s7 τ7 m7 st7 q7=>?_) fun O O O O O q=>q.elim;exact W.use (c:=c.comp scope cl s3.heap.objs.size) q7 st7.at_ (fun O s8 τ8 m8 st8 q8=>go (st5.trans (st6.trans (st7.trans st8))) q8) fun O O O O O q=>q.elim
   | false =>
    simp only [Bool.false_eq_true,if_false] at q6 ⊢;exact go (st5.trans st6) q6
  ·have hin:i=n:=by exact (kq2 776316045545537) hi hlt
   subst hin;refine hw.done _ _ _ hst' fun h₁ tk1 hk1=>?_;have C':=next h₁ tk1 hk1
   refine O1 (hend acc τ' m' hJ) fun hm hQ=>?_;have stD:=C'.done ok hs1 st3 hm;refine G8 C'.at_.ns fun ml hns O=>?_;refine hR acc s3.heap.objs.size _ τ' stD hQ hL1 ?_ hown hfrL hszL ⟨ml,hns⟩;cases q:τ' s3.heap.objs.size with
   | none=>rfl
   | some o=>exact absurd (.inl rfl) (C'.at_.low _ o q).2
 refine codeAny_compStart_list loop (hw.self 0 _ _ _ hst4 loop)
theorem CompOk.nm (ok:CompOk c scope cl):∀ x∈scope.names,x.2=.local→scope.names.lookup x.1=some .local:=fun x hx h=>by
 have:=List.all_eq_true.mp ok.names x hx;rw [h] at this;simpa using this
noncomputable def CompW (c:Cx) (scope:Scope) (cl:List (Str×Addr)) (elt target:Expr) (ifs:List Expr) (v:Value) (τ1:PH) (m1:Lo) (Qe:Addr→PH→Prop):Prop :=
 ∃ n P fixed,Iters c τ1 m1 (pyIter v) n P fixed∧∃ J:Addr→PN,(∀ acc,τ1 acc=none→J acc 0 (G5 τ1 acc (G3 [] 0)) (aH cl m1))∧(∀ acc i τ' m',J acc i τ' m'→∀ b∈fixed,τ' b=τ1 b) ∧
  (∀ acc L i v τ' m',i<n→P i v→J acc i τ' m'→W (c.comp scope cl L) (assign target (c.comp scope cl L).env v) τ' m' (fun O τ'' m''=>W (c.comp scope cl L) (jX (c.comp scope cl L).env ifs) τ'' m'' (fun ok τ3 m3 =>
   if ok=true then W (c.comp scope cl L) (eval elt (c.comp scope cl L).env) τ3 m3 (fun x τ4 m4=>W (c.comp scope cl L) (PySem.call (.builtin "list.append") [.ref acc,x]) τ4 m4 (fun O τ5 m5=>J acc (i+1) τ5 m5) NoX) NoX else J acc (i+1) τ3 m3) NoX) NoX) ∧
  ∀ acc τ' m',J acc n τ' m'→(∀ p∈cl,m' p.1=m1 p.1)∧Qe acc τ'
variable {τ:PH} {m:Lo}
theorem iQ {elt target iter:Expr} {ifs:List Expr} {pos:Pos} {Q:PV} (ok:CompOk c scope cl)
  (h:W c (eval iter c.env) τ m (fun v τ1 m1=>CompW c scope cl elt target ifs v τ1 m1 fun acc τ'=>Q (.ref acc) τ' m1) X)
  (hs:∀ x,foldedSetIterable iter c.env x=pure x:=by intro _;rfl):W c (eval (.ListComp elt [⟨target,iter,ifs,0⟩] scope pos) c.env) τ m Q X:=fun s hs'=>by
 rw [eval_ListComp];refine wpAny_comprehension_free (use:=none) rfl hs ok.clos ok.kind ok.nm (h.use hs' (fun v s1 τ1 m1 st1 q1=>?_) xx);refine R6 q1 fun n P fixed hit zz=>?_;refine dw zz fun J h0 hfix hbody hend=>?_;clear zz;refine hit s1 st1.at_ _ _ fun it s2 st2 hI=>?_;refine tZ ok st1.at_ st2 hI J (fun acc τ'=>Q (.ref acc) τ' m1) h0 hfix hbody hend (RR:=fun acc C=>compPost (MM c) c.A (V3 c τ s X) none (V3 c τ s Q) acc C) ?_;intro acc C s' τ' st hQ a1 a2 a3 a4 a5 ⟨mm,hns⟩;exact H6 mm hns (fun h' hsb=>(I5 τ' m1 (st1.trans (st.hole hsb a1 a2 a3 a4 a5)) hQ))
theorem sZ {x:Str} {xp:Pos} {elt target iter:Expr} {ifs:List Expr} {pos spos:Pos} {Q:PF} (ok:CompOk c scope cl) (hk:bO c.env x=true)
  (hsw:swapsWith (.ListComp elt [⟨target,iter,ifs,0⟩] scope pos) (some (.Name x xp)) spos.line c.env=pure true)
  (h:W c (eval iter c.env) τ m (fun v τ1 m1=>CompW c scope cl elt target ifs v τ1 m1 fun acc τ'=>Q .next τ' (upd m1 x (.ref acc))) X)
  (hs:∀ x,foldedSetIterable iter c.env x=pure x:=by intro _;rfl):W c (exec (.Assign [.Name x xp] (.ListComp elt [⟨target,iter,ifs,0⟩] scope pos) spos) c.env) τ m Q X:=fun s hs'=>by
 rw [exec_Assign_Name_used _ _ _ _ hsw];refine wpAny_bind (wpAny_standAt (wpAny_bind ?_));show wpAny _ c.A (do let _ ← comprehension (.ListComp elt [⟨target,iter,ifs,0⟩] scope pos) scope c.env _ (newList []) false (eval iter c.env) (some (assign (.Name x xp) c.env))) _ _ s;refine wpAny_bind (wpAny_mono (wpAny_comprehension_free (use:=some (assign (.Name x xp) c.env)) (Q:=fun O s'=>V3 c τ s Q .next s') rfl hs ok.clos ok.kind ok.nm
  (h.use hs' (fun v s1 τ1 m1 st1 q1=>?_) xx)) (fun O s' hq=>wpAny_pure (wpAny_pure hq)) fun O O e=>e)
 refine R6 q1 fun n P fixed hit zz=>?_;refine dw zz fun J h0 hfix hbody hend=>?_;clear zz;refine hit s1 st1.at_ _ _ fun it s2 st2 hI=>?_;refine tZ ok st1.at_ st2 hI J (fun acc τ'=>Q .next τ' (upd m1 x (.ref acc))) h0 hfix hbody hend (RR:=fun acc C=>compPost (MM c) c.A (V3 c τ s X) (some (assign (.Name x xp) c.env)) (fun O s'=>V3 c τ s Q .next s') acc C) ?_;intro acc C s' τ' st hQ a1 a2 a3 a4 a5 ⟨mm,hns⟩;show wpAny (MM c) c.A (assign (.Name x xp) c.env (.ref acc)) _ _ s';refine W.use (Q':=fun O τ'' m''=>τ''=τ'∧m''=upd m1 x (.ref acc)) (X':=NoX) (oE hk ⟨rfl,rfl⟩) st.at_ (fun O s'' τ'' m'' st' q=>?_) fun O O O O O q=>q.elim;refine O1 q fun zB zC=>?_;clear q;obtain rfl:=zB;obtain rfl:=zC;obtain ⟨oC,hoC,hdC⟩:∃ oC,s'.heap.get? C=some oC∧∃ es ep,oC.data=.dict es ep∧StrKeys es∧∀ name,nsFind es name=mm name:=by
  obtain ⟨o,es,ep,ho,hr⟩:=hns;exact (H6 o ho (fc es ep hr))
 refine U0 ((st'.keep C oC hoC a2 a3).ex) fun sl e=>?_;refine dK hdC fun es ep hr=>?_;clear hdC;exact H6 mm (R0 _ es ep e hr) (fun h' hsb=>(I5 τ'' _ (st1.trans ((st.trans st').hole hsb a1 a2 a3 a4 a5)) hQ))
theorem rm {Q:PB} (h:Q true τ m):W c (jX c.env []) τ m Q X:=jl h
theorem jE {cnd:Expr} {Q:PB} (h:W c (isTrue cnd c.env (eval cnd c.env)) τ m Q X):W c (jX c.env [cnd]) τ m Q X:=by
 unfold jX;rw [List.forIn_cons];refine T4 ?_;rw [if_pos rfl];refine T4 (W.mono h (fun b τ' m' q=>?_) fun O O O x=>x);refine jl ?_;exact jl q
end
theorem Ga {w:World} {os:OsState} (S:So) {r:Addr} {l:List (Str×Tok)} (hrd:S.rd=some (r,l)) (hl:l.length≤1000) :
  U4 w os 4 (.ref 106) ⟨[.ref S.x],[]⟩ (S.cells w) (fun v L'=>v=.bool (decide (S.fi<S.po)||!l.isEmpty)∧L'=S.cells w):=by
 intro τ hC;refine Z7 (RX:=fun v τ'=>∃ L',Cells τ' L'∧False) k106 cd106 rfl (binds:=[(G4 "self",.ref S.x)]) (V9 (fun P=>by kernel_rfl)) fun A L hr=>?_;let c0:Cx:=cx w os A fd106 106 L;show W c0 (execs _ c0.env) _ (upd (fun O=>none) (G4 "self") (.ref S.x)) _ _;refine W7 fun Q X hQ=>?_;rw [← X4 (S.cells w)] at hC;refine R6 (Z2 hC) fun od t1 t2 hdx hf=>?_;obtain ⟨j,hr⟩:=oO hC hrd;have hV:S.rdV=.ref r:=by unfold So.rdV;rw [hrd]
 have hll:(strValues l).length≤1000:=by rw [Q8];exact hl
 have hle:(strValues l).isEmpty=l.isEmpty:=by cases l <;> rfl
 refine G6 (O7 (O8 fun O=>?_));refine G6 (K6 (J0 (R7 ?_)));walk_at "nm";refine T9 (U5 hC) hdx hf (v:=S.rdV) (by kernel_rfl) (by kernel_rfl) (by rw [hV];rfl) ?_;refine aL (eX (I6 ?_));refine Q7 (by simp only [hV,show (Value.ref r==Value.none)=false from rfl]) ?_;refine G9 (G6 (Y9 (vA (nC (R7 ?_)))));walk_at "nm";refine T9 (U5 hC) hdx hf (v:=.int S.fi t2) (by kernel_rfl) (by kernel_rfl) rfl (R7 ?_);walk_at "nm";refine T9 (U5 hC) hdx hf (v:=.int S.po t1) (by kernel_rfl) (by kernel_rfl) rfl (bL (I6 ?_));cases hlt:decide (S.fi<S.po)
 ·refine bF rfl ?_;refine K8 (I9 (.type "bool") (I2 rfl (G7 (R7 ?_))));walk_at "nm";refine T9 (U5 hC) hdx hf (v:=S.rdV) (by kernel_rfl) (by kernel_rfl) (by rw [hV];rfl) ?_;rw [hV];refine H5 (DK hr (lq (by assumption)) ?_);exact hQ (H6 _ (fun O O e=>e) (M8 _ hC (by rw [hle,hlt,Bool.false_or]) (by simp)))
 ·refine bT rfl ?_;exact hQ (H6 _ (fun O O e=>e) (M8 _ hC (by rw [hlt,Bool.true_or]) (by simp)))
noncomputable def V2 (st:(Str→Int)×List Str) (s:Str):(Str→Int)×List Str:=(fup st.1 s (st.1 s-1),if st.1 s-1=0 then st.2++[s] else st.2)
theorem vp:∀ (ss:List Str) (st:(Str→Int)×List Str),(ss.foldl V2 st).2.length≤st.2.length+ss.length
 | [],_=>K9 _
 | s::r,st=>by
  have h:=vp r (V2 st s);have h2:(V2 st s).2.length≤st.2.length+1:=by
   unfold V2;dsimp only;split <;> simp
  show (r.foldl V2 (V2 st s)).2.length≤_;simp only [R8];exact (kq4 24880381715538719107779649) h h2
theorem done_ {w:World} {os:OsState} (S:So) (nm:Str) (t:Tok) {ns:List Str} {kf:Str→Int} {sf:Str→List Str} {r:Addr} {l:List (Str×Tok)} (hA:Abs S ns kf sf) (hrd:S.rd=some (r,l)) (hin:nm∈ns) (hs:∀ s∈sf nm,s∈ns)
  (hk:kf nm=-1∨0≤kf nm∨kf nm=-2) (hl:l.length≤900) (hsl:(sf nm).length≤900) (hrep:(reprText nm).length≤1000) :
  U4 w os 5 (.ref 120) ⟨[.ref S.x,.str nm t],[]⟩ (S.cells w)
   (fun v L'=>kf nm=-1∧v=.none∧∃ S':So,L'=S'.cells w∧Abs S' ns ((sf nm).foldl V2 (fup kf nm (-2),l.map (·.1))).1 sf∧S'.x=S.x∧(∃ l',S'.rd=some (r,l')∧l'.map (·.1)=((sf nm).foldl V2 (fup kf nm (-2),l.map (·.1))).2)∧S'.po=S.po∧S'.fi=S.fi+1)
   (fun v L'=>kf nm≠-1∧∃ x T,v=.ref x∧L'=(x,X7 "ValueError" T)::(T,tbC .none)::S.cells w):=by
 intro τ hC;refine sX k120 cd120 rfl (fixd:=[(G4 "self",.ref S.x)]) (x:=G4 "nodes") (rest:=[.str nm t]) (Dz _ _) (by simp) fun A L tp htp hr=>?_;show W _ _ _ (upd (upd (fun O=>none) (G4 "self") (.ref S.x)) (G4 "nodes") (.ref tp)) _ _;have hr4:Room 4 (cx w os A fd120 120 L).A:=hr;have hV:S.rdV=.ref r:=by unfold So.rdV;rw [hrd]
 have hC0:Cells (G5 τ tp (H4 [.str nm t])) (S.cells w++[(tp,tpC [.str nm t])]):=(hC.new (P:=tpC [.str nm t]) htp rfl).perm (List.perm_append_comm (l₁:=[(tp,tpC [.str nm t])]));generalize G5 τ tp (H4 [.str nm t])=τ₀ at hC0 ⊢;clear hC htp;refine R6 (Z2 hC0) fun od t1 t2 hdx hf=>?_;refine G6 (O7 (O8 fun O=>?_));refine G6 (K6 (J0 (R7 ?_)));walk_at "nm";refine T9 (U5 hC0) hdx hf (v:=S.rdV) (by kernel_rfl) (by kernel_rfl) (by rw [hV];rfl) ?_;refine aL (eX (I6 ?_));refine Q7 (by simp only [hV,show (Value.ref r==Value.none)=false from rfl]) ?_;refine G9 (G6 (K3 (R7 ?_)));walk_at "nm";refine T9 (U5 hC0) hdx hf (v:=.ref S.d) (by kernel_rfl) (by kernel_rfl) rfl ?_;refine G6 (sV ?_);walk_at "nm";refine G8 (hC0.at_ (tp,tpC [.str nm t]) (by exact mR mH)) fun O etp zB=>?_;obtain rfl:=zB;let J1:PN:=fun i τ' m'=>(∃ S':So,Cells τ' (S'.cells w++[(tp,tpC [.str nm t])])∧S'.x=S.x∧(if i=0 then S'=S else
   kf nm=-1∧Abs S' ns ((sf nm).foldl V2 (fup kf nm (-2),l.map (·.1))).1 sf∧(∃ l',S'.rd=some (r,l')∧l'.map (·.1)=((sf nm).foldl V2 (fup kf nm (-2),l.map (·.1))).2)∧S'.po=S.po∧S'.fi=S.fi+1)) ∧
  vl m' "self" (.ref S.x)∧vl m' "n2i" (.ref S.d)
 refine R0 _ _ _ (Iters.tuple hr4.quiet etp) (Q0 J1 ⟨(M8 S hC0 rfl rfl),?_,?_⟩ ?_ ?_ ?_)
 ·walk_at "mv"
 ·walk_at "mv"
 ·intro i τ' m' zC b hb;obtain ⟨zD,_⟩:=zC;refine G8 zD fun S' hC' O=>?_;clear zD;rw [I7] at hb;subst hb;refine G8 (hC'.at_ (b,tpC [.str nm t]) (by exact mR mH)) fun O e zE=>?_;obtain rfl:=zE;rw [e,etp]
 ·intro i v τ' m' hi hv zF;refine M6 zF fun zG m1 m2=>?_;clear zF;refine R4 zG fun S' hC' hx' hJ=>?_;clear zG;obtain rfl:i=0:=by simp at hi;assumption
  obtain rfl:Value.str nm t=v:=by simpa using hv
  rw [if_pos rfl] at hJ;subst hJ;clear hx';refine G8 (gH hC') fun o' hd D=>?_;refine R6 (hA.split hin) fun L1 n R1 hsn zH=>?_;obtain rfl:=zH;have hva:=my hsn (So.names hC');have hnm:n∈S'.nds:=by rw [hsn];simp
  refine M6 (dF hC' hnm) fun e1 e2 e3=>?_;refine I8 ?_;refine G6 (K6 (J0 (wY (by kernel_rfl) (N7 ?_))));walk_at "nm";refine T8 hd F.plainAttrs_dict F.slot_dict_get F.type_dict_get (I2 rfl (G7 ?_)) (cI D).1 (cI D).2;walk_at "nm";refine H5 (xr hd D (strKind_is _ _ _ _) ?_);rw [show valueAt S'.kvs n.nm=some (.ref n.x) from hva];refine aL (eX (I6 ?_));refine Q7 (by simp only [Option.getD_some,show (Value.ref n.x==Value.none)=false from rfl]) ?_;refine G9 (G6 (K3 (R7 ?_)));walk_at "nm";refine eV (p:=42) (i:=1) e1 e2 (v:=.int n.k n.tk) rfl (by kernel_rfl) rfl ?_;have hkn:=(hA.node n hnm).1;have hsu:=(hA.node n hnm).2;refine G6 (K6 (J0 ?_));walk_at "nm";refine I9 (.int (-1) 197) (iW (I6 ?_));have hcut:∀ {e:Addr} {o:Obj} {τ':PH} {m':Lo},Cells τ' (S'.cells w++[(tp,tpC [.str n.nm t])])→τ' e=none→km "ValueError" o→kf n.nm≠-1 →
    LoopX (cx w os A fd120 120 L) (fun e τ' m'=>W (cx w os A fd120 120 L) (leaving (cx w os A fd120 120 L).env e) τ' m' (fun O τ'' O=>∃ L',Cells τ'' L'∧kf n.nm≠-1∧∃ x T,e=.ref x∧L'=(x,X7 "ValueError" T)::(T,tbC .none)::S'.cells w)
     (fun e' τ'' O=>∃ L',Cells τ'' L'∧kf n.nm≠-1∧∃ x T,e'=.ref x∧L'=(x,X7 "ValueError" T)::(T,tbC .none)::S'.cells w)) (.ref e) (G5 τ' e o) m':=fun hc he ho hne =>
   loopX0 pG (hc.new he ho) fun T τ'' hc''=>DY pG hc'' fun τ3 hc3=>(M8 _ (Cells.left (L:=(_,X7 "ValueError" T)::(T,tbC .none)::S'.cells w) hc3) hne (I5 _ _ rfl rfl))
  by_cases hk1:n.k=-1
  ·have hk1':kf n.nm=-1:=hkn.symm.trans hk1;have hb:(n.k != (-1:Int))=false:=by rw [hk1];rfl
   refine Q7 hb ?_;refine G9 (G6 (bK (I9 (.int (-2) 200) ?_)));walk_at "nm";refine iI (p:=42) (i:=1) e1 e2 (by decide) (by kernel_rfl) ?_;have hC1:=So.putK (k:=-2) (tk:=200) hC' hsn;have hA1:=hA.putK (So.names hC') hsn (-2) 200;generalize hS1:({ S' with nds:=L1++{ n with k:=-2,tk:=200 }::R1 }:So)=S1 at hA1 hC1;have hx1:S1.x=S'.x:=by rw [← hS1]
   have hd1:S1.d=S'.d:=by rw [← hS1]
   have hrd1:S1.rd=some (r,l):=by rw [← hS1];exact hrd
   have hpo1:S1.po=S'.po:=by rw [← hS1]
   have hfi1:S1.fi=S'.fi:=by rw [← hS1]
   have hn1:∃ n'∈S1.nds,n'.x=n.x∧n'.dx=n.dx∧n'.l=n.l∧n'.succ=n.succ∧n'.nl=n.nl:=(bu ({ n with k:=-2,tk:=200 }) (by rw [← hS1];simp) rfl rfl rfl rfl rfl)
   clear hS1;show W _ _ (G5 τ' n.x (bV n.dx n.nm n.t (-2) 200 n.l)) _ _ _;generalize G5 τ' n.x (bV n.dx n.nm n.t (-2) 200 n.l)=τ1 at hC1 ⊢;refine dU hn1 fun n' hn' g1 g2 g3 g4 g5=>?_;clear hn1;refine M6 (dF hC1 hn') fun f1 f2 f3=>?_;rw [g3,g4,g5] at f3;rw [g1,g2,g3] at f1;rw [g2] at f2;refine G6 (sV (R7 ?_));walk_at "nm";refine eV (p:=43) (i:=2) f1 f2 (v:=.ref n.l) rfl (by kernel_rfl) rfl ?_;let J2:PN:=fun i τ' m'=>(∃ S2:So,Cells τ' (S2.cells w++[(tp,tpC [.str n.nm t])])∧Abs S2 ns (((sf n.nm).take i).foldl V2 (fup kf n.nm (-2),l.map (·.1))).1 sf∧S2.x=S'.x∧S2.d=S'.d ∧
     (∃ l',S2.rd=some (r,l')∧l'.map (·.1)=(((sf n.nm).take i).foldl V2 (fup kf n.nm (-2),l.map (·.1))).2)∧S2.po=S'.po∧S2.fi=S'.fi∧∃ n'∈S2.nds,n'.l=n.l∧n'.succ=n.succ∧n'.nl=n.nl) ∧
    vl m' "self" (.ref S'.x)∧vl m' "n2i" (.ref S'.d)
   refine R0 _ _ _ (Iters.list hr4.quiet f3) (Q0 J2 ⟨(I1_8 S1 hC1 hA1 hx1 hd1 (H6 l hrd1 rfl) hpo1 hfi1 (Q0 n' hn' g3 g4 g5)),?_,?_⟩ ?_ ?_ ?_)
   ·walk_at "mv"
   ·walk_at "mv"
   ·intro i τ'' m'' zI b hb;obtain ⟨zJ,_⟩:=zI;refine E1_8 zJ fun S2 hC2 O O O O O O zz=>?_;refine dw zz fun n'' hn'' h1 h2 h3=>?_;clear zz;rw [I7] at hb;subst hb;have z:=(dF hC2 hn'').2.2;rw [h1,h2,h3] at z;rw [z,f3]
   ·intro i v τ'' m'' hi hv zK;refine M6 zK fun zL m3 m4=>?_;clear zK;refine E1_8 zL fun S2 hC2 hA2 hx2 hd2 zM hpo2 hfi2 zz=>?_;refine dw zz fun n'' hn'' h1 h2 h3=>?_;clear zz;refine G8 zM fun l' hrd2 hl'=>?_;clear zM;refine G8 (gZ hv) fun p hp zN=>?_;obtain rfl:=zN;have hp':(sf n.nm)[i]? = some p.1:=by rw [← hsu,S9,hp];rfl
    have hpin:p.1∈ns:=hs p.1 (aW hp');have hst:(sf n.nm).take (i+1)=(sf n.nm).take i++[p.1]:=by rw [aC,hp'];rfl
    refine R6 (hA2.split hpin) fun L2 q R2 hsq hqn=>?_;have hvq:=my hsq (So.names hC2);have hqm:q∈S2.nds:=by rw [hsq];simp
    refine M6 (dF hC2 hqm) fun q1 q2 q3=>?_;refine G8 (gH hC2) fun o2 hdd D2=>?_;have hll:l'.length≤1800:=by
     have z:=congrArg List.length hl';rw [I3] at z;have z2:=vp ((sf n.nm).take i) (fup kf n.nm (-2),l.map (·.1));rw [eQ,I3] at z2;lia
    refine I8 ?_;refine G6 (K3 (T5 ?_ fun O O=>.inl rfl));walk_at "nm";walk_at "nm";rw [← hd2] at m4;try rw [← hd2]
    refine ⟨(I5 "dict" _ (TyAt.ref hdd (cI D2).1) F.slot_dict_getitem.lookup),W.getD hdd D2 (strKind_is _ _ _ _) (by rw [← hqn];exact hvq) ?_⟩;refine G6 (pZ ?_);walk_at "nm";refine eV (p:=42) (i:=1) q1 q2 (v:=.int q.k q.tk) rfl (by kernel_rfl) rfl (J9 fun O=>DW fun t4=>?_);refine iI (p:=42) (i:=1) q1 q2 (by decide) (by kernel_rfl) ?_;have hC3:=So.putK (k:=q.k-1) (tk:=t4) hC2 hsq;have hA3:=hA2.putK (So.names hC2) hsq (q.k-1) t4;have hqk:=(hA2.node q hqm).1;have hn3:∃ n'∈(L2++{ q with k:=q.k-1,tk:=t4 }::R2),n'.l=n.l∧n'.succ=n.succ∧n'.nl=n.nl:=by
     rw [hsq] at hn'';rcases List.mem_append.mp hn'' with z | z
     ·exact Q0 n'' (O2 _ z) h1 h2 h3
     ·rcases List.mem_cons.mp z with z | z
      ·subst z;exact (Q0 ({ n'' with k:=n''.k-1,tk:=t4 }) (by simp) h1 h2 h3)
      ·exact Q0 n'' (O6 _ (H9 _ z)) h1 h2 h3
    generalize hS3:({ S2 with nds:=L2++{ q with k:=q.k-1,tk:=t4 }::R2 }:So)=S3 at hA3 hC3;have hx3:S3.x=S2.x:=by rw [← hS3]
    have hd3:S3.d=S2.d:=by rw [← hS3]
    have hrd3:S3.rd=some (r,l'):=by rw [← hS3];exact hrd2
    have hpo3:S3.po=S'.po:=by rw [← hS3];exact hpo2
    have hfi3:S3.fi=S'.fi:=by rw [← hS3];exact hfi2
    have hn₃:∃ n'∈S3.nds,n'.l=n.l∧n'.succ=n.succ∧n'.nl=n.nl:=by rw [← hS3];exact hn3
    have hq3:{ q with k:=q.k-1,tk:=t4 }∈S3.nds:=by rw [← hS3];simp
    clear hS3 hn3;show W _ _ (G5 τ'' q.x (bV q.dx q.nm q.t (q.k-1) t4 q.l)) _ _ _;generalize G5 τ'' q.x (bV q.dx q.nm q.t (q.k-1) t4 q.l)=τ3 at hC3 ⊢;refine M6 (dF hC3 hq3) fun u1 u2 O=>?_;have hfold:((sf n.nm).take (i+1)).foldl V2 (fup kf n.nm (-2),l.map (·.1))=V2 (((sf n.nm).take i).foldl V2 (fup kf n.nm (-2),l.map (·.1))) p.1:=by rw [hst,List.foldl_append];rfl
    generalize hst0:((sf n.nm).take i).foldl V2 (fup kf n.nm (-2),l.map (·.1))=st at *;refine G6 (K6 (J0 (R7 ?_)));walk_at "nm";refine eV (p:=42) (i:=1) u1 u2 (v:=.int (q.k-1) t4) rfl (by kernel_rfl) rfl (J9 fun O=>il (I6 ?_));rw [hd2] at m4;cases hz:(q.k-1==(0:Int))
    ·refine Q7 rfl ?_;refine G9 (G9 ⟨(I1_8 S3 hC3 ?_ (hx3.trans hx2) (hd3.trans hd2) (H6 l' hrd3 ?_) hpo3 hfi3 hn₃),?_,?_⟩)
     ·rw [hfold];unfold V2;rw [← hqn,← hqk];exact hA3
     ·rw [hfold];unfold V2;have:¬ (st.1 p.1-1=0):=by rw [← hqn,← hqk];simpa using hz
      dsimp only;rw [if_neg this];exact hl'
     ·walk_at "mv"
     ·walk_at "mv"
    ·refine W8 rfl ?_;refine R6 (Z2 hC3) fun od t5 t6 hdx hf=>?_;obtain ⟨j,hr3⟩:=oO hC3 hrd3;have hV3:S3.rdV=.ref r:=by unfold So.rdV;rw [hrd3]
     refine G6 (O7 (N7 (R7 ?_)));walk_at "nm";rw [← hx2,← hx3] at m3;try rw [← hx2,← hx3]
     refine T9 (U5 hC3) hdx hf (v:=S3.rdV) (by kernel_rfl) (by kernel_rfl) (by rw [hV3];rfl) ?_;rw [hV3];refine T8 hr3 F.plainAttrs_list F.slot_list_append F.type_list_append (I2 rfl (G7 ?_));walk_at "nm";refine H5 (V4 hr3 (svl (lq (by assumption))) fun j'=>?_);have e5:strValues l'++[.str p.1 p.2]=strValues (l'++[p]):=by rw [bx];rfl
     rw [e5];have hC4:=uq (l':=l'++[p]) (j:=j') hC3 hrd3;rw [hx3,hx2] at m3;refine G9 (G9 ⟨(I1_8 _ hC4 ?_ (hx3.trans hx2) (hd3.trans hd2) (H6 (l'++[p]) rfl ?_) hpo3 hfi3 hn₃),?_,?_⟩)
     ·rw [hfold];unfold V2;rw [← hqn,← hqk];exact ⟨hA3.names,hA3.node,hA3.out⟩
     ·rw [hfold];unfold V2;have:st.1 p.1-1=0:=by rw [← hqn,← hqk];simpa using hz
      dsimp only;rw [if_pos this,N6,hl'];rfl
     ·walk_at "mv"
     ·walk_at "mv"
   ·intro τ'' m'' zO;refine M6 zO fun zP m3 m4=>?_;clear zO;refine E1_8 zP fun S2 hC2 hA2 hx2 hd2 zQ hpo2 hfi2 O=>?_;clear zP;refine G8 zQ fun l' hrd2 hl'=>?_;clear zQ;have hlen:(strValues n.succ).length=(sf n.nm).length:=by rw [Q8,← hsu,I3]
    rw [hlen,aD] at hA2 hl';refine R6 (Z2 hC2) fun od t5 t6 hdx hf=>?_;rw [← hx2] at m3;refine G9 (G6 (pZ ?_));walk_at "nm";refine T9 (U5 hC2) hdx hf (v:=.int S2.fi t6) (by kernel_rfl) (by kernel_rfl) rfl (J9 fun O=>iU fun t7=>?_);refine Y7 (U5 hC2) hdx hf (by simp [bH]) (by kernel_rfl) fun od' hf'=>?_;replace hf':S8 od' (bH S2.d S2.rdV S2.po (S2.fi+1) t5 t7):=by
     have:aM (G4 "_nfinished") (.int (S2.fi+1) t7) (bH S2.d S2.rdV S2.po S2.fi t5 t6)=bH S2.d S2.rdV S2.po (S2.fi+1) t5 t7:=by kernel_rfl
     rw [this] at hf';exact hf'
    have hC4:=xq hC2 hf';refine G9 ⟨(M8 _ hC4 hx2 ?_),?_,?_⟩
    ·rw [if_neg (by exact (kq0 828951057 []))];exact ⟨hk1',⟨hA2.names,hA2.node,hA2.out⟩,(H6 l' hrd2 hl'),hpo2,congrArg (·+1) hfi2⟩
    ·rw [hx2] at m3;walk_at "mv"
    ·walk_at "mv"
  ·have hk1':kf n.nm≠-1:=fun z=>hk1 (hkn.trans z);have hb:(n.k != (-1:Int))=true:=by simpa using hk1
   refine W8 hb ?_;refine G6 (K6 (J0 ?_));walk_at "nm";refine J9 fun O=>W.geI (I6 ?_);cases hge:decide ((0:Int)≤n.k)
   ·have hk2:n.k=-2:=by
     have:¬ ((0:Int)≤n.k):=by simpa using hge
     lia
    refine Q7 rfl ?_;refine G6 (K6 (J0 ?_));walk_at "nm";refine I9 (.int (-2) 200) (il (I6 ?_));have hb2:(n.k==(-2:Int))=true:=by rw [hk2];rfl
    refine W8 hb2 ?_;refine G6 (wC PySem.F.excCall_ValueError PySem.F.excRaise_ValueError hr4.quiet (I9 (.type "ValueError") ⟨rfl,G7 (vM (t:=t) (by decide +kernel) (by decide +kernel) hrep ?_)⟩));walk_at "nm";refine ⟨rfl,fun y t'=>H5 ⟨leB rfl,fun e o he ho=>hcut hC' he ho hk1'⟩⟩
   ·refine W8 rfl ?_;refine G6 (wC PySem.F.excCall_ValueError PySem.F.excRaise_ValueError hr4.quiet (I9 (.type "ValueError") ⟨rfl,G7 (vM (t:=t) (by decide +kernel) (by decide +kernel) hrep ?_)⟩));walk_at "nm";refine ⟨rfl,fun y t'=>H5 ⟨leB rfl,fun e o he ho=>hcut hC' he ho hk1'⟩⟩
 ·intro τ' m' zR;refine M6 zR fun zS m1 m2=>?_;clear zR;refine R4 zS fun S' hC' hx' hJ=>?_;clear zS;rw [if_neg (by simp)] at hJ;refine bY hJ fun h1 h2 h3 h4 h5=>?_;clear hJ;exact G9 (G9 (H6 _ (fun O O e=>e) (Q0 _ hC'.left h1 rfl (bu S' rfl h2 hx' h3 h4 h5))))
theorem Iters.dictKeys {c:Cx} {τ:PH} {m:Lo} {K:Type} [DecidableEq K] {knd:KeyKind pw c.w K} {d:Addr} {o:Obj} {kvs:List (K×Value)} (hq:c.A.handled=none) (hd:τ d=some o) (D:o.IsDictOf knd kvs) :
  Iters c τ m (pyIter (.ref d)) kvs.length (fun i v=>∃ k x,kvs[i]? = some (k,x)∧knd.is k v=true) [d]:=by
 refine eZ D fun es ep hE hdat hk hp hn=>?_;clear D;have dat:∀ {h:Heap},h.get? d=some o→h.DictAt knd d kvs ep:=fun e=>(lC o es e hE hdat hk hp hn)
 exact Iters.new (o:={ cls:=.type "dict_keyiterator",data:=.fields #[.ref d,.int 0 0,.int kvs.length 0,.int ep 0] }) (T:="dict_keyiterator") (St:=fun a i h=>h.IsKeyIter a d i kvs.length ep∧h.DictAt knd d kvs ep) (fp:=[d]) (vs:=[]) rfl (by decide) rfl (by simp [hd]) (by simp [hd])
  (fun s hs=>by
   have hne:d≠s.heap.objs.size:=Nat.ne_of_lt (W0 (hs.keep _ _ hd));refine ⟨Walks.dictKeys hq s.heap.objs.size d hne kvs ep,⟨(M8 _ (aN _ rfl) rfl rfl),dat (X6 _ (hs.keep _ _ hd))⟩,fun Q E h=>wpAny_pyIter_dict (iu hs hd) (dat (hs.keep _ _ hd)) h⟩)
  fun a i h st=>by obtain ⟨⟨o,e,hc,_⟩,_⟩:=st;exact (H6 o e hc)
structure Fm where
 nm:Str
 t:Tok
 mw:Addr
 it:Addr
 l:Addr
 succ:List (Str×Tok)
 nl:Nat
 pos:Nat
noncomputable def Fm.cells (f:Fm):List H7:=[(ecl f.mw (mwO "list_iterator.__next__" f.it)),(ecl f.it (liO (.ref f.l) (f.pos:Int)))]
structure Dfs where
 st:Addr
 its:Addr
 se:Addr
 dc:Addr
 fs:List Fm
 seen:List Str
noncomputable def stC (fs:List Fm):Obj→Prop:=lsC (fs.map fun f=>(f.nm,f.t))
noncomputable def itC (fs:List Fm):Obj→Prop:=fun o=>∃ j,o=G3 (fs.map fun f=>.ref f.mw) j
noncomputable def seC (w:World) (seen:List Str):Obj→Prop:=fun o=>o.SetObjOf (strKind pw w) (fun x=>decide (x∈seen)) seen.length
noncomputable def dcC (w:World) (fs:List Fm):Obj→Prop:=fun o=>∃ kvs,o.IsDictOf (strKind pw w) kvs∧kvs.map (·.1)=fs.map Fm.nm
noncomputable def Dfs.cells (w:World) (D:Dfs):List H7:=[(D.st,stC D.fs),(D.its,itC D.fs),(D.se,seC w D.seen),(D.dc,dcC w D.fs)]++D.fs.flatMap Fm.cells
theorem fX {τ:PH} {P A B:List H7} {a:Addr} {o:Obj} {Q Q':Obj→Prop} (h:Cells τ (P++(A++(a,Q)::B))) (hP:Q' o):Cells (G5 τ a o) (P++(A++(a,Q')::B)):=by
 rw [← W4] at h ⊢;exact h.putAt hP
theorem DG {τ:PH} {A B:List H7} {a:Addr} {o:Obj} {P:Obj→Prop} (h:Cells τ (A++(a,P)::B)) (e:τ a=some o):Cells τ (A++(ecl a o)::B):=by
 refine ⟨fun p hp=>?_,by simpa using h.nd⟩;rcases List.mem_append.mp hp with z | z
 ·exact h.at_ p (O2 _ z)
 ·rcases List.mem_cons.mp z with rfl | z
  ·exact H6 o e rfl
  ·exact h.at_ p (O6 _ (H9 _ z))
theorem DN {τ:PH} {A B:List H7} {a:Addr} {P P':Obj→Prop} (h:Cells τ (A++(a,P)::B)) (k:∀ o,P o→P' o):Cells τ (A++(a,P')::B):=by
 refine ⟨fun p hp=>?_,by simpa using h.nd⟩;rcases List.mem_append.mp hp with z | z
 ·exact h.at_ p (O2 _ z)
 ·rcases List.mem_cons.mp z with rfl | z
  ·refine G8 (h.at_ (a,P) (by simp)) fun o e q=>?_;exact H6 o e (k o q)
  ·exact h.at_ p (O6 _ (H9 _ z))
noncomputable def So.cellsX (S:So) (o:Obj):List H7:=(ecl S.x (instObj 137 S.dx))::(S.dx,aY S.d S.rdV S.po S.fi)::(ecl S.d o)::(S.rdC++S.nds.flatMap Nd.cells)
theorem So.toX {w:World} {τ:PH} {S:So} {F:List H7} (h:Cells τ (S.cells w++F)):∃ o,o.IsDictOf (strKind pw w) S.kvs∧τ S.d=some o∧Cells τ (S.cellsX o++F):=by
 refine G8 (gH h) fun o e D=>?_;exact M8 o D e (DG (A:=[(ecl S.x (instObj 137 S.dx)),(S.dx,aY S.d S.rdV S.po S.fi)]) (P:=T6 w S.kvs) h e)
theorem tL {w:World} {τ:PH} {S:So} {F:List H7} {o:Obj} (D:o.IsDictOf (strKind pw w) S.kvs) (h:Cells τ (S.cellsX o++F)):Cells τ (S.cells w++F) :=
 DN (A:=[(ecl S.x (instObj 137 S.dx)),(S.dx,aY S.d S.rdV S.po S.fi)]) (P':=T6 w S.kvs) h (fun o' e=>by subst e;exact D)
structure DInv (w:World) (S:So) (o:Obj) (ns:List Str) (r:Str→Nat) (D:Dfs) (τ:PH):Prop where
 cells:Cells τ (S.cellsX o++D.cells w)
 fr:∀ f∈D.fs,∃ n∈S.nds,n.nm=f.nm∧n.l=f.l∧n.succ=f.succ∧n.nl=f.nl∧f.pos≤f.succ.length
 inc:(D.fs.map fun f=>r f.nm).Pairwise (·<·)
 nd:D.seen.Nodup
 sub:∀ x∈D.seen,x∈ns
noncomputable def wt (ns seen:List Str) (sf:Str→List Str):Nat:=((ns.filter fun x=>decide (x∉seen)).map fun x=>2+(sf x).length).sum
noncomputable def Dfs.meas (D:Dfs) (ns:List Str) (sf:Str→List Str):Nat:=wt ns D.seen sf+(D.fs.map fun f=>1+(f.succ.length-f.pos)).sum
theorem wt_le (seen:List Str) (sf:Str→List Str) (x:Str):∀ ns:List Str,wt ns (seen++[x]) sf≤wt ns seen sf
 | []=>K9 _
 | y::r=>by
  have ih:=wt_le seen sf x r;unfold wt at ih ⊢;by_cases h1:y∈seen
  ·rw [List.filter_cons_of_neg (by simp [h1]),List.filter_cons_of_neg (by simp [h1])];exact ih
  ·by_cases h2:y=x
   ·rw [List.filter_cons_of_neg (by simp [h2]),List.filter_cons_of_pos (by simp [h1]),O4,List.sum_cons];exact (kq3 23154137636065345) ih
   ·rw [List.filter_cons_of_pos (by simp [h1,h2]),List.filter_cons_of_pos (by simp [h1]),O4,List.sum_cons,O4,List.sum_cons];exact (kq3 776923936846051478556737) ih
theorem wt_lt (seen:List Str) (sf:Str→List Str) {x:Str} (hs:x∉seen):∀ ns:List Str,x∈ns→wt ns (seen++[x]) sf+(2+(sf x).length)≤wt ns seen sf
 | [],h=>by cases h
 | y::r,h=>by
  by_cases h2:y=x
  ·subst h2;have ih:=wt_le seen sf y r;unfold wt at ih ⊢;rw [List.filter_cons_of_neg (by simp),List.filter_cons_of_pos (by simp [hs]),O4,List.sum_cons];exact (kq3 776923936846619466584129) ih
  ·have ih:=wt_lt seen sf hs r ((List.mem_cons.mp h).resolve_left (fun z=>h2 z.symm));unfold wt at ih ⊢;by_cases h1:y∈seen
   ·rw [List.filter_cons_of_neg (by simp [h1]),List.filter_cons_of_neg (by simp [h1])];exact ih
   ·rw [List.filter_cons_of_pos (by simp [h1,h2]),List.filter_cons_of_pos (by simp [h1]),O4,List.sum_cons,O4,List.sum_cons];exact (kq4 874780167059099826810700055662385236417) ih
structure DLoc (S:So) (a1 a2 a3 a4:Addr) (m:Lo):Prop where
 self:vl m "self" (.ref S.x)
 n2i:vl m "n2i" (.ref S.d)
 st:vl m "stack" (.ref a1)
 its:vl m "itstack" (.ref a2)
 se:vl m "seen" (.ref a3)
 dc:vl m "node2stacki" (.ref a4)
theorem DLoc.put {S:So} {a1 a2 a3 a4:Addr} {m:Lo} (h:DLoc S a1 a2 a3 a4 m) (v:Value):DLoc S a1 a2 a3 a4 (upd m (G4 "node") v) :=
 ⟨iV (by kernel_rfl) h.self,iV (by kernel_rfl) h.n2i,iV (by kernel_rfl) h.st,iV (by kernel_rfl) h.its,iV (by kernel_rfl) h.se,iV (by kernel_rfl) h.dc⟩
structure DAdr (D:Dfs) (a1 a2 a3 a4:Addr):Prop where
 st:D.st=a1
 its:D.its=a2
 se:D.se=a3
 dc:D.dc=a4
theorem DInv.fst {w:World} {S:So} {o:Obj} {ns:List Str} {r:Str→Nat} {D:Dfs} {τ:PH} (h:DInv w S o ns r D τ):∃ j,τ D.st=some (G3 (strValues (D.fs.map fun f=>(f.nm,f.t))) j):=by
 obtain ⟨_,e,j,zB⟩:=h.cells.at_ (D.st,stC D.fs) (by delta Dfs.cells;exact mR (mL mH));obtain rfl:=zB;exact ⟨j,e⟩
theorem DInv.fits {w:World} {S:So} {o:Obj} {ns:List Str} {r:Str→Nat} {D:Dfs} {τ:PH} (h:DInv w S o ns r D τ):∃ j,τ D.its=some (G3 (D.fs.map fun f=>.ref f.mw) j):=by
 obtain ⟨_,e,j,zC⟩:=h.cells.at_ (D.its,itC D.fs) (by delta Dfs.cells;exact mR (mL (mC mH)));obtain rfl:=zC;exact ⟨j,e⟩
theorem DInv.fse {w:World} {S:So} {o:Obj} {ns:List Str} {r:Str→Nat} {D:Dfs} {τ:PH} (h:DInv w S o ns r D τ):∃ so,τ D.se=some so∧so.SetObjOf (strKind pw w) (fun x=>decide (x∈D.seen)) D.seen.length :=
 h.cells.at_ (D.se,seC w D.seen) (by delta Dfs.cells;exact mR (mL (mC (mC mH))))
theorem DInv.fdc {w:World} {S:So} {o:Obj} {ns:List Str} {r:Str→Nat} {D:Dfs} {τ:PH} (h:DInv w S o ns r D τ):∃ od kvs,τ D.dc=some od∧od.IsDictOf (strKind pw w) kvs∧kvs.map (·.1)=D.fs.map Fm.nm:=by
 obtain ⟨od,e,zz⟩:=h.cells.at_ (D.dc,dcC w D.fs) (by delta Dfs.cells;exact mR (mL (mC (mC (mC mH)))));refine G8 zz fun kvs h1 h2=>?_;clear zz;exact X8 od kvs e h1 h2
theorem yd {kvs:List (Str×Value)} {x:Str} (h:x∉kvs.map (·.1)):valueAt kvs x=none:=by
 unfold valueAt;rw [Option.map_eq_none_iff,List.find?_eq_none];intro p hp;simp only [decide_eq_true_eq];rintro rfl;exact h (O3 hp)
theorem Fv {kvs:List (Str×Value)} {x:Str} {v:Value} (h:x∉kvs.map (·.1)):stored kvs x v=kvs++[(x,v)]:=by
 unfold stored;rw [if_neg];intro z;refine G8 (List.any_eq_true.mp z) fun p hp e=>?_;exact h (List.mem_map.mpr (H6 p hp (by simpa using e)))
theorem Ah {kvs:List (Str×Value)} {ks:List Str} {x:Str} (h:kvs.map (·.1)=ks++[x]) (hn:x∉ks):(without kvs x).map (·.1)=ks:=by
 have e:(without kvs x).map (·.1)=(kvs.map (·.1)).filter (fun k=>decide (k≠x)):=by
  unfold without;rw [List.filter_map];rfl
 rw [e,h,List.filter_append,List.filter_eq_self.mpr,List.filter_cons_of_neg (by simp),List.filter_nil,X4];intro k hk;simp only [ne_eq,decide_not,Bool.not_eq_true',decide_eq_false_iff_not];rintro rfl;exact hn hk
theorem bZ:∀ {l l':List Str},l.Nodup→l ⊆ l'→l.length≤l'.length
 | [],_,_,_=>T3 _
 | a::r,l',h,hs=>by
  refine O1 (List.nodup_cons.mp h) fun h1 h2=>?_;have ha:a∈l':=hs K4;have hs':r ⊆ l'.erase a:=fun x hx=>by
   have hne:x≠a:=by rintro rfl;exact h1 hx
   exact (List.mem_erase_of_ne hne).mpr (hs (H9 _ hx))
  have:=bZ h2 hs';rw [List.length_erase_of_mem ha] at this;have hp:=List.length_pos_of_mem ha;simp only [R8];exact (kq2 23151318658257109057) this hp
theorem sy:91<scanBound:=by decide
theorem uZ {o:Obj} {w:World} {S:Str→Bool} {n:Nat} (D:o.SetObjOf (strKind pw w) S n):o.cls=.type "set"∧o.dict=none:=⟨D.1.1,D.1.2.1⟩
theorem yR {w:World} {os:OsState} (S:So) {ns:List Str} {kf:Str→Int} {sf:Str→List Str} (hA:Abs S ns kf sf) (r:Str→Nat) (hac:∀ n∈ns,∀ x∈sf n,x∈ns∧r n<r x) (hsz:ns.length≤90) (hsu:∀ x,(sf x).length≤900) :
  U4 w os 4 (.ref 127) ⟨[.ref S.x],[]⟩ (S.cells w) (fun v L'=>v=.none∧L'=S.cells w):=by
 intro τ hC;refine Z7 (RX:=fun v τ'=>∃ L',Cells τ' L'∧False) k127 cd127 rfl (binds:=[(G4 "self",.ref S.x)]) (V9 (fun P=>by kernel_rfl)) fun A L hr=>?_;let c₀:Cx:=cx w os A fd127 127 L;show W c₀ (execs _ c₀.env) _ (upd (fun O=>none) (G4 "self") (.ref S.x)) _ _;refine W7 fun Q X hQ=>?_;have hq:(cx w os A fd127 127 L).A.handled=none:=hr.quiet;rw [← X4 (S.cells w)] at hC;refine R6 (Z2 hC) fun od t1 t2 hdx hf=>?_;refine G6 (K3 (R7 ?_));walk_at "nm";refine T9 (U5 hC) hdx hf (v:=.ref S.d) (by kernel_rfl) (by kernel_rfl) rfl ?_;refine R4 (So.toX hC) fun o hDo hdo hX=>?_;refine G6 (K3 (V6 (H5 ⟨leB rfl,fun a1 h1=>?_⟩)));have c1:=hX.new (P:=stC []) (o:=G3 [] 0) h1 ⟨0,rfl⟩;refine G6 (K3 (V6 (H5 ⟨leB rfl,fun a2 h2=>?_⟩)));have c2:=c1.new (P:=itC []) (o:=G3 [] 0) h2 ⟨0,rfl⟩;refine G6 (K3 (K8 (I9 (.type "set") (aq rfl (tE (knd:=strKind pw w) fun a3 o3 h3 D3=>?_)))));have c3:=c2.new (P:=seC w []) h3 (by
  have e:(fun x:Str=>decide (x∈([]:List Str)))=fun O=>false:=by funext x;simp
  unfold seC;rw [e];exact D3)
 refine G6 (K3 (mz fun a4 h4=>?_));have c4:=c3.new (P:=dcC w []) (o:=emptyDict) h4 (H6 [] (nU (c:=cx w os A fd127 127 L) (knd:=strKind pw w)) rfl);have hI0:DInv w S o ns r ⟨a1,a2,a3,a4,[],[]⟩ (G5 (G5 (G5 (G5 τ a1 (G3 [] 0)) a2 (G3 [] 0)) a3 o3) a4 emptyDict):=by
  refine ⟨c4.perm ?_,fun f h=>(by cases h),List.Pairwise.nil,List.nodup_nil,fun x h=>(by cases h)⟩;have p1:[(a4,dcC w []),(a3,seC w []),(a2,itC []),(a1,stC [])].Perm [(a1,stC []),(a2,itC []),(a3,seC w []),(a4,dcC w [])]:=List.reverse_perm [(a1,stC []),(a2,itC []),(a3,seC w []),(a4,dcC w [])];have p2:=(p1.append_right (S.cellsX o)).trans List.perm_append_comm;simpa [Dfs.cells] using p2
 have hL0:DLoc S a1 a2 a3 a4 (upd (upd (upd (upd (upd (upd (fun O=>none) (G4 "self") (.ref S.x)) (G4 "n2i") (.ref S.d)) (G4 "stack") (.ref a1)) (G4 "itstack") (.ref a2)) (G4 "seen") (.ref a3)) (G4 "node2stacki") (.ref a4)):=by
  constructor <;> walk_at "mv"
 generalize G5 (G5 (G5 (G5 τ a1 (G3 [] 0)) a2 (G3 [] 0)) a3 o3) a4 emptyDict=τ₀ at hI0 ⊢;show W _ _ _ (upd _ _ _) _ _;generalize upd (upd (upd (upd (upd (upd (fun O=>none) (G4 "self") (.ref S.x)) (G4 "n2i") (.ref S.d)) (G4 "stack") (.ref a1)) (G4 "itstack") (.ref a2)) (G4 "seen") (.ref a3)) (G4 "node2stacki") (.ref a4)=m₀ at hL0 ⊢;have hA0:DAdr ⟨a1,a2,a3,a4,[],[]⟩ a1 a2 a3 a4:=⟨rfl,rfl,rfl,rfl⟩
 clear c1 c2 c3 c4 D3 h1 h2 h3 h4;have hdX:∀ {τ':PH} {D:Dfs},DInv w S o ns r D τ'→τ' S.d=some o:=fun h=>by
  obtain ⟨o',e,rfl⟩:=h.cells.at_ (ecl S.d o) (by delta So.cellsX;exact mL (mC (mC mH)));exact e
 have hnX:∀ {τ':PH} {D:Dfs},DInv w S o ns r D τ'→∀ n∈S.nds,τ' n.x=some (bV n.dx n.nm n.t n.k n.tk n.l)∧τ' n.dx=some emptyDict∧τ' n.l=some (G3 (strValues n.succ) n.nl):=fun h n hn=>dF (tL hDo h.cells) hn;have m1:=hL0.n2i;refine G6 (aB ?_);walk_at "nm";let J1:PN:=fun i τ' m'=>(∃ D,DInv w S o ns r D τ'∧DAdr D a1 a2 a3 a4∧D.fs=[])∧DLoc S a1 a2 a3 a4 m';refine R0 _ _ _ (Iters.dictKeys (knd:=strKind pw w) hq (hdX hI0) hDo) (Q0 J1 ⟨(M8 _ hI0 hA0 rfl),hL0⟩ ?_ ?_ ?_)
 ·intro i τ' m' zD b hb;refine O1 zD fun zE O=>?_;clear zD;refine G8 zE fun D hD O=>?_;clear zE;rw [I7] at hb;subst hb;rw [hdX hD,hdX hI0]
 ·intro i v τ' m' hi zF zG;refine ao zF fun x0 vx hx0 hkx=>?_;clear zF;refine O1 zG fun zH hLo=>?_;clear zG;refine R4 zH fun D0 hD0 hAd0 hfs0=>?_;clear zH;refine U0 (Value.isStrOf_shape hkx) fun tx0 zB=>?_;obtain rfl:=zB;have hx0n:x0∈ns:=by
   rw [← hA.names];have z:=aW hx0;refine G8 (List.mem_map.mp z) fun n hn e=>?_;have e1:n.nm=x0:=congrArg Prod.fst e;rw [← e1];exact O3 hn
  refine I8 ?_;have hLo1:=hLo.put (.str x0 tx0);have hnode:(upd m' (G4 "node") (.str x0 tx0)) (G4 "node")=some (.str x0 tx0):=jc;generalize upd m' (G4 "node") (.str x0 tx0)=m₁ at hLo1 hnode ⊢;refine G8 hD0.fse fun so hse hSO=>?_;have hsl:∀ {D:Dfs} {τ':PH},DInv w S o ns r D τ'→D.seen.length≤ns.length:=fun h=>bZ h.nd h.sub;have l3:=hLo1.se;rw [← hAd0.se] at l3;refine G6 (K6 (J0 ?_));walk_at "nm";walk_at "nm";refine xH hse hSO (by have:=hsl hD0;have:=sy;lia) (strKind_is _ _ _ _) rfl (I6 ?_);by_cases hin0:x0∈D0.seen
  ·refine W8 (by simp only [hin0,decide_true]) ?_;exact G6 (pD ⟨(M8 D0 hD0 hAd0 hfs0),hLo1⟩)
  ·refine Q7 (by simp only [hin0,decide_false]) ?_;refine G9 ?_;let J2:PN:=fun k τ' m'=>∃ D,DInv w S o ns r D τ'∧DAdr D a1 a2 a3 a4∧DLoc S a1 a2 a3 a4 m'∧(∃ x t,vl m' "node" (.str x t)∧x∈ns∧∀ f∈D.fs,r f.nm<r x)∧D.meas ns sf≤k;refine G6 (jB (J2) (D0.meas ns sf) (gP D0 hD0 hAd0 hLo1 (X8 x0 tx0 hnode hx0n (by rw [hfs0];intro f h;cases h)) (K9 _)) ?_);intro k τ1 m2 zI;refine E1_5 zI fun D hD hAd hLo2 zJ hk=>?_;clear zI;refine aV zJ fun x tx hnode₂ hxn hrk=>?_;clear zJ;refine U7 (qu (I6 ?_));refine bT rfl ?_;have hxf:x∉D.fs.map Fm.nm:=fun z=>by
    refine G8 (List.mem_map.mp z) fun f hf' e=>?_;have:=hrk f hf';rw [e] at this;exact absurd this (V1 _)
   have l3:=hLo2.se;have l4:=hLo2.dc;have l1:=hLo2.st;have l2:=hLo2.its;have l5:=hLo2.n2i;rw [← hAd.se] at l3;rw [← hAd.dc] at l4;rw [← hAd.st] at l1;rw [← hAd.its] at l2;refine G8 hD.fse fun so hse hSO=>?_;refine aV hD.fdc fun dO kvs hdc hDk hks=>?_;let J3:PF:=fun f τ' m'=>f=Flow.next∧∃ D,DInv w S o ns r D τ'∧DAdr D a1 a2 a3 a4∧DLoc S a1 a2 a3 a4 m'∧D.meas ns sf≤k;refine G6 (W.mono (Q':=J3) (X':=NoX) ?_ ?_ fun O O O q=>q.elim)
   ·refine K6 (J0 ?_);walk_at "nm";walk_at "nm";refine xH hse hSO (by have:=hsl hD;have:=sy;lia) (strKind_is _ _ _ _) rfl (I6 ?_);by_cases hin:x∈D.seen
    ·refine W8 (by simp only [hin,decide_true]) ?_;refine G6 (K6 (J0 ?_));walk_at "nm";walk_at "nm";refine Bp hdc hDk (strKind_is _ _ _ _) (I6 ?_);rw [yd (by rw [hks];exact hxf)];refine Q7 (by simp only [Option.isSome_none]) ?_;exact G9 (G9 ⟨rfl,(Q0 D hD hAd hLo2 hk)⟩)
    ·refine Q7 (by simp only [hin,decide_false]) ?_;refine R6 (hA.split hxn) fun L1 n R1 hsn hnn=>?_;have hnm:n∈S.nds:=by rw [hsn];simp
     have hva:=my hsn (So.names hC);have c0:=hD.cells;rw [hnn] at hva;have hsu2:=(hA.node n hnm).2;refine G6 (O7 (N7 ?_));walk_at "nm";refine T8 hse F.plainAttrs_set F.slot_set_add F.type_set_add (I2 rfl (G7 ?_)) (uZ hSO).1 (uZ hSO).2;walk_at "nm";refine H5 (CK hse hSO (by have:=hsl hD;have:=sy;lia) (strKind_is _ _ _ _) rfl fun so' hSO'=>?_);have hSO'':seC w (D.seen++[x]) so':=by
      unfold seC;have e1:(fun k'=>decide (k'∈D.seen)||decide (k'=x))=fun y=>decide (y∈D.seen++[x]):=by
       funext y;simp
      have e2:(if decide (x∈D.seen)=true then D.seen.length else D.seen.length+1)=(D.seen++[x]).length:=by simp [hin]
      rw [← e1,← e2];exact hSO'
     have c1:=fX (A:=[(D.st,stC D.fs),(D.its,itC D.fs)]) (P:=S.cellsX o) (B:=(D.dc,dcC w D.fs)::D.fs.flatMap Fm.cells) (Q:=seC w D.seen) (Q':=seC w (D.seen++[x])) (o:=so') c0 hSO'';generalize G5 τ1 D.se so'=τ2 at c1 ⊢;have ed:τ2 S.d=some o:=by
      refine G8 (c1.at_ (ecl S.d o) (by delta So.cellsX;exact mL (mC (mC mH)))) fun o' e eo=>?_;rw [e,eo]
     refine M6 (dF (tL hDo c1) hnm) fun e1 e2 e3=>?_;refine G6 (O7 (N7 ?_));walk_at "nm";obtain ⟨_,eit,ji,zK⟩:=c1.at_ (D.its,itC D.fs) (by exact mR (mL (mC mH)));obtain rfl:=zK;refine T8 eit F.plainAttrs_list F.slot_list_append F.type_list_append (I2 rfl (G7 (tC (K8 (I9 (.builtin "iter") (I2 rfl (G7 (tC (T5 ?_ fun O O=>.inl rfl)))))))));walk_at "nm";walk_at "nm";refine ⟨(I5 "dict" _ (TyAt.ref ed (cI hDo).1) F.slot_dict_getitem.lookup),W.getD ed hDo (strKind_is _ _ _ _) hva ?_⟩;refine eV (p:=43) (i:=2) e1 e2 (v:=.ref n.l) rfl (by kernel_rfl) rfl ?_;refine H5 (Du e3 fun it hit=>?_);have c2:=c1.new (P:=(·=liO (.ref n.l) ((0:Nat):Int))) (o:=liO (.ref n.l) 0) hit rfl;refine FT (vs:=#[.ref n.l,.int 0 0]) I4 fun mw hmw=>?_;have c3:=c2.new (P:=(·=mwO "list_iterator.__next__" it)) (o:=mwO "list_iterator.__next__" it) hmw rfl;generalize G5 (G5 τ2 it (liO (.ref n.l) 0)) mw (mwO "list_iterator.__next__" it)=τ3 at c3 ⊢;obtain ⟨_,eit,ji,zL⟩:=c3.at_ (D.its,itC D.fs) (by exact mC (mC (mR (mL (mC mH)))));obtain rfl:=zL;have hfl:D.fs.length≤90:=by
      have h1:(D.fs.map Fm.nm).Nodup:=by
       have z:=hD.inc;have e:(D.fs.map fun f=>r f.nm)=(D.fs.map Fm.nm).map r:=by rw [fZ];rfl
       rw [e,List.pairwise_map] at z;exact z.imp fun hlt he=>by rw [he] at hlt;exact absurd hlt (V1 _)
      have h2:D.fs.map Fm.nm ⊆ ns:=fun y hy=>by
       refine G8 (List.mem_map.mp hy) fun f hf' zM=>?_;obtain rfl:=zM;refine R4 (hD.fr f hf') fun n' hn' e O=>?_;rw [← e,← hA.names];exact O3 hn'
      have:=bZ h1 h2;rw [I3] at this;exact q3
     refine H5 (V4 eit (mpl (lq (by assumption))) fun j1=>?_);have c4:=fX (P:=(ecl mw (mwO "list_iterator.__next__" it))::(ecl it (liO (.ref n.l) ((0:Nat):Int)))::S.cellsX o) (A:=[(D.st,stC D.fs)]) (a:=D.its) (B:=(D.se,seC w (D.seen++[x]))::(D.dc,dcC w D.fs)::D.fs.flatMap Fm.cells) (Q:=itC D.fs) (Q':=itC (D.fs++[⟨x,tx,mw,it,n.l,n.succ,n.nl,0⟩])) (o:=G3 ((D.fs.map fun f=>.ref f.mw)++[.ref mw]) j1) c3 ⟨j1,by simp⟩;generalize G5 τ3 D.its (G3 ((D.fs.map fun f=>.ref f.mw)++[.ref mw]) j1)=τ4 at c4 ⊢;obtain ⟨_,est,js,zN⟩:=c4.at_ (D.st,stC D.fs) (by exact mR (mL mH));obtain rfl:=zN;refine G6 (yE (K8 (I9 (.builtin "len") (I2 rfl (G7 ?_)))));walk_at "nm";refine H5 (cY est (by rw [Q8,I3];exact q1) fun tl=>?_);walk_at "nm";walk_at "nm";obtain ⟨dO',edc,zz⟩:=c4.at_ (D.dc,dcC w D.fs) (by exact mR (mR (mC (mC mH))));refine G8 zz fun kvs' hDk' hks'=>?_;clear zz;refine rZ edc hDk' (strKind_is _ _ _ _) (by have:=congrArg List.length hks';rw [I3,I3] at this;exact (kq2 24759169735673924711482485153) hfl this) fun o' hDk''=>?_;rw [Fv (by rw [hks'];exact hxf)] at hDk'';have c5:=fX (P:=(ecl mw (mwO "list_iterator.__next__" it))::(ecl it (liO (.ref n.l) ((0:Nat):Int)))::S.cellsX o) (A:=[(D.st,stC D.fs),(D.its,itC (D.fs++[⟨x,tx,mw,it,n.l,n.succ,n.nl,0⟩])),(D.se,seC w (D.seen++[x]))]) (a:=D.dc) (B:=D.fs.flatMap Fm.cells) (Q:=dcC w D.fs) (Q':=dcC w (D.fs++[⟨x,tx,mw,it,n.l,n.succ,n.nl,0⟩])) (o:=o') c4 (H6 _ hDk'' (by simp [hks']));generalize G5 τ4 D.dc o'=τ5 at c5 ⊢;obtain ⟨_,est,js,zO⟩:=c5.at_ (D.st,stC D.fs) (by exact mR (mL mH));obtain rfl:=zO;refine G6 (O7 (N7 ?_));walk_at "nm";refine T8 est F.plainAttrs_list F.slot_list_append F.type_list_append (I2 rfl (G7 ?_));walk_at "nm";refine H5 (V4 est (by rw [Q8,I3];exact q1) fun j2=>?_);have c6:=fX (P:=(ecl mw (mwO "list_iterator.__next__" it))::(ecl it (liO (.ref n.l) ((0:Nat):Int)))::S.cellsX o) (A:=[]) (a:=D.st) (B:=(D.its,itC (D.fs++[⟨x,tx,mw,it,n.l,n.succ,n.nl,0⟩]))::(D.se,seC w (D.seen++[x]))::(D.dc,dcC w (D.fs++[⟨x,tx,mw,it,n.l,n.succ,n.nl,0⟩]))::D.fs.flatMap Fm.cells) (Q:=stC D.fs) (Q':=stC (D.fs++[⟨x,tx,mw,it,n.l,n.succ,n.nl,0⟩])) (o:=G3 (strValues (D.fs.map fun f=>(f.nm,f.t))++[.str x tx]) j2) c5 ⟨j2,by rw [N6,bx];rfl⟩;refine G9 ⟨rfl,(Q0 ⟨D.st,D.its,D.se,D.dc,D.fs++[⟨x,tx,mw,it,n.l,n.succ,n.nl,0⟩],D.seen++[x]⟩ ⟨?_,?_,?_,?_,?_⟩ ⟨hAd.st,hAd.its,hAd.se,hAd.dc⟩ hLo2 ?_)⟩
     ·refine c6.perm ?_;have p:=List.perm_append_comm (l₁:=[(ecl mw (mwO "list_iterator.__next__" it)),(ecl it (liO (.ref n.l) ((0:Nat):Int)))]) (l₂:=S.cellsX o++([(D.st,stC (D.fs++[⟨x,tx,mw,it,n.l,n.succ,n.nl,0⟩])),(D.its,itC (D.fs++[⟨x,tx,mw,it,n.l,n.succ,n.nl,0⟩])),(D.se,seC w (D.seen++[x])),(D.dc,dcC w (D.fs++[⟨x,tx,mw,it,n.l,n.succ,n.nl,0⟩]))]++D.fs.flatMap Fm.cells));simpa [Dfs.cells,Fm.cells] using p
     ·intro f hf';rcases List.mem_append.mp hf' with z | z
      ·exact hD.fr f z
      ·rw [I7] at z;subst z;exact bu n hnm hnn rfl rfl rfl (T3 _)
     ·show (List.map (fun f=>r f.nm) (D.fs++[_])).Pairwise (·<·);rw [N6,List.pairwise_append];refine ⟨hD.inc,by simp,fun a ha b hb=>?_⟩;refine G8 (List.mem_map.mp ha) fun f hf' zP=>?_;obtain rfl:=zP;have:b=r x:=by simpa using hb
      rw [this];exact hrk f hf'
     ·show (D.seen++[x]).Nodup;rw [List.nodup_append];refine ⟨hD.nd,by simp,fun a ha b hb e=>?_⟩;have:b=x:=by simpa using hb
      rw [e,this] at ha;exact hin ha
     ·intro y hy;rcases List.mem_append.mp hy with z | z
      ·exact hD.sub y z
      ·rw [I7] at z;rw [z];exact hxn
     ·have z:=wt_lt D.seen sf hin ns hxn;have z2:n.succ.length=(sf x).length:=by rw [← hnn,← hsu2,I3]
      unfold Dfs.meas at hk ⊢;simp only [N6,jH,O4,bB,List.sum_cons,List.sum_nil];exact (kq6 28031890549218970930145787735936798138943553) hk z z2
   ·intro f τ2 m3 zQ;obtain ⟨zR,zz⟩:=zQ;refine dw zz fun D2 hD2 hAd2 hLo3 hk2=>?_;clear zz;obtain rfl:=zR;show W _ _ _ _ _ _;let J4:PF:=fun f τ' m'=>(f=Flow.next∧∃ k',k'<k∧∃ D,DInv w S o ns r D τ'∧DAdr D a1 a2 a3 a4∧DLoc S a1 a2 a3 a4 m'∧(∃ x t,vl m' "node" (.str x t)∧x∈ns∧∀ f∈D.fs,r f.nm<r x)∧D.meas ns sf≤k')∨(f=Flow.brk∧∃ D,DInv w S o ns r D τ'∧DAdr D a1 a2 a3 a4∧DLoc S a1 a2 a3 a4 m'∧D.fs=[])
    refine G6 (W.mono (Q':=J4) (X':=NoX) ?_ ?_ fun O O O q=>q.elim)
    ·let J5:PN:=fun k2 τ' m'=>∃ D,DInv w S o ns r D τ'∧DAdr D a1 a2 a3 a4∧DLoc S a1 a2 a3 a4 m'∧D.meas ns sf≤k2∧k2≤k;refine jB (J5) k (gP D2 hD2 hAd2 hLo3 hk2 (K9 _)) ?_;intro k2 τ3 m4 zS;refine E1_5 zS fun D₃ hD3 hAd3 hLo4 hk3 hkk=>?_;clear zS;have l1:=hLo4.st;have l2:=hLo4.its;have l4:=hLo4.dc;rw [← hAd3.dc] at l4;rw [← hAd3.st] at l1;rw [← hAd3.its] at l2;refine U0 hD3.fst fun js est=>?_;refine U0 hD3.fits fun ji eit=>?_;have hfl:D₃.fs.length≤90:=by
      have h1:(D₃.fs.map Fm.nm).Nodup:=by
       have z:=hD3.inc;have e:(D₃.fs.map fun f=>r f.nm)=(D₃.fs.map Fm.nm).map r:=by rw [fZ];rfl
       rw [e,List.pairwise_map] at z;exact z.imp fun hlt he=>by rw [he] at hlt;exact absurd hlt (V1 _)
      have h2:D₃.fs.map Fm.nm ⊆ ns:=fun y hy=>by
       refine G8 (List.mem_map.mp hy) fun f hf' zT=>?_;obtain rfl:=zT;refine R4 (hD3.fr f hf') fun n' hn' e O=>?_;rw [← e,← hA.names];exact O3 hn'
      have:=bZ h1 h2;rw [I3] at this;exact q3
     refine U7 ?_;walk_at "nm";refine nu est (by rw [Q8,I3];exact q1) ?_;rcases List.eq_nil_or_concat D₃.fs with hnil | ⟨fs,f,hfs⟩
     ·rw [hnil];refine bF rfl ?_;exact G6 (sr (.inr ⟨rfl,(Q0 D₃ hD3 hAd3 hLo4 hnil)⟩))
     ·rw [List.concat_eq_append] at hfs;have hne:(strValues (D₃.fs.map fun f=>(f.nm,f.t))).isEmpty=false:=by rw [hfs];simp [strValues]
      refine bT (by simp only [hne,Bool.not_false]) ?_;have hfm:f∈D₃.fs:=by rw [hfs];simp
      refine dU (hD3.fr f hfm) fun n hnm hnn hnl hns hnnl hpos=>?_;refine M6 (hnX hD3 n hnm) fun e1 e2 e3=>?_;rw [hnl,hns,hnnl] at e3;have hsuf:f.succ.map (·.1)=sf f.nm:=by rw [← hns,← hnn];exact (hA.node n hnm).2
      have c0:Cells τ3 (S.cellsX o++([(D₃.st,stC D₃.fs),(D₃.its,itC D₃.fs),(D₃.se,seC w D₃.seen),(D₃.dc,dcC w D₃.fs)]++(fs.flatMap Fm.cells++[(ecl f.mw (mwO "list_iterator.__next__" f.it)),(ecl f.it (liO (.ref f.l) (f.pos:Int)))]))):=by
       have z:=hD3.cells;unfold Dfs.cells at z;rw [hfs,eO] at z;rw [hfs];simpa [Fm.cells] using z
      have emw:=c0.is (a:=f.mw) (o:=mwO "list_iterator.__next__" f.it) (by exact mR (mR (mR mH)));have eli:=c0.is (a:=f.it) (o:=liO (.ref f.l) (f.pos:Int)) (by exact mR (mR (mR (mC mH))));have hfsl:fs.length+1≤90:=by rw [hfs] at hfl;simpa using hfl
      have hlen:(D₃.fs.map fun f=>Value.ref f.mw).length=fs.length+1:=by rw [hfs];simp
      have hinc:=hD3.inc;rw [hfs,N6,List.pairwise_append] at hinc;refine M6 hinc fun hinc1 O hinc2=>?_;clear hinc;have hlt:∀ g∈fs,r g.nm<r f.nm:=fun g hg=>hinc2 _ (O3 (f:=fun f:Fm=>r f.nm) hg) _ (by simp);have hmeas:D₃.meas ns sf=wt ns D₃.seen sf+((fs.map fun f=>1+(f.succ.length-f.pos)).sum+(1+(f.succ.length-f.pos))):=by
       unfold Dfs.meas;rw [hfs];simp
      refine G6 (rI (G6 (K3 (xV (T5 ?_ fun O O=>.inl rfl)))));walk_at "nm";refine qw (J9 fun O=>pO fun O=>⟨(I5 "list" _ (TyAt.ref eit rfl) list_getitem_lookup),?_⟩);refine Y5 (j:=fs.length) (x:=.ref f.mw) eit ((kq2 25961871164754663926875275888347649) hfsl hlen) ?_ ?_ ?_
      ·rw [hlen];have e:(if (-1:Int)<0 then (-1:Int)+((fs.length+1:Nat):Int) else -1)=fs.length:=by rw [if_pos (by decide)];exact (kq1 256994604222195563440)
       unfold seqIndex?;simp only [e];rw [if_pos (by simp;exact (kq1 208974772078497))];rfl
      ·rw [hfs];simp
      ·refine yC emw (.inr rfl) ?_;show W _ (PySem.call (.ref f.mw) [] []) _ _ _ _;rcases Nat.lt_or_ge f.pos f.succ.length with hlt' | hge
       ·-- the next item
        obtain ⟨q,hq'⟩:∃ q,f.succ[f.pos]? = some q:=⟨_,Z6 hlt'⟩
        have hqs:q.1∈sf f.nm:=by rw [← hsuf];exact O3 (aW hq')
        have hfn:f.nm∈ns:=by rw [← hnn,← hA.names];exact O3 hnm
        refine O1 (hac f.nm hfn q.1 hqs) fun hqn hqr=>?_;refine CZ emw eli e3 (x:=.str q.1 q.2) (by unfold strValues;rw [S9,hq'];rfl) ?_;have c1:Cells (G5 τ3 f.it (liO (.ref f.l) ((f.pos+1:Nat):Int))) (S.cellsX o++([(D₃.st,stC D₃.fs),(D₃.its,itC D₃.fs),(D₃.se,seC w D₃.seen),(D₃.dc,dcC w D₃.fs)]++(fs.flatMap Fm.cells++[(ecl f.mw (mwO "list_iterator.__next__" f.it)),(ecl f.it (liO (.ref f.l) ((f.pos+1:Nat):Int)))]))):=by
         have z:=fX (A:=[(D₃.st,stC D₃.fs),(D₃.its,itC D₃.fs),(D₃.se,seC w D₃.seen),(D₃.dc,dcC w D₃.fs)]++fs.flatMap Fm.cells++[(ecl f.mw (mwO "list_iterator.__next__" f.it))]) (P:=S.cellsX o) (a:=f.it) (B:=[]) (Q:=(·=liO (.ref f.l) (f.pos:Int))) (Q':=(·=liO (.ref f.l) ((f.pos+1:Nat):Int))) (o:=liO (.ref f.l) ((f.pos+1:Nat):Int)) (by simpa using c0) rfl;simpa using z
        refine G6 (sr (.inl ⟨rfl,(H6 (k2-1) ?_ (gP ⟨D₃.st,D₃.its,D₃.se,D₃.dc,fs++[{ f with pos:=f.pos+1 }],D₃.seen⟩ ⟨?_,?_,?_,hD3.nd,hD3.sub⟩ ⟨hAd3.st,hAd3.its,hAd3.se,hAd3.dc⟩ (hLo4.put _) (X8 q.1 q.2 jc hqn ?_) ?_))⟩))
        ·exact (kq0 856436734408147080686869402439745 [_,_,_,_,_,_,_]) hk3 hkk hmeas
        ·have es:stC D₃.fs=stC (fs++[{ f with pos:=f.pos+1 }]):=by rw [hfs];exact congrArg lsC (by simp)
         have ei:itC D₃.fs=itC (fs++[{ f with pos:=f.pos+1 }]):=by rw [hfs];exact congrArg (fun z=>fun o=>∃ j,o=G3 z j) (show (List.map (fun f:Fm=>Value.ref f.mw) (fs++[f]))=List.map (fun f:Fm=>Value.ref f.mw) (fs++[{ f with pos:=f.pos+1 }]) by simp)
         have ec:dcC w D₃.fs=dcC w (fs++[{ f with pos:=f.pos+1 }]):=by rw [hfs];exact congrArg (fun (z:List Str)=>fun o:Obj=>∃ kvs,o.IsDictOf (strKind pw w) kvs∧kvs.map (·.1)=z) (show List.map Fm.nm (fs++[f])=List.map Fm.nm (fs++[{ f with pos:=f.pos+1 }]) by simp)
         rw [es,ei,ec] at c1;simpa [Dfs.cells,Fm.cells] using c1
        ·intro g hg;rcases List.mem_append.mp hg with z | z
         ·exact hD3.fr g (by rw [hfs];exact O2 _ z)
         ·rw [I7] at z;subst z;exact bu n hnm hnn hnl hns hnnl hlt'
        ·have z:=hD3.inc;rw [hfs] at z;simpa using z
        ·intro g hg;rcases List.mem_append.mp hg with z | z
         ·exact Nat.lt_trans (hlt g z) hqr
         ·rw [I7] at z;subst z;exact hqr
        ·unfold Dfs.meas;simp only [N6,jH,O4,bB,List.sum_cons,List.sum_nil];lia
       ·-- the end: StopIteration
        refine zb hq emw eli e3 (by rw [List.getElem?_eq_none];rw [Q8];exact hge) fun e oe hen hex=>?_;have c1:Cells (G5 τ3 f.it (liO .none (f.pos:Int))) (S.cellsX o++([(D₃.st,stC D₃.fs),(D₃.its,itC D₃.fs),(D₃.se,seC w D₃.seen),(D₃.dc,dcC w D₃.fs)]++(fs.flatMap Fm.cells++[(ecl f.mw (mwO "list_iterator.__next__" f.it)),(f.it,fun O=>True)]))):=by
         have z:=fX (A:=[(D₃.st,stC D₃.fs),(D₃.its,itC D₃.fs),(D₃.se,seC w D₃.seen),(D₃.dc,dcC w D₃.fs)]++fs.flatMap Fm.cells++[(ecl f.mw (mwO "list_iterator.__next__" f.it))]) (P:=S.cellsX o) (a:=f.it) (B:=[]) (Q:=(·=liO (.ref f.l) (f.pos:Int))) (Q':=fun O=>True) (o:=liO .none (f.pos:Int)) (by simpa using c0) trivial;simpa using z
        have c2:=c1.new (P:=km "StopIteration") hen hex;refine xd pG c2 fun T τ4 c3=>lQ c3 fun τ5 c4=>?_;refine R4 (c4.at_ (e,X7 "StopIteration" T) (by exact mH)) fun oe' ee' hcls' O=>?_;refine uU (T:="StopIteration") (Xc:="StopIteration") (b:=true) (by rw [isSubtype_type];kernel_rfl) (by kernel_rfl) (by rw [isSubtype_type];kernel_rfl) (I9 (.type "StopIteration") ⟨rfl,TyAt.ref ee' hcls',?_⟩);refine bT rfl ?_;refine lQ c4 fun τ6 c5=>?_;obtain ⟨_,est,js,zW⟩:=c5.at_ (D₃.st,stC D₃.fs) (by exact mC (mC (mR (mL mH))));obtain rfl:=zW;refine G6 (Ae ?_);walk_at "nm";refine N7 ?_;walk_at "nm";refine T8 est F.plainAttrs_list F.slot_list_pop F.type_list_pop (aq rfl ?_);refine mq (vs:=strValues (fs.map fun f=>(f.nm,f.t))) (x:=.str f.nm f.t) (n:=js) (by rw [est,hfs,N6,bx];rfl) (by rw [Q8,I3];rw [hfs] at hfl;simp at hfl;exact q1) fun j1=>?_;have c6:=fX (P:=(e,X7 "StopIteration" T)::(T,tbC .none)::S.cellsX o) (A:=[]) (a:=D₃.st) (B:=(D₃.its,itC D₃.fs)::(D₃.se,seC w D₃.seen)::(D₃.dc,dcC w D₃.fs)::(fs.flatMap Fm.cells++[(ecl f.mw (mwO "list_iterator.__next__" f.it)),(f.it,fun O=>True)])) (Q:=stC D₃.fs) (Q':=stC fs) (o:=G3 (strValues (fs.map fun f=>(f.nm,f.t))) j1) c5 ⟨j1,rfl⟩;generalize G5 τ6 D₃.st (G3 (strValues (fs.map fun f=>(f.nm,f.t))) j1)=τ7 at c6 ⊢;obtain ⟨dO',edc,zz⟩:=c6.at_ (D₃.dc,dcC w D₃.fs) (by exact mR (mR (mC (mC (mC mH)))));refine G8 zz fun kvs' hDk' hks'=>?_;clear zz;rw [hfs,N6] at hks';have hnf:f.nm∉fs.map Fm.nm:=fun z=>by
         refine G8 (List.mem_map.mp z) fun g hg e'=>?_;have:=hlt g hg;rw [e'] at this;exact absurd this (V1 _)
        refine W.delD edc hDk' (strKind_is _ _ _ _) ?_ (by have:=congrArg List.length hks';rw [hfs] at hfl;simp at this hfl;exact (kq2 25961871164754663926875275888347649) hfsl this) fun o' hDk''=>?_
        ·have hmem:f.nm∈kvs'.map (·.1):=by rw [hks'];simp
         refine G8 (List.mem_map.mp hmem) fun p hp e'=>?_;unfold valueAt;rw [Option.isSome_map,List.find?_isSome];exact H6 p hp (by simpa using e')
        have c7:=fX (P:=(e,X7 "StopIteration" T)::(T,tbC .none)::S.cellsX o) (A:=[(D₃.st,stC fs),(D₃.its,itC D₃.fs),(D₃.se,seC w D₃.seen)]) (a:=D₃.dc) (B:=(fs.flatMap Fm.cells++[(ecl f.mw (mwO "list_iterator.__next__" f.it)),(f.it,fun O=>True)])) (Q:=dcC w D₃.fs) (Q':=dcC w fs) (o:=o') c6 (H6 _ hDk'' (Ah hks' hnf));generalize G5 τ7 D₃.dc o'=τ8 at c7 ⊢;obtain ⟨_,eit,ji,zX⟩:=c7.at_ (D₃.its,itC D₃.fs) (by exact mR (mL (mC mH)));obtain rfl:=zX;refine G6 (O7 (N7 ?_));walk_at "nm";refine T8 eit F.plainAttrs_list F.slot_list_pop F.type_list_pop (aq rfl ?_);refine mq (vs:=fs.map fun f=>.ref f.mw) (x:=.ref f.mw) (n:=ji) (by rw [eit,hfs,N6];rfl) (by rw [I3];rw [hfs] at hfl;simp at hfl;exact q1) fun j2=>?_;have c8:=fX (P:=(e,X7 "StopIteration" T)::(T,tbC .none)::S.cellsX o) (A:=[(D₃.st,stC fs)]) (a:=D₃.its) (B:=(D₃.se,seC w D₃.seen)::(D₃.dc,dcC w fs)::(fs.flatMap Fm.cells++[(ecl f.mw (mwO "list_iterator.__next__" f.it)),(f.it,fun O=>True)])) (Q:=itC D₃.fs) (Q':=itC fs) (o:=G3 (fs.map fun f=>.ref f.mw) j2) c7 ⟨j2,rfl⟩;generalize G5 τ8 D₃.its (G3 (fs.map fun f=>.ref f.mw) j2)=τ9 at c8 ⊢;refine G9 (G9 (H6 (k2-1) ((kq6 26097689325192834903855648833) hk3 hmeas) (gP ⟨D₃.st,D₃.its,D₃.se,D₃.dc,fs,D₃.seen⟩ ⟨?_,fun g hg=>hD3.fr g (by rw [hfs];exact O2 _ hg),hinc1,hD3.nd,hD3.sub⟩ ⟨hAd3.st,hAd3.its,hAd3.se,hAd3.dc⟩ hLo4 ?_ ((kq2 689996615745) hkk))))
        ·have c9:=c8.tail.tail;have c10:Cells τ9 ((S.cellsX o++([(D₃.st,stC fs),(D₃.its,itC fs),(D₃.se,seC w D₃.seen),(D₃.dc,dcC w fs)]++fs.flatMap Fm.cells))++[(ecl f.mw (mwO "list_iterator.__next__" f.it)),(f.it,fun O=>True)]):=by
          simpa using c9
         exact c10.left
        ·unfold Dfs.meas;show wt ns D₃.seen sf+(fs.map fun f=>1+(f.succ.length-f.pos)).sum≤k2-1;exact (kq6 26125585876486454821204387745857) hk3 hmeas
    ·rintro f τ' m' (⟨rfl,k',hk',hJ⟩ | ⟨rfl,D,hD',hAd',hLo',hnil⟩)
     ·exact G9 (H6 k' hk' hJ)
     ·exact G9 ⟨(M8 D hD' hAd' hnil),hLo'⟩
 ·intro τ' m' zY;refine O1 zY fun zZ hLo=>?_;clear zY;refine R4 zZ fun D hD hAd hnil=>?_;clear zZ;refine G9 (G6 (Y9 (aL ?_)));exact hQ (H6 _ (fun O O e=>e) (M8 _ ((tL hDo hD.cells).left) rfl rfl))
noncomputable abbrev vvO (d:Addr):Obj:={ cls:=.type "dict_values",data:=.fields #[.ref d] }
theorem yS {c:Cx} {τ:PH} {m:Lo} {X:PV} {K:Type} [DecidableEq K] {knd:KeyKind pw c.w K} {d:Addr} {o:Obj} {kvs:List (K×Value)} {Q:PV} (hd:τ d=some o) (D:o.IsDictOf knd kvs) (h:∀ a,τ a=none→Q (.ref a) (G5 τ a (vvO d)) m) :
  W c (PySem.call (.builtin "dict.values") [.ref d]) τ m Q X:=fun s hs =>
 call_meetsIn F.slot_dict_values (cG hs hd D).typeIs F.entry_dict_values (F.args_dict_values_1 _) (meets_dict_values knd d (iu hs hd)) ⟨⟨_,cG hs hd D⟩,(I5 _ m (Step.new (o:=vvO d) hs rfl) (h _ hs.fresh))⟩
theorem Fw {c:Cx} {τ:PH} {m:Lo} {K:Type} [DecidableEq K] {knd:KeyKind pw c.w K} {v d:Addr} {o:Obj} {kvs:List (K×Value)} (hq:c.A.handled=none) (hv:τ v=some (vvO d)) (hd:τ d=some o) (D:o.IsDictOf knd kvs) :
  Iters c τ m (pyIter (.ref v)) kvs.length (fun i x=>∃ k,kvs[i]? = some (k,x)) [d]:=by
 refine eZ D fun es ep hE hdat hk hp hn=>?_;clear D;have dat:∀ {h:Heap},h.get? d=some o→h.DictAt knd d kvs ep:=fun e=>(lC o es e hE hdat hk hp hn)
 exact Iters.new (o:={ cls:=.type "dict_valueiterator",data:=.fields #[.ref d,.int 0 0,.int kvs.length 0,.int ep 0] }) (T:="dict_valueiterator") (St:=fun a i h=>h.IsValIter a d i kvs.length ep∧h.DictAt knd d kvs ep) (fp:=[d]) (vs:=[]) rfl (by decide) rfl (by simp [hd]) (by simp [hd])
  (fun s hs=>by
   have hne:d≠s.heap.objs.size:=Nat.ne_of_lt (W0 (hs.keep _ _ hd));refine ⟨Walks.dictValues hq s.heap.objs.size d hne kvs ep,⟨(M8 _ (aN _ rfl) rfl rfl),dat (X6 _ (hs.keep _ _ hd))⟩,fun Q E h=>wpAny_pyIter_values (M8 _ (hs.keep _ _ hv) rfl rfl) (dat (hs.keep _ _ hd)) h⟩)
  fun a i h st=>by obtain ⟨⟨o,e,hc,_⟩,_⟩:=st;exact (H6 o e hc)
noncomputable def bN (nds:List Nd):List (Str×Tok):=(nds.filter fun n=>n.k==0).map fun n=>(n.nm,n.t)
theorem prepare {w:World} {os:OsState} (S:So) {ns:List Str} {kf:Str→Int} {sf:Str→List Str} (hA:Abs S ns kf sf) (hrd:S.rd=none) (r:Str→Nat) (hac:∀ n∈ns,∀ x∈sf n,x∈ns∧r n<r x) (hsz:ns.length≤90) (hsu:∀ x,(sf x).length≤900) :
  U4 w os 5 (.ref 92) ⟨[.ref S.x],[]⟩ (S.cells w) (fun v L'=>v=.none∧∃ S':So,L'=S'.cells w∧Abs S' ns kf sf∧S'.x=S.x∧(∃ q l,S'.rd=some (q,l)∧l.map (·.1)=ns.filter fun x=>kf x==0)∧S'.po=S.po∧S'.fi=S.fi):=by
 intro τ hC;refine Z7 (RX:=fun v τ'=>∃ L',Cells τ' L'∧False) k92 cd92 rfl (binds:=[(G4 "self",.ref S.x)]) (V9 (fun P=>by kernel_rfl)) fun A L hr=>?_;let c0:Cx:=cx w os A fd92 92 L;show W c0 (execs _ c0.env) _ (upd (fun O=>none) (G4 "self") (.ref S.x)) _ _;refine W7 fun Q X hQ=>?_;have hr4:Room 4 (cx w os A fd92 92 L).A:=hr;have hq:(cx w os A fd92 92 L).A.handled=none:=hr.quiet;rw [← X4 (S.cells w)] at hC;refine R6 (Z2 hC) fun od t1 t2 hdx hf=>?_;refine G8 (gH hC) fun o hd D=>?_;refine G6 (O7 (O8 fun O=>?_));refine G6 (K6 (J0 (R7 ?_)));walk_at "nm";refine T9 (U5 hC) hdx hf (v:=S.rdV) (by kernel_rfl) (by kernel_rfl) (by rw [So.rdV,hrd];rfl) ?_;refine aL (mD (I6 ?_));refine Q7 (by simp only [So.rdV,hrd,show (!(Value.none==Value.none))=false from rfl]) ?_;refine G9 (G6 (bK (iQ (cl:=[]) ⟨by kernel_rfl,by kernel_rfl,(by intro p hp;cases hp),by kernel_rfl,by kernel_rfl,by kernel_rfl⟩ (N7 (R7 ?_)))));walk_at "nm";refine T9 (U5 hC) hdx hf (v:=.ref S.d) (by kernel_rfl) (by kernel_rfl) rfl ?_;refine T8 hd F.plainAttrs_dict F.slot_dict_values F.type_dict_values (aq rfl ?_) (cI D).1 (cI D).2;refine yS hd D fun va hva=>?_;have hC1:=hC.keep (o:=vvO S.d) hva;have hd1:(G5 τ va (vvO S.d)) S.d=some o:=O9 hva hd;have hv1:(G5 τ va (vvO S.d)) va=some (vvO S.d):=I4;generalize G5 τ va (vvO S.d)=τ1 at hC1 hd1 hv1 ⊢;let J1:Addr→PN:=fun acc i τ' m'=>∃ j,τ1 acc=none∧τ'=G5 τ1 acc (G3 (strValues (bN (S.nds.take i))) j);refine R0 _ _ _ (Fw hq hv1 hd1 D) (Q0 J1 ?_ ?_ ?_ ?_)
 ·intro acc hacc;exact H6 0 hacc rfl
 ·intro acc i τ' m' zB b hb;refine G8 zB fun j hacc zC=>?_;clear zB;obtain rfl:=zC;rw [I7] at hb;subst hb;rw [O9 hacc hd1,hd1]
 ·intro acc L' i v τ' m' hi zB zD;refine U0 zB fun k hk=>?_;clear zB;refine G8 zD fun j hacc zE=>?_;clear zD;obtain rfl:=zE;obtain ⟨n,hn,rfl,rfl⟩:∃ n,S.nds[i]? = some n∧k=n.nm∧v=.ref n.x:=by
   unfold So.kvs at hk;rw [S9] at hk;cases q:S.nds[i]? with
   | none=>rw [q] at hk;cases hk
   | some n =>
    rw [q] at hk;refine O1 (Prod.mk.inj (aO hk)) fun e1 e2=>?_;exact M8 n rfl e1.symm e2.symm
  refine M6 (dF hC1 (aW hn)) fun e1 e2 O=>?_;have e1':G5 τ1 acc (G3 (strValues (bN (S.nds.take i))) j) n.x=_:=O9 hacc e1;have e2':G5 τ1 acc (G3 (strValues (bN (S.nds.take i))) j) n.dx=_:=O9 hacc e2;have etake:bN (S.nds.take (i+1))=bN (S.nds.take i)++if n.k==0 then [(n.nm,n.t)] else []:=by
   unfold bN;rw [aC,hn,List.filter_append,N6];cases hz:n.k==0 <;> simp [hz]
  refine I8 (jE (J0 (R7 ?_)));walk_at "nm";refine eV (p:=42) (i:=1) e1' e2' (v:=.int n.k n.tk) rfl (by kernel_rfl) rfl (J9 fun O=>il (I6 ?_));cases hz:n.k==0
  ·refine bF rfl ?_;exact H6 j hacc (by rw [etake,hz];simp)
  ·refine bT rfl ?_;refine R7 ?_;walk_at "nm";refine eV (p:=41) (i:=0) e1' e2' (v:=.str n.nm n.t) rfl (by kernel_rfl) rfl ?_;refine V4 I4 (by
    rw [Q8];unfold bN;rw [I3];have h1:=List.length_filter_le (fun n:Nd=>n.k==0) (S.nds.take i);have h2:(S.nds.take i).length≤S.nds.length:=by rw [eQ];lia
    have h3:=hA.length;exact (kq4 26584956072708120154871418230216419745) hsz h1 h2 h3) fun j'=>(H6 j' hacc ?_)
   rw [Z0,etake,hz,if_pos rfl,bx];rfl
 ·intro acc τ' m' zF;refine G8 zF fun j hacc zG=>?_;clear zF;obtain rfl:=zG;refine ⟨fun p hp=>(by cases hp),?_⟩;have hkl:S.kvs.length=S.nds.length:=by unfold So.kvs;rw [I3]
  rw [hkl,aD];have hC2:Cells (G5 τ1 acc (G3 (strValues (bN S.nds)) j)) (S.cells w++(acc,lsC (bN S.nds))::[]):=(hC1.new (P:=lsC (bN S.nds)) hacc ⟨j,rfl⟩).perm (by simpa using List.perm_append_comm (l₁:=[(acc,lsC (bN S.nds))]));generalize G5 τ1 acc (G3 (strValues (bN S.nds)) j)=τ2 at hC2 ⊢;refine R6 (Z2 hC2) fun od t1 t2 hdx hf=>?_;walk_at "nm";refine Y7 (U5 hC2) hdx hf (by simp [bH]) (by kernel_rfl) fun od' hf'=>?_;replace hf':S8 od' (bH S.d (.ref acc) S.po S.fi t1 t2):=by
   have:aM (G4 "_ready_nodes") (.ref acc) (bH S.d S.rdV S.po S.fi t1 t2)=bH S.d (.ref acc) S.po S.fi t1 t2:=by kernel_rfl
   rw [this] at hf';exact hf'
  have hC3:=BK hC2 hrd hf';generalize hS1:({ S with rd:=some (acc,bN S.nds) }:So)=S1 at hC3;have hA1:Abs S1 ns kf sf:=by rw [← hS1];exact ⟨hA.names,hA.node,hA.out⟩
  have hx1:S1.x=S.x:=by rw [← hS1]
  have hrd1:S1.rd=some (acc,bN S.nds):=by rw [← hS1]
  have hpo1:S1.po=S.po:=by rw [← hS1]
  have hfi1:S1.fi=S.fi:=by rw [← hS1]
  clear hS1;show W _ _ (G5 τ2 S.dx od') _ _ _;generalize G5 τ2 S.dx od'=τ3 at hC3 ⊢;refine R6 (Z2 hC3) fun od t1 t2 hdx hf=>?_;refine G6 (K3 (N7 ?_));walk_at "nm";rw [← hx1];refine bU (f:=127) (U5 hC3) hdx hf (by kernel_rfl) (by kernel_rfl) (aq (by kernel_rfl) ?_);refine V7 (yR S1 hA1 r hac hsz hsu) hr4 hC3 (fun v τ4 L'' hC4 hv=>?_) fun O O O O h=>h.elim;refine O1 hv fun zC zD=>?_;clear hv;obtain rfl:=zC;obtain rfl:=zD;refine G6 (K6 (U7 ?_));walk_at "nm";refine uO ?_;refine Q7 rfl ?_;refine G9 (G9 (hQ (H6 _ (fun O O e=>e) (M8 _ hC4 rfl (bu S1 (X4 _) hA1 hx1 (I5 acc _ hrd1 ?_) hpo1 hfi1)))));have e:ns.filter (fun x=>kf x==0)=((S.nds.filter fun n=>n.k==0).map Nd.nm):=by
   rw [← hA.names,List.filter_map];refine congrArg _ (List.filter_congr fun n hn=>?_);show (kf n.nm==0)=(n.k==0)
   rw [(hA.node n hn).1]
  rw [e];unfold bN;rw [fZ];rfl
theorem dC {τ:PH}:∀ l:List (Str×Tok),RdAll τ (strValues l) (l.map fun p=>.str p.1)
 | []=>.nil
 | p::r=>.cons (.str p.1 p.2) (dC r)
theorem ig:∀ l:List (Str×Tok),(∀ p∈l,PyData.strOk p.1=true)→PyData.canLayAll0 (l.map fun p=>.str p.1)=true
 | [],_=>by simp [PyData.canLayAll0]
 | p::r,h=>by
  rw [O4,PyData.canLayAll0,ig r fun q hq=>h q (H9 _ hq),PyData.canLay0,h p K4];rfl
theorem nq:∀ l l':List (Str×Tok),PyData.eqvAll (l.map fun p=>.str p.1) (l'.map fun p=>.str p.1)=decide (l.map (·.1)=l'.map (·.1))
 | [],[]=>by simp [PyData.eqvAll]
 | [],_::_=>by simp [PyData.eqvAll]
 | _::_,[]=>by simp [PyData.eqvAll]
 | p::r,q::r'=>by
  rw [O4,O4,PyData.eqvAll,nq r r',PyData.eqv,O4,O4];by_cases h1:p.1=q.1
  ·by_cases h2:r.map (·.1)=r'.map (·.1) <;> simp [h1,h2]
  ·simp [h1]
theorem wW (l:List (Str×Tok)):(PyData.list (l.map fun p=>.str p.1)).depth≤100:=by
 have h:∀ l:List (Str×Tok),PyData.depthAll (l.map fun p=>.str p.1)≤50:=by
  intro l;induction l with
  | nil=>simp [PyData.depthAll]
  | cons p r ih=>simp [PyData.depthAll,PyData.depth] at ih ⊢;assumption
 have:=h l;simp [PyData.depth];exact q1
section
variable {c:Cx} {τ:PH} {m:Lo} {X:PV}
theorem um {a b:Addr} {l l':List (Str×Tok)} {n n':Nat} {Q:PV} (ha:τ a=some (G3 (strValues l) n)) (hb:τ b=some (G3 (strValues l') n')) (h1:∀ p∈l,PyData.strOk p.1=true) (h2:∀ p∈l',PyData.strOk p.1=true) (hu:c.A.units≤9000) (h:Q (.bool (decide (l.map (·.1)=l'.map (·.1)))) τ m):W c (compareOp .Eq (.ref a) (.ref b)) τ m Q X :=
 sI (.list ha (dC l)) (.list hb (dC l')) (by rw [PyData.canLay0];exact ig l h1) (by rw [PyData.canLay0];exact ig l' h2) hu (wW l) (by rw [PyData.eqv,nq];exact h)
theorem qK {a b:Addr} {l l':List (Str×Tok)} {n n':Nat} {Q:PV} (ha:τ a=some (G3 (strValues l) n)) (hb:τ b=some (G3 (strValues l') n')) (h1:∀ p∈l,PyData.strOk p.1=true) (h2:∀ p∈l',PyData.strOk p.1=true) (hu:c.A.units≤9000) (h:Q (.bool (!decide (l.map (·.1)=l'.map (·.1)))) τ m):W c (compareOp .NotEq (.ref a) (.ref b)) τ m Q X :=
 rN (.list ha (dC l)) (.list hb (dC l')) (by rw [PyData.canLay0];exact ig l h1) (by rw [PyData.canLay0];exact ig l' h2) hu (wW l) (by rw [PyData.eqv,nq];exact h)
theorem qY (x:Str):∀ l:List (Str×Tok),(strValues l).any (fun v=>match v with | .str z _=>z==x | _=>false)=decide (x∈l.map (·.1))
 | []=>rfl
 | q::s=>by
  show ((q.1==x)||(strValues s).any _)=_;rw [qY x s];by_cases e1:q.1=x
  ·subst e1;rw [beq_self_eq_true,Bool.true_or];exact (decide_eq_true (K4)).symm
  ·rw [beq_false_of_ne e1,Bool.false_or];refine decide_eq_decide.mpr ⟨fun h=>H9 _ h,fun h=>?_⟩;rcases List.mem_cons.mp h with z | z
   ·exact absurd z.symm e1
   ·exact z
theorem Dt {a:Addr} {l:List (Str×Tok)} {n:Nat} {x:Str} {t:Tok} {Q:PV} (ha:τ a=some (G3 (strValues l) n)) (h:Q (.bool (decide (x∈l.map (·.1)))) τ m):W c (compareOp .In (.str x t) (.ref a)) τ m Q X:=by
 refine W.inD ha (dC l) (.str x t) (fun v=>match v with | .str z _=>z==x | _=>false) (fun y hy=>?_) ?_
 ·refine G8 (List.mem_map.mp hy) fun p hp zB=>?_;obtain rfl:=zB;exact I4_3 p.2 t p.1 x rfl rfl rfl
 ·rw [qY];exact h
theorem uM {a:Addr} {l:List (Str×Tok)} {n:Nat} {x:Str} {t:Tok} {Q:PV} (ha:τ a=some (G3 (strValues l) n)) (h:Q (.bool (!decide (x∈l.map (·.1)))) τ m):W c (compareOp .NotIn (.str x t) (.ref a)) τ m Q X:=by
 refine Cu ha (fun v=>match v with | .str z _=>z==x | _=>false) (fun y hy=>?_) ?_
 ·refine G8 (List.mem_map.mp hy) fun p hp zC=>?_;obtain rfl:=zC;exact I4_3 p.2 t p.1 x rfl rfl rfl
 ·rw [qY];exact h
theorem zu {s:Shared} {l:Addr} {vs:List Value} {n:Nat} {Q:List Value→Shared→Prop} {E:Value→Shared→Prop} (hs:At c τ m s) (hl:τ l=some (G3 vs n)) (hz:vs.length≤10000) (h:∀ s',Step c τ s τ m s'→Q vs s'):StarOf (MM c) c.A E (.ref l) Q s:=by
 have D:=hs.keep _ _ hl;have hT':s.TypeIs (.ref l) "list":=(H6 _ D rfl)
 have z:wpAny (MM c) c.A (collect (.ref l)) Q E s :=
  wpAny_collect_seq l (.inl rfl) D rfl rfl (fun h' hk=>by
   have:=h _ (jt (k:=s.toks) hs hk);simpa using this) (by rw [sizeLine_eq];simp;exact q1)
 unfold StarOf notIterableAtAll;exact wpAny_bind (wpAny_specialOf hT' PySem.F.slot_list_iter.lookup (wpAny_pure ⟨rfl,z⟩))
theorem Cr {e:Expr} {p:Pos} {rest:List Expr} {pos:Pos} {Q:PL} (h:W c (eval e c.env) τ m (fun v τ1 m1=>∃ l vs n,v=.ref l∧τ1 l=some (G3 vs n)∧vs.length≤10000∧W c (spliced (backTo pos (starEach rest c.env))) τ1 m1 (fun us=>Q (vs++us)) X) X)
  (he:autoParam (starEach (.Starred e p::rest) c.env=(true,eval e c.env)::starEach rest c.env) aR):W c (spliced (backTo pos (starEach (.Starred e p::rest) c.env))) τ m Q X:=fun s hs=>by
 refine items_star (h.use hs (fun v s1 τ1 m1 st1 q₁=>?_) xx) he;refine E3_4 q₁ fun l vs n zD hl hz q=>?_;clear q₁;obtain rfl:=zD;refine zu st1.at_ hl hz fun s2 st2=>?_;exact q.use st2.at_ (fun us s3 τ3 m3 st3 q3=>(I5 τ3 m3 ((st1.trans st2).trans st3) q3)) fun O O τ' m' st q=>(I5 τ' m' ((st1.trans st2).trans st) q)
end
section
variable {c:Cx} {τ:PH} {m:Lo} {X:PV}
noncomputable def bndOk (P:Params) (C:Addr) (name:Str) (f:Addr):Bool :=
 (((((plainGet (H3 P) C name&&hasDictIn (H3 P) C)&&(findIn (H3 P) (.ref C) name==some (some (.ref f))))&&isFn (H3 P) (.ref f))&&(specialIn (H3 P) (.ref f) "__get__"==some (some (.builtin "function.__get__"))))&&(takesIn (H3 P) (.ref f)==some false))&&(!copiedNames.contains name&&fnIn (H3 P) f)
theorem BZ {x C dx f:Addr} {od:Obj} {fs:List (Str×Value)} {name:Str} {e:Bool} {Q:PV} (hx:τ x=some (instObj C dx)) (hd:τ dx=some od) (F:S8 od fs) (hl:fs.lookup name=none)
  (ok:bndOk c.w.params C name f=true) (h:∀ b,τ b=none→Q (.ref b) (G5 τ b (methodObj (.ref f) (.ref x))) m):W c (getAttr (.ref x) name e) τ m Q X:=fun s hs=>by
 refine ao F fun es n zB hf=>?_;clear F;obtain rfl:=zB;unfold bndOk at ok;obtain ⟨ok,h7⟩:=Bool.and_eq_true_iff.mp ok;obtain ⟨h7,h8⟩:=Bool.and_eq_true_iff.mp h7;obtain ⟨ok,h6⟩:=Bool.and_eq_true_iff.mp ok;obtain ⟨ok,h5⟩:=Bool.and_eq_true_iff.mp ok;obtain ⟨ok,h4⟩:=Bool.and_eq_true_iff.mp ok;obtain ⟨ok,h3⟩:=Bool.and_eq_true_iff.mp ok;obtain ⟨h1,h2⟩:=Bool.and_eq_true_iff.mp ok;have h7:copiedNames.contains name=false:=by cases q:copiedNames.contains name <;> simp_all
 refine get_bind hs.top (pQ hs hx hd) (plainGet_of h1).1 (findObj_fn h2 (beq_iff_eq.mp h3) (beq_iff_eq.mp h5) (beq_iff_eq.mp h6) h7 (by show lookIn name (dictOf es n)=_;rw [lookIn_dict,hf.get,hl])) (plainGet_of h1).2 ?_;have st0:=Step.toks hs (s.toks+1);have st:=Step.new (o:=methodObj (.ref f) (.ref x)) st0.at_ rfl;refine wpAny_call (fn_get (s:={ s with toks:=s.toks+1 }) hs.top (beq_iff_eq.mp h4) (handed_on rfl ?_));exact I5 _ m (st0.trans st) (h _ hs.fresh)
theorem BJ {o:Expr} {name:Str} {apos pos:Pos} {args:List Expr} {Q:PV}
  (h:W c (eval o c.env) τ m (fun ov τ1 m1=>W c (getAttr ov name true) τ1 m1 (fun fv τ2 m2=>W c (callWith pos fv [] (backTo pos (starEach args c.env)) []) τ2 m2 Q X) X) X)
  (he:autoParam (eval (.Call (.Attribute o name apos) args [] pos) c.env=(do
   let ov ← eval o c.env
   standAt apos.atName
   let (f,first) ← PySem.holding [ov] (do pure (← getAttr ov name true,[]))
   callWith pos f first (backTo pos (starEach args c.env)) [])) aR):W c (eval (.Call (.Attribute o name apos) args [] pos) c.env) τ m Q X:=fun s hs=>by
 rw [he];refine wpAny_bind (h.use hs (fun ov s1 τ1 m1 st1 q1=>wpAny_bind (wpAny_standAt (wpAny_bind (wpAny_holding (wpAny_bind (q1.use st1.at_ (fun fx s2 τ2 m2 st2 q₂=>wpAny_pure ?_) (fun O O τ' m' st q=>(I5 τ' m' (st1.trans st) q)))))))) xx);exact W.cont q₂ (st1.trans st2)
theorem yu {b x f:Addr} {e:Expr} {rest:List Expr} {pos:Pos} {Q:PV} (hf:fnIn (H3 c.w.params) f=true)
  (h:W c (spliced (backTo pos (starEach (e::rest) c.env))) τ m (fun vs τ' m'=>τ' b=some (methodObj (.ref f) (.ref x))∧W c (PySem.call (.ref b) ([]++vs) []) τ' m' Q X) X)
  (he:autoParam (starEach (e::rest) c.env=(false,eval e c.env)::starEach rest c.env) aR) (hst:autoParam ((backTo pos (starEach rest c.env)).any (·.1)=true) aR):W c (callWith pos (.ref b) [] (backTo pos (starEach (e::rest) c.env)) []) τ m Q X:=fun s hs=>by
 rw [he] at h ⊢;exact ks_call (P:=MethP (H3 c.w.params) b f (.ref x)) (by show (false||(backTo pos (starEach rest c.env)).any (·.1))=true;rw [hst];rfl) (keeps_M hf) (Calls.evalArgs_plain (h.use hs (fun vs s' τ' m' st q=>⟨⟨st.at_.keep _ _ q.1,st.at_.top⟩,W.cont q.2 st⟩) xx))
theorem CP {n:Nat} {f g:Value} {args:Args} {pos:List Value} {kw:List (Str×Value)} {τ1:PH} {R RX:Value→PH→Prop} {Q:PV} (sp:Spec c.w c.os n f args τ1 R RX) (hr:Room n c.A)
  (via:∀ s R,At c τ m s→codeAny (MM c) c.A (.call f args) R s→codeAny (MM c) c.A (.call g ⟨pos,kw⟩) R s)
  (hsub:∀ b o,τ1 b=some o→τ b=some o)
  (hQ:∀ v τ1',(∀ b,(τ1' b).isSome=true→(τ1 b).isSome=true∨τ b=none)→R v τ1'→Q v (bQ τ1 τ1' τ) m)
  (hX:∀ v τ1',(∀ b,(τ1' b).isSome=true→(τ1 b).isSome=true∨τ b=none)→RX v τ1'→X v (bQ τ1 τ1' τ) m):W c (PySem.call g pos kw) τ m Q X:=by
 intro s hs;have h0:HAt c.w c.os c.A τ1 s:=⟨hs.top,fun b o e=>hs.keep b o (hsub b o e),fun b o e=>(hs.low b o (hsub b o e)).1,hs.gens,hs.os,hs.fr,fun b o e=>hs.nofr b o (hsub b o e)⟩
 have fin:∀ {τ1':PH} {s':Shared},HStep c.w c.os c.A τ1 s τ1' s'→Step c τ s (bQ τ1 τ1' τ) m s'∧∀ b,(τ1' b).isSome=true→(τ1 b).isSome=true∨τ b=none:=by
  intro τ1' s' st;have notOwn:∀ b,c.own b→τ1 b=none:=fun b hb=>by
   cases q:τ1 b with
   | none=>rfl
   | some o=>exact absurd hb (hs.low b o (hsub b o q)).2
  have hf:∀ b,(τ1' b).isSome=true→(τ1 b).isSome=true∨τ b=none:=fun b hb=>(st.fresh b hb).imp id fun z=>by
   cases q:τ b with
   | none=>rfl
   | some o=>rw [hs.keep b o q] at z;cases z
  obtain ⟨hn,hc⟩:=cU hs (fun b o hb e=>(st.keep b o e (notOwn b hb)).ex);have ovr:∀ b o,bQ τ1 τ1' τ b=some o→τ1' b=some o∨(τ1' b=none∧τ1 b=none∧τ b=some o):=by
   intro b o e;unfold bQ at e;cases q:τ1' b with
   | some o'=>rw [q] at e;left;exact e
   | none =>
    rw [q] at e;cases q2:τ1 b with
    | some _=>rw [q2] at e;cases e
    | none=>rw [q2] at e;exact .inr ⟨rfl,rfl,e⟩
  refine ⟨⟨⟨st.at_.top,fun b o e=>?_,fun b o e=>?_,hs.mine,hn,hc,hs.apart,hs.noBoth,st.at_.gens,st.at_.os,st.at_.fr,fun b o e=>?_⟩,fun b o e h1 h2=>?_,fun b hb=>?_⟩,hf⟩
  ·rcases ovr b o e with z | ⟨_,h1,h2⟩
   ·exact st.at_.keep b o z
   ·exact (st.keep b o (hs.keep b o h2) h1).exact (hs.nofr b o h2)
  ·rcases ovr b o e with z | ⟨_,h1,h2⟩
   ·refine ⟨st.at_.low b o z,fun ho=>?_⟩;rcases st.fresh b (by rw [z];rfl) with y | y
    ·rw [notOwn b ho] at y;cases y
    ·rcases ho with ho | ⟨n,ho⟩
     ·refine G8 hs.ns fun ml hml O=>?_;refine R6 hml fun ob O O hob O=>?_;clear hml;rw [ho,hob] at y;cases y
     ·obtain ⟨zC,_⟩:=hs.cell n b ho;refine G8 zC fun ob hob O=>?_;clear zC;rw [hob] at y;cases y
   ·exact hs.low b o h2
  ·rcases ovr b o e with z | ⟨_,h1,h2⟩
   ·exact st.at_.nofr b o z
   ·exact hs.nofr b o h2
  ·refine st.keep b o e ?_;cases q:τ1 b with
   | none=>rfl
   | some o'=>rw [hsub b o' q] at h1;cases h1
  ·obtain ⟨o,e⟩:=Option.isSome_iff_exists.mp hb;rcases ovr b o e with z | ⟨_,h1,h2⟩
   ·rcases st.fresh b (by rw [z];rfl) with y | y
    ·obtain ⟨o',q⟩:=Option.isSome_iff_exists.mp y;left;rw [hsub b o' q];rfl
    ·exact .inr y
   ·left;rw [h2];rfl
 refine wpAny_call (via s _ hs (codeAny_mono (sp c.A s hr h0) fun r s' hb=>?_));cases r with
 | ok fl =>
  cases fl with
  | ret v =>
   refine G8 hb fun τ1' st q=>?_;clear hb;obtain ⟨st',hf⟩:=fin st;exact I5 _ _ st' (hQ v τ1' hf q)
  | _=>cases hb
 | error e =>
  refine G8 hb fun τ1' st q=>?_;clear hb;obtain ⟨st',hf⟩:=fin st;exact I5 _ _ st' (hX e τ1' hf q)
theorem uA {n:Nat} {b x f:Addr} {pos:List Value} {L F:List H7} {R RX:Value→List H7→Prop} {Q:PV} (sp:U4 c.w c.os n (.ref f) ⟨.ref x::pos,[]⟩ L R RX) (hb:τ b=some (methodObj (.ref f) (.ref x))) (hr:Room n c.A) (h:Cells τ (L++F))
  (hQ:∀ v τ' L',Cells τ' (L'++F)→R v L'→Q v τ' m) (hX:∀ v τ' L',Cells τ' (L'++F)→RX v L'→X v τ' m):W c (PySem.call (.ref b) pos) τ m Q X :=
 CP (sp _ h.left.cut) hr (fun s R hs z=>method_call (hs.keep _ _ hb) z) ux (fun v τ' hf ⟨L',hc,q⟩=>hQ v _ L' (h.frame hc hf) q) (fun v τ' hf ⟨L',hc,q⟩=>hX v _ L' (h.frame hc hf) q)
end
theorem tsMake {w:World} {os:OsState}:U4 w os 4 (.ref 137) ⟨[],[]⟩ [] (fun v L'=>∃ S:So,L'=S.cells w∧v=.ref S.x∧Abs S [] (fun O=>0) (fun O=>[])∧S.rd=none∧S.po=0∧S.fi=0):=by
 intro τ _;have z:Spec w os 4 (.ref 137) ⟨[],[]⟩ τ (fun v τ'=>∃ L',Cells τ' L'∧∃ S:So,L'=S.cells w∧v=.ref S.x∧Abs S [] (fun O=>0) (fun O=>[])∧S.rd=none∧S.po=0∧S.fi=0):=by
  refine sU (fI:=73) (fun P=>by kernel_rfl) fun x dx hx hdx hne=>?_;have h1:(G5 τ dx emptyDict) x=none:=by unfold G5;rw [if_neg hne];exact hx
  have c1:Cells (G5 (G5 τ dx emptyDict) x (instObj 137 dx)) [(ecl x (instObj 137 dx)),(dx,fun O=>True)]:=(Cells.nil.new (P:=fun O=>True) hdx trivial).new (P:=(·=instObj 137 dx)) h1 rfl;refine Spec.less (tsInit x dx _ I4 (P0 hne.symm I4) hne) fun v τ' h=>?_;obtain ⟨zB,zz⟩:=h;refine E4_3 zz fun d od t1 t2 hd zC hf=>?_;clear zz;obtain rfl:=zB;obtain rfl:=zC;refine M8 _ (fun O O e=>e) rfl (H6 _ ?_ (bu ⟨x,dx,d,none,0,0,[]⟩ rfl rfl ⟨rfl,(fun n h=>by cases h),fun O O=>⟨rfl,rfl⟩⟩ rfl rfl rfl));have c2:=c1.new (P:=T6 w []) (o:=emptyDict) hd (by
   have z:∀ h:Heap,emptyDict.IsDictOf (strKind pw w) []:=fun h=>by
    refine G8 (Heap.dictOf_iff.mp (Heap.DictOf.new (knd:=strKind pw w) h)) fun o ho D=>?_;rw [aN _ rfl] at ho;cases ho;exact D
   exact z default)
  have c3:=Cells.putAt (A:=[(d,T6 w []),(ecl x (instObj 137 dx))]) (P:=fun O=>True) (P':=aY d .none 0 0) (o:=od) c2 (fc t1 t2 hf);exact c3.perm (List.perm_append_comm (l₁:=[(d,T6 w [])]) (l₂:=[(ecl x (instObj 137 dx)),(dx,aY d .none 0 0)]))
 exact z.exc fun O O h=>h.elim
noncomputable def DoneTo (w:World) (S:So) (nm:Str) (ns:List Str) (kf:Str→Int) (sf:Str→List Str) (r:Addr) (l:List (Str×Tok)) (L':List H7):Prop :=
 ∃ S':So,L'=S'.cells w∧Abs S' ns ((sf nm).foldl V2 (fup kf nm (-2),l.map (·.1))).1 sf∧S'.x=S.x∧(∃ l',S'.rd=some (r,l')∧l'.map (·.1)=((sf nm).foldl V2 (fup kf nm (-2),l.map (·.1))).2)∧S'.po=S.po∧S'.fi=S.fi+1
theorem lets_ {w:World} {os:OsState} (S:So) (nm:Str) (t:Tok) {ns:List Str} {kf:Str→Int} {sf:Str→List Str} {r:Addr} {l:List (Str×Tok)} (hA:Abs S ns kf sf) (hrd:S.rd=some (r,l)) (hin:nm∈ns) (hs:∀ s∈sf nm,s∈ns)
  (hk:kf nm=-1∨0≤kf nm∨kf nm=-2) (hl:l.length≤900) (hsl:(sf nm).length≤900) (hrep:(reprText nm).length≤1000) :
  U4 w os 6 (.ref 495) ⟨[.ref S.x,.str nm t],[]⟩ (S.cells w) (fun v L'=>(kf nm=-1∧v=.bool true∧DoneTo w S nm ns kf sf r l L')∨(kf nm≠-1∧v=.bool false∧L'=S.cells w)):=by
 intro τ hC;refine Z7 (RX:=fun v τ'=>∃ L',Cells τ' L'∧False) k495 cd495 rfl (binds:=[(G4 "sorter",.ref S.x),(G4 "place",.str nm t)]) (V9 (fun P=>by kernel_rfl)) fun A L hr=>?_;let c0:Cx:=cx w os A fd495 495 L;show W c0 (execs _ c0.env) _ (upd (upd (fun O=>none) (G4 "sorter") (.ref S.x)) (G4 "place") (.str nm t)) _ _;refine W7 fun Q X hQ=>?_;have hr5:Room 5 (cx w os A fd495 495 L).A:=hr;rw [← X4 (S.cells w)] at hC;refine R6 (Z2 hC) fun od t1 t2 hdx hf=>?_;refine G6 (rI (G6 (O7 (N7 ?_))));walk_at "nm";refine bU (f:=120) (U5 hC) hdx hf (by kernel_rfl) (by kernel_rfl) (I2 (by kernel_rfl) (G7 ?_));walk_at "nm";refine H5 (V7 (done_ S nm t hA hrd hin hs hk hl hsl hrep) hr5 hC (fun v τ1 L' hC1 hv=>?_) fun v τ1 L' hC1 hv=>?_)
 ·refine M6 hv fun hk1 zD hd=>?_;clear hv;obtain rfl:=zD;refine G9 (G9 (G6 (Y9 (qu ?_))));exact hQ (H6 _ (fun O O e=>e) (H6 _ hC1.left (.inl ⟨hk1,rfl,hd⟩)))
 ·obtain ⟨hk1,zz⟩:=hv;refine ao zz fun x T zE zF=>?_;clear zz;obtain rfl:=zE;obtain rfl:=zF;refine Bx pG hC1 fun T' τ2 hC2=>lQ hC2 fun τ3 hC3=>?_;refine R4 (hC3.at_ (x,X7 "ValueError" T') (by simp)) fun oe ee hcls O=>?_;refine uU (T:="ValueError") (Xc:="ValueError") (b:=true) (by rw [isSubtype_type];kernel_rfl) (by kernel_rfl) (by rw [isSubtype_type];kernel_rfl) (I9 (.type "ValueError") ⟨rfl,TyAt.ref ee hcls,?_⟩);refine bT rfl ?_;refine lQ hC3 fun τ4 hC4=>?_;refine G6 (Y9 (qu ?_));exact hQ (H6 _ (fun O O e=>e) (H6 _ hC4.tail.tail.left (.inr ⟨hk1,rfl,rfl⟩)))
noncomputable abbrev Ed:=Str×Str
noncomputable def aU (es:List Ed) (x:Str):Int:=((es.filter fun e=>decide (e.2=x)).length:Int)
noncomputable def Y0 (es:List Ed) (x:Str):List Str:=(es.filter fun e=>decide (e.1=x)).map (·.2)
noncomputable def W6 (es:List Ed) (dn:List Str) (x:Str):Nat:=(es.filter fun e=>decide (e.2=x)&&decide (e.1∉dn)).length
noncomputable def kfS (es:List Ed) (ns dn:List Str) (x:Str):Int:=if x∈dn then -2 else if x∈ns then (if W6 es dn x=0 then -1 else (W6 es dn x:Int)) else 0
theorem zr (es:List Ed) (p x:Str):fup (aU es) x (aU es x+1)=aU (es++[(p,x)]):=by
 funext y;unfold fup aU;rw [List.filter_append,bW];by_cases h:y=x
 ·subst h;simp
 ·have:¬ x=y:=fun z=>h z.symm;simp [h,this]
theorem ym (es:List Ed) (p x:Str):sup (Y0 es) p (Y0 es p++[x])=Y0 (es++[(p,x)]):=by
 funext y;unfold sup Y0;rw [List.filter_append,N6];by_cases h:y=p
 ·subst h;simp
 ·have:¬ p=y:=fun z=>h z.symm;simp [h,this]
theorem sfOf_mem {es:List Ed} {p x:Str}:x∈Y0 es p↔(p,x)∈es:=by
 unfold Y0;simp only [tQ,List.mem_filter,decide_eq_true_eq];constructor
 ·intro zB;refine G8 zB fun e zC h3=>?_;clear zB;refine O1 zC fun h1 h2=>?_;clear zC;rw [← h2,← h3];exact h1
 ·intro h;exact (H6 (p,x) ⟨h,rfl⟩ rfl)
theorem uf (es:List Ed) (x:Str):(W6 es [] x:Int)=aU es x:=by
 unfold W6 aU;simp
noncomputable def cH (es:List Ed) (p x:Str):Nat:=(Y0 es p).count x
theorem Fp (es:List Ed) (p x:Str):cH es p x=(es.filter fun e=>decide (e.1=p)&&decide (e.2=x)).length:=by
 unfold cH Y0;induction es with
 | nil=>rfl
 | cons e r ih =>
  by_cases h1:e.1=p
  ·by_cases h2:e.2=x
   ·simp [h1,h2,List.filter_cons] at ih ⊢;exact ih
   ·simp [h1,h2,List.filter_cons] at ih ⊢;exact ih
  ·simp [h1,List.filter_cons] at ih ⊢;exact ih
theorem lX (es:List Ed) (dn:List Str) {p:Str} (hp:p∉dn) (x:Str):W6 es (dn++[p]) x+cH es p x=W6 es dn x:=by
 rw [Fp];unfold W6;induction es with
 | nil=>rfl
 | cons e r ih =>
  by_cases h2:e.2=x
  ·by_cases h1:e.1=p
   ·have h3:e.1∉dn:=by rw [h1];exact hp
    simp [h1,h2,hp,List.filter_cons] at ih ⊢;exact (kq3 832989818440034404417) ih
   ·by_cases h3:e.1∈dn
    ·simp [h1,h2,h3,List.filter_cons] at ih ⊢;assumption
    ·simp [h1,h2,h3,List.filter_cons] at ih ⊢;exact (kq3 832989800931600222273) ih
  ·simp [h2,List.filter_cons] at ih ⊢;assumption
theorem mult_pos {es:List Ed} {p x:Str}:0<cH es p x↔(p,x)∈es:=by
 unfold cH;rw [List.count_pos_iff];exact sfOf_mem
theorem wV:∀ (ss:List Str) (k:Str→Int) (rl:List Str),(∀ x∈ss,(ss.count x:Int)≤k x) →
  (∀ x,(ss.foldl V2 (k,rl)).1 x=k x-ss.count x)∧∃ zs,(ss.foldl V2 (k,rl)).2=rl++zs∧zs.Nodup∧∀ x,x∈zs↔x∈ss∧k x=ss.count x
 | [],k,rl,_=>⟨fun x=>by simp,(M8 [] (by simp) List.nodup_nil (fun x=>by simp))⟩
 | s::r,k,rl,h=>by
  have hk:((s::r).count s:Int)≤k s:=h s K4;rw [List.count_cons_self] at hk;have step:(s::r).foldl V2 (k,rl)=r.foldl V2 (fup k s (k s-1),if k s-1=0 then rl++[s] else rl):=rfl;have ih:=wV r (fup k s (k s-1)) (if k s-1=0 then rl++[s] else rl) (fun x hx=>by
   by_cases e:x=s
   ·subst e;unfold fup;rw [if_pos rfl];push_cast at hk;lia
   ·unfold fup;rw [if_neg e];have:=h x (H9 _ hx);rw [List.count_cons_of_ne (fun z=>e z.symm)] at this;exact this)
  obtain ⟨h1,zs,h2,h3,h4⟩:=ih;rw [step];refine ⟨fun x=>?_,?_⟩
  ·rw [h1 x];by_cases e:x=s
   ·subst e;unfold fup;rw [if_pos rfl,List.count_cons_self];push_cast;lia
   ·unfold fup;rw [if_neg e,List.count_cons_of_ne (fun z=>e z.symm)]
  ·have hz:∀ x,x∈zs↔x∈r∧fup k s (k s-1) x=r.count x:=h4;by_cases e0:k s-1=0
   ·rw [if_pos e0] at h2;have hsr:s∉r:=fun z=>by
     have:=List.count_pos_iff.mpr z
     push_cast at hk;lia
    refine M8 ([s]++zs) (by rw [if_pos e0,h2,W4]) ?_ (fun x=>?_)
    ·rw [List.singleton_append,qD];exact ⟨fun z=>hsr ((hz s).mp z).1,h3⟩
    ·rw [List.singleton_append,qC,hz x];by_cases e:x=s
     ·subst e;simp only [true_or,qC,true_and,true_iff];rw [List.count_cons_self,List.count_eq_zero.mpr hsr];lia
     ·unfold fup;rw [if_neg e,List.count_cons_of_ne (fun z=>e z.symm)];simp [e]
   ·rw [if_neg e0] at h2;refine M8 zs (by rw [if_neg e0];exact h2) h3 (fun x=>?_);rw [hz x];by_cases e:x=s
    ·subst e;unfold fup;rw [if_pos rfl,List.count_cons_self];constructor
     ·intro zB;refine O1 zB fun a b=>?_;clear zB;exact ⟨K4,by push_cast;lia⟩
     ·intro zC;refine O1 zC fun O b=>?_;clear zC
      push_cast at b
      refine ⟨?_,by lia⟩;have:0<r.count x:=by lia
      exact List.count_pos_iff.mp this
    ·unfold fup;rw [if_neg e,List.count_cons_of_ne (fun z=>e z.symm)];simp [e]
structure Done (es:List Ed) (ns dn:List Str):Prop where
 sub:∀ x∈dn,x∈ns
 closed:∀ x∈dn,W6 es dn x=0
theorem Done.nil (es:List Ed) (ns:List Str):Done es ns []:=⟨fun x h=>(by cases h),fun x h=>(by cases h)⟩
theorem Done.snoc {es:List Ed} {ns dn:List Str} {p:Str} (h:Done es ns dn) (hp:p∈ns) (hn:p∉dn) (hc:W6 es dn p=0):Done es ns (dn++[p]):=by
 refine ⟨fun x hx=>?_,fun x hx=>?_⟩
 ·rcases List.mem_append.mp hx with z | z
  ·exact h.sub x z
  ·rw [I7] at z;rw [z];exact hp
 ·have e:=lX es dn hn x;rcases List.mem_append.mp hx with z | z
  ·have:=h.closed x z;exact (kq3 25369806079379521) e this
  ·rw [I7] at z;rw [z] at e ⊢;exact (kq3 25370888894503457) hc e
theorem Bl {es:List Ed} {ns:List Str} (ht:∀ e∈es,e.2∈ns):cD (aU es) (ns.filter fun x=>aU es x==0)=kfS es ns []:=by
 funext x;unfold cD kfS;simp only [List.mem_filter,cV,if_false,beq_iff_eq];have e:=uf es x;by_cases h:x∈ns
 ·simp only [h,true_and,if_true];by_cases h0:aU es x=0
  ·rw [if_pos h0,if_pos (by lia)]
  ·rw [if_neg h0,if_neg (by lia),e]
 ·simp only [h,false_and,if_false];unfold aU;rw [List.filter_eq_nil_iff.mpr]
  ·rfl
  ·intro e he hx;rw [decide_eq_true_eq] at hx;exact h (hx▸ht e he)
theorem Ef {es:List Ed} {ns dn:List Str} {p:Str} (ht:∀ e∈es,e.2∈ns) (D:Done es ns dn) (hp:p∈ns) (hn:p∉dn) (hc:W6 es dn p=0) :
  ∃ zs,((Y0 es p).foldl V2 (fup (kfS es ns dn) p (-2),[])).2=zs∧zs.Nodup∧(∀ x,x∈zs↔x∈ns∧W6 es dn x≠0∧W6 es (dn++[p]) x=0) ∧
   cD ((Y0 es p).foldl V2 (fup (kfS es ns dn) p (-2),[])).1 zs=kfS es ns (dn++[p]):=by
 have hss:∀ x∈Y0 es p,x∈ns∧x∉dn∧x≠p∧cH es p x≤W6 es dn x∧0<cH es p x:=fun x hx=>by
  have hm:=sfOf_mem.mp hx;have hpos:=mult_pos.mpr hm;have e:=lX es dn hn x;refine ⟨ht _ hm,fun z=>?_,fun z=>?_,by exact (kq3 690506287169) e,hpos⟩
  ·have:=D.closed x z;exact (kq3 854034321987687473) hpos e this
  ·rw [z] at e hpos;exact (kq3 853487177616120353) hc hpos e
 have hk0:∀ x∈Y0 es p,fup (kfS es ns dn) p (-2) x=W6 es dn x:=fun x hx=>by
  refine bY (hss x hx) fun h1 h2 h3 h4 h5=>?_;unfold fup kfS;rw [if_neg h3,if_neg h2,if_pos h1,if_neg (by exact (kq2 869201155248193) h4 h5)]
 obtain ⟨h1,zs,h2,h3,h4⟩:=wV (Y0 es p) (fup (kfS es ns dn) p (-2)) [] (fun x hx=>by
  rw [hk0 x hx];refine bY (hss x hx) fun O O O h4 O=>?_;unfold cH at h4;exact (kq2 5460074745921) h4)
 rw [aX] at h2;have hzs:∀ x,x∈zs↔x∈ns∧W6 es dn x≠0∧W6 es (dn++[p]) x=0:=fun x=>by
  rw [h4 x];have e:=lX es dn hn x;constructor
  ·intro zD;refine O1 zD fun a b=>?_;clear zD;refine bY (hss x a) fun g1 g2 g3 g4 g5=>?_;rw [hk0 x a] at b;unfold cH at e g4 g5;exact ⟨g1,by exact (kq3 890063083561666625) e g5,by exact (kq3 831300276534978398273) e b⟩
  ·intro zD;refine M6 zD fun a b c=>?_;clear zD;have hx:x∈Y0 es p:=sfOf_mem.mpr (mult_pos.mp ((kq3 24886622513118568368193) e b c));refine ⟨hx,?_⟩;rw [hk0 x hx];unfold cH at e;exact (kq3 256996685355633723457) e c
 refine Q0 zs h2 h3 hzs ?_;funext x;unfold cD;rw [h1 x];have e:=lX es dn hn x;have ec:((Y0 es p).count x:Int)=cH es p x:=rfl;rw [ec];unfold kfS fup;dsimp only;by_cases hxp:x=p
 ·subst hxp;have hz:x∉zs:=fun z=>by
   refine M6 ((hzs x).mp z) fun O b O=>?_;exact b hc
  rw [if_neg hz,if_pos rfl,if_pos (by simp)];exact (kq4 309595578709963855826733127459212529604057633) hc e ec
 ·rw [if_neg hxp];by_cases hxd:x∈dn
  ·have hz:x∉zs:=fun z=>by
    refine M6 ((hzs x).mp z) fun O b O=>?_;exact b (D.closed x hxd)
   have:=D.closed x hxd;rw [if_neg hz,if_pos hxd,if_pos (by simp [hxd])];exact (kq4 309595578709963816212651870325917849621743681) e this ec
  ·rw [if_neg hxd,if_neg (show x∉dn++[p] by simp [hxd,hxp])];by_cases hxn:x∈ns
   ·rw [if_pos hxn,if_pos hxn];by_cases hz:x∈zs
    ·refine M6 ((hzs x).mp hz) fun O O c=>?_;rw [if_pos hz,if_pos c]
    ·rw [if_neg hz];by_cases h0:W6 es dn x=0
     ·rw [if_pos h0,if_pos (by exact (kq3 25369806079379521) e h0)];exact (kq4 302339450055631463272160589769452973836353) e h0 ec
     ·have:W6 es (dn++[p]) x≠0:=fun c=>hz ((hzs x).mpr ⟨hxn,h0,c⟩);rw [if_neg h0,if_neg this];exact (kq3 8223828460474453837889) e
   ·have hz:x∉zs:=fun z=>hxn ((hzs x).mp z).1;have hm:cH es p x=0:=by
     rcases Nat.eq_zero_or_pos (cH es p x) with z | z
     ·exact z
     ·exact absurd (ht _ (mult_pos.mp z)) hxn
    rw [if_neg hz,if_neg hxn,if_neg hxn,hm];rfl
noncomputable def K5:List Str→List Ed
 | []=>[]
 | [_]=>[]
 | x::y::r=>(x,y)::K5 (y::r)
theorem vQ:∀ (l:List Str) (p x:Str),K5 (l++[p]++[x])=K5 (l++[p])++[(p,x)]
 | [],p,x=>rfl
 | [a],p,x=>rfl
 | a::b::r,p,x=>by
  show (a,b)::K5 (b::r++[p]++[x])=(a,b)::K5 (b::r++[p])++[(p,x)]
  rw [vQ (b::r) p x];rfl
theorem jV:∀ l:List Str,(K5 l).length≤l.length
 | []=>K9 _
 | [_]=>T3 _
 | x::y::r=>by
  have:=jV (y::r);show (K5 (y::r)).length+1≤_;simp only [R8] at this ⊢;exact (kq2 759219642766618869825) this
theorem lO:∀ {l:List Str} {e:Ed},e∈K5 l→e.1∈l∧e.2∈l
 | [],_,h=>by cases h
 | [_],_,h=>by cases h
 | x::y::r,e,h=>by
  rcases List.mem_cons.mp h with z | z
  ·subst z;exact ⟨K4,H9 _ K4⟩
  ·obtain ⟨a,b⟩:=lO z;exact ⟨H9 _ a,H9 _ b⟩
theorem rK {r:Str→Nat}:∀ {l:List Str},(l.map r).Pairwise (·<·)→∀ e∈K5 l,r e.1<r e.2
 | [],_,_,h=>by cases h
 | [_],_,_,h=>by cases h
 | x::y::l,hp,e,h=>by
  have hp':(r x::(y::l).map r).Pairwise (·<·):=hp;obtain ⟨h1,h2⟩:=List.pairwise_cons.mp hp';rcases List.mem_cons.mp h with z | z
  ·subst z;exact h1 _ K4
  ·exact rK h2 e z
structure Built (S:So) (es:List Ed) (N:List Str):Prop where
 abs:∃ ns,Abs S ns (aU es) (Y0 es)∧∀ x,x∈ns↔x∈N
 rd:S.rd=none
 po:S.po=0
 fi:S.fi=0
theorem qH {ns:List Str} {x y:Str}:y∈ak ns x↔y∈ns∨y=x:=by
 unfold ak;split
 ·rename_i h;constructor
  ·exact .inl
  ·rintro (z | z)
   ·exact z
   ·rw [z];exact h
 ·simp
theorem uH (es:List Ed) (x:Str):(Y0 es x).length≤es.length:=by
 unfold Y0;rw [I3];exact List.length_filter_le _ _
theorem yQ {w:World} {os:OsState} (S:So) (nm:Str) (t:Tok) (rest:List (Str×Tok)) {args:Args} (hbind:bindArgs fd87 args=(do let t' ← newTuple (strValues rest);pure ([(G4 "self",.ref S.x),(G4 "node",.str nm t)]++[(G4 "predecessors",t')])))
  (hr1:rest.length≤1) {es:List Ed} {N:List Str} (hB:Built S es N) (hrN:∀ p∈rest,p.1∈N) (hN:N.length≤60) (hes:es.length≤100) :
  U4 w os 6 (.ref 87) args (S.cells w) (fun v L'=>v=.none∧∃ S':So,L'=S'.cells w∧S'.x=S.x∧Built S' (es++rest.map fun p=>(p.1,nm)) (N++[nm])):=by
 intro τ hC;refine G8 hB.abs fun ns hA hm=>?_;have hnd:ns.Nodup:=by
  rw [← X4 (S.cells w)] at hC;rw [← hA.names];exact So.names hC
 have hl:ns.length≤N.length:=bZ hnd fun x hx=>(hm x).mp hx;refine Spec.exc (Spec.less (add_ (w:=w) (os:=os) S nm t rest hbind hA hB.rd ((kq3 830767609304891822974788673630982657) hr1 hN hl) (fun x=>W2 (uH _ _) (lq (by assumption))) τ hC) fun v τ' h=>(H6 τ' (fun O O e=>e) ?_)) fun O O h=>by obtain ⟨_,_,z⟩:=h;exact z.elim
 obtain ⟨L',hC',zB,zz⟩:=h;refine dU zz fun S' zC hA' hx' hrd' hpo' hfi'=>?_;clear zz;obtain rfl:=zB;obtain rfl:=zC;refine M8 _ hC' rfl (M8 S' rfl hx' ?_);rcases rest with _ | ⟨p,_ | ⟨q,rest⟩⟩
 ·refine ⟨(H6 (ak ns nm) ?_ (fun x=>?_)),hrd',hpo'.trans hB.po,hfi'.trans hB.fi⟩
  ·have e:fup (aU es) nm (aU es nm+(([]:List (Str×Tok)).length:Nat))=aU es:=by
    funext y;unfold fup;split
    ·rename_i z;subst z;simp
    ·rfl
   rw [bB,X4];rw [e] at hA';exact hA'
  ·rw [qH,hm x];simp
 ·have hp:=hrN p K4;refine ⟨(H6 (fu (ak ns nm) [p.1]) ?_ (fun x=>?_)),hrd',hpo'.trans hB.po,hfi'.trans hB.fi⟩
  ·have e:fup (aU es) nm (aU es nm+(([p]:List (Str×Tok)).length:Nat))=aU (es++[(p.1,nm)]):=zr es p.1 nm;have e2:dB nm (Y0 es) ([p].map (·.1))=Y0 (es++[(p.1,nm)]):=ym es p.1 nm;rw [e,e2] at hA';exact hA'
  ·show x∈ak (ak ns nm) p.1↔_;rw [qH,qH,hm x];constructor
   ·rintro ((z | z) | z)
    ·exact O2 _ z
    ·rw [z];simp
    ·rw [z];exact O2 _ hp
   ·intro z;rcases List.mem_append.mp z with z | z
    ·exact .inl (.inl z)
    ·rw [I7] at z;exact .inl (.inr z)
 ·simp at hr1
theorem Cells.drop {τ:PH} {A B:List H7} {p:H7} (h:Cells τ (A++p::B)):Cells τ (A++B):=(h.perm List.perm_middle).tail
noncomputable abbrev nmL (l:List (Str×Tok)):List Str:=l.map (·.1)
noncomputable def dD (l:List (Str×Tok)):List (Str×Tok):=l.drop (l.length-1)
theorem Dr (l:List (Str×Tok)) (p:Str×Tok):dD (l++[p])=[p]:=by
 unfold dD;rw [bW,List.length_singleton,Nat.add_sub_cancel,List.drop_left]
theorem qZ (l:List (Str×Tok)):(dD l).length≤1:=by
 unfold dD;rw [List.length_drop];exact (kq1 22032269345)
theorem Bb {l:List (Str×Tok)} {p:Str×Tok} (h:p∈dD l):p∈l:=List.mem_of_mem_drop h
theorem CG (row:List (Str×Tok)) (k:Nat) (p:Str×Tok) (hp:row[k]? = some p):K5 (nmL (row.take (k+1)))=K5 (nmL (row.take k))++(dD (row.take k)).map fun q=>(q.1,p.1):=by
 rw [aC,hp];show K5 (nmL (row.take k++[p]))=_;rcases List.eq_nil_or_concat (row.take k) with h | ⟨l,q,h⟩
 ·rw [h];rfl
 ·rw [h,List.concat_eq_append,Dr];show K5 (nmL (l++[q]++[p]))=_;rw [show nmL (l++[q]++[p])=nmL l++[q.1]++[p.1] by simp [nmL],vQ];simp [nmL]
noncomputable def esT (a b:List Str):Nat→List Ed
 | 0=>[]
 | 1=>K5 a
 | _=>K5 a++K5 b
noncomputable def NT (a b:List Str):Nat→List Str
 | 0=>[]
 | 1=>a
 | _=>a++b
theorem yh (a b:Value):∀ rest:List (Str×Tok),rest.length≤1→bindArgs fd87 ⟨[a]++(b::(strValues rest++[])),[]⟩=(do let t ← newTuple (strValues rest);pure ([(G4 "self",a),(G4 "node",b)]++[(G4 "predecessors",t)]))
 | [],_=>Af a b
 | [p],_=>Ei a b (.str p.1 p.2)
 | _::_::_,h=>by simp at h
structure Rows (first second:List (Str×Tok)) (r:Str→Nat):Prop where
 l1:first.length≤8
 l2:second.length≤8
 r1:((nmL first).map r).Pairwise (·<·)
 r2:((nmL second).map r).Pairwise (·<·)
 ok:∀ p∈first++second,(reprText p.1).length≤1000∧PyData.strOk p.1=true
noncomputable abbrev esR (first second:List (Str×Tok)):List Ed:=K5 (nmL first)++K5 (nmL second)
noncomputable abbrev NR (first second:List (Str×Tok)):List Str:=nmL first++nmL second
noncomputable def Z3 (es:List Ed) (N:List Str) (order:List Str):Prop:=∀ i p,order[i]? = some p→p∈N∧p∉order.take i∧W6 es (order.take i) p=0
noncomputable def gU (es:List Ed) (N:List Str) (order:List Str) (x:Str):Prop:=x∈N∧x∉order∧W6 es order x=0
theorem oN {es:List Ed} {N ns order:List Str} (hm:∀ x,x∈ns↔x∈N) (h:Z3 es N order):∀ i,Done es ns (order.take i)∧(order.take i).Nodup
 | 0=>⟨by rw [List.take_zero];exact Done.nil es ns,by simp⟩
 | i+1=>by
  obtain ⟨h1,h2⟩:=oN hm h i;rw [aC];cases q:order[i]? with
  | none=>simpa using ⟨h1,h2⟩
  | some p =>
   refine M6 (h i p q) fun a b c=>?_;refine ⟨h1.snoc ((hm p).mpr a) b c,?_⟩;show (order.take i++[p]).Nodup;rw [List.nodup_append];refine ⟨h2,by simp,fun x hx y hy e=>?_⟩;have:y=p:=by simpa using hy
   rw [e,this] at hx;exact b hx
theorem fup_nm {l:List (Str×Tok)} {i:Nat} {p:Str×Tok} (h:l[i]? = some p):(nmL l)[i]? = some p.1:=by unfold nmL;rw [S9,h];rfl
theorem vU (l:List (Str×Tok)) (i:Nat):nmL (l.take i)=(nmL l).take i:=by unfold nmL;rw [List.map_take]
noncomputable def inC (fa sa oa:Addr) (first second order:List (Str×Tok)) (jf js jo:Nat):List H7:=[(ecl fa (G3 (strValues first) jf)),(ecl sa (G3 (strValues second) js)),(ecl oa (G3 (strValues order) jo))]
theorem tX {w:World} {os:OsState} (fa sa oa:Addr) (first second order:List (Str×Tok)) (jf js jo:Nat) (r:Str→Nat) (hR:Rows first second r) (hO:Z3 (esR first second) (NR first second) (nmL order)) :
  U4 w os 7 (.ref 500) ⟨[.ref fa,.ref sa,.ref oa],[]⟩ (inC fa sa oa first second order jf js jo)
   (fun v L'=>∃ a wl j,v=.ref a∧L'=(ecl a (G3 (strValues wl) j))::inC fa sa oa first second order jf js jo∧(nmL wl).Nodup∧∀ x,x∈nmL wl↔gU (esR first second) (NR first second) (nmL order) x):=by
 intro τ hC;refine Z7 (RX:=fun v τ'=>∃ L',Cells τ' L'∧False) k500 cd500 rfl (binds:=[(G4 "first",.ref fa),(G4 "second",.ref sa),(G4 "order",.ref oa)]) (V9 (fun P=>by kernel_rfl)) fun A L hr=>?_;let c0:Cx:=cx w os A fd500 500 L;show W c0 (execs _ c0.env) _ (upd (upd (upd (fun O=>none) (G4 "first") (.ref fa)) (G4 "second") (.ref sa)) (G4 "order") (.ref oa)) _ _;refine W7 fun Q X hQ=>?_;have hr6:Room 6 (cx w os A fd500 500 L).A:=hr;have hq:(cx w os A fd500 500 L).A.handled=none:=hr.quiet;have hl1:=hR.l1;have hl2:=hR.l2;generalize hL0:inC fa sa oa first second order jf js jo=L0 at hC ⊢
 have mf:∀ {τ':PH} {F:List H7},Cells τ' (L0++F)→τ' fa=some (G3 (strValues first) jf):=fun h=>by
  obtain ⟨o,e,rfl⟩:=h.at_ (ecl fa (G3 (strValues first) jf)) (by rw [← hL0];simp [inC]);exact e
 have ms:∀ {τ':PH} {F:List H7},Cells τ' (L0++F)→τ' sa=some (G3 (strValues second) js):=fun h=>by
  obtain ⟨o,e,rfl⟩:=h.at_ (ecl sa (G3 (strValues second) js)) (by rw [← hL0];simp [inC]);exact e
 have mo:∀ {τ':PH} {F:List H7},Cells τ' (L0++F)→τ' oa=some (G3 (strValues order) jo):=fun h=>by
  obtain ⟨o,e,rfl⟩:=h.at_ (ecl oa (G3 (strValues order) jo)) (by rw [← hL0];simp [inC]);exact e
 have hN16:(NR first second).length≤16:=by simp [NR,nmL];exact (kq2 756841248543193309633) hl1 hl2
 have hE16:(esR first second).length≤16:=by
  have h1:=jV (nmL first);have h2:=jV (nmL second);simp [esR,nmL] at h1 h2 ⊢;exact (kq4 812652180600994469833091981761) hl1 hl2 h1 h2
 have hinOk:∀ p∈first,(reprText p.1).length≤1000∧PyData.strOk p.1=true:=fun p hp=>hR.ok p (O2 _ hp)
 have hinOk2:∀ p∈second,(reprText p.1).length≤1000∧PyData.strOk p.1=true:=fun p hp=>hR.ok p (O6 _ hp);have hNok:∀ x∈NR first second,(reprText x).length≤1000∧PyData.strOk x=true:=fun x hx=>by
  rcases List.mem_append.mp hx with z | z
  ·obtain ⟨p,hp,rfl⟩:=List.mem_map.mp z;exact hinOk p hp
  ·obtain ⟨p,hp,rfl⟩:=List.mem_map.mp z;exact hinOk2 p hp
 refine G6 (K3 (K8 (I9 (.ref 137) (aq (by kernel_rfl) (V7 tsMake (hr6.less (by decide)) (show Cells τ ([]++L0) from hC) (fun v τ1 L' hC1 hv=>?_) fun O O O O h=>h.elim)))));refine dU hv fun S0 zB zC hA0 hrd0 hpo0 hfi0=>?_;clear hv;obtain rfl:=zB;obtain rfl:=zC;have hB0:Built S0 [] []:=⟨(H6 [] hA0 (fun x=>Iff.rfl)),hrd0,hpo0,hfi0⟩
 refine G6 (aB (U6 (G7 ?_)));walk_at "nm";refine G7 ?_;walk_at "nm";refine H5 ⟨leB rfl,fun tp htp=>?_⟩;have hC2:Cells (G5 τ1 tp (H4 [.ref fa,.ref sa])) (S0.cells w++(L0++[(tp,tpC [.ref fa,.ref sa])])):=(hC1.new (P:=tpC [.ref fa,.ref sa]) htp rfl).perm (by rw [← W4];exact List.perm_append_comm (l₁:=[(tp,tpC [.ref fa,.ref sa])]));have mtp:∀ {τ':PH} {S:So},Cells τ' (S.cells w++(L0++[(tp,tpC [.ref fa,.ref sa])]))→τ' tp=some (H4 [.ref fa,.ref sa]):=fun h=>by
  obtain ⟨o,e,rfl⟩:=h.at_ (tp,tpC [.ref fa,.ref sa]) (by exact mR (mR mH));exact e
 let J1:PN:=fun i τ' m'=>(∃ S:So,Cells τ' (S.cells w++(L0++[(tp,tpC [.ref fa,.ref sa])]))∧S.x=S0.x∧Built S (esT (nmL first) (nmL second) i) (NT (nmL first) (nmL second) i)) ∧
  vl m' "sorter" (.ref S0.x)∧vl m' "first" (.ref fa)∧vl m' "second" (.ref sa)∧vl m' "order" (.ref oa)
 refine R0 _ _ _ (Iters.tuple hq I4) (Q0 J1 ⟨(M8 S0 hC2 rfl hB0),?_,?_,?_,?_⟩ ?_ ?_ ?_)
 ·walk_at "mv"
 ·walk_at "mv"
 ·walk_at "mv"
 ·walk_at "mv"
 ·intro i τ' m' zD b hb;refine O1 zD fun zE O=>?_;clear zD;refine G8 zE fun S hS O=>?_;clear zE;rw [I7] at hb;subst hb;rw [mtp hS,mtp hC2]
 ·intro i v τ' m' hi hv zF;refine bY zF fun zG m1 m2 m3 m4=>?_;clear zF;refine R4 zG fun S hCS hx hB=>?_;clear zG;obtain ⟨ra,row,jr,rfl,hra,hrl,he,hn⟩:∃ ra row jr,v=.ref ra∧(∀ {τ':PH} {F:List H7},Cells τ' (L0++F)→τ' ra=some (G3 (strValues row) jr))∧row.length≤8∧esT (nmL first) (nmL second) (i+1)=esT (nmL first) (nmL second) i++K5 (nmL row)∧NT (nmL first) (nmL second) (i+1)=NT (nmL first) (nmL second) i++nmL row:=by
   rcases i with _ | _ | i
   ·exact I3_5 fa first jf (by simpa using hv.symm) mf hl1 rfl rfl
   ·exact I3_5 sa second js (by simpa using hv.symm) ms hl2 rfl rfl
   ·simp at hi;lia
  have hrl':(strValues row).length≤8:=by rw [Q8];exact hrl
  have hNTl:(NT (nmL first) (nmL second) i).length≤16:=by
   rcases i with _ | _ | i
   ·simp [NT]
   ·simp [NT,nmL];exact q1
   ·simp [NT,nmL];exact (kq2 756841248543193309633) hl1 hl2
  have hETl:(esT (nmL first) (nmL second) i).length≤16:=by
   have h1:=jV (nmL first);have h2:=jV (nmL second);rcases i with _ | _ | i
   ·simp [esT]
   ·simp [esT,nmL] at h1 ⊢;exact (kq2 23096431483691457) hl1 h1
   ·simp [esT,nmL] at h1 h2 ⊢;exact (kq4 812652180600994469833091981761) hl1 hl2 h1 h2
  generalize hes0:esT (nmL first) (nmL second) i=es0 at hB hETl he;generalize hN0:NT (nmL first) (nmL second) i=N0 at hB hNTl hn;refine I8 ?_;refine G6 (aB (K8 (I9 (.type "range") (I2 rfl (G7 (K8 (I9 (.builtin "len") (I2 rfl (G7 ?_)))))))));walk_at "nm";refine H5 (cY (hra hCS.right) (lq (by assumption)) fun t1=>H5 (iM fun ro t2 t3 t4 hro=>?_));let J2:PN:=fun k τ' m'=>(∃ S:So,Cells τ' (S.cells w++(L0++[(tp,tpC [.ref fa,.ref sa])]))∧S.x=S0.x∧Built S (es0++K5 (nmL (row.take k))) (N0++nmL (row.take k))) ∧
   vl m' "sorter" (.ref S0.x)∧vl m' "first" (.ref fa)∧vl m' "second" (.ref sa)∧vl m' "order" (.ref oa)∧vl m' "row" (.ref ra)
  refine R0 _ _ _ (gD hq I4 (kq0 166643633 []) (kq1 166627249) ((kq1 5862606194538133987777) hrl')) (Q0 J2 ⟨(M8 S (hCS.keep hro) hx (by simpa [K5,nmL] using hB)),?_,?_,?_,?_,?_⟩ (fun O O O O b hb=>(by cases hb)) ?_ ?_)
  ·walk_at "mv"
  ·walk_at "mv"
  ·walk_at "mv"
  ·walk_at "mv"
  ·walk_at "mv"
  ·intro k v τ' m' hk zB zH;refine U0 zB fun tk zC=>?_;clear zB;obtain rfl:=zC;refine gq zH fun zI m1 m2 m3 m4 m5=>?_;clear zH;refine R4 zI fun S hCS hx hB=>?_;clear zI;have hk':k<row.length:=by rw [Q8] at hk;assumption
   obtain ⟨p,hp⟩:∃ p,row[k]? = some p:=⟨_,Z6 hk'⟩
   have ek:((0:Int)+(k:Int))=(k:Int):=by exact (kq1 245089153484721)
   rw [ek];have era:=hra hCS.right;refine R6 (Z2 hCS) fun od q1 q2 hdx hf=>?_;refine I8 ?_;refine G6 (O7 (BJ ?_));walk_at "nm";rw [← hx] at m1;try rw [← hx]
   refine BZ (f:=87) (U5 hCS) hdx hf (by kernel_rfl) (by kernel_rfl) fun bm hbm=>?_;have hCS:=hCS.keep (o:=methodObj (.ref 87) (.ref S.x)) hbm;have ebm:G5 τ' bm (methodObj (.ref 87) (.ref S.x)) bm=some (methodObj (.ref 87) (.ref S.x)):=I4;have era:=O9 (o:=methodObj (.ref 87) (.ref S.x)) hbm era;generalize G5 τ' bm (methodObj (.ref 87) (.ref S.x))=τ' at hCS ebm era ⊢;refine yu (f:=87) (x:=S.x) (by kernel_rfl) (G7 (T5 ?_ fun O O=>.inl rfl));walk_at "nm";walk_at "nm";refine ⟨(I5 "list" _ (TyAt.ref era rfl) list_getitem_lookup),Y5 era (lq (by assumption)) (Z8 (by rw [Q8];assumption)) (x:=.str p.1 p.2) (by unfold strValues;rw [S9,hp];rfl) ?_⟩;have hrow:(strValues row).length≤10000:=by exact (kq1 720586678235439553) hrl'
   refine Cr (pL (pL ?_));walk_at "nm";refine lz (gr ?_);walk_at "nm";refine jR ra (strValues row) jr none (some (k:Int)) (strValues (row.take k)) rfl era hrow IsPart.none (IsPart.int _ _) ?_ (fun b hb=>?_)
   ·rw [slicePick_upto _ _ (by simp [Q8];exact q6)];simp [strValues,List.map_take]
   have hCb:=hCS.keep (o:=G3 (strValues (row.take k)) 0) hb;have eb:G5 τ' b (G3 (strValues (row.take k)) 0) b=some (G3 (strValues (row.take k)) 0):=I4;have htl:(row.take k).length≤8:=by rw [eQ];lia
   have ebm:=O9 (o:=G3 (strValues (row.take k)) 0) hb ebm;generalize G5 τ' b (G3 (strValues (row.take k)) 0)=τb at hCb eb ebm ⊢;refine gr (qw (J9 fun O=>pO fun O=>lz ?_));refine jR b (strValues (row.take k)) 0 (some (-1)) none (strValues (dD (row.take k))) rfl eb (svl (lq (by assumption))) (IsPart.int _ _) IsPart.none ?_ (fun b2 hb2=>(gG b2 (strValues (dD (row.take k))) 0 rfl I4 ?_ (H5 ⟨O9 hb2 ebm,?_⟩)))
   ·have:=slicePick_last (strValues (row.take k)).toArray 1 (K9 _);rw [show (-((1:Nat):Int))=(-1:Int) from rfl] at this;rw [this];unfold dD strValues;simp [List.map_drop]
   ·have:=qZ (row.take k);rw [Q8];exact (kq1 22518333694857729) this
   have hCc:=hCb.keep (o:=G3 (strValues (dD (row.take k))) 0) hb2;refine uA (f:=87) (x:=S.x) (yQ S p.1 p.2 (dD (row.take k)) (yh _ _ _ (qZ _)) (qZ _) hB (fun q hq'=>O6 _ (O3 (f:=(·.1)) (Bb hq'))) ?_ ?_) (O9 hb2 ebm) hr6 hCc (fun v τ3 L' hC3 hv=>?_) fun O O O O h=>h.elim
   ·rw [bW];have:(nmL (row.take k)).length≤8:=by rw [I3];exact htl
    exact (kq2 773712594217365672305508801) hNTl this
   ·rw [bW];have h1:=jV (nmL (row.take k));have:(nmL (row.take k)).length≤8:=by rw [I3];exact htl
    exact (kq3 25353015798471912868427292361153) hETl h1 this
   ·obtain ⟨zJ,zz⟩:=hv;refine R4 zz fun S' zK hx' hB'=>?_;clear zz;obtain rfl:=zJ;obtain rfl:=zK;rw [hx] at m1;refine G9 ⟨(M8 S' hC3 (hx'.trans hx) ?_),?_,?_,?_,?_,?_⟩
    ·rw [CG row k p hp,aC,hp];rw [W4,W4] at hB';have e:nmL (row.take k++(some p).toList)=nmL (row.take k)++[p.1]:=by simp [nmL]
     rw [e];exact hB'
    ·walk_at "mv"
    ·walk_at "mv"
    ·walk_at "mv"
    ·walk_at "mv"
    ·walk_at "mv"
  ·intro τ' m' zL;refine gq zL fun zM m1 m2 m3 m4 m5=>?_;clear zL;refine R4 zM fun S hCS hx hB=>?_;clear zM;have e:(((strValues row).length:Int)-0).toNat=row.length:=by rw [jU];exact Q8 row
   rw [e,aD] at hB;exact G9 (G9 ⟨(M8 S hCS hx (by rw [he,hn];exact hB)),m1,m2,m3,m4⟩)
 ·intro τ' m' zN;refine bY zN fun zO m1 m2 m3 m4=>?_;clear zN;refine R4 zO fun S hCS hx hB=>?_;clear zO;have hB:Built S (esR first second) (NR first second):=hB;refine G8 hB.abs fun ns hA hm=>?_;generalize hes:esR first second=es at *
  generalize hN:NR first second=N at *
  have hC3:Cells τ' (S.cells w++L0):=by
   have z:Cells τ' ((S.cells w++L0)++[(tp,tpC [.ref fa,.ref sa])]):=by rw [W4];exact hCS
   exact z.left
  clear hCS;have hnd:ns.Nodup:=by rw [← hA.names];exact So.names hC3
  have hnl:ns.length≤16:=W2 (bZ hnd fun x hx=>(hm x).mp hx) hN16;have hsl:∀ x,(Y0 es x).length≤900:=fun x=>W2 (uH es x) (lq (by assumption));have hedge:∀ e∈es,e.1∈N∧e.2∈N∧r e.1<r e.2:=fun e he=>by
   rw [← hes] at he;rw [← hN];rcases List.mem_append.mp he with z | z
   ·refine O1 (lO z) fun a b=>?_;exact ⟨O2 _ a,O2 _ b,rK hR.r1 e z⟩
   ·refine O1 (lO z) fun a b=>?_;exact ⟨O6 _ a,O6 _ b,rK hR.r2 e z⟩
  have ht:∀ e∈es,e.2∈ns:=fun e he=>(hm _).mpr (hedge e he).2.1;have hss:∀ y,∀ s∈Y0 es y,s∈ns:=fun y s hs=>ht _ (sfOf_mem.mp hs);refine R6 (Z2 hC3) fun od q1 q2 hdx hf=>?_;refine G9 (G6 (O7 (N7 ?_)));walk_at "nm";rw [← hx] at m1;try rw [← hx]
  refine bU (f:=92) (U5 hC3) hdx hf (by kernel_rfl) (by kernel_rfl) (aq (by kernel_rfl) ?_);refine V7 (prepare S hA hB.rd r (fun n hn x hx'=>⟨hss n x hx',(hedge _ (sfOf_mem.mp hx')).2.2⟩) (lq (by assumption)) hsl) (hr6.less (by decide)) hC3 (fun v τ4 L' hC4 hv=>?_) fun O O O O h=>h.elim;obtain ⟨zP,zz⟩:=hv;refine dU zz fun S1 zQ hA1 hx1 zR hpo1 hfi1=>?_;clear zz;obtain rfl:=zP;obtain rfl:=zQ;refine ao zR fun q l0 hrd1 hl0=>?_;clear zR;rw [hB.po] at hpo1;rw [hB.fi] at hfi1;have hl0:nmL l0=ns.filter (fun x=>aU es x==0):=hl0;have hl0n:(nmL l0).Nodup:=by rw [hl0];exact hnd.filter _
  have hl0l:l0.length≤16:=by
   have:(nmL l0).length≤ns.length:=by rw [hl0];exact List.length_filter_le _ _
   rw [show (nmL l0).length=l0.length from I3 _] at this;exact q3
  refine R6 (Z2 hC4) fun od q1 q2 hdx hf=>?_;refine G6 (K3 (K8 (I9 (.type "list") (I2 rfl (G7 (N7 ?_))))));walk_at "nm";rw [← hx1] at m1;try rw [← hx1]
  refine bU (f:=99) (U5 hC4) hdx hf (by kernel_rfl) (by kernel_rfl) (aq (by kernel_rfl) ?_);refine V7 (vG S1 hA1 hrd1 (fun p hp=>by
   have:p.1∈nmL l0:=O3 (f:=(·.1)) hp;rw [hl0] at this;exact (List.mem_filter.mp this).1) (lq (by assumption))) (hr6.less (by decide)) hC4 (fun v τ5 L' hC5 hv=>?_) fun O O O O h=>h.elim
  refine E2_7 hv fun S2 t1 zS zT hA2 hx2 hrd2 hpo2 hfi2=>?_;clear hv;obtain rfl:=zS;obtain rfl:=zT;rw [hpo1] at hpo2;rw [hfi1] at hfi2;rw [show List.map (fun x:Str×Tok=>x.fst) l0=_ from hl0,Bl ht] at hA2;refine G8 (hC5.at_ (t1,tpC (strValues l0)) (by exact mL (mR mH))) fun O et1 zU=>?_;obtain rfl:=zU;refine H5 (Az et1 (svl (lq (by assumption))) fun oA jo' hoA=>?_);have hC6:Cells (G5 τ5 oA (G3 (strValues l0) jo')) (S2.cells w++(L0++[(ecl oA (G3 (strValues l0) jo'))])):=by
   have hC5:Cells τ5 (S2.cells w++[(t1,tpC (strValues l0))]++L0):=hC5;have z:=hC5.new (P:=(·=G3 (strValues l0) jo')) (o:=G3 (strValues l0) jo') hoA rfl;let L5:List H7:=(ecl oA (G3 (strValues l0) jo'))::(S2.cells w++L0)
   have z2:Cells (G5 τ5 oA (G3 (strValues l0) jo')) L5:=Cells.drop (A:=(ecl oA (G3 (strValues l0) jo'))::S2.cells w) (p:=(t1,tpC (strValues l0))) (by simpa using z);exact z2.perm (by rw [← W4];exact List.perm_append_comm (l₁:=[(ecl oA (G3 (strValues l0) jo'))]))
  generalize G5 τ5 oA (G3 (strValues l0) jo')=τ6 at hC6 ⊢;have sx2:S2.x=S1.x:=hx2;have mo6:=mo hC6.right;refine G6 (aB ?_);walk_at "nm";have hmem0:∀ x,x∈nmL l0↔x∈ns∧W6 es (nmL (order.take 0)) x=0:=fun x=>by
   rw [hl0,List.mem_filter];have:=uf es x;simp only [List.take_zero,beq_iff_eq,nmL,bB];constructor
   ·intro zD;refine O1 zD fun a b=>?_;clear zD;exact ⟨a,by lia⟩
   ·intro zE;refine O1 zE fun a b=>?_;clear zE;exact ⟨a,by lia⟩
  let J3:PN:=fun i τ' m'=>(∃ (S:So) (ol:List (Str×Tok)) (j:Nat),Cells τ' (S.cells w++(L0++[(ecl oA (G3 (strValues ol) j))]))∧S.x=S1.x∧Abs S ns (kfS es ns (nmL (order.take i))) (Y0 es)∧S.rd=some (q,[])∧S.po=ol.length∧S.fi=i∧(nmL ol).Nodup∧∀ x,x∈nmL ol↔x∈ns∧W6 es (nmL (order.take i)) x=0) ∧
   vl m' "sorter" (.ref S1.x)∧vl m' "first" (.ref fa)∧vl m' "second" (.ref sa)∧vl m' "order" (.ref oa)∧vl m' "out" (.ref oA)
  refine R0 _ _ _ (Iters.list hq mo6) (Q0 J3 ⟨(I3_8 S2 l0 jo' hC6 sx2 hA2 hrd2 (by rw [hpo2];exact (kq1 245089153484721)) hfi2 hl0n hmem0),?_,?_,?_,?_,?_⟩ ?_ ?_ ?_)
  ·walk_at "mv"
  ·walk_at "mv"
  ·walk_at "mv"
  ·walk_at "mv"
  ·walk_at "mv"
  ·intro i τ' m' zV b hb;refine O1 zV fun zW O=>?_;clear zV;refine R6 zW fun S ol j hCS O=>?_;clear zW;rw [I7] at hb;subst hb;rw [mo hCS.right,mo6]
  ·intro i v τ' m' hi hv zX;refine gq zX fun zY m1 m2 m3 m4 m5=>?_;clear zX;refine E3_8 zY fun S3 ol j hC7 hx3 hA3 hrd3 hpo3 hfi3 hond hom=>?_;clear zY;refine G8 (gZ hv) fun p hp zZ=>?_;obtain rfl:=zZ;have hpn:=fup_nm hp;refine M6 (hO i p.1 hpn) fun hpN hpd hpc=>?_;rw [← vU] at hpd hpc;have hpns:p.1∈ns:=(hm _).mpr hpN;refine O1 (oN (ns:=ns) hm hO i) fun hDn O=>?_;rw [← vU] at hDn;have hkp:kfS es ns (nmL (order.take i)) p.1=-1:=by
    unfold kfS;rw [if_neg hpd,if_pos hpns,if_pos hpc]
   have hsucc:nmL (order.take (i+1))=nmL (order.take i)++[p.1]:=by rw [aC,hp];simp [nmL]
   have hrepp:(reprText p.1).length≤1000:=(hNok p.1 hpN).1;refine I8 ?_;refine G6 (K6 (jC (U7 (K8 (I9 (.ref 495) (I2 (by kernel_rfl) (G7 ?_)))))));walk_at "nm";refine G7 ?_;walk_at "nm";rw [← hx3] at m1;try rw [← hx3]
   refine H5 (V7 (lets_ S3 p.1 p.2 hA3 hrd3 hpns (hss p.1) (.inl hkp) (by simp) (hsl _) hrepp) hr6 hC7 (fun v τ8 L' hC8 hv=>?_) fun O O O O h=>h.elim);rcases hv with ⟨_,rfl,S4,rfl,hA4,hx4,⟨l4,hrd4,hl4⟩,hpo4,hfi4⟩ | ⟨hne,_⟩
   ·refine I6 ?_;refine Q7 (by simp only [Bool.not_true]) ?_;refine dw (Ef ht hDn hpns hpd hpc) fun zs hz1 hz2 hz3 hz4=>?_;have hzl:nmL l4=zs:=by rw [← hz1];exact hl4
    have hl4l:l4.length≤16:=by
     have h1:zs.length≤ns.length:=bZ hz2 fun x hx'=>((hz3 x).mp hx').1;rw [← hzl,show (nmL l4).length=l4.length from I3 _] at h1;exact q3
    refine R6 (Z2 hC8) fun od q1 q2 hdx hf=>?_;have eo:=hC8.is (a:=oA) (o:=G3 (strValues ol) j) (by exact mR (mR mH));have holl:ol.length≤16:=by
     have h1:(nmL ol).length≤ns.length:=bZ hond fun x hx'=>((hom x).mp hx').1;rw [show (nmL ol).length=ol.length from I3 _] at h1;exact q3
    refine G9 (G6 (O7 (N7 ?_)));walk_at "nm";refine T8 eo F.plainAttrs_list F.slot_list_extend F.type_list_extend (I2 rfl (G7 (N7 ?_)));walk_at "nm";rw [← hx4] at m1;try rw [← hx4]
    refine bU (f:=99) (U5 hC8) hdx hf (by kernel_rfl) (by kernel_rfl) (aq (by kernel_rfl) ?_);refine V7 (vG S4 hA4 hrd4 (fun p' hp'=>by
     have:p'.1∈nmL l4:=O3 (f:=(·.1)) hp';rw [hzl] at this;exact ((hz3 _).mp this).1) (lq (by assumption))) (hr6.less (by decide)) hC8 (fun v τ9 L' hC9 hv=>?_) fun O O O O h=>h.elim
    refine E2_7 hv fun S5 t2 zB1 zC1 hA5 hx5 hrd5 hpo5 hfi5=>?_;clear hv;obtain rfl:=zB1;obtain rfl:=zC1;have hz4':cD ((Y0 es p.1).foldl V2 (fup (kfS es ns (nmL (order.take i))) p.1 (-2),[])).1 (nmL l4)=kfS es ns (nmL (order.take (i+1))):=by rw [hzl,hsucc];exact hz4
    refine G8 (hC9.at_ (t2,tpC (strValues l4)) (by exact mL (mR mH))) fun O et2 zD1=>?_;obtain rfl:=zD1;have eo:=hC9.is (a:=oA) (o:=G3 (strValues ol) j) (by exact mR (mR mH));refine H5 (yc eo et2 (by rw [Q8,Q8];exact (kq2 773724054257087388093923777) hl4l holl) fun j2=>?_);rw [← bx];let L6:List H7:=S5.cells w++(L0++[(ecl oA (G3 (strValues (ol++l4)) j2))])
    have hC10:Cells (G5 τ9 oA (G3 (strValues (ol++l4)) j2)) L6:=by
     have z:=Cells.drop (A:=S5.cells w) (p:=(t2,tpC (strValues l4))) (B:=L0++[(ecl oA (G3 (strValues ol) j))]) (by have hC9:Cells τ9 (S5.cells w++[(t2,tpC (strValues l4))]++(L0++[(ecl oA (G3 (strValues ol) j))])):=hC9;simpa using hC9);have z2:Cells τ9 ((S5.cells w++L0)++(ecl oA (G3 (strValues ol) j))::[]):=by rw [W4];exact z
     have z3:=z2.putAt (P':=(·=G3 (strValues (ol++l4)) j2)) (o:=G3 (strValues (ol++l4)) j2) rfl;rw [W4] at z3;exact z3
    rw [hx4,hx3] at m1;refine G9 ⟨(I3_8 S5 (ol++l4) j2 hC10 ((hx5.trans hx4).trans hx3) ?_ hrd5 ?_ ?_ ?_ ?_),?_,?_,?_,?_,?_⟩
    ·rw [← hz4'];exact hA5
    ·rw [hpo5,hpo4,hpo3,bW];exact (kq2 250989987178122145)
    ·rw [hfi5,hfi4,hfi3];exact (kq1 250990468214473633)
    ·show (nmL (ol++l4)).Nodup;rw [show nmL (ol++l4)=nmL ol++nmL l4 from N6,List.nodup_append];refine ⟨hond,by rw [hzl];exact hz2,fun a ha b hb e=>?_⟩;subst e;rw [hzl] at hb;exact ((hz3 a).mp hb).2.1 ((hom a).mp ha).2
    ·intro x;rw [show nmL (ol++l4)=nmL ol++nmL l4 from N6,nH,hom x,hzl,hz3 x,hsucc];have e:=lX es _ hpd x;constructor
     ·rintro (⟨a,b⟩ | ⟨a,b,c⟩)
      ·exact ⟨a,by exact (kq3 25369806079379521) e b⟩
      ·exact ⟨a,c⟩
     ·intro zF;refine O1 zF fun a b=>?_;clear zF;by_cases h0:W6 es (nmL (order.take i)) x=0
      ·exact .inl ⟨a,h0⟩
      ·exact .inr ⟨a,h0,b⟩
    ·walk_at "mv"
    ·walk_at "mv"
    ·walk_at "mv"
    ·walk_at "mv"
    ·walk_at "mv"
   ·exact absurd hkp hne
  ·intro τ' m' zF1;refine gq zF1 fun zG1 m1 m2 m3 m4 m5=>?_;clear zF1;refine E3_8 zG1 fun S3 ol j hC7 hx3 hA3 hrd3 hpo3 hfi3 hond hom=>?_;clear zG1;have hol:(strValues order).length=order.length:=Q8 order;rw [hol,aD] at hA3 hom;rw [hol] at hfi3;refine O1 (oN (ns:=ns) hm hO (nmL order).length) fun hDn hDnd=>?_;rw [aD] at hDn hDnd;have holl:ol.length≤16:=by
    have h1:(nmL ol).length≤ns.length:=bZ hond fun x hx'=>((hom x).mp hx').1;rw [show (nmL ol).length=ol.length from I3 _] at h1;exact q3
   have eo:=hC7.is (a:=oA) (o:=G3 (strValues ol) j) (by exact mR (mR mH));have eor:=mo hC7.right;refine G9 (G6 (sZ (cl:=[(G4 "order",L+1)]) ⟨by kernel_rfl,by kernel_rfl,(by intro p hp;rw [I7] at hp;subst hp;kernel_rfl),by kernel_rfl,by kernel_rfl,by kernel_rfl⟩ (by kernel_rfl) (by kernel_rfl) ?_));walk_at "nm";let J5:Addr→PN:=fun acc i τ2 m₂=>∃ j2,τ' acc=none∧τ2=G5 τ' acc (G3 (strValues ((ol.take i).filter fun p=>!decide (p.1∈nmL order))) j2)∧vl m₂ "order" (.ref oa);refine R0 _ _ _ (Iters.list hq eo) (Q0 J5 ?_ ?_ ?_ ?_)
   ·intro acc hacc;refine M8 0 hacc rfl ?_
    (try unfold vl);unfold aH
    rw [if_pos (by kernel_rfl)];walk_at "mv"
   ·intro acc i τ2 m₂ zI1 b hb;refine R4 zI1 fun j2 hacc zJ1 O=>?_;clear zI1;obtain rfl:=zJ1;rw [I7] at hb;subst hb;rw [O9 hacc eo,eo]
   ·intro acc L' i v τ2 m₂ hi hv zK1;refine R4 zK1 fun j2 hacc zL1 n1=>?_;clear zK1;obtain rfl:=zL1;refine G8 (gZ hv) fun p hp zM1=>?_;obtain rfl:=zM1;have eor':G5 τ' acc (G3 (strValues ((ol.take i).filter fun p=>!decide (p.1∈nmL order))) j2) oa=_:=O9 hacc eor;have etake:(ol.take (i+1)).filter (fun p=>!decide (p.1∈nmL order))=(ol.take i).filter (fun p=>!decide (p.1∈nmL order))++if (!decide (p.1∈nmL order))=true then [p] else []:=by
     rw [aC,hp,List.filter_append];cases hz:!decide (p.1∈nmL order) <;> simp [List.filter,hz]
    refine I8 (jE (J0 ?_));walk_at "nm";walk_at "nm";refine uM eor' (I6 ?_);show (if (!decide (p.1∈nmL order))=true then _ else _);cases hz:!decide (p.1∈nmL order)
    ·refine bF rfl ?_;exact M8 j2 hacc (by rw [etake,hz];simp) (by walk_at "mv")
    ·refine bT rfl ?_;walk_at "nm";refine V4 I4 (by
      rw [Q8];have h1:=List.length_filter_le (fun p:Str×Tok=>!decide (p.1∈nmL order)) (ol.take i);have h2:(ol.take i).length≤ol.length:=by rw [eQ];lia
      exact (kq3 773724054239739812952818113) holl h1 h2) fun j'=>(M8 j' hacc ?_ (by walk_at "mv"))
     rw [Z0,etake,hz,if_pos rfl,bx];rfl
   ·intro acc τ2 m₂ zN1;refine R4 zN1 fun j2 hacc zO1 n1=>?_;clear zN1;obtain rfl:=zO1;refine ⟨fun p hp=>?_,?_⟩
    ·rw [I7] at hp;subst hp;exact n1.trans m4.symm
    rw [show (strValues ol).length=ol.length from Q8 ol,aD];generalize hwl:ol.filter (fun p=>!decide (p.1∈nmL order))=wl;have hwm:∀ x,x∈nmL wl↔gU es N (nmL order) x:=fun x=>by
     rw [← hwl];unfold nmL gU;rw [tQ];constructor
     ·intro zP1;refine G8 zP1 fun p hp zQ1=>?_;clear zP1;obtain rfl:=zQ1;refine O1 (List.mem_filter.mp hp) fun h1 h2=>?_;refine O1 ((hom p.1).mp (O3 (f:=(·.1)) h1)) fun h3 h4=>?_;exact ⟨(hm _).mp h3,by simpa using h2,h4⟩
     ·intro zR1;refine M6 zR1 fun h1 h2 h3=>?_;clear zR1;refine G8 (List.mem_map.mp ((hom x).mpr ⟨(hm _).mpr h1,h3⟩)) fun p hp zS1=>?_;obtain rfl:=zS1;exact H6 p (List.mem_filter.mpr ⟨hp,by simpa using h2⟩) rfl
    have hwn:(nmL wl).Nodup:=by
     rw [← hwl];exact hond.sublist (List.Sublist.map _ List.filter_sublist)
    have hwll:wl.length≤16:=by
     have:=List.length_filter_le (fun p:Str×Tok=>!decide (p.1∈nmL order)) ol;rw [hwl] at this;exact q3
    have hlt:(decide (S3.fi<S3.po)||!([]:List (Str×Tok)).isEmpty)=!decide (nmL wl=nmL []):=by
     have h1:∀ x∈nmL order,x∈nmL ol:=fun x hx'=>(hom x).mpr ⟨hDn.sub x hx',hDn.closed x hx'⟩;have l1:(nmL order).length=order.length:=I3 _;have l2:(nmL ol).length=ol.length:=I3 _;have l3:=bZ hDnd h1;rw [hpo3,hfi3];by_cases hw0:nmL wl=[]
     ·have h2:∀ x∈nmL ol,x∈nmL order:=fun x hx'=>by
       by_cases hxo:x∈nmL order
       ·exact hxo
       ·have:x∈nmL wl:=(hwm x).mpr ⟨(hm x).mp ((hom x).mp hx').1,hxo,((hom x).mp hx').2⟩;rw [hw0] at this;cases this
      have l4:=bZ hond h2;have:¬ ((order.length:Int)<(ol.length:Int)):=by exact (kq4 913737739041297783707713) l1 l2 l4
      simp [this,hw0,nmL]
     ·refine U0 (List.exists_mem_of_ne_nil _ hw0) fun x hx'=>?_;refine M6 ((hwm x).mp hx') fun a b cc=>?_;have l4:=bZ (l:=x::nmL order) (List.nodup_cons.mpr ⟨b,hDnd⟩) (fun y hy=>by
       rcases List.mem_cons.mp hy with rfl | z
       ·exact (hom y).mpr ⟨(hm y).mpr a,cc⟩
       ·exact h1 y z)
      rw [R8] at l4;have:((order.length:Int)<(ol.length:Int)):=by exact (kq4 7212415314340377000007745) l1 l2 l4
      have e:decide (nmL wl=nmL [])=false:=decide_eq_false hw0;rw [e];simp [this]
    have hC8:Cells (G5 τ' acc (G3 (strValues wl) j2)) (S3.cells w++((ecl oA (G3 (strValues ol) j))::(ecl acc (G3 (strValues wl) j2))::L0)):=by
     refine (hC7.new (P:=(·=G3 (strValues wl) j2)) hacc rfl).perm ?_;have e1:((acc,fun x=>x=G3 (strValues wl) j2)::(S3.cells w++(L0++[(oA,fun x=>x=G3 (strValues ol) j)])):List H7)=[(acc,fun x=>x=G3 (strValues wl) j2)]++(S3.cells w++(L0++[(oA,fun x=>x=G3 (strValues ol) j)])):=rfl;have e2:(S3.cells w++((oA,fun x=>x=G3 (strValues ol) j)::(acc,fun x=>x=G3 (strValues wl) j2)::L0):List H7)=S3.cells w++([(oA,fun x=>x=G3 (strValues ol) j)]++([(acc,fun x=>x=G3 (strValues wl) j2)]++L0)):=rfl;rw [e1,e2];refine (List.perm_append_comm_assoc _ _ _).trans (List.Perm.append_left _ ?_);rw [← W4];exact List.perm_append_comm
    generalize G5 τ' acc (G3 (strValues wl) j2)=τ3 at hC8 ⊢;have ew:=hC8.is (a:=acc) (o:=G3 (strValues wl) j2) (by exact mR (mC mH));have hwok:∀ p∈wl,PyData.strOk p.1=true:=fun p hp=>by
     have:=(hwm p.1).mp (O3 (f:=(·.1)) hp);exact (hNok _ this.1).2
    refine R6 (Z2 hC8) fun od q1 q2 hdx hf=>?_;refine G6 (K6 (J0 (N7 ?_)));walk_at "nm";rw [← hx3] at m1;try rw [← hx3]
    refine bU (f:=106) (U5 hC8) hdx hf (by kernel_rfl) (by kernel_rfl) (aq (by kernel_rfl) ?_);refine V7 (Ga S3 hrd3 (by simp)) (hr6.less (by decide)) hC8 (fun v τ4 L' hC9 hv=>?_) fun O O O O h=>h.elim;refine O1 hv fun zG zH=>?_;clear hv;obtain rfl:=zG;obtain rfl:=zH;have ew:=hC9.is (a:=acc) (o:=G3 (strValues wl) j2) (by exact mR (mC mH));refine nC ?_;walk_at "nm";refine V6 (H5 ⟨leB rfl,fun na hna=>?_⟩);refine qK (l':=[]) (O9 hna ew) I4 hwok (fun O h=>by cases h) (by have:=hr6.units;exact (kq1 25353352030358997941207570028993) this) ?_;have hC10:=hC9.keep (o:=G3 [] 0) hna;generalize G5 τ4 na (G3 [] 0)=τ5 at hC10 ⊢;rw [hlt];refine ye (I6 ?_);refine Q7 (by simp only [bne_self_eq_false]) ?_;have hCi:Cells τ5 (L0++[]):=by rw [X4];exact hC10.right.tail.tail
    refine G9 (G6 (aB (M3 ?_)));walk_at "nm";walk_at "nm";refine jK (mf hCi) (ms hCi) (by rw [Q8,Q8];exact (kq2 773724054257121464364442049) hl1 hl2) fun bA hbA=>?_;rw [← bx];have hC11:=hC10.keep (o:=G3 (strValues (first++second)) 0) hbA;have eb:G5 τ5 bA (G3 (strValues (first++second)) 0) bA=some (G3 (strValues (first++second)) 0):=I4;let L9:List H7:=S3.cells w++((ecl bA (G3 (strValues (first++second)) 0))::(ecl oA (G3 (strValues ol) j))::(ecl acc (G3 (strValues wl) j2))::L0)
    have hC11:Cells (G5 τ5 bA (G3 (strValues (first++second)) 0)) L9:=by
     refine (hC10.new (P:=(·=G3 (strValues (first++second)) 0)) hbA rfl).perm ?_;exact (List.perm_middle (l₁:=S3.cells w)).symm
    generalize G5 τ5 bA (G3 (strValues (first++second)) 0)=τ6 at hC11 eb ⊢;let J4:PN:=fun i τ' m'=>Cells τ' (S3.cells w++((ecl bA (G3 (strValues (first++second)) 0))::(ecl oA (G3 (strValues ol) j))::(ecl acc (G3 (strValues wl) j2))::L0)) ∧
     vl m' "sorter" (.ref S3.x)∧vl m' "waiting" (.ref acc)
    refine R0 _ _ _ (Iters.list hq eb) (Q0 J4 ⟨hC11,?_,?_⟩ ?_ ?_ ?_)
    ·walk_at "mv"
    ·walk_at "mv"
    ·intro i τ' m' zI b hb;refine O1 zI fun hCS O=>?_;clear zI;rw [I7] at hb;rw [hb];have e:=hCS.is (a:=bA) (o:=G3 (strValues (first++second)) 0) (by exact mR mH);rw [e,eb]
    ·intro i v τ' m' hi hv zW1;refine M6 zW1 fun hCS n1 n2=>?_;clear zW1;refine G8 (gZ hv) fun p hp zX1=>?_;obtain rfl:=zX1;have hpN:p.1∈N:=by
      rw [← hN];show p.1∈nmL first++nmL second
      rw [show nmL first++nmL second=nmL (first++second) from List.map_append.symm];exact O3 (f:=(·.1)) (aW hp)
     have hpns:p.1∈ns:=(hm _).mpr hpN;have ew:=hCS.is (a:=acc) (o:=G3 (strValues wl) j2) (by exact mR (mC (mC mH)));refine I8 ?_;refine G6 (K6 (aQ (U3 (J0 ?_))));walk_at "nm";walk_at "nm";refine uM ew (I6 ?_);show (if (!decide (p.1∈nmL wl))=true then _ else _);by_cases hpw:p.1∈nmL wl
     ·refine bF (by simp only [decide_eq_true hpw,Bool.not_true]) ?_;refine G9 (G9 ⟨hCS,?_,?_⟩)
      ·walk_at "mv"
      ·walk_at "mv"
     ·refine bT (by simp only [decide_eq_false hpw,Bool.not_false]) ?_;have hkn:kfS es ns (nmL order) p.1≠-1∧(0≤kfS es ns (nmL order) p.1∨kfS es ns (nmL order) p.1=-2):=by
       unfold kfS;by_cases h1:p.1∈nmL order
       ·rw [if_pos h1];exact ⟨by lia,.inr rfl⟩
       ·rw [if_neg h1,if_pos hpns];have:W6 es (nmL order) p.1≠0:=fun h=>hpw ((hwm _).mpr ⟨hpN,h1,h⟩);rw [if_neg this];exact ⟨by exact (kq1 26626782839713),.inl (kq1 166627249)⟩
      refine U3 (U7 (K8 (I9 (.ref 495) (I2 (by kernel_rfl) (G7 ?_)))));walk_at "nm";refine G7 ?_;walk_at "nm";refine H5 (V7 (lets_ S3 p.1 p.2 hA3 hrd3 hpns (hss p.1) (.inr hkn.2) (by simp) (hsl _) (hNok p.1 hpN).1) hr6 hCS (fun v τ8 L' hC12 hv=>?_) fun O O O O h=>h.elim);rcases hv with ⟨hne,_⟩ | ⟨_,rfl,rfl⟩
      ·exact absurd hne hkn.1
      ·refine I6 ?_;refine bF rfl ?_;refine G9 (G9 ⟨hC12,?_,?_⟩)
       ·walk_at "mv"
       ·walk_at "mv"
    ·intro τ' m' zZ1;refine M6 zZ1 fun hCS n1 n2=>?_;clear zZ1;refine G9 (G6 (Y9 ?_));walk_at "nm";refine hQ (H6 τ' (fun O O e=>e) (H6 _ hCS.right.tail.tail (gG acc wl j2 rfl ?_ hwn ?_)))
     ·rw [← hL0]
     ·exact hwm
noncomputable def lin (F:List Str):List Str→Nat :=
 List.rec (motive:=fun O=>List Str→Nat) (fun O=>1) (fun x F ih S=>List.rec (motive:=fun O=>Nat) 1 (fun y S go=>if x=y then ih S else (if x∈y::S then 0 else ih (y::S))+(if y∈x::F then 0 else go)) S) F
theorem jn (x:Str) (F:List Str) (y:Str) (S:List Str):lin (x::F) (y::S)=if x=y then lin F S else (if x∈y::S then 0 else lin F (y::S))+(if y∈x::F then 0 else lin (x::F) S):=rfl
noncomputable def R5 (F o:List Str):List Str:=F.filter fun x=>decide (x∉o)
noncomputable def Vof (F S o:List Str):Nat:=lin (R5 F o) (R5 S o)
theorem jL (S:List Str):lin [] S=1:=rfl
theorem nR (F:List Str):lin F []=1:=by cases F <;> rfl
theorem mem_restR {F o:List Str} {x:Str}:x∈R5 F o↔x∈F∧x∉o:=by unfold R5;rw [List.mem_filter];simp
theorem wR {F o o':List Str} (h:o.Perm o'):R5 F o=R5 F o':=by
 unfold R5;congr 1;funext x;rw [decide_eq_decide,h.mem_iff]
theorem DR {F S o o':List Str} (h:o.Perm o'):Vof F S o=Vof F S o':=by unfold Vof;rw [wR h,wR h]
theorem wQ (F o:List Str) (x:Str):R5 F (o++[x])=(R5 F o).filter fun y=>decide (y≠x):=by
 unfold R5;rw [List.filter_filter];congr 1;funext y;rw [Bool.eq_iff_iff];simp;exact And.comm
theorem oW {r:Str→Nat}:∀ (n:Nat) (F S:List Str),F.length+S.length≤n→(F.map r).Pairwise (·<·)→(S.map r).Pairwise (·<·)→1≤lin F S
 | n,[],S,_,_,_=>by rw [jL];lia
 | n,_::_,[],_,_,_=>by rw [nR];lia
 | 0,_::_,_::_,h,_,_=>by simp at h
 | n+1,x::F,y::S,h,hF,hS=>by
  rw [jn];simp only [R8] at h;have hF0:=hF;have hS0:=hS;rw [O4,List.pairwise_cons] at hF hS;by_cases e:x=y
  ·rw [if_pos e];exact oW n F S ((kq3 759786859948787292523009) h) hF.2 hS.2
  ·rw [if_neg e];by_cases hr:r x≤r y
   ·have:x∉y::S:=fun hm=>by
     rcases List.mem_cons.mp hm with z | z
     ·exact e z
     ·have:=hS.1 (r x) (O3 z);exact (kq2 25401839681) hr this
    rw [if_neg this];have:=oW n F (y::S) (by simp only [R8];exact (kq3 778041166095763898636519937) h) hF.2 hS0;exact (kq2 706590822448) this
   ·have:y∉x::F:=fun hm=>by
     rcases List.mem_cons.mp hm with z | z
     ·exact e z.symm
     ·have:=hF.1 (r y) (O3 z);exact (kq2 812891525185) hr this
    rw [if_neg this];have:=oW n (x::F) S (by simp only [R8];exact (kq3 778022366557709779389729281) h) hF0 hS.2;exact (kq2 706558316592) this
theorem cnt0 {es:List Ed} {dn:List Str} {x:Str}:W6 es dn x=0↔∀ p,(p,x)∈es→p∈dn:=by
 unfold W6;rw [List.length_eq_zero_iff,List.filter_eq_nil_iff];constructor
 ·intro h p hp;have:=h (p,x) hp;simpa using this
 ·intro h zB hp;obtain ⟨p,y⟩:=zB;simp;rintro rfl;exact h p hp
theorem jT (a b:Str) (l:List Str):K5 (a::b::l)=(a,b)::K5 (b::l):=rfl
theorem uV:∀ {l:List Str} {a p x:Str},(p,x)∈K5 (a::l)→x∈l
 | [],_,_,_,h=>by cases h
 | b::l,a,p,x,h=>by
  rw [jT] at h;rcases List.mem_cons.mp h with z | z
  ·cases z;exact K4
  ·exact H9 _ (uV z)
theorem uI:∀ {l:List Str} {a y:Str},y∈l→∃ p,p∈a::l∧(p,y)∈K5 (a::l)
 | [],_,_,h=>by cases h
 | b::l,a,y,h=>by
  rw [jT];rcases List.mem_cons.mp h with rfl | z
  ·exact ⟨a,K4,K4⟩
  ·refine G8 (uI (a:=b) z) fun p h1 h2=>?_;exact ⟨p,H9 _ h1,H9 _ h2⟩
noncomputable def ClosedR (F o:List Str):Prop:=∀ p x,(p,x)∈K5 F→x∈o→p∈o
theorem ClosedR.tail {a:Str}:∀ {F o:List Str},ClosedR (a::F) o→ClosedR F o
 | [],_,_=>fun O O h=>by cases h
 | b::l,_,h=>fun p x hp=>h p x (by rw [jT];exact H9 _ hp)
theorem uD:∀ {F o:List Str} {a:Str},ClosedR (a::F) o→a∉o→∀ z∈a::F,z∉o
 | [],_,a,_,ha,z,hz=>by rw [I7] at hz;rw [hz];exact ha
 | b::l,o,a,h,ha,z,hz=>by
  have hb:b∉o:=fun hb=>ha (h a b (by rw [jT];exact K4) hb);rcases List.mem_cons.mp hz with rfl | hz
  ·exact ha
  ·exact uD h.tail hb z hz
theorem nj:∀ {F o F1:List Str} {x:Str},F.Nodup→ClosedR F o→R5 F o=x::F1→(∀ y∈F,y∉o→(∀ p,(p,y)∈K5 F→p∈o)→y=x)∧∀ p,(p,x)∈K5 F→p∈o
 | [],_,_,_,_,_,h=>by cases h
 | a::F,o,F1,x,hn,hc,h=>by
  by_cases ha:a∈o
  ·have h':R5 F o=x::F1:=by rw [← h];unfold R5;rw [List.filter_cons,if_neg (by simpa using ha)]
   refine O1 (nj (List.nodup_cons.mp hn).2 hc.tail h') fun h1 h2=>?_;cases F with
   | nil=>cases h'
   | cons b l =>
    refine ⟨fun y hy hyo hp=>?_,fun p hp=>?_⟩
    ·rcases List.mem_cons.mp hy with rfl | hy
     ·exact absurd ha hyo
     ·exact h1 y hy hyo fun p hp'=>hp p (by rw [jT];exact H9 _ hp')
    ·rw [jT] at hp;rcases List.mem_cons.mp hp with z | z
     ·cases z;exact ha
     ·exact h2 p z
  ·have hx:a=x:=by
    unfold R5 at h;rw [List.filter_cons,if_pos (by simpa using ha)] at h;exact (List.cons.inj h).1
   subst hx;have hno:=uD hc ha;refine ⟨fun y hy hyo hp=>?_,fun p hp=>?_⟩
   ·rcases List.mem_cons.mp hy with rfl | hy
    ·rfl
    ·refine G8 (uI (a:=a) hy) fun p h1 h2=>?_;exact absurd (hp p h2) (hno p h1)
   ·exact absurd (uV hp) (List.nodup_cons.mp hn).1
theorem ni {l l':List Str} (h:l.Nodup) (h':l'.Nodup) (hm:∀ x,x∈l↔x∈l'):l.Perm l':=(List.perm_ext_iff_of_nodup h h').mpr fun x=>hm x
theorem oK {l l':List Str} (g:Str→Nat) (h:l.Perm l'):(l.map g).sum=(l'.map g).sum:=(h.map g).sum_nat
theorem mK {l:List Str} {x:Str} (h:x∉l):(x::l).filter (fun y=>decide (y≠x))=l:=by
 rw [List.filter_cons,if_neg (by simp),List.filter_eq_self];intro y hy;exact decide_eq_true fun e=>h (e▸hy)
theorem rG {l:List Str} {x:Str} (h:x∉l):l.filter (fun y=>decide (y≠x))=l:=by
 rw [List.filter_eq_self];intro y hy;exact decide_eq_true fun e=>h (e▸hy)
theorem Eb {F S o wl:List Str} (hF:F.Nodup) (hS:S.Nodup) (cF:ClosedR F o) (cS:ClosedR S o) (hwn:wl.Nodup) (hwm:∀ x,x∈wl↔gU (K5 F++K5 S) (F++S) o x) (hex:∃ x∈F++S,x∉o) :
  Vof F S o=(wl.map fun x=>Vof F S (o++[x])).sum:=by
 have av:∀ x,x∈wl↔(x∈F∨x∈S)∧x∉o∧(∀ p,(p,x)∈K5 F→p∈o)∧∀ p,(p,x)∈K5 S→p∈o:=fun x=>by
  rw [hwm];unfold gU;rw [nH,cnt0];refine and_congr_right fun O=>and_congr_right fun O=>⟨fun h=>⟨fun p hp=>h p (O2 _ hp),fun p hp=>h p (O6 _ hp)⟩,fun h p hp=>?_⟩
  rcases List.mem_append.mp hp with z | z
  ·exact h.1 p z
  ·exact h.2 p z
 have eF:∀ x p,x∉F→(p,x)∉K5 F:=fun x p hx hp=>hx (lO hp).2;have eS:∀ x p,x∉S→(p,x)∉K5 S:=fun x p hx hp=>hx (lO hp).2;have nF:(R5 F o).Nodup:=hF.sublist List.filter_sublist;have nS:(R5 S o).Nodup:=hS.sublist List.filter_sublist;have mF:∀ x,x∈F→x∉o→x∈R5 F o:=fun x h1 h2=>mem_restR.mpr ⟨h1,h2⟩;have mS:∀ x,x∈S→x∉o→x∈R5 S o:=fun x h1 h2=>mem_restR.mpr ⟨h1,h2⟩;unfold Vof;simp only [wQ];cases hf:R5 F o with
 | nil =>
  have noF:∀ x,x∉o→x∉F:=fun x h1 h2=>by have:=mF x h2 h1;rw [hf] at this;cases this
  cases hs:R5 S o with
  | nil =>
   refine G8 hex fun x hx hxo=>?_;clear hex;rcases List.mem_append.mp hx with z | z
   ·exact absurd z (noF x hxo)
   ·have:=mS x z hxo;rw [hs] at this;cases this
  | cons b S1 =>
   refine O1 (nj hS cS hs) fun s1 s2=>?_;have hb:=mem_restR.mp (show b∈R5 S o by rw [hs];exact K4);have hp:wl.Perm [b]:=ni hwn (List.nodup_cons.mpr ⟨cV,List.nodup_nil⟩) fun x=>by
    rw [av,I7];constructor
    ·intro zB;refine bR zB fun h1 h2 h3 h4=>?_;clear zB;rcases h1 with h1 | h1
     ·exact absurd h1 (noF x h2)
     ·exact s1 x h1 h2 h4
    ·rintro rfl;exact ⟨.inr hb.1,hb.2,fun p hp=>absurd hp (eF x p (noF x hb.2)),s2⟩
   rw [oK _ hp];simp [jL]
 | cons a F1 =>
  refine O1 (nj hF cF hf) fun f1 f2=>?_;have ha:=mem_restR.mp (show a∈R5 F o by rw [hf];exact K4);cases hs:R5 S o with
  | nil =>
   have noS:∀ x,x∉o→x∉S:=fun x h1 h2=>by have:=mS x h2 h1;rw [hs] at this;cases this
   have hp:wl.Perm [a]:=ni hwn (List.nodup_cons.mpr ⟨cV,List.nodup_nil⟩) fun x=>by
    rw [av,I7];constructor
    ·intro zC;refine bR zC fun h1 h2 h3 h4=>?_;clear zC;rcases h1 with h1 | h1
     ·exact f1 x h1 h2 h3
     ·exact absurd h1 (noS x h2)
    ·rintro rfl;exact ⟨.inl ha.1,ha.2,f2,fun p hp=>absurd hp (eS x p (noS x ha.2))⟩
   rw [oK _ hp];simp [nR]
  | cons b S1 =>
   refine O1 (nj hS cS hs) fun s1 s2=>?_;have hb:=mem_restR.mp (show b∈R5 S o by rw [hs];exact K4);rw [hf] at nF;rw [hs] at nS;have a1:=(List.nodup_cons.mp nF).1;have b1:=(List.nodup_cons.mp nS).1;by_cases e:a=b
   ·subst e;have hp:wl.Perm [a]:=ni hwn (List.nodup_cons.mpr ⟨cV,List.nodup_nil⟩) fun x=>by
     rw [av,I7];constructor
     ·intro zD;refine bR zD fun h1 h2 h3 h4=>?_;clear zD;rcases h1 with h1 | h1
      ·exact f1 x h1 h2 h3
      ·exact s1 x h1 h2 h4
     ·rintro rfl;exact ⟨.inl ha.1,ha.2,f2,s2⟩
    rw [oK _ hp,O4,bB,List.sum_cons,List.sum_nil,mK a1,mK b1,jn,if_pos rfl,Nat.add_zero]
   ·have hp:wl.Perm ((if a∈b::S1 then [] else [a])++(if b∈a::F1 then [] else [b])):=by
     refine ni hwn ?_ fun x=>?_
     ·split <;> split <;> simp;exact e
     ·rw [av,nH];have k1:x∈(if a∈b::S1 then ([]:List Str) else [a])↔x=a∧a∉b::S1:=by
       split
       ·rename_i z;simp only [cV,false_iff];exact fun y=>y.2 z
       ·rename_i z;rw [I7];exact ⟨fun y=>⟨y,z⟩,fun y=>y.1⟩
      have k2:x∈(if b∈a::F1 then ([]:List Str) else [b])↔x=b∧b∉a::F1:=by
       split
       ·rename_i z;simp only [cV,false_iff];exact fun y=>y.2 z
       ·rename_i z;rw [I7];exact ⟨fun y=>⟨y,z⟩,fun y=>y.1⟩
      rw [k1,k2];constructor
      ·intro zE;refine bR zE fun h1 h2 h3 h4=>?_;clear zE;rcases h1 with h1 | h1
       ·have hxa:=f1 x h1 h2 h3;refine .inl ⟨hxa,fun hm=>?_⟩;have:x∈S:=(mem_restR.mp (show x∈R5 S o by rw [hs,hxa];exact hm)).1;exact e (hxa.symm.trans (s1 x this h2 h4))
       ·have hxb:=s1 x h1 h2 h4;refine .inr ⟨hxb,fun hm=>?_⟩;have:x∈F:=(mem_restR.mp (show x∈R5 F o by rw [hf,hxb];exact hm)).1;exact e ((f1 x this h2 h3).symm.trans hxb)
      ·rintro (⟨rfl,hn⟩ | ⟨rfl,hn⟩)
       ·refine ⟨.inl ha.1,ha.2,f2,fun p hp=>absurd hp (eS x p fun hm=>hn ?_)⟩;rw [← hs];exact mS x hm ha.2
       ·refine ⟨.inr hb.1,hb.2,fun p hp=>absurd hp (eF x p fun hm=>hn ?_),s2⟩;rw [← hf];exact mF x hm hb.2
    rw [oK _ hp,N6,jH,jn,if_neg e];congr 1
    ·split
     ·rfl
     ·rename_i z;rw [O4,bB,List.sum_cons,List.sum_nil,mK a1,rG z,Nat.add_zero]
    ·split
     ·rfl
     ·rename_i z;rw [O4,bB,List.sum_cons,List.sum_nil,mK b1,rG z,Nat.add_zero]
theorem yP {es:List Ed} {N o:List Str} (h:Z3 es N o) (i:Nat):Z3 es N (o.take i):=by
 intro k p hk;rw [List.getElem?_take] at hk;split at hk
 ·rename_i hki;refine M6 (h k p hk) fun a b c=>?_;rw [List.take_take,Nat.min_eq_left (Nat.le_of_lt hki)];exact ⟨a,b,c⟩
 ·cases hk
theorem yw {es:List Ed} {N o:List Str} {x:Str} (h:Z3 es N o) (ha:gU es N o x):Z3 es N (o++[x]):=by
 intro i p hi;by_cases hl:i<o.length
 ·rw [List.getElem?_append_left hl] at hi;rw [List.take_append_of_le_length (Nat.le_of_lt hl)];exact h i p hi
 ·rw [List.getElem?_append_right q9] at hi;have h0:i-o.length=0:=by
   have:=(List.getElem?_eq_some_iff.mp hi).1;simp at this;assumption
  rw [h0] at hi;have hio:i=o.length:=by exact (kq2 794945312444404801) hl h0
  subst hio;have e:p=x:=by simpa using hi.symm
  subst e;rw [List.take_left];exact ⟨ha.1,ha.2.1,ha.2.2⟩
structure Places (F S ns:List Str) (r:Str→Nat):Prop where
 r1:(F.map r).Pairwise (·<·)
 r2:(S.map r).Pairwise (·<·)
 nn:ns.Nodup
 mem:∀ x,x∈ns↔x∈F++S
theorem qX {F:List Str} {r:Str→Nat} (h:(F.map r).Pairwise (·<·)):F.Nodup:=by
 rw [List.pairwise_map] at h;exact h.imp fun {a b} hab e=>by rw [e] at hab;exact (kq1 775201) hab
section
variable {F S ns:List Str} {r:Str→Nat} (P:Places F S ns r)
include P
theorem Places.nF:F.Nodup:=qX P.r1
theorem Places.nS:S.Nodup:=qX P.r2
theorem Places.done {o:List Str} (h:Z3 (K5 F++K5 S) (F++S) o):Done (K5 F++K5 S) ns o∧o.Nodup:=by
 have:=oN P.mem h o.length;rw [aD] at this;exact this
theorem Places.closedF {o:List Str} (h:Z3 (K5 F++K5 S) (F++S) o):ClosedR F o:=fun p x hp hx=>cnt0.mp ((P.done h).1.closed x hx) p (O2 _ hp)
theorem Places.closedS {o:List Str} (h:Z3 (K5 F++K5 S) (F++S) o):ClosedR S o:=fun p x hp hx=>cnt0.mp ((P.done h).1.closed x hx) p (O6 _ hp)
theorem Places.more {o:List Str} (h:Z3 (K5 F++K5 S) (F++S) o) (hl:o.length<ns.length):∃ x∈F++S,x∉o:=by
 apply Classical.byContradiction;intro hn;have:∀ x∈ns,x∈o:=fun x hx=>Classical.byContradiction fun hxo=>hn (H6 x ((P.mem x).mp hx) hxo);have:=bZ P.nn this;exact (kq2 25368286273) hl this
theorem Places.step {o wl:List Str} (h:Z3 (K5 F++K5 S) (F++S) o) (hl:o.length<ns.length) (hwn:wl.Nodup) (hwm:∀ x,x∈wl↔gU (K5 F++K5 S) (F++S) o x):Vof F S o=(wl.map fun x=>Vof F S (o++[x])).sum :=
 Eb P.nF P.nS (P.closedF h) (P.closedS h) hwn hwm (P.more h hl)
theorem Places.full {o:List Str} (h:Z3 (K5 F++K5 S) (F++S) o) (hl:o.length=ns.length):∀ x,x∈o↔x∈ns:=by
 intro x;refine ⟨(P.done h).1.sub x,fun hx=>Classical.byContradiction fun hxo=>?_⟩;have hn:(o++[x]).Nodup:=by
  rw [List.nodup_append];refine ⟨(P.done h).2,by simp,fun a ha b hb e=>?_⟩;rw [I7] at hb;rw [e,hb] at ha;exact hxo ha
 have:=bZ hn (l':=ns) fun y hy=>by
  rcases List.mem_append.mp hy with z | z
  ·exact (P.done h).1.sub y z
  ·rw [I7] at z;rw [z];exact hx
 simp at this;exact (kq2 25978730502209) hl this
theorem Places.perm {o:List Str} (h:Z3 (K5 F++K5 S) (F++S) o) (hl:o.length=ns.length):o.Perm ns:=ni (P.done h).2 P.nn (P.full h hl)
theorem Places.rest0 {o:List Str} (h:Z3 (K5 F++K5 S) (F++S) o) (hl:o.length=ns.length):R5 F o=[]∧R5 S o=[]:=by
 constructor
 ·rw [List.eq_nil_iff_forall_not_mem];intro x hx;obtain ⟨h1,h2⟩:=mem_restR.mp hx;exact h2 ((P.full h hl x).mpr ((P.mem x).mpr (O2 _ h1)))
 ·rw [List.eq_nil_iff_forall_not_mem];intro x hx;obtain ⟨h1,h2⟩:=mem_restR.mp hx;exact h2 ((P.full h hl x).mpr ((P.mem x).mpr (O6 _ h1)))
theorem Places.one {o:List Str} (h:Z3 (K5 F++K5 S) (F++S) o) (hl:o.length=ns.length):Vof F S o=1:=by
 obtain ⟨h1,h2⟩:=P.rest0 h hl;unfold Vof;rw [h1,h2,jL]
theorem Places.noMore {o:List Str} (h:Z3 (K5 F++K5 S) (F++S) o) (hl:o.length=ns.length) (x:Str):¬ gU (K5 F++K5 S) (F++S) o x:=fun ha=>ha.2.1 ((P.full h hl x).mpr ((P.mem x).mpr ha.1))
theorem Places.pos {o:List Str}:1≤Vof F S o:=by
 refine oW (r:=r) _ _ _ (K9 _) ?_ ?_
 ·exact P.r1.sublist (List.Sublist.map _ List.filter_sublist)
 ·exact P.r2.sublist (List.Sublist.map _ List.filter_sublist)
theorem Places.reads {o:List Str} (h:Z3 (K5 F++K5 S) (F++S) o):∀ i,(o.take i).filter (fun x=>decide (x∈F))++R5 F (o.take i)=F∧(o.take i).filter (fun x=>decide (x∈S))++R5 S (o.take i)=S
 | 0=>by simp [R5]
 | i+1=>by
  obtain ⟨h1,h2⟩:=Places.reads h i;rw [aC];cases q:o[i]? with
  | none=>simpa using ⟨h1,h2⟩
  | some x =>
   refine M6 (h i x q) fun a b c=>?_;have ho:=yP h i;show ((o.take i)++[x]).filter _++R5 F ((o.take i)++[x])=F∧((o.take i)++[x]).filter _++R5 S ((o.take i)++[x])=S;have pF:∀ p,(p,x)∈K5 F→p∈o.take i:=fun p hp=>cnt0.mp c p (O2 _ hp);have pS:∀ p,(p,x)∈K5 S→p∈o.take i:=fun p hp=>cnt0.mp c p (O6 _ hp);have key:∀ G:List Str,G.Nodup→ClosedR G (o.take i)→(∀ p,(p,x)∈K5 G→p∈o.take i)→(o.take i).filter (fun x=>decide (x∈G))++R5 G (o.take i)=G→((o.take i)++[x]).filter (fun x=>decide (x∈G))++R5 G ((o.take i)++[x])=G:=by
    intro G hn hc hp hG;rw [wQ,List.filter_append];by_cases hx:x∈G
    ·have hxr:x∈R5 G (o.take i):=mem_restR.mpr ⟨hx,b⟩;cases hr:R5 G (o.take i) with
     | nil=>rw [hr] at hxr;cases hxr
     | cons y G1 =>
      have hxy:=(nj hn hc hr).1 x hx b hp;subst hxy;have hny:x∉G1:=by
       have z:(R5 G (o.take i)).Nodup:=hn.sublist List.filter_sublist;rw [hr] at z;exact (List.nodup_cons.mp z).1
      rw [mK hny];rw [hr] at hG;conv=>rhs;rw [← hG]
      simp [hx]
    ·rw [rG fun z=>hx (mem_restR.mp z).1];conv=>rhs;rw [← hG]
     simp [hx]
   exact ⟨key F P.nF (P.closedF ho) pF h1,key S P.nS (P.closedS ho) pS h2⟩
theorem Places.readF {o:List Str} (h:Z3 (K5 F++K5 S) (F++S) o) (hl:o.length=ns.length):o.filter (fun x=>decide (x∈F))=F∧o.filter (fun x=>decide (x∈S))=S:=by
 have z:=P.reads h o.length;rw [aD] at z;obtain ⟨h1,h2⟩:=P.rest0 h hl;rw [h1,h2] at z;simpa using z
end
noncomputable abbrev enumO (it:Addr):Obj:={ cls:=.type "enumerate",data:=.fields #[.none,.bool false,.ref it,rawInt 0,.none,.none] }
section
variable {c:Cx} {τ:PH} {m:Lo} {X:PV}
theorem jG {s s':Shared} {τ':PH} {a:Addr} {o:Obj} (hs:At c τ m s) (st:Step c τ s τ' m s') (hn:s.heap.get? a=none) (ho:s'.heap.get? a=some o):Step c τ s (G5 τ' a o) m s':=by
 have hown:¬ c.own a:=by
  rintro (z | ⟨n,z⟩)
  ·refine G8 hs.ns fun ml zB O=>?_;refine R6 zB fun ob O O hob O=>?_;clear zB;rw [← z,hn] at hob;cases hob
  ·refine O1 (hs.cell n _ z) fun zC O=>?_;refine G8 zC fun ob hob O=>?_;clear zC;rw [hn] at hob;cases hob
 have hfr:a∉frs c.A:=fun z=>by
  obtain ⟨_,ob,e,_⟩:=hs.fr.mem z;rw [hn] at e;cases e
 have A':=st.at_;refine ⟨⟨A'.top,fun b o' e=>?_,fun b o' e=>?_,A'.mine,A'.ns,A'.cell,A'.apart,A'.noBoth,A'.gens,A'.os,A'.fr,fun b o' e=>?_⟩,st.keep,fun b hb=>?_⟩
 ·unfold G5 at e;split at e
  ·rename_i q;subst q;cases e;exact ho
  ·exact A'.keep b o' e
 ·unfold G5 at e;split at e
  ·rename_i q;subst q;exact ⟨uJ hs.top hn,hown⟩
  ·exact A'.low b o' e
 ·unfold G5 at e;split at e
  ·rename_i q;subst q;exact hfr
  ·exact A'.nofr b o' e
 ·unfold G5 at hb;split at hb
  ·rename_i q;subst q;exact .inr hn
  ·exact st.fresh b hb
theorem At.none {s:Shared} {a:Addr} (hs:At c τ m s) (hn:s.heap.get? a=none):τ a=none:=by
 cases q:τ a with
 | none=>rfl
 | some ob=>rw [hs.keep a ob q] at hn;cases hn
theorem yH {l:Addr} {vs:List Value} {n:Nat} {Q:PV} (hl:τ l=some (G3 vs n))
  (h:∀ e it oi,τ e=none→τ it=none→e≠it→oi.cls=.type "list_iterator"→oi.data=.fields #[.ref l,.int 0 0]→Q (.ref e) (G5 (G5 τ it oi) e (enumO it)) m):W c (PySem.call (.type "enumerate") [.ref l]) τ m Q X:=fun s hs=>by
 refine call_enumerate_list (Z9 hs hl) fun h' he hit hz hk=>?_;refine R4 hit fun o ho hc hd=>?_;clear hit;have n1:s.heap.get? s.heap.objs.size=none:=Heap.get?_none_of_le (K9 _);have n2:s.heap.get? (s.heap.objs.size+1)=none:=Heap.get?_none_of_le (Nat.le_succ _);have st:=jG (a:=s.heap.objs.size+1) hs (jG (a:=s.heap.objs.size) hs (jt (k:=s.toks) hs hk) n1 ho) n2 he;exact I5 _ m st (h _ _ o (hs.none n2) (hs.none n1) (Nat.succ_ne_self _) hc hd)
theorem xP {elts:List Expr} {k:Nat} {tpos pos:Pos} {iter:Expr} {body orelse:List Stmt} {Q:PF}
  (h:W c (eval iter c.env) τ m (fun v τ1 m1=>∃ e it l vs nn τ2,v=.ref e∧τ1 e=some (enumO it)∧(∃ oi,τ1 it=some oi∧oi.cls=.type "list_iterator"∧oi.data=.fields #[.ref l,.int 0 0])∧τ2 l=some (G3 vs nn)∧(∀ b o,τ2 b=some o→τ1 b=some o)∧τ2 e=none∧τ2 it=none ∧
   ∃ J:PN,J 0 τ2 m1∧(∀ i τ' m',J i τ' m'→τ' l=τ2 l) ∧
   (∀ i x t τ' m',vs[i]? = some x→J i τ' m'→W c (assignInOrder ((assignEach elts c.env).map (·.2)) [.int i t,x]) τ' m' (fun O τ'' m''=>W c (execs body c.env) τ'' m'' (Turn Q fun τ3 m3=>J (i+1) τ3 m3) NoX) NoX) ∧
   ∀ τ' m',J vs.length τ' m'→W c (execs orelse c.env) τ' m' Q NoX) X)
  (hq:c.A.handled=none) (hn:autoParam ((assignEach elts c.env).length=2) aR) (hstar:autoParam ((assignEach elts c.env).findIdx? (·.1)=none) aR)
  (hs:∀ x,foldedSetIterable iter c.env x=pure x:=by intro _;rfl):W c (exec (.For (.Tuple elts k tpos) iter body orelse pos) c.env) τ m Q X:=fun s hs'=>by
 refine wpAny_For (h.use hs' (fun v s1 τ1 m1 st1 q1=>?_) xx) hs;obtain ⟨e,it,l,vs,nn,τ2,zD,he,zE,hl,hsub,hne,hni,J,h0,hfix,hbody,hend⟩:=q1;obtain rfl:=zD;refine R4 zE fun oi hit hoc hod=>?_;clear zE;have hs1:=st1.at_;have ge:=hs1.keep _ _ he;have gi:=hs1.keep _ _ hit;have gl:=hs1.keep _ _ (hsub _ _ hl);have hei:e≠it:=fun z=>by rw [z,hit] at he;have:=congrArg Obj.cls (aO he);rw [hoc] at this;simp at this
 have hle:l≠e:=fun z=>by rw [z,ge] at gl;have:=congrArg Obj.cls (aO gl);simp at this
 have hli:l≠it:=fun z=>by rw [z,gi] at gl;have:=congrArg Obj.cls (aO gl);rw [hoc] at this;simp at this
 have hw:=WalksT.enumerate (prog:=pw) (w:=c.w) (A:=c.A) hq e it l hei hle hli vs.toArray;have hEI:IsEnum s1.heap e it 0 .none:=ge;refine wpAny_pyIter_enum hEI ?_;have at2:At c τ2 m1 s1:=⟨hs1.top,fun b o z=>hs1.keep b o (hsub b o z),fun b o z=>hs1.low b o (hsub b o z),hs1.mine,hs1.ns,hs1.cell,hs1.apart,hs1.noBoth,hs1.gens,hs1.os,hs1.fr,fun b o z=>hs1.nofr b o (hsub b o z)⟩
 have st2:Step c τ1 s1 τ2 m1 s1:=⟨at2,fun b o z O O=>.same z,fun b hb=>by
  refine U0 (Option.isSome_iff_exists.mp hb) fun o z=>?_;left;rw [hsub b o z];rfl⟩
 have wkn:∀ b,b∈[e,it]→∃ o,τ1 b=some o:=fun b hb=>by
  rcases List.mem_cons.mp hb with rfl | hb
  ·exact ⟨_,he⟩
  ·rw [List.mem_singleton.mp hb];exact ⟨_,hit⟩
 have wnone:∀ b,b∈[e,it]→τ2 b=none:=fun b hb=>by
  rcases List.mem_cons.mp hb with rfl | hb
  ·exact hne
  ·rw [List.mem_singleton.mp hb];exact hni
 have wfr:∀ b,b∈[e,it]→b∉frs c.A:=fun b hb=>by
  refine U0 (wkn b hb) fun o z=>?_;exact hs1.nofr b o z
 have wlow:∀ b,b∈[e,it]→516≤b∧¬ c.own b:=fun b hb=>by
  refine U0 (wkn b hb) fun o z=>?_;exact hs1.low b o z
 have hst0:(∃ old,IsEnum s1.heap e it (0:Nat) old)∧s1.heap.IsListIter it l 0∧s1.heap.IsList l vs.toArray:=⟨⟨_,hEI⟩,(M8 _ gi hoc hod),(M8 _ gl rfl ⟨_,rfl⟩)⟩
 let KK:Nat→Shared→Prop:=fun k s'=>∃ i τ' m',Step c τ1 s1 τ' m' s'∧J i τ' m'∧((∃ old,IsEnum s'.heap e it i old)∧s'.heap.IsListIter it l i∧s'.heap.IsList l vs.toArray)∧i≤vs.length∧k=vs.length+1-i∧∀ b∈[e,it],τ' b=none;refine codeAny_forLoop_any KK ?_ (vs.length+1)
  (dX 0 τ2 m1 st2 h0 hst0 (T3 _) rfl wnone)
 intro k s' zF;refine fW zF fun i τ' m' st hJ hst' hi zG hwr'=>?_;clear zF;obtain rfl:=zG;have next:∀ {s'':Shared} (st:Step c τ1 s1 τ' m' s'') h₁ tk1,(∀ b o,b∉[e,it]→s''.heap.get? b=some o→h₁.get? b=some o)→Step c τ1 s1 τ' m' { s'' with heap:=h₁,toks:=tk1 }:=fun {s''} st h₁ tk1 hk=>by
  have notw:∀ b o,τ' b=some o→b∉[e,it]:=fun b o e hb=>by rw [hwr' b hb] at e;cases e
  have hown:∀ b,c.own b→b∉[e,it]:=fun b ho hb=>(wlow b hb).2 ho;refine O1 (cU (s':={ s'' with heap:=h₁,toks:=tk1 }) st.at_ fun b o ho e=>dJ (hk b o (hown b ho) e)) fun hn hc=>?_;have A':=st.at_;refine ⟨⟨fun b o e=>hk b o (fun hb=>absurd (wlow b hb).1 (Nat.not_le.mpr (jy e))) (A'.top b o e),fun b o e=>hk b o (notw b o e) (A'.keep b o e),A'.low,A'.mine,hn,hc,A'.apart,A'.noBoth,A'.gens,A'.os,A'.fr.keep fun b o hb e hn=>(H6 o (hk b o (fun z=>wfr b z hb) e) hn),A'.nofr⟩,?_,st.fresh⟩;intro b o e h1 h2;refine (st.keep b o e h1 h2).trans fun o' e'=>.same (hk b o' (fun hb=>?_) e');refine U0 (wkn b hb) fun o3 z=>?_;rw [h1] at z;cases z
 by_cases hlt:i<vs.length
 ·refine hw.item i _ _ _ (by simpa using hlt) hst' fun T vals h₁ tk1 hP hsz hT hmid hk1=>?_;refine ao hP fun t x hx zH=>?_;clear hP;obtain rfl:=zH;have st':=next st h₁ tk1 hk1
  have hTw:T∉[e,it]:=hw.apart _ _ _ hmid;refine hw.go _ _ _ _ _ _ _ _ hmid fun h₂ hst2 hk2=>?_;have st'':=next st' h₂ tk1 hk2
  have hT2:h₂.IsTuple T #[.int i t,x]:=hT.at fun o z=>hk2 T o hTw z;have hx':vs[i]? = some x:=by simpa using hx
  have hb':=hbody i x t τ' m' hx' hJ;have hl1:∀ b∈[e,it],∃ o,h₂.get? b=some o:=fun b hb=>by
   refine M6 hst2 fun zI zJ O=>?_;clear hst2;refine U0 zI fun old z1=>?_;clear zI;refine G8 zJ fun o2 z2 O=>?_;clear zJ;rcases List.mem_cons.mp hb with rfl | hb
   ·exact ⟨_,z1⟩
   ·rw [List.mem_singleton.mp hb];exact ⟨_,z2⟩
  rw [arm_assign_Tuple];refine wpAny_bind (wpAny_standAt ?_);unfold unpack;rw [hstar];refine wpAny_bind (wpAny_holding ?_);rw [hn];refine wpAny_unpackItems_tuple (prog:=pw) (w:=c.w) (A:=c.A) (items:=#[.int i t,x]) hq hT2 fun h3 hx3=>?_;have st3:Step c τ1 s1 τ' m' { s' with heap:=h3,toks:=tk1 }:=st''.trans (Step.ext (k:=tk1) st''.at_ hx3);have hst3:=hw.frame _ _ _ hst2 fun b hb o z=>hx3 b o (Nat.ne_of_lt (W0 z)) z;have hl3:∀ b∈[e,it],∃ o,h3.get? b=some o:=fun b hb=>by
   refine U0 (hl1 b hb) fun o z=>?_;exact ⟨o,hx3 b o (Nat.ne_of_lt (W0 z)) z⟩
  refine hb'.use st3.at_ (fun O s3 τ3 m3 st₃ q3=>?_) fun O O O O O q=>q.elim;refine q3.use st₃.at_ (fun f s4 τ4 m4 st4 q4=>?_) fun O O O O O q=>q.elim;have stZ:=st₃.trans st4;have stE:=st3.trans stZ;have go:J (i+1) τ4 m4→∃ k,k<vs.length+1-i∧∃ i τ' m',Step c τ1 s1 τ' m' s4∧J i τ' m'∧((∃ old,IsEnum s4.heap e it i old)∧s4.heap.IsListIter it l i∧s4.heap.IsList l vs.toArray)∧i≤vs.length∧k=vs.length+1-i∧∀ b∈[e,it],τ' b=none:=fun hj=>by
   refine H6 (vs.length+1-(i+1)) ((kq2 26733675655736832803179909185) hi hlt) (dX (i+1) τ4 m4 stE hj ?_ hlt rfl (fun b hb=>?_))
   ·refine hw.frame (i+1) _ _ hst3 fun b hb o z=>?_;have hb:b=e∨b=it∨b=l:=by simpa using hb
    have inw:∀ {b},b∈[e,it]→h3.get? b=some o→s4.heap.get? b=some o:=fun {b} hb z=>(stZ.keep b o z (hwr' b hb) (wlow b hb).2).exact (wfr b hb);rcases hb with rfl | rfl | rfl
    ·exact inw (by simp) z
    ·exact inw (by simp) z
    ·have e1:=hfix i τ' m' hJ;have e2:=hfix (i+1) τ4 m4 hj;have k1:=st3.at_.keep _ _ (e1.trans hl);have k2:=stE.at_.keep _ _ (e2.trans hl);have:o=G3 vs nn:=by
      have k1':h3.get? b=some (G3 vs nn):=k1;rw [z] at k1';exact aO k1'
     rw [this];exact k2
   ·cases q:τ4 b with
    | none=>rfl
    | some o =>
     refine U0 (hl3 b hb) fun ow hw1=>?_;rcases stZ.fresh b (by rw [q];rfl) with z | z
     ·rw [hwr' b hb] at z;cases z
     ·rw [show ({ s' with heap:=h3,toks:=tk1 }:Shared).heap.get? b=some ow from hw1] at z;cases z
  cases f with
  | next=>exact go q4
  | cont=>exact go q4
  | brk=>exact (I5 τ4 m4 (st1.trans stE) q4)
  | ret v=>exact (I5 τ4 m4 (st1.trans stE) q4)
 ·have hin:i=vs.length:=by exact (kq2 776316045545537) hi hlt
  subst hin;have hst':(∃ old,IsEnum s'.heap e it (vs.toArray.size:Nat) old)∧s'.heap.IsListIter it l vs.toArray.size∧s'.heap.IsList l vs.toArray:=by simpa using hst'
  refine hw.done _ _ _ hst' fun h₁ tk1 hk1=>?_;have st':=next st h₁ tk1 hk1
  exact W.use (hend τ' m' hJ) st'.at_ (fun f s3 τ3 m3 st₃ q=>(I5 τ3 m3 (st1.trans (st'.trans st₃)) q)) fun O O O O st₃ q=>q.elim
end
theorem ug {K:Type} [DecidableEq K] {kvs:List (K×Value)} {k:K} (h:k∉kvs.map (·.1)):valueAt kvs k=none:=by
 unfold valueAt;rw [Option.map_eq_none_iff,List.find?_eq_none];intro p hp hk;exact h (by rw [← (by simpa using hk:p.1=k)];exact O3 (f:=(·.1)) hp)
theorem vN {K:Type} [DecidableEq K] {kvs:List (K×Value)} {k:K} {v:Value} (h:k∉kvs.map (·.1)):stored kvs k v=kvs++[(k,v)]:=by
 unfold stored;rw [if_neg];intro ha;refine G8 (List.any_eq_true.mp ha) fun p hp hk=>?_;exact h (by rw [← (by simpa using hk:p.1=k)];exact O3 (f:=(·.1)) hp)
section
variable {c:Cx} {τ:PH} {m:Lo} {X:PV} {K:Type} [DecidableEq K] {knd:KeyKind pw c.w K}
theorem Ao {d:Addr} {o:Obj} {kvs:List (K×Value)} {k:K} {key dflt:Value} {Q:PV} (hd:τ d=some o) (D:o.IsDictOf knd kvs) (hk:knd.is k key=true) (hn:valueAt kvs k=none) (hsz:kvs.length≤10000)
  (h:∀ o',o'.IsDictOf knd (stored kvs k dflt)→Q dflt (G5 τ d o') m):W c (PySem.call (.builtin "dict.setdefault") [.ref d,key,dflt]) τ m Q X:=fun s hs=>by
 refine call_meetsIn F.slot_dict_setdefault (cG hs hd D).typeIs F.entry_dict_setdefault (F.args_dict_setdefault_3 _ _ _) (kt_meets_setdefault knd d hk (iu hs hd) dflt) (Q0 kvs (cG hs hd D) (by rw [sizeLine_eq];exact q1) (fun v hv=>(by rw [hn] at hv;cases hv)) (fun O h' hD hsb=>?_));refine G8 (Heap.dictOf_iff.mp hD) fun o' ho D'=>?_;exact I5 _ _ (Step.put hs hd hsb ho) (h o' D')
end
noncomputable def ixC (i:Nat):Obj→Prop:=fun o=>∃ t j,o=G3 [.int i t] j
noncomputable def ixs:Nat→List (Str×Addr)→List H7
 | _,[]=>[]
 | i,p::r=>(p.2,ixC i)::ixs (i+1) r
theorem tU:∀ (i:Nat) (l:List (Str×Addr)) (p:Str×Addr),ixs i (l++[p])=ixs i l++[(p.2,ixC (i+l.length))]
 | i,[],p=>rfl
 | i,q::r,p=>by
  show (q.2,ixC i)::ixs (i+1) (r++[p])=_;rw [tU (i+1) r p,R8,show i+1+r.length=i+(r.length+1) by exact (kq2 25423459813247489)];rfl
theorem wM:∀ (i:Nat) (l:List (Str×Addr)) (k:Nat) (p:Str×Addr),l[k]? = some p→(p.2,ixC (i+k))∈ixs i l
 | i,[],k,p,h=>by simp at h
 | i,q::r,0,p,h=>by
  obtain rfl:q=p:=by simpa using h
  exact K4
 | i,q::r,k+1,p,h=>by
  have z:=wM (i+1) r k p (by simpa using h);rw [show i+1+k=i+(k+1) by exact (kq2 25423459813247489)] at z;exact H9 _ z
noncomputable def bkv (l:List (Str×Addr)):List (Str×Value):=l.map fun p=>(p.1,.ref p.2)
theorem nY (l:List (Str×Addr)):(bkv l).map (·.1)=l.map (·.1):=by unfold bkv;rw [fZ];rfl
noncomputable def Y8 (w:World):Obj→Prop:=fun o=>o.SetObjOf (strKind pw w) (fun O=>false) 0
noncomputable def smF (a b:Addr) (mb oc:Value):List (Str×Value):=[(G4 "isjunk",.none),(G4 "a",.ref a),(G4 "b",.ref b),(G4 "autojunk",.bool false),(G4 "matching_blocks",mb),(G4 "opcodes",oc),(G4 "fullbcount",.none)]
noncomputable def Y6 (a b:Addr) (mb oc:Value) (e j p:Addr):List (Str×Value):=smF a b mb oc++[(G4 "b2j",.ref e),(G4 "bjunk",.ref j),(G4 "bpopular",.ref p)]
theorem chainB {w:World} {os:OsState} (x dx a b:Addr) (second:List (Str×Tok)) (jb:Nat) (hl:second.length≤8) (hnd:(nmL second).Nodup) :
  U4 w os 3 (.ref 308) ⟨[.ref x],[]⟩ [(ecl x (instObj 362 dx)),(dx,fun o=>S8 o (smF a b .none .none)),(ecl b (G3 (strValues second) jb))]
   (fun v L'=>v=.none∧∃ e j p bs,bs.map (·.1)=nmL second∧L'=[(ecl x (instObj 362 dx)),(dx,fun o=>S8 o (Y6 a b .none .none e j p)),(ecl b (G3 (strValues second) jb)),(e,T6 w (bkv bs)),(j,Y8 w),(p,Y8 w)]++ixs 0 bs):=by
 intro τ hC;refine Z7 (RX:=fun v τ'=>∃ L',Cells τ' L'∧False) k308 cd308 rfl (binds:=[(G4 "self",.ref x)]) (V9 (fun P=>by kernel_rfl)) fun A L hr=>?_;let c0:Cx:=cx w os A fd308 308 L;show W c0 (execs _ c0.env) _ (upd (fun O=>none) (G4 "self") (.ref x)) _ _;refine W7 fun Q X hQ=>?_;have hq:(cx w os A fd308 308 L).A.handled=none:=hr.quiet;have ex:=hC.is (a:=x) (o:=instObj 362 dx) (by exact mH);refine G8 (hC.at_ (dx,fun o=>S8 o (smF a b .none .none)) (by exact mC mH)) fun od edx hf=>?_;refine G6 (K3 (R7 ?_));walk_at "nm";refine T9 ex edx hf (v:=.ref b) (by kernel_rfl) (by kernel_rfl) rfl ?_;refine G6 (cZ (mz fun e he=>dZ ?_));walk_at "nm";refine Y7 (O9 he ex) (O9 he edx) hf (by simp [smF]) (by kernel_rfl) fun o1 f1=>?_;have f1:S8 o1 (smF a b .none .none++[(G4 "b2j",.ref e)]):=by
  have:aM (G4 "b2j") (.ref e) (smF a b .none .none)=smF a b .none .none++[(G4 "b2j",.ref e)]:=by kernel_rfl
  rw [this] at f1;exact f1
 let L1:List H7:=(e,T6 w (bkv []))::(ecl x (instObj 362 dx))::(dx,fun o=>S8 o (smF a b .none .none++[(G4 "b2j",.ref e)]))::(ecl b (G3 (strValues second) jb))::ixs 0 [];have hC1:Cells (G5 (G5 τ e emptyDict) dx o1) L1 :=
  Cells.putAt (A:=[(e,T6 w []),(ecl x (instObj 362 dx))]) (hC.new (P:=T6 w []) he (nU (c:=cx w os A fd308 308 L) (knd:=strKind pw w))) f1
 generalize G5 (G5 τ e emptyDict) dx o1=τ1 at hC1 ⊢;refine I8 ?_;have eb:=hC1.is (a:=b) (o:=G3 (strValues second) jb) (by exact mC (mC (mC mH)));refine G6 (xP (K8 (I9 (.type "enumerate") (I2 rfl (G7 ?_)))) hq);walk_at "nm";refine H5 (yH eb fun en it oi hen hit hne hoc hod=>?_);let J1:PN:=fun i τ' m'=>(∃ bs:List (Str×Addr),bs.map (·.1)=nmL (second.take i)∧Cells τ' ((e,T6 w (bkv bs))::(ecl x (instObj 362 dx))::(dx,fun o=>S8 o (smF a b .none .none++[(G4 "b2j",.ref e)]))::(ecl b (G3 (strValues second) jb))::ixs 0 bs)) ∧
  vl m' "self" (.ref x)∧vl m' "b" (.ref b)∧vl m' "b2j" (.ref e)
 refine I6_8 en it b (strValues second) jb τ1 rfl I4 (M8 oi (P0 (Ne.symm hne) I4) hoc hod) eb (fun b o z=>O9 (by unfold G5;rw [if_neg hne];exact hen) (O9 hit z)) hen hit (Q0 J1 ⟨(H6 [] rfl hC1),?_,?_,?_⟩ ?_ ?_ ?_)
 ·walk_at "mv"
 ·walk_at "mv"
 ·walk_at "mv"
 ·intro i τ' m' zD;refine O1 zD fun zE O=>?_;clear zD;refine G8 zE fun bs O hCS=>?_;clear zE;have z:=hCS.is (a:=b) (o:=G3 (strValues second) jb) (by exact mC (mC (mC mH)));rw [z,eb]
 ·intro i v t τ' m' hv zG;refine bR zG fun zH m1 m2 m3=>?_;clear zG;refine G8 zH fun bs hbs hCS=>?_;clear zH;refine G8 (gZ hv) fun p hp zI=>?_;obtain rfl:=zI;have hbl:bs.length=(second.take i).length:=by
   have:=congrArg List.length hbs
   rwa [I3,I3] at this
  have hil:i<second.length:=by
   rcases Nat.lt_or_ge i second.length with z | z
   ·exact z
   ·rw [List.getElem?_eq_none z] at hp;cases hp
  have hbi:bs.length=i:=by rw [hbl,eQ];lia
  have hpn:p.1∉bs.map (·.1):=by
   rw [hbs];unfold nmL;rw [List.map_take];intro hm;refine U0 (List.mem_iff_getElem?.mp hm) fun k hk=>?_;rw [List.getElem?_take] at hk;split at hk
   ·rename_i hki;have e2:(second.map (·.1))[i]? = some p.1:=by rw [S9,hp];rfl
    have hkl:k<(second.map (·.1)).length:=by rw [I3];exact q7
    have hil':i<(second.map (·.1)).length:=by rw [I3];exact hil
    have:=List.pairwise_iff_getElem.mp hnd k i hkl hil' hki;rw [Z6 hkl] at hk;rw [Z6 hil'] at e2;exact this ((aO hk).trans (aO e2).symm)
   ·cases hk
  refine M4 (I8 (M4 (I8 (aj ?_))));refine G8 (hCS.at_ (e,T6 w (bkv bs)) (by exact mH)) fun oe ee De=>?_;refine G6 (K3 (N7 ?_));walk_at "nm";refine T8 ee F.plainAttrs_dict F.slot_dict_setdefault F.type_dict_setdefault (I2 rfl (G7 ?_)) (cI De).1 (cI De).2;walk_at "nm";refine G7 (V6 (H5 ⟨leB rfl,fun l hln=>?_⟩));refine H5 (Ao (knd:=strKind pw w) (k:=p.1) (O9 hln ee) (show oe.IsDictOf (strKind pw w) (bkv bs) from De) (by show (p.1==p.1)=true;simp) (ug (by rw [nY];exact hpn)) (by unfold bkv;rw [I3];exact (kq3 773724054240937182122090945) hl hil hbi) fun o' D'=>?_);rw [vN (by rw [nY];exact hpn)] at D';let L2:List H7:=(ecl l (G3 [] 0))::(e,T6 w (bkv (bs++[(p.1,l)])))::(ecl x (instObj 362 dx))::(dx,fun o=>S8 o (smF a b .none .none++[(G4 "b2j",.ref e)]))::(ecl b (G3 (strValues second) jb))::ixs 0 bs;have hC2:Cells (G5 (G5 τ' l (G3 [] 0)) e o') L2 :=
   Cells.putAt (A:=[(ecl l (G3 [] 0))]) (hCS.new (P:=(·=G3 [] 0)) hln rfl) (show T6 w _ o' by unfold T6 bkv;rw [N6];exact D')
  generalize G5 (G5 τ' l (G3 [] 0)) e o'=τ3 at hC2 ⊢;have el:=hC2.is (a:=l) (o:=G3 [] 0) (by exact mH);refine G6 (O7 (N7 ?_));walk_at "nm";refine T8 el F.plainAttrs_list F.slot_list_append F.type_list_append (I2 rfl (G7 ?_));walk_at "nm";refine H5 (V4 el (by simp) fun j'=>G9 ⟨(H6 (bs++[(p.1,l)]) ?_ ?_),?_,?_,?_⟩)
  ·rw [N6,hbs,aC,hp];simp [nmL]
  ·rw [tU,hbi,Nat.zero_add];have z:=hC2.put (P':=ixC i) (o:=G3 [.int i t] j') (fc t j' rfl);refine z.perm ?_;exact (List.perm_append_singleton (l,ixC i) _).symm
  ·walk_at "mv"
  ·walk_at "mv"
  ·walk_at "mv"
 ·intro τ' m' zK;refine bR zK fun zL m1 m2 m3=>?_;clear zK;refine G8 zL fun bs hbs hCS=>?_;clear zL;rw [show (strValues second).length=second.length from Q8 second,aD] at hbs;refine G9 (G6 (cZ (K8 (I9 (.type "set") (aq rfl (tE (knd:=strKind pw w) fun j oj hj Dj=>dZ ?_))))));walk_at "nm";have ex:=hCS.is (a:=x) (o:=instObj 362 dx) (by exact mC mH);refine G8 (hCS.at_ (dx,fun o=>S8 o (smF a b .none .none++[(G4 "b2j",.ref e)])) (by exact mC (mC mH))) fun od edx hf=>?_;refine Y7 (O9 hj ex) (O9 hj edx) hf (by simp [smF]) (by kernel_rfl) fun o2 f2=>?_;have f2:S8 o2 (smF a b .none .none++[(G4 "b2j",.ref e),(G4 "bjunk",.ref j)]):=by
   have:aM (G4 "bjunk") (.ref j) (smF a b .none .none++[(G4 "b2j",.ref e)])=smF a b .none .none++[(G4 "b2j",.ref e),(G4 "bjunk",.ref j)]:=by kernel_rfl
   rw [this] at f2;exact f2
  let L3:List H7:=(j,Y8 w)::(e,T6 w (bkv bs))::(ecl x (instObj 362 dx))::(dx,fun o=>S8 o (smF a b .none .none++[(G4 "b2j",.ref e),(G4 "bjunk",.ref j)]))::(ecl b (G3 (strValues second) jb))::ixs 0 bs;have hC2:Cells (G5 (G5 τ' j oj) dx o2) L3 :=
   Cells.putAt (A:=[(j,Y8 w),(e,T6 w (bkv bs)),(ecl x (instObj 362 dx))]) (hCS.new (P:=Y8 w) hj Dj) f2
  generalize G5 (G5 τ' j oj) dx o2=τ2 at hC2 ⊢;refine I8 ?_;have ex:=hC2.is (a:=x) (o:=instObj 362 dx) (by exact mC (mC mH));refine G8 (hC2.at_ (dx,fun o=>S8 o (smF a b .none .none++[(G4 "b2j",.ref e),(G4 "bjunk",.ref j)])) (by exact mC (mC (mC mH)))) fun od edx hf=>?_;refine G6 (K3 (R7 ?_));walk_at "nm";refine T9 ex edx hf (v:=.none) (by kernel_rfl) (by kernel_rfl) rfl ?_;refine G6 (K6 (U7 ?_));walk_at "nm";refine uO ?_;refine Q7 rfl ?_;refine G9 (G6 (cZ (K8 (I9 (.type "set") (aq rfl (tE (knd:=strKind pw w) fun q oq hqn Dq=>dZ ?_))))));walk_at "nm";refine Y7 (O9 hqn ex) (O9 hqn edx) hf (by simp [smF]) (by kernel_rfl) fun o3 f3=>?_;have f3:S8 o3 (Y6 a b .none .none e j q):=by
   have:aM (G4 "bpopular") (.ref q) (smF a b .none .none++[(G4 "b2j",.ref e),(G4 "bjunk",.ref j)])=Y6 a b .none .none e j q:=by kernel_rfl
   rw [this] at f3;exact f3
  let L4:List H7:=(q,Y8 w)::(j,Y8 w)::(e,T6 w (bkv bs))::(ecl x (instObj 362 dx))::(dx,fun o=>S8 o (Y6 a b .none .none e j q))::(ecl b (G3 (strValues second) jb))::ixs 0 bs;have hC3:Cells (G5 (G5 τ2 q oq) dx o3) L4 :=
   Cells.putAt (A:=[(q,Y8 w),(j,Y8 w),(e,T6 w (bkv bs)),(ecl x (instObj 362 dx))]) (hC2.new (P:=Y8 w) hqn Dq) f3
  generalize G5 (G5 τ2 q oq) dx o3=τ3 at hC3 ⊢;refine I8 ?_;have ex:=hC3.is (a:=x) (o:=instObj 362 dx) (by exact mC (mC (mC mH)));refine G8 (hC3.at_ (dx,fun o=>S8 o (Y6 a b .none .none e j q)) (by exact mC (mC (mC (mC mH))))) fun od edx hf=>?_;have eb:=hC3.is (a:=b) (o:=G3 (strValues second) jb) (by exact mC (mC (mC (mC (mC mH)))));refine G6 (K3 (K8 (I9 (.builtin "len") (I2 rfl (G7 ?_)))));walk_at "nm";refine H5 (cY eb (svl (lq (by assumption))) fun t1=>?_);refine G6 (K6 (aQ (U3 (U7 (R7 ?_)))));walk_at "nm";refine T9 ex edx hf (v:=.bool false) (by kernel_rfl) (by kernel_rfl) rfl ?_;refine I6 ?_;refine bF rfl ?_;refine G9 (G9 (hQ (H6 τ3 (fun O O z=>z) (M8 _ (hC3.perm ?_) rfl (lH e j q bs hbs rfl)))));exact List.Perm.append_right (ixs 0 bs) (l₁:=[(q,Y8 w),(j,Y8 w),(e,T6 w (bkv bs)),(ecl x (instObj 362 dx)),(dx,fun o=>S8 o (Y6 a b .none .none e j q)),(ecl b (G3 (strValues second) jb))])
   ((List.perm_append_comm (l₁:=[(q,Y8 w),(j,Y8 w),(e,T6 w (bkv bs))])).trans (List.Perm.append_left [(ecl x (instObj 362 dx)),(dx,fun o=>S8 o (Y6 a b .none .none e j q)),(ecl b (G3 (strValues second) jb))] (List.reverse_perm [(q,Y8 w),(j,Y8 w),(e,T6 w (bkv bs))]).symm))
noncomputable def fJ:List (Str×Value):=[(G4 "isjunk",.none),(G4 "a",.none),(G4 "b",.none),(G4 "autojunk",.bool false)]
noncomputable def iz (a:Addr):List (Str×Value):=[(G4 "isjunk",.none),(G4 "a",.ref a),(G4 "b",.none),(G4 "autojunk",.bool false),(G4 "matching_blocks",.none),(G4 "opcodes",.none)]
noncomputable abbrev fC (F:List (Str×Value)):Obj→Prop:=fun o=>S8 o F
theorem dh {o:Obj} {n:Str} {v:Value} {F G:List (Str×Value)} (h:S8 o (aM n v F)) (e:aM n v F=G):S8 o G:=e▸h
theorem BP {w:World} {os:OsState} (x dx a:Addr) :
  U4 w os 2 (.ref 294) ⟨[.ref x,.ref a],[]⟩ [(ecl x (instObj 362 dx)),(dx,fC fJ)] (fun v L'=>v=.none∧L'=[(ecl x (instObj 362 dx)),(dx,fC (iz a))]):=by
 intro τ hC;refine Z7 (RX:=fun v τ'=>∃ L',Cells τ' L'∧False) k294 cd294 rfl (binds:=[(G4 "self",.ref x),(G4 "a",.ref a)]) (V9 (fun P=>by kernel_rfl)) fun A L hr=>?_;let c0:Cx:=cx w os A fd294 294 L;show W c0 (execs _ c0.env) _ (upd (upd (fun O=>none) (G4 "self") (.ref x)) (G4 "a") (.ref a)) _ _;refine W7 fun Q X hQ=>?_;have ex:=hC.is (a:=x) (o:=instObj 362 dx) (by exact mH);refine G8 (hC.at_ (dx,fC fJ) (by exact mC mH)) fun od edx hf=>?_;have hne:x≠dx:=fun z=>by have:=hC.nd;simp [z] at this
 refine G6 (O7 (O8 fun O=>?_));refine G6 (K6 (J0 ?_));walk_at "nm";refine R7 ?_;walk_at "nm";refine T9 ex edx hf (v:=.none) (by kernel_rfl) (by kernel_rfl) rfl (eX (I6 ?_));refine Q7 rfl ?_;refine G9 (G6 (bK ?_));walk_at "nm";walk_at "nm";refine Y7 ex edx hf (by simp [fJ]) (by kernel_rfl) fun o1 f1=>?_;replace f1:=dh (G:=[(G4 "isjunk",.none),(G4 "a",.ref a),(G4 "b",.none),(G4 "autojunk",.bool false)]) f1 (by kernel_rfl);refine G6 (cZ (aL (dZ ?_)));walk_at "nm";refine Y7 (P0 hne ex) I4 f1 (by simp) (by kernel_rfl) fun o2 f2=>?_;replace f2:=dh (G:=[(G4 "isjunk",.none),(G4 "a",.ref a),(G4 "b",.none),(G4 "autojunk",.bool false),(G4 "matching_blocks",.none)]) f2 (by kernel_rfl);rw [Z0];refine dZ ?_;walk_at "nm";refine Y7 (P0 hne ex) I4 f2 (by simp) (by kernel_rfl) fun o3 f3=>?_;replace f3:=dh (G:=iz a) f3 (by kernel_rfl);rw [Z0];exact G9 (hQ (H6 _ (fun O O z=>z) (M8 _ (Cells.putAt (A:=[(ecl x (instObj 362 dx))]) hC f3) rfl rfl)))
noncomputable abbrev smC (w:World) (x dx a b:Addr) (second:List (Str×Tok)) (jb:Nat) (mb oc:Value) (e j p:Addr) (bs:List (Str×Addr)):List H7 :=
 [(ecl x (instObj 362 dx)),(dx,fC (Y6 a b mb oc e j p)),(ecl b (G3 (strValues second) jb)),(e,T6 w (bkv bs)),(j,Y8 w),(p,Y8 w)]++ixs 0 bs
theorem za {w:World} {os:OsState} (x dx a b:Addr) (second:List (Str×Tok)) (jb:Nat) (hl:second.length≤8) (hnd:(nmL second).Nodup) :
  U4 w os 4 (.ref 301) ⟨[.ref x,.ref b],[]⟩ [(ecl x (instObj 362 dx)),(dx,fC (iz a)),(ecl b (G3 (strValues second) jb))]
   (fun v L'=>v=.none∧∃ e j p bs,bs.map (·.1)=nmL second∧L'=smC w x dx a b second jb .none .none e j p bs):=by
 intro τ hC;refine Z7 (RX:=fun v τ'=>∃ L',Cells τ' L'∧False) k301 cd301 rfl (binds:=[(G4 "self",.ref x),(G4 "b",.ref b)]) (V9 (fun P=>by kernel_rfl)) fun A L hr=>?_;let c0:Cx:=cx w os A fd301 301 L;show W c0 (execs _ c0.env) _ (upd (upd (fun O=>none) (G4 "self") (.ref x)) (G4 "b") (.ref b)) _ _;refine W7 fun Q X hQ=>?_;have hr3:Room 3 (cx w os A fd301 301 L).A:=hr;have ex:=hC.is (a:=x) (o:=instObj 362 dx) (by exact mH);refine G8 (hC.at_ (dx,fC (iz a)) (by exact mC mH)) fun od edx hf=>?_;have hne:x≠dx:=fun z=>by have:=hC.nd;simp [z] at this
 refine G6 (O7 (O8 fun O=>?_));refine G6 (K6 (J0 ?_));walk_at "nm";refine R7 ?_;walk_at "nm";refine T9 ex edx hf (v:=.none) (by kernel_rfl) (by kernel_rfl) rfl (eX (I6 ?_));refine Q7 rfl ?_;refine G9 (G6 (bK ?_));walk_at "nm";walk_at "nm";refine Y7 ex edx hf (by simp [iz]) (by kernel_rfl) fun o1 f1=>?_;replace f1:=dh (G:=[(G4 "isjunk",.none),(G4 "a",.ref a),(G4 "b",.ref b),(G4 "autojunk",.bool false),(G4 "matching_blocks",.none),(G4 "opcodes",.none)]) f1 (by kernel_rfl);refine G6 (cZ (aL (dZ ?_)));walk_at "nm";refine Y7 (P0 hne ex) I4 f1 (by simp) (by kernel_rfl) fun o2 f2=>?_;replace f2:=dh (G:=[(G4 "isjunk",.none),(G4 "a",.ref a),(G4 "b",.ref b),(G4 "autojunk",.bool false),(G4 "matching_blocks",.none),(G4 "opcodes",.none)]) f2 (by kernel_rfl);rw [Z0];refine dZ ?_;walk_at "nm";refine Y7 (P0 hne ex) I4 f2 (by simp) (by kernel_rfl) fun o3 f3=>?_;replace f3:=dh (G:=[(G4 "isjunk",.none),(G4 "a",.ref a),(G4 "b",.ref b),(G4 "autojunk",.bool false),(G4 "matching_blocks",.none),(G4 "opcodes",.none)]) f3 (by kernel_rfl);rw [Z0];refine G6 (bK (aL ?_));walk_at "nm";refine Y7 (P0 hne ex) I4 f3 (by simp) (by kernel_rfl) fun o4 f4=>?_;replace f4:=dh (G:=smF a b .none .none) f4 (by kernel_rfl);rw [Z0];let L1:List H7:=[(ecl x (instObj 362 dx)),(dx,fC (smF a b .none .none)),(ecl b (G3 (strValues second) jb))]++[]
 have hC1:Cells (G5 τ dx o4) L1:=Cells.putAt (A:=[(ecl x (instObj 362 dx))]) hC f4;generalize G5 τ dx o4=τ1 at hC1 ⊢;have ex:=hC1.is (a:=x) (o:=instObj 362 dx) (by exact mL mH);refine G8 (hC1.at_ (dx,fC (smF a b .none .none)) (by exact mL (mC mH))) fun od edx hf=>?_;refine G6 (O7 (N7 ?_));walk_at "nm";refine bU (f:=308) ex edx hf (by kernel_rfl) (by kernel_rfl) (aq (by kernel_rfl) ?_);refine V7 (chainB x dx a b second jb hl hnd) hr3 hC1 (fun v τ2 L' hC2 hv=>?_) fun O O O O h=>h.elim;rw [X4] at hC2;obtain ⟨zE,zz⟩:=hv;refine E4_2 zz fun e j p bs hbs zF=>?_;clear zz;obtain rfl:=zE;obtain rfl:=zF;exact G9 (hQ (H6 τ2 (fun O O z=>z) (M8 _ hC2 rfl (lH e j p bs hbs rfl))))
theorem Dk {w:World} {os:OsState} (x dx a b:Addr) (second:List (Str×Tok)) (jb:Nat) (hl:second.length≤8) (hnd:(nmL second).Nodup) :
  U4 w os 5 (.ref 287) ⟨[.ref x,.ref a,.ref b],[]⟩ [(ecl x (instObj 362 dx)),(dx,fC fJ),(ecl b (G3 (strValues second) jb))]
   (fun v L'=>v=.none∧∃ e j p bs,bs.map (·.1)=nmL second∧L'=smC w x dx a b second jb .none .none e j p bs):=by
 intro τ hC;refine Z7 (RX:=fun v τ'=>∃ L',Cells τ' L'∧False) k287 cd287 rfl (binds:=[(G4 "self",.ref x),(G4 "a",.ref a),(G4 "b",.ref b)]) (V9 (fun P=>by kernel_rfl)) fun A L hr=>?_;let c0:Cx:=cx w os A fd287 287 L;show W c0 (execs _ c0.env) _ (upd (upd (upd (fun O=>none) (G4 "self") (.ref x)) (G4 "a") (.ref a)) (G4 "b") (.ref b)) _ _;refine W7 fun Q X hQ=>?_;have hr4:Room 4 (cx w os A fd287 287 L).A:=hr;let L2:List H7:=[(ecl x (instObj 362 dx)),(dx,fC fJ)]++[(ecl b (G3 (strValues second) jb))]
 have hC0:Cells τ L2:=hC;have ex:=hC.is (a:=x) (o:=instObj 362 dx) (by exact mH);refine G8 (hC.at_ (dx,fC fJ) (by exact mC mH)) fun od edx hf=>?_;refine G6 (O7 (O8 fun O=>?_));refine G6 (O7 (N7 ?_));walk_at "nm";refine bU (f:=294) ex edx hf (by kernel_rfl) (by kernel_rfl) (I2 (by kernel_rfl) (G7 ?_));walk_at "nm";refine H5 (V7 (BP x dx a) (hr4.less (by decide)) hC0 (fun v τ1 L' hC1 hv=>?_) fun O O O O h=>h.elim);refine O1 hv fun zB zC=>?_;clear hv;obtain rfl:=zB;obtain rfl:=zC;have ex:=hC1.is (a:=x) (o:=instObj 362 dx) (by exact mL mH);refine G8 (hC1.at_ (dx,fC (iz a)) (by exact mL (mC mH))) fun od edx hf=>?_;refine G6 (O7 (N7 ?_));walk_at "nm";refine bU (f:=301) ex edx hf (by kernel_rfl) (by kernel_rfl) (I2 (by kernel_rfl) (G7 ?_));walk_at "nm";let L3:List H7:=[(ecl x (instObj 362 dx)),(dx,fC (iz a)),(ecl b (G3 (strValues second) jb))]++[]
 have hC2:Cells τ1 L3:=hC1;refine H5 (V7 (za x dx a b second jb hl hnd) hr4 hC2 (fun v τ2 L' hC3 hv=>?_) fun O O O O h=>h.elim);rw [X4] at hC3;obtain ⟨zI,zz⟩:=hv;refine E4_2 zz fun e j p bs hbs zJ=>?_;clear zz;obtain rfl:=zI;obtain rfl:=zJ;exact G9 (hQ (H6 τ2 (fun O O z=>z) (M8 _ hC3 rfl (lH e j p bs hbs rfl))))
theorem smInit {w:World} {os:OsState} (x dx a b:Addr) (second:List (Str×Tok)) (jb:Nat) (hl:second.length≤8) (hnd:(nmL second).Nodup) :
  U4 w os 6 (.ref 280) ⟨[.ref x,.none,.ref a,.ref b,.bool false],[]⟩ [(ecl x (instObj 362 dx)),(dx,fC []),(ecl b (G3 (strValues second) jb))]
   (fun v L'=>v=.none∧∃ e j p bs,bs.map (·.1)=nmL second∧L'=smC w x dx a b second jb .none .none e j p bs):=by
 intro τ hC;refine Z7 (RX:=fun v τ'=>∃ L',Cells τ' L'∧False) k280 cd280 rfl (binds:=[(G4 "self",.ref x),(G4 "isjunk",.none),(G4 "a",.ref a),(G4 "b",.ref b),(G4 "autojunk",.bool false)]) (V9 (fun P=>by kernel_rfl)) fun A L hr=>?_;let c0:Cx:=cx w os A fd280 280 L;show W c0 (execs _ c0.env) _ (upd (upd (upd (upd (upd (fun O=>none) (G4 "self") (.ref x)) (G4 "isjunk") .none) (G4 "a") (.ref a)) (G4 "b") (.ref b)) (G4 "autojunk") (.bool false)) _ _;refine W7 fun Q X hQ=>?_;have hr5:Room 5 (cx w os A fd280 280 L).A:=hr;have ex:=hC.is (a:=x) (o:=instObj 362 dx) (by exact mH);refine G8 (hC.at_ (dx,fC []) (by exact mC mH)) fun od edx hf=>?_;have hne:x≠dx:=fun z=>by have:=hC.nd;simp [z] at this
 refine G6 (O7 (O8 fun O=>?_));refine G6 (bK ?_);walk_at "nm";walk_at "nm";refine Y7 ex edx hf (by simp) (by kernel_rfl) fun o1 f1=>?_;replace f1:=dh (G:=[(G4 "isjunk",.none)]) f1 (by kernel_rfl);refine G6 (cZ (aL (dZ ?_)));walk_at "nm";refine Y7 (P0 hne ex) I4 f1 (by simp) (by kernel_rfl) fun o2 f2=>?_;replace f2:=dh (G:=[(G4 "isjunk",.none),(G4 "a",.none)]) f2 (by kernel_rfl);rw [Z0];refine dZ ?_;walk_at "nm";refine Y7 (P0 hne ex) I4 f2 (by simp) (by kernel_rfl) fun o3 f3=>?_;replace f3:=dh (G:=[(G4 "isjunk",.none),(G4 "a",.none),(G4 "b",.none)]) f3 (by kernel_rfl);rw [Z0];refine G6 (bK ?_);walk_at "nm";walk_at "nm";refine Y7 (P0 hne ex) I4 f3 (by simp) (by kernel_rfl) fun o4 f4=>?_;replace f4:=dh (G:=fJ) f4 (by kernel_rfl);rw [Z0];let L4:List H7:=[(ecl x (instObj 362 dx)),(dx,fC fJ),(ecl b (G3 (strValues second) jb))]++[]
 have hC1:Cells (G5 τ dx o4) L4:=Cells.putAt (A:=[(ecl x (instObj 362 dx))]) hC f4;generalize G5 τ dx o4=τ1 at hC1 ⊢;have ex:=hC1.is (a:=x) (o:=instObj 362 dx) (by exact mL mH);refine G8 (hC1.at_ (dx,fC fJ) (by exact mL (mC mH))) fun od edx hf=>?_;refine G6 (O7 (N7 ?_));walk_at "nm";refine bU (f:=287) ex edx hf (by kernel_rfl) (by kernel_rfl) (I2 (by kernel_rfl) (G7 ?_));walk_at "nm";refine G7 ?_;walk_at "nm";refine H5 (V7 (Dk x dx a b second jb hl hnd) hr5 hC1 (fun v τ2 L' hC3 hv=>?_) fun O O O O h=>h.elim);rw [X4] at hC3;obtain ⟨zM,zz⟩:=hv;refine E4_2 zz fun e j p bs hbs zN=>?_;clear zz;obtain rfl:=zM;obtain rfl:=zN;exact G9 (hQ (H6 τ2 (fun O O z=>z) (M8 _ hC3 rfl (lH e j p bs hbs rfl))))
open PySem.Calls Builtin in
theorem Fe {w:World} {os:OsState} {C fN sm:Addr} {n:Nat} {a b d:Value} {τ:PH} {R:Value→PH→Prop}
  (hC:∀ P,∃ cd oc od sl,(H3 P).lookup C=some ⟨oc,od,.cls cd,sl⟩∧cd.mro.isEmpty=false) (hcall:∀ P,specialIn (H3 P) (.ref C) "__call__"=some (some (.builtin "type.__call__"))) (htyp:∀ P,instIn (H3 P) (.ref C) (.type "type")=some true)
  (made:∀ P,PySem.W.peek (H3 P) ⟨pw,P⟩ (Bind.madeBy (.ref C))=some none) (hr:∀ P,readsIn (H3 P) C (.type "type")=true)
  (hf:∀ P,findCls (H3 P) (.ref C) (.type "type") "__new__"=some (.get (.builtin "staticmethod.__get__") (.ref sm) .none (.ref C))) (hsm:∀ P,recIn (H3 P) sm "staticmethod"=some [.ref fN])
  (hself:∀ P,mroIn (H3 P) C (.ref C)=some true) (htop:∀ P,mroIn (H3 P) C (.type "object")=some true) (hinit:∀ P,findIn (H3 P) (.ref C) "__init__"=some (some (.builtin "object.__init__")))
  (sp:Spec w os n (.ref fN) ⟨[.ref C,a,b,d],[]⟩ τ (fun v τ'=>∃ m o,v=.ref m∧τ' m=some o∧o.cls=.ref C∧R (.ref m) τ')):Spec w os (n+1) (.ref C) ⟨[a,b,d],[]⟩ τ R:=by
 intro A s hA hs;refine E4_2 (hC w.params) fun cd oc od sl hC he=>?_;have X:=hs.top;have gC:=X _ _ hC;refine codeAny_of_tree ?_;show wpAny _ _ (callAny (.ref C) _) _ _ _;refine nd_load gC ?_;show wpAny _ _ (callAny.viaDunder (.ref C) _) _ _ _;unfold callAny.viaDunder;refine wpAny_bind ((looks_specialIn X (hcall _)).here ?_);dsimp only;rw [tc_bind];refine wpAny_bind (wpAny_pure (wpAny_bind (wpAny_pure ?_)));refine wpAny_pure (a:=Fin.again (.call (.builtin "type.__call__") ⟨[.ref C,a,b,d],[]⟩)) (And.intro rfl ?_);refine codeAny_call_builtin_at (Code.quiet_builtin _ (by decide +kernel)) entry_typeCall (@check_slot (model pw w) _ _ _ "type.__call__" "type" "__call__" (.ref C) [a,b,d] [] _ tc_kind tc_split (looks_instIn X (htyp _)) (tc_args _ _ _) ?_);unfold Builtin.«type.__call__»;obtain ⟨hh,g,dr,t,oo⟩:=s;have X:(H3 w.params).In hh:=X;have gC:hh.get? C=_:=gC;have hm:Looks (model pw w) hh (mroOf (.ref C)) cd.mro:=((Looks.ld (part:=none) gC).andThen .now).andThen .now;have hmade:Looks (model pw w) hh (Bind.madeBy (.ref C)) none:=Looks.of_peek X (made _);repeat (first | with_reducible refine cls_bind X (hr _) (hf _) ?_ | with_reducible refine wpAny_call ?_ | simp only [he,Bool.false_eq_true,if_false] | lk)
 refine sm_get (K:=H3 w.params) X (hsm _) (handed_on rfl ?_);refine wpAny_bind (wpAny_holding (wpAny_call ?_));have hs':HAt w os (A.under (.builtin "type.__call__" ⟨[.ref C,a,b,d],[]⟩)) τ ⟨hh,g,dr,t+1,oo⟩:=⟨hs.top,hs.keep,hs.low,hs.gens,hs.os,hs.fr,hs.nofr⟩
 refine codeAny_mono (sp (A.under (.builtin "type.__call__" ⟨[.ref C,a,b,d],[]⟩)) _ ⟨by have:=hA.depth;show A.depth+1+n≤900;exact (kq2 830768612036378983802083481951486017) this,by have:=hA.units;show A.units+1+8*n≤9000;exact (kq2 871134542536030111816399676432777865674817) this,hA.quiet⟩ hs') fun r s' hb=>?_;cases r with
 | error e=>obtain ⟨τ',_,z⟩:=hb;exact z.elim
 | ok fl =>
  cases fl with
  | ret v =>
   obtain ⟨τ',st',mm,o,zB,hmo,hoc,hR⟩:=hb;obtain rfl:=zB;have X':=st'.at_.top;have gm:=st'.at_.keep _ _ hmo;obtain ⟨hh',g',dr',t',oo'⟩:=s';have X':(H3 w.params).In hh':=X';have gm:hh'.get? mm=some o:=gm;have t1:Looks (model pw w) hh' (typeOf (.ref mm)) (.ref C):=by
    rw [← hoc];exact (Looks.ld gm).andThen .now
   have s1:Looks (model pw w) hh' (isSubtype (.ref C) (.ref C)) true:=looks_mroIn X' (hself _);have i1:Looks (model pw w) hh' (typeLookup (.ref C) "__init__") (some (.builtin "object.__init__")):=looks_findIn X' (hinit _);unfold isInstance callSpecial? specialOf;repeat (first | rw [oi_bind] | with_reducible refine wpAny_call ?_ | lk)
   have hinst:Looks (model pw w) hh' (isInstance (.ref mm) (.type "object")) true:=t1.andThen (looks_mroIn X' (htop _));have hmade':Looks (model pw w) hh' (Bind.madeBy (.ref C)) none:=Looks.of_peek X' (made _);refine codeAny_call_builtin oi_plain entry_oi (@check_slot (model pw w) _ _ _ "object.__init__" "object" "__init__" (.ref mm) [a,b,d] [] _ oi_kind oi_split hinst (by unfold argsOk;kernel_rfl) ?_);unfold Builtin.«object.__init__»;repeat (first | simp only [List.isEmpty_cons,List.isEmpty_nil,Bool.not_false,Bool.not_true,Bool.or_true,Bool.true_or,bne_self_eq_false,Bool.false_eq_true,if_true,if_false,bz,aX] | lk)
   exact ⟨τ',⟨⟨st'.at_.top,st'.at_.keep,st'.at_.low,st'.at_.gens,st'.at_.os,st'.at_.fr,st'.at_.nofr⟩,st'.keep,st'.fresh⟩,hR⟩
  | _=>exact hb.elim
open PySem.Calls Builtin in
section
variable {c:Cx} {τ:PH} {m:Lo} {X:PV}
theorem uy {T:String} {name:Str} {v:Value} {pl:Sem Bool} {Q:PM} (ht:typeOf (.type T)=pure (.type "type")) (hst:Manifest.isStub T=false)
  (e:findCls (H3 c.w.params) (.type T) (.type "type") name=some (.val v)) (hh:handedIn v=true) (h:Q (v,[]) τ m):W c (getMethod (.type T) name pl) τ m Q X:=fun s hs=>by
 have X:=hs.top;have hstub:opaqueClassAbove (.type T)=pure none:=by unfold opaqueClassAbove;dsimp only;rw [hst];rfl
 have L0:Looks (MM c) s.heap (typeOf (.type T)) (.type "type"):=Looks.of_pure ht;have hg:findIn (H3 c.w.params) (.type "type") "__getattribute__"=some (some (.builtin "type.__getattribute__")):=type_tga;unfold getMethod specialOf;refine wpAny_bind (wpAny_bind (L0.here ((looks_findIn X hg).here ?_)));dsimp only;rw [if_pos canon_tga];refine wpAny_bind (wpAny_mono (Q:=fun v s'=>V3 c τ s Q (v,[]) s') (E:=V3 c τ s _) ?_ (fun O O z=>wpAny_pure z) fun O O z=>z);have LO:Looks (MM c) s.heap (opaqueClassAbove (.type T)) none:=Looks.of_pure hstub;refine cls_open X LO L0 hg (looks_hook X (r:=none) (by rfl)) (by show subIn (H3 c.w.params) _ _=_;rfl) e
  (wpAny_pure (by show wpAny _ _ (handedOut v) _ _ _;rw [handedOut_of hh];exact wpAny_pure ⟨τ,m,Step.toks hs _,h⟩))
noncomputable abbrev T7 (d:Addr) (vs:List Value):Obj:={ cls:=.ref 255,dict:=some d,data:=.seq vs.toArray }
theorem uF {t:Addr} {vs:List Value} {Q:PV} (ht:τ t=some (H4 vs)) (hsz:vs.length≤1000)
  (h:∀ d mm,τ d=none→τ mm=none→d≠mm→Q (.ref mm) (G5 (G5 τ d emptyDict) mm (T7 d vs)) m):W c (PySem.call (.builtin "tuple.__new__") [.ref 255,.ref t]) τ m Q X:=fun s hs=>by
 have X:=hs.top;refine wpAny_call (codeAny_call_builtin_code (Code.quiet_builtin _ (by decide +kernel)) ?_);refine (Looks.of_peek (r:=()) X (by kernel_rfl)).here ?_;refine codeAny_builtin F.entry_tuple_new ?_;have gt:=hs.keep _ _ ht;unfold Builtin.«tuple.__new__»;obtain ⟨hh,g,dr,t0,oo⟩:=s;have X:(H3 c.w.params).In hh:=X;have gt:hh.get? t=_:=gt;have L1:Looks (MM c) hh (isType (.ref 255)) true:=Looks.of_peek X (by kernel_rfl);have L2:Looks (MM c) hh (isSubtype (.ref 255) (.type "tuple")) true:=Looks.of_peek X (by kernel_rfl);have L3:Looks (MM c) hh (Bind.madeHere "tuple.__new__" (.ref 255)) ():=Looks.of_peek X (by kernel_rfl);have L4:Looks (MM c) hh (typeLookup (.ref 255) "__init__") (some (.builtin "object.__init__")):=Looks.of_peek X (by kernel_rfl);repeat (first | with_reducible refine wpAny_collect_seq t (.inr rfl) gt rfl rfl (fun h' hk=>?_) (by simp [sizeLine_eq];lia) | simp only [bne_self_eq_false,beq_self_eq_true,Bool.not_true,Bool.false_eq_true,if_true,if_false] | lk)
 rw [if_neg (by rw [dH,sizeLine_eq];exact (kq1 29809348127319257552757153) hsz)];unfold newObjAsIs;refine wpAny_bind (wpAny_alloc ?_);have k2:∀ b o,hh.get? b=some o→((h'.push emptyDict).push (T7 h'.objs.size vs)).get? b=some o:=fun b o e=>X6 _ (X6 _ (hk b o e));have L5:Looks (MM c) hh (classHasDel 255) false:=Looks.of_peek X (by kernel_rfl);refine wpAny_bind ((L5.keeps k2).here ?_);simp only [Bool.false_eq_true,if_false];refine wpAny_pure (wpAny_pure ?_);have hz:(h'.push emptyDict).objs.size=h'.objs.size+1:=Heap.size_push ..;have gd:((h'.push emptyDict).push (T7 h'.objs.size vs)).get? h'.objs.size=some emptyDict:=X6 _ (aN _ rfl);have gm:((h'.push emptyDict).push (T7 h'.objs.size vs)).get? (h'.objs.size+1)=some (T7 h'.objs.size vs):=by
  have:=aN (h'.push emptyDict) (o:=T7 h'.objs.size vs) rfl;rw [hz] at this;exact this
 have nn:∀ k,h'.objs.size≤k→hh.get? k=none:=fun k hk2=>by
  cases q:hh.get? k with
  | none=>rfl
  | some o=>exact absurd (W0 (hk k o q)) (Nat.not_lt.mpr hk2)
 have st:=jG hs (jG hs (jt (k:=t0) hs k2) (nn _ (K9 _)) gd) (nn _ (Nat.le_succ _)) gm;show V3 c τ _ Q _ _;rw [hz];exact ⟨_,m,st,h _ _ (hs.none (nn _ (K9 _))) (hs.none (nn _ (Nat.le_succ _))) (Nat.ne_of_lt (Nat.lt_succ_self _))⟩
end
open PySem.Calls Builtin in
section
variable {w:World} {A:Around} {E:Value→Shared→Prop} {s:Shared} {mm d:Addr} {vs:List Value}
theorem mW (X:(H3 w.params).In s.heap) (gm:s.heap.get? mm=some (T7 d vs)):Looks (model pw w) s.heap (typeOf (.ref mm)) (.ref 255):=(Looks.ld gm).andThen .now
theorem wX (X:(H3 w.params).In s.heap) (gm:s.heap.get? mm=some (T7 d vs)):Looks (model pw w) s.heap (isInstance (.ref mm) (.type "tuple")) true:=(mW X gm).andThen (looks_mroIn (K:=H3 w.params) X (by kernel_rfl))
theorem tO {id n:String} {name:Str} {B:Builtin} {rest:List Value} {Q:Value→Shared→Prop} (X:(H3 w.params).In s.heap) (gm:s.heap.get? mm=some (T7 d vs)) (S:Slot "tuple" name id)
  (hk:builtinKind id=some .slot) (hs:splitId id=some ("tuple",n)) (entry:entryFor PySem.table id=some B) (ha:argsOk id ⟨.ref mm::rest,[]⟩)
  (h:wpAny (model pw w) A.in1 (B ⟨.ref mm::rest,[]⟩) (fun fin s'=>match fin with | .done (.ret v)=>Q v s' | _=>False) E s):wpAny (model pw w) A (PySem.call (.builtin id) (.ref mm::rest)) Q E s:=by
 refine wpAny_call (codeAny_call_builtin S.plain entry (check_slot hk hs (wX X gm) ha (wpAny_mono h (fun fin s' z=>?_) fun O O z=>z)));cases fin with
 | done f=>cases f <;> first | exact z | exact z.elim
 | again _=>exact z.elim
theorem uW {name:Str} {id:String} (X:(H3 w.params).In s.heap) (gm:s.heap.get? mm=some (T7 d vs)) (S:Slot "tuple" name id) (hf:findIn (H3 w.params) (.ref 255) name=some (some (.builtin id))) {Q:Option (Value×List Value)→Shared→Prop}
  (h:Q (some (.builtin id,[.ref mm])) s):wpAny (model pw w) A (bindSpecialIfBound? (.ref mm) name) Q E s:=by
 unfold bindSpecialIfBound? specialOf;refine wpAny_bind (((mW X gm).andThen (looks_findIn X hf)).here ?_);dsimp only;refine wpAny_bind (wpAny_askSetting ?_);rw [S.bind];split
 ·exact wpAny_bind (wpAny_pure (wpAny_pure h))
 ·exact wpAny_tryCatch (wpAny_bind (wpAny_pure (wpAny_pure h)))
theorem Bj {Q:Value→Shared→Prop} (X:(H3 w.params).In s.heap) (gm:s.heap.get? mm=some (T7 d vs))
  (h:Q (.ref s.heap.objs.size) { s with heap:=s.heap.push { cls:=.type "tuple_iterator",data:=.fields #[.ref mm,.int 0 0] } }):wpAny (model pw w) A (pyIter (.ref mm)) Q E s:=by
 have hf:findIn (H3 w.params) (.ref 255) "__iter__"=some (some (.builtin "tuple.__iter__")):=by kernel_rfl
 unfold pyIter specialOf;refine wpAny_bind (((mW X gm).andThen (looks_findIn X hf)).here ?_);show wpAny (model pw w) A (callSpecialIfBoundUnlessNone? (.ref mm) "__iter__" _>>=_) Q E s;unfold callSpecialIfBoundUnlessNone?;refine wpAny_bind (wpAny_holding (wpAny_bind (uW X gm F.slot_tuple_iter hf ?_)));dsimp only;rw [if_neg (by decide)];refine wpAny_bind (tO (n:="__iter__") X gm F.slot_tuple_iter (by decide +kernel) (by decide +kernel) F.entry_tuple_iter (F.args_tuple_iter_1 _) ?_);show wpAny _ _ (do ret (← newFields "tuple_iterator" [.ref mm,rawInt 0])) _ _ s;refine wpAny_bind (wpAny_newObj_type (wpAny_pure ?_));refine wpAny_pure ?_;have hT:Shared.TypeIs { s with heap:=s.heap.push { cls:=.type "tuple_iterator",data:=.fields #[.ref mm,.int 0 0] } } (.ref s.heap.objs.size) "tuple_iterator":=(H6 _ (aN _ rfl) rfl)
 exact wpAny_bind (wpAny_specialOf hT F.slot_tuple_iterator_next.lookup (wpAny_pure h))
noncomputable def SeqAt (h:Heap) (a:Addr) (xs:Array Value):Prop:=∃ o n,h.get? a=some o∧o.data=.seq xs n
theorem SeqAt.ext {h h':Heap} {a b:Addr} {xs:Array Value} (x:SeqAt h a xs) (hs:Heap.ExtBut b h h') (hab:a≠b):SeqAt h' a xs :=
 let ⟨o,n,ho,r⟩:=x;(I5 o n (hs a o hab ho) r)
theorem SeqAt.push {h:Heap} {a:Addr} {xs:Array Value} (x:SeqAt h a xs) (o:Obj):SeqAt (h.push o) a xs:=let ⟨o',n,ho,r⟩:=x;(I5 o' n (X6 o ho) r)
theorem yO {it t:Addr} {i:Nat} {items:Array Value} {x:Value} {Q:Option Value→Shared→Prop} (hit:s.heap.IsTupleIter it t i)
  (ht:SeqAt s.heap t items) (hx:items[i]? = some x)
  (hQ:∀ h',h'.IsTupleIter it t (i+1)→Heap.SameBut it s.heap h'→Q (some x) { s with heap:=h' }) :
  wpAny (model pw w) A (pyNext (.ref it)) Q E s:=by
 refine R4 (id hit) fun o ho hc hd=>?_;refine ao ht fun ol nl hol hdl=>?_;clear ht;unfold pyNext;refine wpAny_bind (wpAny_attempt (wpAny_callSpecial?_slot (name:=G4 "__next__") hit.typeIs F.slot_tuple_iterator_next
  (wpAny_call_entry F.slot_tuple_iterator_next hit.typeIs F.entry_tuple_iterator_next ?_ (F.args_tuple_iterator_next_1 _))))
 show wpAny _ _ (field (.ref it) 0>>=_) _ _ s;refine wpAny_bind (wpAny_field ho hd (x:=.ref t) rfl ?_);show wpAny _ _ (if (Value.ref t==Value.none)=true then _ else _) _ _ s;rw [if_neg (show ¬ ((Value.ref t==Value.none)=true) from Bool.false_ne_true)];show wpAny _ _ (field (.ref it) 1>>=_) _ _ s;refine wpAny_bind (wpAny_field ho hd (x:=.int i 0) rfl ?_);show wpAny _ _ (seqItems? (.ref t)>>=_) _ _ s;refine wpAny_bind (wpAny_seqItems hol hdl ?_);simp only [Int.toNat_natCast,hx];refine wpAny_bind (wpAny_setField ho hd (by simp) (wpAny_pure (H6 x rfl (wpAny_pure (hQ _ ?_ (Heap.SameBut.update ..))))));exact (M8 _ (Heap.get?_update_self _ ho (Obj.isFreed_of_fields (Obj.data_mapFields hd _))) ((Obj.cls_mapFields ..).trans hc) (by
  rw [Obj.data_mapFields hd];simp [rawInt]))
theorem Bm {it t:Addr} {i:Nat} {items:Array Value} {Q:Option Value→Shared→Prop} (hh:A.handled=none)
  (hit:s.heap.IsTupleIter it t i) (ht:SeqAt s.heap t items) (hx:items[i]? = none)
  (hQ:∀ h',Heap.ExtBut it s.heap h'→Q none { s with heap:=h' }):wpAny (model pw w) A (pyNext (.ref it)) Q E s:=by
 refine R4 (id hit) fun o ho hc hd=>?_;refine ao ht fun ol nl hol hdl=>?_;clear ht;unfold pyNext;refine wpAny_bind (wpAny_attempt (wpAny_callSpecial?_slot (name:=G4 "__next__") hit.typeIs F.slot_tuple_iterator_next
  (wpAny_call_entry F.slot_tuple_iterator_next hit.typeIs F.entry_tuple_iterator_next ?_ (F.args_tuple_iterator_next_1 _))))
 show wpAny _ _ (field (.ref it) 0>>=_) _ _ s;refine wpAny_bind (wpAny_field ho hd (x:=.ref t) rfl ?_);show wpAny _ _ (if (Value.ref t==Value.none)=true then _ else _) _ _ s;rw [if_neg (show ¬ ((Value.ref t==Value.none)=true) from Bool.false_ne_true)];show wpAny _ _ (field (.ref it) 1>>=_) _ _ s;refine wpAny_bind (wpAny_field ho hd (x:=.int i 0) rfl ?_);show wpAny _ _ (seqItems? (.ref t)>>=_) _ _ s;refine wpAny_bind (wpAny_seqItems hol hdl ?_);simp only [Int.toNat_natCast,hx];refine wpAny_bind (wpAny_rule (wpAny_bind (wpAny_setField ho hd (by simp) ?_)));show wpAny _ _ (newExc (.type "StopIteration") []>>=_) _ _ _;refine wpAny_bind ?_;simp only [newExc,newTuple];refine wpAny_bind (wpAny_newObj_type ?_ (by size_fits));refine wpAny_bind (m:=firstArgMember _ _) (wpAny_of_eq (a:=Value.none) (by first | rfl | (simp only [firstArgMember];rfl)) ?_);refine wpAny_newObj_type ?_ (by size_fits);simp only [raiseNew];refine wpAny_bind (wpAny_handled ?_);first | rw [show A.in1.handled=none from hh] | rw [hh]
 refine wpAny_bind (wpAny_pure (wpAny_throw ?_));refine wpAny_bind (wpAny_isInstance (T:="StopIteration") (b:=true) (H6 _ (aN _ rfl) rfl) isSubtype_stop ?_);exact wpAny_pure (hQ _ (((Heap.SameBut.update ..).extBut.push _).push _))
theorem vC {it t:Addr} {items:Array Value} (hne:t≠it):∀ (n i:Nat) (s:Shared) (Q:List Value→Shared→Prop),s.heap.IsTupleIter it t i→SeqAt s.heap t items→i+n≤items.size →
  (∀ h',h'.IsTupleIter it t (i+n)→Heap.SameBut it s.heap h'→Q ((items.toList.drop i).take n) { s with heap:=h' })→wpAny (model pw w) A (draw (.ref it) n) Q E s
 | 0,i,s,Q,hit,_,_,hQ=>by
  show wpAny _ _ (pure []) Q E s;exact wpAny_pure (by simpa using hQ s.heap hit (Heap.SameBut.refl ..))
 | n+1,i,s,Q,hit,ht,hle,hQ=>by
  have hlt:i<items.size:=by exact (kq3 742226303467585) hle
  show wpAny _ _ (pyNext (.ref it)>>=_) Q E s;refine wpAny_bind (yO hit ht (x:=items[i]) (by simp [hlt]) fun h1 hit1 hs1=>?_);refine wpAny_bind (wpAny_holding (vC hne n (i+1) _ _ hit1 (ht.ext hs1.extBut hne) ((kq3 741979948575196004417) hle) fun h2 hit2 hs2=>wpAny_pure ?_));have hd:items.toList.drop i=items[i]::items.toList.drop (i+1):=by simp [List.drop_eq_getElem_cons,hlt]
  have:=hQ h2 (by rw [show i+(n+1)=i+1+n by exact (kq2 25405951379587137)];exact hit2) (hs1.trans hs2);rw [hd,List.take_succ_cons] at this;exact this
theorem DP {Q:List Value→Shared→Prop} (hh:A.handled=none) (X:(H3 w.params).In s.heap) (gm:s.heap.get? mm=some (T7 d vs))
  (hQ:∀ h',Heap.ExtBut s.heap.objs.size s.heap h'→Q vs { s with heap:=h' }):wpAny (model pw w) A (unpackItems (.ref mm) vs.length none) Q E s:=by
 have hlt:mm≠s.heap.objs.size:=Nat.ne_of_lt (W0 gm);have hf:findIn (H3 w.params) (.ref 255) "__iter__"=some (some (.builtin "tuple.__iter__")):=by kernel_rfl
 have hsq:SeqAt s.heap mm vs.toArray:=(I5 _ _ gm rfl)
 unfold unpackItems;refine wpAny_bind ?_;unfold notIterableAtAll specialOf;refine wpAny_bind (((mW X gm).andThen (looks_findIn X hf)).here ?_);refine wpAny_pure ?_;simp only [Bool.false_eq_true,if_false];refine wpAny_bind (wpAny_holding (Bj X gm ?_));refine wpAny_bind (wpAny_holding (vC hlt vs.length 0 _ _ (M8 _ (aN _ rfl) rfl rfl) (hsq.push _) (by simp) fun h1 hit1 hs1=>?_));have hall:List.take vs.length (List.drop 0 vs.toArray.toList)=vs:=by
  rw [List.drop_zero];exact List.take_of_length_le (by simp)
 rw [hall];rw [if_neg (by simp)];have ht1:SeqAt h1 mm vs.toArray:=(hsq.push _).ext hs1.extBut hlt;refine wpAny_bind (wpAny_holding (Bm hh hit1 ht1 (by simp) fun h2 he2=>?_));simp only [Option.isSome_none,Bool.false_eq_true,if_false];refine wpAny_pure (hQ h2 fun b o hb e=>he2 b o hb (hs1.extBut b o hb (X6 _ e)))
theorem yV {Q:Value→Shared→Prop} (X:(H3 w.params).In s.heap) (gm:s.heap.get? mm=some (T7 d vs)) (hn:vs.length≤1000)
  (h:Q (.int (vs.length:Int) (s.toks+1)) { s with toks:=s.toks+1+1 }):wpAny (model pw w) A (PySem.call (.builtin "len") [.ref mm]) Q E s:=by
 have hf:findIn (H3 w.params) (.ref 255) "__len__"=some (some (.builtin "tuple.__len__")):=by kernel_rfl
 refine Calls.call_function_entry kind_len plain_len entry_len (args_len1 _) ?_;unfold Builtin.«len»;refine wpAny_bind (m:=oneArg "len" _) (wpAny_pure ?_);refine wpAny_bind (m:=callSpecial? (.ref mm) (G4 "__len__")) ?_;unfold callSpecial? specialOf;refine wpAny_bind (((mW X gm).andThen (looks_findIn X hf)).here ?_);dsimp only;rw [F.slot_tuple_len.bind];refine wpAny_holding (wpAny_bind (wpAny_pure (wpAny_bind ?_)));refine tO (n:="__len__") X gm F.slot_tuple_len (by decide +kernel) (by decide +kernel) F.entry_tuple_len (F.args_tuple_len_1 _) ?_;show wpAny _ _ (Builtin.Tuple.tupleItemsOf (.ref mm)>>=_) _ _ s;unfold Builtin.Tuple.tupleItemsOf;refine wpAny_bind (wpAny_bind (wpAny_seqItems gm rfl (wpAny_pure ?_)));refine wpAny_bind (wpAny_mkInt (wpAny_pure ?_));refine wpAny_pure ?_;dsimp only;refine wpAny_bind (wpAny_holding (wpAny_pure ?_));refine wpAny_bind (wpAny_letGo ?_);rw [if_neg (by simp),if_neg (by simp;lia)];exact wpAny_bind (wpAny_mkInt (wpAny_pure (H6 _ rfl (by simpa using h))))
end
open PySem.Calls Builtin in
section
variable {c:Cx} {τ:PH} {m:Lo} {X:PV}
theorem Ac {mm d:Addr} {vs:List Value} {Q:PV} (hm:τ mm=some (T7 d vs)) (hn:vs.length≤1000) (h:∀ t,Q (.int vs.length t) τ m):W c (PySem.call (.builtin "len") [.ref mm]) τ m Q X:=fun s hs =>
 yV hs.top (hs.keep _ _ hm) hn (I5 τ m (Step.toks hs _) (h _))
theorem tH {elts:List Expr} {x1:Nat} {pos:Pos} {mm d:Addr} {vs:List Value} {Q:PU} (hq:c.A.handled=none) (ht:τ mm=some (T7 d vs)) (hn:(assignEach elts c.env).length=vs.length) (hstar:(assignEach elts c.env).findIdx? (·.1)=none)
  (h:W c (assignInOrder ((assignEach elts c.env).map (·.2)) vs) τ m Q X):W c (assign (.Tuple elts x1 pos) c.env (.ref mm)) τ m Q X:=by
 rw [arm_assign_Tuple];refine T4 (iY ?_);unfold unpack;rw [hstar,hn];refine T4 (gY fun s hs=>?_);exact DP hq hs.top (hs.keep _ _ ht) fun h' hx=>(I5 τ m (Step.ext (k:=s.toks) hs hx) h)
end
theorem matNew {w:World} {os:OsState} (i j k:Value):U4 w os 2 (.ref 202) ⟨[.ref 255,i,j,k],[]⟩ []
  (fun v L'=>∃ mm d,v=.ref mm∧L'=[(ecl mm (T7 d [i,j,k])),(ecl d emptyDict)]):=by
 intro τ _;refine Z7 (RX:=fun v τ'=>∃ L',Cells τ' L'∧False) k202 cd202 rfl (binds:=[(G4 "_cls",.ref 255),(G4 "a",i),(G4 "b",j),(G4 "size",k)]) (V9 (fun P=>by kernel_rfl)) fun A L hr=>?_;show W _ _ _ (upd (upd (upd (upd (fun O=>none) (G4 "_cls") (.ref 255)) (G4 "a") i) (G4 "b") j) (G4 "size") k) _ _;refine G6 (O7 (O8 fun O=>?_));refine G6 (Y9 (N7 ?_));refine I9 (.type "tuple") ?_;refine uy (v:=.builtin "tuple.__new__") ?_ ?_ ?_ ?_ ?_
 ·kernel_rfl
 ·kernel_rfl
 ·kernel_rfl
 ·kernel_rfl
 refine I2 rfl (G7 ?_);walk_at "nm";refine G7 (U6 (G7 ?_));walk_at "nm";refine G7 ?_;walk_at "nm";refine G7 ?_;walk_at "nm";refine H5 ⟨leB rfl,fun t ht=>H5 (uF I4 (by simp) fun d mm hd hmm hne=>?_)⟩;refine H6 (G5 (G5 (G5 τ t (H4 [i,j,k])) d emptyDict) mm (T7 d [i,j,k])) (fun O O e=>e) (H6 _ ?_ (I5 mm d rfl rfl));have h1:(G5 (G5 τ t (H4 [i,j,k])) d emptyDict) mm=none:=by unfold G5 at hmm ⊢;rw [if_neg (Ne.symm hne)];exact hmm
 exact (Cells.nil.new (P:=(·=emptyDict)) hd rfl).new (P:=(·=T7 d [i,j,k])) h1 rfl
theorem m1:∀ P,∃ cd oc od sl,(H3 P).lookup 255=some ⟨oc,od,.cls cd,sl⟩∧cd.mro.isEmpty=false:=fun P=>(lH _ _ _ _ rfl (by kernel_rfl))
theorem m2:∀ P,specialIn (H3 P) (.ref 255) "__call__"=some (some (.builtin "type.__call__")):=fun P=>by kernel_rfl
theorem m3:∀ P,instIn (H3 P) (.ref 255) (.type "type")=some true:=fun P=>by kernel_rfl
theorem m4:∀ P,PySem.W.peek (H3 P) ⟨pw,P⟩ (Bind.madeBy (.ref 255))=some none:=fun P=>by kernel_rfl
theorem m5:∀ P,readsIn (H3 P) 255 (.type "type")=true:=fun P=>by kernel_rfl
theorem m6:∀ P,findCls (H3 P) (.ref 255) (.type "type") "__new__"=some (.get (.builtin "staticmethod.__get__") (.ref 256) .none (.ref 255)):=fun P=>by kernel_rfl
theorem m7:∀ P,recIn (H3 P) 256 "staticmethod"=some [.ref 202]:=fun P=>by kernel_rfl
theorem m8:∀ P,mroIn (H3 P) 255 (.ref 255)=some true:=fun P=>by kernel_rfl
theorem m9:∀ P,mroIn (H3 P) 255 (.type "object")=some true:=fun P=>by kernel_rfl
theorem m10:∀ P,findIn (H3 P) (.ref 255) "__init__"=some (some (.builtin "object.__init__")):=fun P=>by kernel_rfl
theorem Eg {w:World} {os:OsState} (i j k:Value):U4 w os 3 (.ref 255) ⟨[i,j,k],[]⟩ []
  (fun v L'=>∃ mm d,v=.ref mm∧L'=[(ecl mm (T7 d [i,j,k])),(ecl d emptyDict)]):=by
 intro τ hC;have z:Spec w os 3 (.ref 255) ⟨[i,j,k],[]⟩ τ (fun v τ'=>∃ L',Cells τ' L'∧∃ mm d,v=.ref mm∧L'=[(ecl mm (T7 d [i,j,k])),(ecl d emptyDict)]):=by
  refine Fe (fN:=202) (sm:=256) m1 m2 m3 m4 m5 m6 m7 m8 m9 m10 ?_;refine Spec.less ((matNew i j k τ hC).exc fun _ _ ⟨_,_,h⟩=>h.elim) fun v τ' ⟨L',hL,mm,d,hv,hL'⟩=>(H6 τ' (fun O O e=>e) (cR mm (T7 d [i,j,k]) hv ?_ rfl ?_))
  ·rw [hL'] at hL;have e:=hL.is (a:=mm) (o:=T7 d [i,j,k]) (by exact mH);exact e
  ·exact H6 L' hL (I5 mm d rfl hL')
 exact z.exc fun O O h=>h.elim
noncomputable def Blk (fs ss:List Str) (alo ahi blo bhi i j k:Nat):Prop:=alo≤i∧i+k≤ahi∧blo≤j∧j+k≤bhi∧∀ t,t<k→∃ s,fs[i+t]? = some s∧ss[j+t]? = some s
noncomputable def NoM (fs ss:List Str) (alo ahi blo bhi:Nat):Prop:=∀ i j s,alo≤i→i<ahi→blo≤j→j<bhi→fs[i]? = some s→ss[j]? ≠ some s
noncomputable def DI (fs ss:List Str) (alo blo bhi ii:Nat) (kvs:List (Int×Value)):Prop :=
 ∀ jj v,valueAt kvs jj=some v→∃ (j k i0 j0:Nat) (t:Tok),jj=(j:Int)∧v=.int (k:Int) t∧1≤k∧i0+k=ii∧j0+k=j+1∧Blk fs ss alo ii blo bhi i0 j0 k
theorem Blk.wide {fs ss:List Str} {alo ahi ahi' blo bhi i j k:Nat} (h:Blk fs ss alo ahi blo bhi i j k) (ha:ahi≤ahi'):Blk fs ss alo ahi' blo bhi i j k :=
 ⟨h.1,W2 h.2.1 ha,h.2.2⟩
theorem wg {fs ss:List Str} {alo ahi blo bhi i j:Nat} (h1:alo≤i) (h2:i≤ahi) (h3:blo≤j) (h4:j≤bhi):Blk fs ss alo ahi blo bhi i j 0:=⟨h1,h2,h3,h4,fun t ht=>absurd ht (Nat.not_lt_zero t)⟩
theorem Blk.snoc {fs ss:List Str} {alo ahi blo bhi i j k:Nat} {s:Str} (h:Blk fs ss alo ahi blo bhi i j k) (h1:i+k<ahi) (h2:j+k<bhi) (e1:fs[i+k]? = some s) (e2:ss[j+k]? = some s):Blk fs ss alo ahi blo bhi i j (k+1):=by
 refine bY h fun a b c d e=>?_;clear h;refine ⟨a,by assumption,c,by assumption,fun t ht=>?_⟩;rcases Nat.lt_succ_iff_lt_or_eq.mp ht with z | z
 ·exact e t z
 ·subst z;exact ⟨s,e1,e2⟩
theorem Blk.cons {fs ss:List Str} {alo ahi blo bhi i j k:Nat} {s:Str} (h:Blk fs ss alo ahi blo bhi (i+1) (j+1) k) (h1:alo≤i) (h2:blo≤j) (e1:fs[i]? = some s) (e2:ss[j]? = some s):Blk fs ss alo ahi blo bhi i j (k+1):=by
 refine bY h fun a b c d e=>?_;clear h;refine ⟨h1,by exact (kq3 741997877211797998081) b,h2,by exact (kq3 741997877211797998081) d,fun t ht=>?_⟩;cases t with
 | zero=>exact ⟨s,e1,e2⟩
 | succ t =>
  refine G8 (e t ((kq2 741128366279169) ht)) fun s' x y=>?_;exact ⟨s',by rw [show i+(t+1)=i+1+t by exact (kq2 25405951379587137)];exact x,by rw [show j+(t+1)=j+1+t by exact (kq2 25405951379587137)];exact y⟩
theorem DI.nil (fs ss:List Str) (alo blo bhi ii:Nat):DI fs ss alo blo bhi ii []:=fun jj v h=>by simp [valueAt] at h
theorem DI.step {fs ss:List Str} {alo blo bhi ii j:Nat} {kvs:List (Int×Value)} {s:Str} {t0:Tok} (h:DI fs ss alo blo bhi ii kvs) (h1:alo≤ii) (h2:blo≤j) (h3:j<bhi) (e1:fs[ii]? = some s) (e2:ss[j]? = some s) :
  ∃ (k0 i0 j0:Nat) (t:Tok),(valueAt kvs ((j:Int)-1)).getD (.int 0 t0)=.int (k0:Int) t∧i0+(k0+1)=ii+1∧j0+(k0+1)=j+1∧Blk fs ss alo (ii+1) blo bhi i0 j0 (k0+1):=by
 cases q:valueAt kvs ((j:Int)-1) with
 | none=>exact ⟨0,ii,j,t0,rfl,rfl,rfl,(wg h1 (Nat.le_succ _) h2 (Nat.le_of_lt h3)).snoc (kq1 23169387041) (by assumption) e1 e2⟩
 | some v =>
  refine E5_6 (h _ _ q) fun j' k i0 j0 t hj zB hk hi hj0 hb=>?_;obtain rfl:=zB;have hjj:j'+1=j:=by exact (kq2 26031240688655768929185) hj
  refine ⟨k,i0,j0,t,rfl,by exact (kq3 832989818440034404417) hi,by exact (kq4 28621350910433632842206446471233) hj0 hjj,(hb.wide (Nat.le_succ _)).snoc (s:=s) ((kq3 777437804889229377) hi) ((kq5 28020438786197625967469503657892959297) h3 hj hj0) ?_ ?_⟩
  ·rw [hi];exact e1
  ·rw [show j0+k=j by exact (kq4 26768810145832555589519425) hj0 hjj];exact e2
theorem DI.one {fs ss:List Str} {alo blo bhi ii j k i0 j0:Nat} {t:Tok} (hk:1≤k) (h1:i0+k=ii) (h2:j0+k=j+1) (hb:Blk fs ss alo ii blo bhi i0 j0 k):DI fs ss alo blo bhi ii [((j:Int),.int (k:Int) t)]:=fun jj v h=>by
 unfold valueAt at h;by_cases e:((j:Int)=jj)
 ·subst e;simp at h;exact ⟨j,k,i0,j0,t,rfl,h.symm,hk,h1,h2,hb⟩
 ·simp [e] at h
theorem NoM.next {fs ss:List Str} {alo ii blo bhi:Nat} (h:NoM fs ss alo ii blo bhi) (h2:∀ j s,blo≤j→j<bhi→fs[ii]? = some s→ss[j]? ≠ some s):NoM fs ss alo (ii+1) blo bhi:=fun i j s a b c d e=>by
 rcases Nat.lt_succ_iff_lt_or_eq.mp b with z | z
 ·exact h i j s a z c d e
 ·subst z;exact h2 j s c d e
theorem bkv_at {bs:List (Str×Addr)} {ss:List Str} (hb:bs.map (·.1)=ss) (hn:ss.Nodup) {s:Str} :
  (s∉ss∧valueAt (bkv bs) s=none)∨∃ (j:Nat) (l:Addr),ss[j]? = some s∧(∀ j',ss[j']? = some s→j'=j)∧bs[j]? = some (s,l)∧valueAt (bkv bs) s=some (.ref l):=by
 by_cases h:s∈ss
 ·right;obtain ⟨j,hj⟩:=List.mem_iff_getElem?.mp h;rw [← hb,S9] at hj;cases q:bs[j]? with
  | none=>rw [q] at hj;cases hj
  | some p =>
   rw [q] at hj;have e:p.1=s:=aO hj;have hjs:ss[j]? = some s:=by rw [← hb,S9,q];exact congrArg some e
   refine ⟨j,p.2,hjs,fun j' hj'=>?_,by rw [← e];exact q,?_⟩
   ·have l1:=(List.getElem?_eq_some_iff.mp hjs)
    have l2:=(List.getElem?_eq_some_iff.mp hj')
    obtain ⟨l1,x1⟩:=l1;obtain ⟨l2,x2⟩:=l2;rcases Nat.lt_trichotomy j' j with z | z | z
    ·exact absurd (x2.trans x1.symm) (List.pairwise_iff_getElem.mp hn j' j l2 l1 z)
    ·exact z
    ·exact absurd (x1.trans x2.symm) (List.pairwise_iff_getElem.mp hn j j' l1 l2 z)
   ·refine valueAt_of_get (i:=j) (by rw [nY,hb];exact hn) ?_;unfold bkv;rw [S9,q,← e];rfl
 ·left;exact ⟨h,ug (by rw [nY,hb];exact h)⟩
theorem nmAt {l:List (Str×Tok)} {i:Nat} {p:Str×Tok} (h:l[i]? = some p):(nmL l)[i]? = some p.1:=by unfold nmL;rw [S9,h];rfl
noncomputable abbrev aJ (w:World) (kvs:List (Int×Value)):Obj→Prop:=fun o=>o.IsDictOf (intKind pw w) kvs
theorem Cells.inR {τ:PH} {G L:List H7} {p:H7} (h:Cells τ (G++L)) (hp:p∈L):∃ o,τ p.1=some o∧p.2 o:=h.at_ p (O6 _ hp)
noncomputable def FindS (L0:List H7) (a b bc j:Addr) (fs ss:List Str) (alo ahi blo bhi:Nat) (t1 t2 t3 t4:Tok) (bi bj bk:Nat) (τ':PH) (m':Lo):Prop :=
 Cells τ' ([(ecl bc (R9 "set.__contains__" j))]++L0)∧(∃ ta tb tc,vl m' "besti" (.int bi ta)∧vl m' "bestj" (.int bj tb)∧vl m' "bestsize" (.int bk tc)) ∧
 Blk fs ss alo ahi blo bhi bi bj bk∧(bk=0→NoM fs ss alo ahi blo bhi)∧vl m' "a" (.ref a)∧vl m' "b" (.ref b)∧vl m' "isbjunk" (.ref bc) ∧
 vl m' "alo" (.int alo t1)∧vl m' "ahi" (.int ahi t2)∧vl m' "blo" (.int blo t3)∧vl m' "bhi" (.int bhi t4)
theorem smFind {w:World} {os:OsState} (x dx a b:Addr) (first second:List (Str×Tok)) (ja jb:Nat) (mb oc:Value) (e j p:Addr) (bs:List (Str×Addr)) (hl1:first.length≤8) (hl2:second.length≤8) (hbs:bs.map (·.1)=nmL second) (hnd:(nmL second).Nodup)
  (alo ahi blo bhi:Nat) (t1 t2 t3 t4:Tok) (h1:alo≤ahi) (h2:ahi≤first.length) (h3:blo≤bhi) (h4:bhi≤second.length) :
  U4 w os 6 (.ref 316) ⟨[.ref x,.int alo t1,.int ahi t2,.int blo t3,.int bhi t4],[]⟩ ((ecl a (G3 (strValues first) ja))::smC w x dx a b second jb mb oc e j p bs)
   (fun v L'=>∃ mm d i jj k ti tj tk,v=.ref mm∧L'=(ecl mm (T7 d [.int ((i:Nat):Int) ti,.int ((jj:Nat):Int) tj,.int ((k:Nat):Int) tk]))::(ecl d emptyDict)::(ecl a (G3 (strValues first) ja))::smC w x dx a b second jb mb oc e j p bs ∧
    Blk (nmL first) (nmL second) alo ahi blo bhi i jj k∧(k=0→NoM (nmL first) (nmL second) alo ahi blo bhi)):=by
 intro τ hC;refine Z7 (RX:=fun v τ'=>∃ L',Cells τ' L'∧False) k316 cd316 rfl (binds:=[(G4 "self",.ref x),(G4 "alo",.int alo t1),(G4 "ahi",.int ahi t2),(G4 "blo",.int blo t3),(G4 "bhi",.int bhi t4)]) (V9 (fun P=>by kernel_rfl)) fun A L hr=>?_;let c0:Cx:=cx w os A fd316 316 L;show W c0 (execs _ c0.env) _ (upd (upd (upd (upd (upd (fun O=>none) (G4 "self") (.ref x)) (G4 "alo") (.int alo t1)) (G4 "ahi") (.int ahi t2)) (G4 "blo") (.int blo t3)) (G4 "bhi") (.int bhi t4)) _ _;have hq:(cx w os A fd316 316 L).A.handled=none:=hr.quiet;have hr5:Room 5 (cx w os A fd316 316 L).A:=hr;generalize hL0:((ecl a (G3 (strValues first) ja))::smC w x dx a b second jb mb oc e j p bs:List H7)=L0 at hC ⊢;refine W7 fun Q X hQ=>?_;have ga:∀ {τ':PH} {G:List H7},Cells τ' (G++L0)→τ' a=some (G3 (strValues first) ja):=fun h=>by
  obtain ⟨_,z,rfl⟩:=h.inR (p:=(ecl a (G3 (strValues first) ja))) (by rw [← hL0];simp);exact z
 have gb:∀ {τ':PH} {G:List H7},Cells τ' (G++L0)→τ' b=some (G3 (strValues second) jb):=fun h=>by
  obtain ⟨_,z,rfl⟩:=h.inR (p:=(ecl b (G3 (strValues second) jb))) (by rw [← hL0];delta smC;exact mC (mL (mC (mC mH))));exact z
 have gx:∀ {τ':PH} {G:List H7},Cells τ' (G++L0)→τ' x=some (instObj 362 dx):=fun h=>by
  obtain ⟨_,z,rfl⟩:=h.inR (p:=(ecl x (instObj 362 dx))) (by rw [← hL0];delta smC;exact mC (mL mH));exact z
 have gdx:∀ {τ':PH} {G:List H7},Cells τ' (G++L0)→∃ od,τ' dx=some od∧S8 od (Y6 a b mb oc e j p):=fun h=>h.inR (p:=(dx,fC (Y6 a b mb oc e j p))) (by rw [← hL0];delta smC;exact mC (mL (mC mH)));have ge:∀ {τ':PH} {G:List H7},Cells τ' (G++L0)→∃ o,τ' e=some o∧o.IsDictOf (strKind pw w) (bkv bs):=fun h=>h.inR (p:=(e,T6 w (bkv bs))) (by rw [← hL0];delta smC;exact mC (mL (mC (mC (mC mH)))));have gj:∀ {τ':PH} {G:List H7},Cells τ' (G++L0)→∃ o,τ' j=some o∧o.SetObjOf (strKind pw w) (fun O=>false) 0:=fun h=>h.inR (p:=(j,Y8 w)) (by rw [← hL0];delta smC;exact mC (mL (mC (mC (mC (mC mH))))));have gi:∀ {τ':PH} {G:List H7} {k:Nat} {q:Str×Addr},Cells τ' (G++L0)→bs[k]? = some q→∃ t j,τ' q.2=some (G3 [.int (k:Int) t] j):=fun {τ'} {G} {k} {q} h hk=>by
  have z:=wM 0 bs k q hk;rw [Nat.zero_add] at z;obtain ⟨o,z,t,j,rfl⟩:=h.inR (p:=(q.2,ixC k)) (by rw [← hL0];exact H9 _ (O6 _ z));exact (fc t j z)
 have hC0:Cells τ ([]++L0):=hC;refine G8 (gdx hC0) fun od edx hf=>?_;refine G6 (O7 (O8 fun O=>?_));refine G6 (mZ (U6 (G7 (R7 ?_))));walk_at "nm";refine T9 (gx hC0) edx hf (v:=.ref a) (by kernel_rfl) (by kernel_rfl) rfl ?_;refine G7 (R7 ?_);walk_at "nm";refine T9 (gx hC0) edx hf (v:=.ref b) (by kernel_rfl) (by kernel_rfl) rfl ?_;refine G7 (R7 ?_);walk_at "nm";refine T9 (gx hC0) edx hf (v:=.ref e) (by kernel_rfl) (by kernel_rfl) rfl ?_;refine G7 (tC (R7 ?_));walk_at "nm";refine T9 (gx hC0) edx hf (v:=.ref j) (by kernel_rfl) (by kernel_rfl) rfl ?_;refine G8 (gj hC0) fun oj ej Dj=>?_;refine Ek ej Dj fun bc hbc=>?_;refine H5 ⟨leB rfl,fun tp htp=>?_⟩;have hC1:=(hC0.new (P:=(·=R9 "set.__contains__" j)) hbc rfl).keep (o:=H4 [.ref a,.ref b,.ref e,.ref bc]) htp;have etp:G5 (G5 τ bc (R9 "set.__contains__" j)) tp (H4 [.ref a,.ref b,.ref e,.ref bc]) tp=some (H4 [.ref a,.ref b,.ref e,.ref bc]):=I4;generalize G5 (G5 τ bc (R9 "set.__contains__" j)) tp (H4 [.ref a,.ref b,.ref e,.ref bc])=τ1 at hC1 etp ⊢;refine eE hq etp rfl rfl ?_;refine M4 (I8 (M4 (I8 (M4 (I8 (M4 (I8 (aj ?_))))))));refine G6 (K6 (J0 ?_));walk_at "nm";refine aL (eX (I6 ?_));refine Q7 rfl ?_;refine G9 (G6 (K6 (J0 ?_)));walk_at "nm";refine aL (eX (I6 ?_));refine Q7 rfl ?_;refine G9 (G6 ?_);refine jz (names:=[G4 "besti",G4 "bestj",G4 "bestsize"]) (U6 (G7 ?_));walk_at "nm";refine G7 ?_;walk_at "nm";refine G7 (J9 fun tz=>H5 ⟨leB rfl,fun tp2 htp2=>?_⟩);refine ie hq I4 rfl ?_;refine M4 (aP (M4 (aP (M4 (aP (aj ?_))))));have hC2:=hC1.keep (o:=H4 [.int (alo:Int) t1,.int (blo:Int) t3,.int 0 tz]) htp2;generalize G5 τ1 tp2 (H4 [.int (alo:Int) t1,.int (blo:Int) t3,.int 0 tz])=τ2 at hC2 ⊢;refine G6 (K3 (mz fun jd hjd=>?_));have hC3:=hC2.new (P:=aJ w []) hjd (nU (c:=cx w os A fd316 316 L) (knd:=intKind pw w));generalize G5 τ2 jd emptyDict=τ3 at hC3 ⊢;refine G6 (K3 (V6 (H5 ⟨leB rfl,fun nl hnl=>?_⟩)));let L1:List H7:=[(jd,aJ w []),(ecl nl (G3 [] 0)),(ecl bc (R9 "set.__contains__" j))]++L0;have hC4:Cells (G5 τ3 nl (G3 [] 0)) L1:=(hC3.new (P:=(·=G3 [] 0)) hnl rfl).perm (List.Perm.swap _ _ _);generalize G5 τ3 nl (G3 [] 0)=τ4 at hC4 ⊢;have hfl:(nmL first).length=first.length:=I3 _
 have hsl:(nmL second).length=second.length:=I3 _;obtain ⟨FS,hFS⟩:∃ FS:Nat→Nat→PN,∀ {i' j' k' τ m},FS i' j' k' τ m↔FindS L0 a b bc j (nmL first) (nmL second) alo ahi blo bhi t1 t2 t3 t4 i' j' k' τ m:=⟨_,Iff.rfl⟩
 refine G6 (aB (K8 (I9 (.type "range") (I2 rfl (G7 ?_)))));walk_at "nm";refine G7 ?_;walk_at "nm";refine H5 (xR fun ro u1 u2 u3 hro=>?_);refine opJ (fun i τ' m'=>(∃ kvs jd,Cells τ' ([(jd,aJ w kvs),(ecl nl (G3 [] 0)),(ecl bc (R9 "set.__contains__" j))]++L0)∧DI (nmL first) (nmL second) alo blo bhi (alo+i) kvs∧vl m' "j2len" (.ref jd)) ∧
  (∃ (bi bj bk:Nat) (ta tb tc:Tok),Blk (nmL first) (nmL second) alo ahi blo bhi bi bj bk∧(bk=0→NoM (nmL first) (nmL second) alo (alo+i) blo bhi)∧vl m' "besti" (.int bi ta)∧vl m' "bestj" (.int bj tb)∧vl m' "bestsize" (.int bk tc)) ∧
  vl m' "a" (.ref a)∧vl m' "b" (.ref b)∧vl m' "b2j" (.ref e)∧vl m' "isbjunk" (.ref bc)∧vl m' "nothing" (.ref nl) ∧
  vl m' "alo" (.int alo t1)∧vl m' "ahi" (.int ahi t2)∧vl m' "blo" (.int blo t3)∧vl m' "bhi" (.int bhi t4)) fun J hJ=>?_
 refine R0 _ _ _ (gD hq I4 (kq1 166627249) ((kq2 5460074745921) h1) ((kq2 192105879782625608624382401) hl1 h2)) (Q0 J (hJ.mpr ⟨(X8 [] jd (hC4.keep hro) (DI.nil _ _ _ _ _ _) ?_),(I6_5 alo blo 0 t1 t3 tz (wg (K9 _) h1 (K9 _) h3) (fun O i j s a b=>(by exact ((kq2 26030220857409) a b).elim)) ?_ ?_ (by show _=some (Value.int (0:Int) tz);walk_at "mv")),?_,?_,?_,?_,?_,?_,?_,?_,?_⟩) (fun O O O O b hb=>(by cases hb)) ?_ ?_);any_goals walk_at "mv"
 ·rintro i v τ' m' hi ⟨tv,rfl⟩ h;refine iy (hJ.mp h) fun zB zC ma mb me mc mn m5 m6 m7 m8=>?_;refine aV zB fun kvs jd hCS hDI m0=>?_;clear zB;refine E6_5 zC fun bi bj bk ta tb tc hB hN mi mj mk=>?_;clear zC;have hai:alo+i<ahi:=by lia
  obtain ⟨q,hqf⟩:∃ q,first[alo+i]? = some q:=⟨_,Z6 q3⟩;have hfs:(nmL first)[alo+i]? = some q.1:=nmAt hqf;refine oE (v:=.int ((alo+i:Nat):Int) tv) (by kernel_rfl) ?_;refine G8 (hCS.at_ (jd,aJ w kvs) (by exact mL mH)) fun ojd ejd Djd=>?_;refine G6 (K3 (R7 ?_));walk_at "nm";refine Ex (knd:=intKind pw w) ejd Djd fun jg hjg=>?_;have hCg:=hCS.new (P:=(·=R9 "dict.get" jd)) hjg rfl;generalize G5 τ' jg (R9 "dict.get" jd)=τ5 at hCg ⊢;refine G6 (K3 (mz fun nd hndn=>?_));let L2:List H7:=[(nd,aJ w []),(ecl jg (R9 "dict.get" jd)),(jd,aJ w kvs),(ecl nl (G3 [] 0)),(ecl bc (R9 "set.__contains__" j))]++L0;have hCd:Cells (G5 τ5 nd emptyDict) L2:=hCg.new (P:=aJ w []) hndn (nU (c:=cx w os A fd316 316 L) (knd:=intKind pw w));have hnd6:G5 τ5 nd emptyDict nd=some emptyDict:=I4;generalize G5 τ5 nd emptyDict=τ6 at hCd hnd6 ⊢;refine G8 (ge hCd) fun oe ee De=>?_;have hfit:first[alo+i]?.map (fun p=>Value.str p.1 p.2)=some (.str q.1 q.2):=by rw [hqf];rfl
  refine G6 (aB (N7 ?_));walk_at "nm";refine T8 ee F.plainAttrs_dict F.slot_dict_get F.type_dict_get (I2 rfl (G7 (T5 ?_ fun O O=>.inl rfl))) (cI De).1 (cI De).2;walk_at "nm";walk_at "nm";refine ⟨(I5 "list" _ (TyAt.ref (ga hCd) rfl) list_getitem_lookup),Y5 (ga hCd) (svl (lq (by assumption))) (Z8 (by rw [Q8];exact q3)) (x:=.str q.1 q.2) (by unfold strValues;rw [S9];exact hfit) ?_⟩;refine G7 ?_;walk_at "nm";refine H5 (Cw (knd:=strKind pw w) (k:=q.1) ee De (by show (q.1==q.1)=true;simp) ?_);have hcase:∃ (la:Addr) (vs:List Value) (n0:Nat),(valueAt (bkv bs) q.1).getD (.ref nl)=.ref la∧τ6 la=some (G3 vs n0)∧la≠nd∧((vs=[]∧∀ jx:Nat,(nmL second)[jx]? ≠ some q.1)∨∃ (jx:Nat) (tj:Tok),vs=[.int (jx:Int) tj]∧(nmL second)[jx]? = some q.1∧∀ j':Nat,(nmL second)[j']? = some q.1→j'=jx):=by
   have ndn:∀ {la:Addr} {vs:List Value} {n0:Nat},τ6 la=some (G3 vs n0)→la≠nd:=fun h z=>by
    rw [z,hnd6] at h;have:=congrArg Obj.cls (aO h);simp at this
   rcases bkv_at (s:=q.1) hbs hnd with ⟨hno,hv⟩ | ⟨jx,l,hj,hu,hb,hv⟩
   ·have en:=hCd.is (a:=nl) (o:=G3 [] 0) (by exact mL (mC (mC (mC mH))));exact gG nl [] 0 (by rw [hv];rfl) en (ndn en) (.inl ⟨rfl,fun jx h=>hno (aW h)⟩)
   ·refine dK (gi hCd hb) fun tj j0 el=>?_;exact gG l _ j0 (by rw [hv];rfl) el (ndn el) (.inr (X8 jx tj rfl hj hu))
  obtain ⟨la,vs,n0,hla,ela,hlnd,hcase⟩:=hcase;refine cast1 hla ?_;have hvl:vs.length≤1:=by
   rcases hcase with ⟨rfl,_⟩ | ⟨_,_,rfl,_⟩ <;> simp
  refine opJ (fun ix τ' m'=>(∃ kn,Cells τ' ([(nd,aJ w kn),(ecl jg (R9 "dict.get" jd)),(jd,aJ w kvs),(ecl nl (G3 [] 0)),(ecl bc (R9 "set.__contains__" j))]++L0)∧DI (nmL first) (nmL second) alo blo bhi (alo+i+1) kn∧(ix=0→kn=[])∧τ' la=some (G3 vs n0)) ∧
   (∃ (bi bj bk:Nat) (ta tb tc:Tok),Blk (nmL first) (nmL second) alo ahi blo bhi bi bj bk∧(bk=0→NoM (nmL first) (nmL second) alo (alo+i) blo bhi)∧(bk=0→ix=1→NoM (nmL first) (nmL second) alo (alo+i+1) blo bhi)∧vl m' "besti" (.int bi ta)∧vl m' "bestj" (.int bj tb)∧vl m' "bestsize" (.int bk tc)) ∧
   vl m' "a" (.ref a)∧vl m' "b" (.ref b)∧vl m' "b2j" (.ref e)∧vl m' "isbjunk" (.ref bc)∧vl m' "nothing" (.ref nl) ∧
   vl m' "alo" (.int alo t1)∧vl m' "ahi" (.int ahi t2)∧vl m' "blo" (.int blo t3)∧vl m' "bhi" (.int bhi t4)∧vl m' "newj2len" (.ref nd)∧vl m' "j2lenget" (.ref jg)∧vl m' "i" (.int ((alo+i:Nat):Int) tv)) fun K hK=>?_
  refine R0 _ _ _ (Iters.list hq ela) (Q0 K (hK.mpr ⟨(Q0 [] hCd (DI.nil _ _ _ _ _ _) (fun O=>rfl) ela),(je bi bj bk ta tb tc hB hN (fun O h=>(by cases h)) ?_ ?_ ?_),?_,?_,?_,?_,?_,?_,?_,?_,?_,?_,?_,?_⟩) ?_ ?_ ?_);any_goals walk_at "mv"
  ·rintro ix τ' m' h b hb;obtain ⟨zE,_⟩:=hK.mp h;refine dw zE fun kn O O O z=>?_;clear zE;rw [I7] at hb;rw [hb,z,ela]
  ·rintro ix v τ' m' hix hv h;refine E0_14 (hK.mp h) fun zF zG ma mb me mc mn m5 m6 m7 m8 m9 m10 m11=>?_;refine dw zF fun kn hCn hDn hkn eln=>?_;clear zF;refine E6_6 zG fun bi bj bk ta tb tc hB hN hN1 mi mj mk=>?_;clear zG;rcases hcase with ⟨rfl,_⟩ | ⟨jx,tj,rfl,hjx,hju⟩
   ·exact absurd hix (Nat.not_lt_zero _)
   have hix0:ix=0:=by simp at hix;assumption
   subst hix0;obtain rfl:v=.int (jx:Int) tj:=by simpa using hv.symm
   obtain rfl:=hkn rfl;refine I8 ?_;refine G6 (K6 (J0 ?_));walk_at "nm";walk_at "nm";refine bL (I6 ?_);by_cases c1:(jx:Int)<(blo:Int)
   ·refine ju c1 ?_;refine G6 (pD ?_);refine hK.mpr ⟨(Q0 [] hCn hDn (fun h=>by cases h) eln),(je bi bj bk ta tb tc hB hN (fun h0 O=>(hN h0).next fun j' s' a1 a2 e1 e2=>?_) ?_ ?_ ?_),?_,?_,?_,?_,?_,?_,?_,?_,?_,?_,?_,?_⟩;any_goals walk_at "mv"
    rw [hfs] at e1;cases e1;have:=hju j' e2;exact (kq3 27311081689057233825) c1 a1 this
   refine jD c1 ?_;refine G9 (G6 (K6 (J0 ?_)));walk_at "nm";walk_at "nm";refine W.geI (I6 ?_);by_cases c2:(bhi:Int)≤(jx:Int)
   ·refine ju c2 ?_;refine G6 (sr ?_);refine G6 (K3 ?_);walk_at "nm";refine G9 (hJ.mpr ⟨(X8 [] nd ?_ ?_ ?_),(I6_5 bi bj bk ta tb tc hB (fun h0=>?_) ?_ ?_ ?_),?_,?_,?_,?_,?_,?_,?_,?_,?_⟩);any_goals walk_at "mv"
    ·exact Cells.drop (A:=[(nd,aJ w [])]) (B:=[(ecl nl (G3 [] 0)),(ecl bc (R9 "set.__contains__" j))]++L0) (Cells.drop (A:=[(nd,aJ w [])]) (B:=[(jd,aJ w kvs),(ecl nl (G3 [] 0)),(ecl bc (R9 "set.__contains__" j))]++L0) hCn)
    ·exact hDn
    ·show NoM _ _ alo (alo+(i+1)) blo bhi;exact (hN h0).next fun j' s' a1 a2 e1 e2=>by
      rw [hfs] at e1;cases e1;have:=hju j' e2;exact (kq3 27312208620796414881) c2 a2 this
   refine jD c2 ?_;have ejg:=hCn.is (a:=jg) (o:=R9 "dict.get" jd) (by exact mL (mC mH));refine G8 (hCn.at_ (jd,aJ w kvs) (by exact mL (mC (mC mH)))) fun ojd ejd Djd=>?_;refine G8 (hCn.at_ (nd,aJ w []) (by exact mL mH)) fun ond end_ Dnd=>?_;refine G9 (G6 (cZ (M3 (K8 ?_))));walk_at "nm";refine mU (cls:="builtin_function_or_method") (id:="dict.get") (x:=jd) (.inl rfl) (G7 (M3 ?_));walk_at "nm";refine J9 fun tk1=>cB fun tk2=>G7 (J9 fun tk3=>H5 ⟨ejg,Dh (knd:=intKind pw w) (k:=(jx:Int)-1) ejg ejd Djd (by show (_==_)=true;simp) ?_⟩);refine E4_4 (hDI.step (t0:=tk3) (kq2 21563425) ((kq2 704881642867617) c1) ((kq2 740065981402017) c2) hfs hjx) fun k0 i0 j0 tv0 hgd hi0 hj0 hB0=>?_;refine cast1 hgd ?_;refine J9 fun tk4=>Y4 fun tk5=>I8 (tW ?_);walk_at "nm";walk_at "nm";refine rZ (knd:=intKind pw w) (k:=(jx:Int)) end_ Dnd (by show (_==_)=true;simp) (by simp) fun o' D'=>?_;have ek:((k0:Int)+1)=((k0+1:Nat):Int):=rfl;rw [ek] at D' ⊢;have hst:stored ([]:List (Int×Value)) (jx:Int) (.int ((k0+1:Nat):Int) tk5)=[((jx:Int),.int ((k0+1:Nat):Int) tk5)]:=vN (by simp);rw [hst] at D';let L3:List H7:=[(nd,aJ w [((jx:Int),.int ((k0+1:Nat):Int) tk5)]),(ecl jg (R9 "dict.get" jd)),(jd,aJ w kvs),(ecl nl (G3 [] 0)),(ecl bc (R9 "set.__contains__" j))]++L0;have hCp:Cells (G5 τ' nd o') L3:=Cells.put hCn D';have hDp:DI (nmL first) (nmL second) alo blo bhi (alo+i+1) [((jx:Int),.int ((k0+1:Nat):Int) tk5)]:=DI.one (leB rfl) hi0 hj0 hB0;have elp:G5 τ' nd o' la=some (G3 [.int (jx:Int) tj] n0):=P0 hlnd eln;generalize G5 τ' nd o'=τ7 at hCp elp ⊢;refine G6 (K6 (J0 ?_));walk_at "nm";walk_at "nm";refine fO (I6 ?_);by_cases c3:(bk:Int)<((k0+1:Nat):Int)
   ·refine ju c3 ?_;refine G6 ?_;refine jz (names:=[G4 "besti",G4 "bestj",G4 "bestsize"]) (U6 (G7 (M3 (M3 ?_))));walk_at "nm";walk_at "nm";refine cB fun tq1=>J9 fun tq2=>Y4 fun tq3=>castI (show ((alo+i:Nat):Int)-((k0+1:Nat):Int)+1=(i0:Int) by exact (kq4 9708981641960272861507653493070183371718721) hi0) (G7 (M3 (M3 ?_)));walk_at "nm";walk_at "nm";refine cB fun tq4=>J9 fun tq5=>Y4 fun tq6=>castI (show (jx:Int)-((k0+1:Nat):Int)+1=(j0:Int) by exact (kq3 9259206430397293912417527557836587073) hj0) (G7 ?_);walk_at "nm";refine H5 ⟨leB rfl,fun tp2 htp2=>?_⟩;refine ie hq I4 rfl ?_;refine M4 (aP (M4 (aP (M4 (aP (aj ?_))))));refine G9 (G9 (hK.mpr ⟨(Q0 _ (hCp.keep htp2) hDp (fun h=>by cases h) (O9 htp2 elp)),(je i0 j0 (k0+1) tq3 tq6 tk5 (hB0.wide (by assumption)) (fun h0=>by exact ((kq1 795396609) h0).elim) (fun h0 O=>by exact ((kq1 795396609) h0).elim) ?_ ?_ ?_),?_,?_,?_,?_,?_,?_,?_,?_,?_,?_,?_,?_⟩));any_goals walk_at "mv"
   ·refine jD c3 ?_;refine G9 (G9 (hK.mpr ⟨(Q0 _ hCp hDp (fun h=>by cases h) elp),(je bi bj bk ta tb tc hB hN (fun h0 O=>by exact ((kq2 27329030216445594529) c3 h0).elim) ?_ ?_ ?_),?_,?_,?_,?_,?_,?_,?_,?_,?_,?_,?_,?_⟩));any_goals walk_at "mv"
  ·rintro τ' m' h;refine E0_14 (hK.mp h) fun zI zJ ma mb me mc mn m5 m6 m7 m8 m9 m10 m11=>?_;refine dw zI fun kn hCn hDn hkn eln=>?_;clear zI;refine E6_6 zJ fun bi bj bk ta tb tc hB hN hN1 mi mj mk=>?_;clear zJ;refine G9 (G6 (K3 ?_));walk_at "nm";refine G9 (hJ.mpr ⟨(X8 kn nd ?_ ?_ ?_),(I6_5 bi bj bk ta tb tc hB (fun h0=>?_) ?_ ?_ ?_),?_,?_,?_,?_,?_,?_,?_,?_,?_⟩);any_goals walk_at "mv"
   ·exact Cells.drop (A:=[(nd,aJ w kn)]) (B:=[(ecl nl (G3 [] 0)),(ecl bc (R9 "set.__contains__" j))]++L0) (Cells.drop (A:=[(nd,aJ w kn)]) (B:=[(jd,aJ w kvs),(ecl nl (G3 [] 0)),(ecl bc (R9 "set.__contains__" j))]++L0) hCn)
   ·exact hDn
   ·show NoM _ _ alo (alo+(i+1)) blo bhi;rcases hcase with ⟨rfl,hno⟩ | ⟨_,_,rfl,_⟩
    ·exact (hN h0).next fun j' s' O O e1 e2=>by
      rw [hfs] at e1;cases e1;exact hno j' e2
    ·exact hN1 h0 rfl
 ·rintro τ' m' h;refine iy (hJ.mp h) fun zK zL ma mb me mc mn m5 m6 m7 m8=>?_;refine aV zK fun kvs jd hCS hDI m0=>?_;clear zK;refine E6_5 zL fun bi bj bk ta tb tc hB hN mi mj mk=>?_;clear zL;have en:alo+(((ahi:Int)-(alo:Int))).toNat=ahi:=by lia
  rw [en] at hN;have hF:FS bi bj bk τ' m' :=
   hFS.mpr ⟨Cells.drop (A:=[]) (B:=[(ecl bc (R9 "set.__contains__" j))]++L0) (Cells.drop (A:=[]) (B:=[(ecl nl (G3 [] 0)),(ecl bc (R9 "set.__contains__" j))]++L0) hCS),(lG ta tb tc mi mj mk),hB,hN,ma,mb,mc,m5,m6,m7,m8⟩
  clear hCS hB hN mi mj mk m0 ma mb me mc mn m5 m6 m7 m8;refine G9 (G6 (W.cut (fun fl τ1 m1=>fl=.next∧∃ bi bj bk,FS bi bj bk τ1 m1) (fun Q X hQ=>jB (fun n τ1 m1=>∃ bj bk,FS n bj bk τ1 m1) bi (fc bj bk hF) ?_) ?_))
  ·intro bi τ1 m1 zM;refine dK zM fun bj bk hF=>?_;clear zM;have hF':=hF;refine iy (hFS.mp hF) fun hC zN hB hN ma mb mc m5 m6 m7 m8=>?_;refine dG zN fun ta tb tc mi mj mk=>?_;clear zN;have hb':=hB;refine bY hb' fun b1 b2 b3 b4 b5=>?_;clear hb';have stop:W (cx w os A fd316 316 L) (execs [] (cx w os A fd316 316 L).env) τ1 m1 Q NoX:=G9 (hQ ⟨rfl,(kY bi bj bk hF')⟩);refine aQ (U3 (J0 ?_));walk_at "nm";walk_at "nm";refine fO (I6 ?_);by_cases c1:(alo:Int)<(bi:Int)
   ·refine iT c1 ?_;refine U3 (J0 ?_);walk_at "nm";walk_at "nm";refine fO (I6 ?_);by_cases c2:(blo:Int)<(bj:Int)
    ·refine iT c2 ?_;obtain ⟨qa,hqa⟩:∃ q,first[bi-1]? = some q:=⟨_,Z6 ((kq5 26097689892809994683000410177) h2 b2 c1)⟩;obtain ⟨qb,hqb⟩:∃ q,second[bj-1]? = some q:=⟨_,Z6 ((kq5 26097689892809994683000410177) h4 b4 c2)⟩
     have hqa':(first.map fun p=>Value.str p.1 p.2)[bi-1]? = some (.str qa.1 qa.2):=by rw [S9,hqa];rfl
     have hqb':(second.map fun p=>Value.str p.1 p.2)[bj-1]? = some (.str qb.1 qb.2):=by rw [S9,hqb];rfl
     have eia:((bi:Int)-1)=((bi-1:Nat):Int):=qj ((kq2 22076332084129) c1);have ejb:((bj:Int)-1)=((bj-1:Nat):Int):=qj ((kq2 22076332084129) c2);have ebc:=hC.is (a:=bc) (o:=R9 "set.__contains__" j) (by exact mL mH);refine G8 (gj hC) fun oj ej Dj=>?_;refine U3 (jC (U7 (K8 ?_)));walk_at "nm";refine mU (cls:="builtin_function_or_method") (id:="set.__contains__") (x:=j) (.inl rfl) (G7 (T5 ?_ fun O O=>.inl rfl));walk_at "nm";refine M3 ?_;walk_at "nm";refine J9 fun u1=>cB fun u2=>?_;rw [ejb];refine ⟨(I5 "list" _ (TyAt.ref (gb hC) rfl) list_getitem_lookup),Y5 (gb hC) (svl (lq (by assumption))) (Z8 (by rw [Q8];lia)) (x:=.str qb.1 qb.2) hqb' ?_⟩;refine H5 ⟨ebc,nM (knd:=strKind pw w) (k:=qb.1) ebc ej Dj (by decide) (by show (_==_)=true;simp) rfl (I6 ?_)⟩;refine bT rfl ?_;refine U3 (J0 (T5 ?_ fun O O=>.inl rfl));walk_at "nm";refine M3 ?_;walk_at "nm";refine J9 fun u3=>cB fun u4=>?_;rw [eia];refine ⟨(I5 "list" _ (TyAt.ref (ga hC) rfl) list_getitem_lookup),Y5 (ga hC) (svl (lq (by assumption))) (Z8 (by rw [Q8];lia)) (x:=.str qa.1 qa.2) hqa' ?_⟩;refine T5 ?_ fun O O=>.inl rfl;walk_at "nm";refine M3 ?_;walk_at "nm";refine J9 fun u5=>cB fun u6=>?_;rw [ejb];refine ⟨(I5 "list" _ (TyAt.ref (gb hC) rfl) list_getitem_lookup),Y5 (gb hC) (svl (lq (by assumption))) (Z8 (by rw [Q8];lia)) (x:=.str qb.1 qb.2) hqb' ?_⟩;refine mG (I6 ?_);by_cases c4:qa.1=qb.1
     ·refine bT (beq_iff_eq.mpr c4) ?_;refine ik ?_;refine bT rfl ?_;refine G6 ?_;refine jz (names:=[G4 "besti",G4 "bestj",G4 "bestsize"]) (U6 (G7 (M3 ?_)));walk_at "nm";refine J9 fun v1=>cB fun v2=>G7 (M3 ?_);walk_at "nm";refine J9 fun v3=>cB fun v4=>G7 (M3 ?_);walk_at "nm";refine J9 fun v5=>Y4 fun v6=>?_;rw [eia,ejb,show ((bk:Int)+1)=((bk+1:Nat):Int) from rfl];refine H5 ⟨leB rfl,fun tp2 htp2=>?_⟩;refine ie hq I4 rfl ?_;refine M4 (aP (M4 (aP (M4 (aP (aj ?_))))));have hBn:Blk (nmL first) (nmL second) alo ahi blo bhi (bi-1) (bj-1) (bk+1):=by
       refine Blk.cons (s:=qa.1) ?_ (by lia) (by lia) (nmAt hqa) (by rw [nmAt hqb,c4]);rw [show bi-1+1=bi by lia,show bj-1+1=bj by lia];exact hB
      refine G9 (H6 (bi-1) (by lia) (fc (bj-1) (bk+1) (hFS.mpr ⟨hC.keep htp2,(lG v2 v4 v6 ?_ ?_ ?_),hBn,(fun h=>by exact ((kq1 795396609) h).elim),?_,?_,?_,?_,?_,?_,?_⟩)));any_goals walk_at "mv"
     ·refine bF (beq_false_of_ne c4) ?_;exact stop
    ·refine iF c2 ?_;exact stop
   ·refine iF c1 ?_;exact stop
  ·intro fl τ1 m1 zP;obtain ⟨zQ,zz⟩:=zP;refine lK zz fun bi bj bk hF=>?_;clear zz;obtain rfl:=zQ;refine G6 (W.cut (fun fl τ1 m1=>fl=.next∧∃ bi bj bk,FS bi bj bk τ1 m1) (fun Q X hQ=>jB (fun n τ1 m1=>∃ bi bj bk,n=ahi-(bi+bk)∧FS bi bj bk τ1 m1) (ahi-(bi+bk)) (R0 bi bj bk rfl hF) ?_) ?_)
   ·intro n τ1 m1 zR;refine R6 zR fun bi bj bk zS hF=>?_;clear zR;obtain rfl:=zS;have hF':=hF;refine iy (hFS.mp hF) fun hC zT hB hN ma mb mc m5 m6 m7 m8=>?_;refine dG zT fun ta tb tc mi mj mk=>?_;clear zT;have hb':=hB;refine bY hb' fun b1 b2 b3 b4 b5=>?_;clear hb';have stop:W (cx w os A fd316 316 L) (execs [] (cx w os A fd316 316 L).env) τ1 m1 Q NoX:=G9 (hQ ⟨rfl,(kY bi bj bk hF')⟩);have eia:((bi:Int)+(bk:Int))=((bi+bk:Nat):Int):=rfl;have ejb:((bj:Int)+(bk:Int))=((bj+bk:Nat):Int):=rfl;refine aQ (U3 (J0 (M3 ?_)));walk_at "nm";walk_at "nm";refine Y4 fun u1=>?_;walk_at "nm";rw [eia];refine bL (I6 ?_);by_cases c1:((bi+bk:Nat):Int)<(ahi:Int)
    ·refine iT c1 ?_;refine U3 (J0 (M3 ?_));walk_at "nm";walk_at "nm";refine Y4 fun u2=>?_;walk_at "nm";rw [ejb];refine bL (I6 ?_);by_cases c2:((bj+bk:Nat):Int)<(bhi:Int)
     ·refine iT c2 ?_;obtain ⟨qa,hqa⟩:∃ q,first[bi+bk]? = some q:=⟨_,Z6 ((kq4 796387561639580887273537) h2 c1)⟩;obtain ⟨qb,hqb⟩:∃ q,second[bj+bk]? = some q:=⟨_,Z6 ((kq4 796387561639580887273537) h4 c2)⟩
      have hqa':(first.map fun p=>Value.str p.1 p.2)[bi+bk]? = some (.str qa.1 qa.2):=by rw [S9,hqa];rfl
      have hqb':(second.map fun p=>Value.str p.1 p.2)[bj+bk]? = some (.str qb.1 qb.2):=by rw [S9,hqb];rfl
      have ebc:=hC.is (a:=bc) (o:=R9 "set.__contains__" j) (by exact mL mH);refine G8 (gj hC) fun oj ej Dj=>?_;refine U3 (jC (U7 (K8 ?_)));walk_at "nm";refine mU (cls:="builtin_function_or_method") (id:="set.__contains__") (x:=j) (.inl rfl) (G7 (T5 ?_ fun O O=>.inl rfl));walk_at "nm";refine M3 ?_;walk_at "nm";walk_at "nm";refine Y4 fun u3=>?_;rw [ejb];refine ⟨(I5 "list" _ (TyAt.ref (gb hC) rfl) list_getitem_lookup),Y5 (gb hC) (svl (lq (by assumption))) (Z8 (by rw [Q8];exact (kq4 796387561639580887273537) h4 c2)) (x:=.str qb.1 qb.2) hqb' ?_⟩;refine H5 ⟨ebc,nM (knd:=strKind pw w) (k:=qb.1) ebc ej Dj (by decide) (by show (_==_)=true;simp) rfl (I6 ?_)⟩;refine bT rfl ?_;refine U3 (J0 (T5 ?_ fun O O=>.inl rfl));walk_at "nm";refine M3 ?_;walk_at "nm";walk_at "nm";refine Y4 fun u4=>?_;rw [eia];refine ⟨(I5 "list" _ (TyAt.ref (ga hC) rfl) list_getitem_lookup),Y5 (ga hC) (svl (lq (by assumption))) (Z8 (by rw [Q8];exact (kq4 796387561639580887273537) h2 c1)) (x:=.str qa.1 qa.2) hqa' ?_⟩;refine T5 ?_ fun O O=>.inl rfl;walk_at "nm";refine M3 ?_;walk_at "nm";walk_at "nm";refine Y4 fun u5=>?_;rw [ejb];refine ⟨(I5 "list" _ (TyAt.ref (gb hC) rfl) list_getitem_lookup),Y5 (gb hC) (svl (lq (by assumption))) (Z8 (by rw [Q8];exact (kq4 796387561639580887273537) h4 c2)) (x:=.str qb.1 qb.2) hqb' ?_⟩;refine mG (I6 ?_);by_cases c4:qa.1=qb.1
      ·refine bT (beq_iff_eq.mpr c4) ?_;refine ik ?_;refine bT rfl ?_;refine G6 (iC mk (by kernel_rfl) (J9 fun v1=>iU fun v2=>?_));rw [show ((bk:Int)+1)=((bk+1:Nat):Int) from rfl];have hBn:Blk (nmL first) (nmL second) alo ahi blo bhi bi bj (bk+1):=hB.snoc (s:=qa.1) ((kq3 24339775859367790657) c1) ((kq3 24339775859367790657) c2) (nmAt hqa) (by rw [nmAt hqb,c4]);refine G9 (H6 (ahi-(bi+(bk+1))) ((kq3 27395691786017190941892754196545) c1) (R0 bi bj (bk+1) rfl (hFS.mpr ⟨hC,(lG ta tb v2 ?_ ?_ ?_),hBn,(fun h=>by exact ((kq1 795396609) h).elim),?_,?_,?_,?_,?_,?_,?_⟩)));any_goals walk_at "mv"
      ·refine bF (beq_false_of_ne c4) ?_;exact stop
     ·refine iF c2 ?_;exact stop
    ·refine iF c1 ?_;exact stop
   ·intro fl τ1 m1 zV;obtain ⟨zW,zz⟩:=zV;refine lK zz fun bi bj bk hF=>?_;clear zz;obtain rfl:=zW;refine G6 (W.cut (fun fl τ1 m1=>fl=.next∧∃ bi bj bk,FS bi bj bk τ1 m1) (fun Q X hQ=>jB (fun n τ1 m1=>∃ bi bj bk,FS bi bj bk τ1 m1) 0 (kY bi bj bk hF) ?_) ?_)
    ·intro n τ1 m1 zX;refine lK zX fun bi bj bk hF=>?_;clear zX;have hF':=hF;refine iy (hFS.mp hF) fun hC zY hB hN ma mb mc m5 m6 m7 m8=>?_;refine dG zY fun ta tb tc mi mj mk=>?_;clear zY;have hb':=hB;refine bY hb' fun b1 b2 b3 b4 b5=>?_;clear hb';have stop:W (cx w os A fd316 316 L) (execs [] (cx w os A fd316 316 L).env) τ1 m1 Q NoX:=G9 (hQ ⟨rfl,(kY bi bj bk hF')⟩);refine aQ (U3 (J0 ?_));walk_at "nm";walk_at "nm";refine fO (I6 ?_);by_cases c1:(alo:Int)<(bi:Int)
     ·refine iT c1 ?_;refine U3 (J0 ?_);walk_at "nm";walk_at "nm";refine fO (I6 ?_);by_cases c2:(blo:Int)<(bj:Int)
      ·refine iT c2 ?_;obtain ⟨qb,hqb⟩:∃ q,second[bj-1]? = some q:=⟨_,Z6 ((kq5 26097689892809994683000410177) h4 b4 c2)⟩
       have hqb':(second.map fun p=>Value.str p.1 p.2)[bj-1]? = some (.str qb.1 qb.2):=by rw [S9,hqb];rfl
       have ejb:((bj:Int)-1)=((bj-1:Nat):Int):=qj ((kq2 22076332084129) c2);have ebc:=hC.is (a:=bc) (o:=R9 "set.__contains__" j) (by exact mL mH);refine G8 (gj hC) fun oj ej Dj=>?_;refine U3 (U7 (K8 ?_));walk_at "nm";refine mU (cls:="builtin_function_or_method") (id:="set.__contains__") (x:=j) (.inl rfl) (G7 (T5 ?_ fun O O=>.inl rfl));walk_at "nm";refine M3 ?_;walk_at "nm";refine J9 fun u1=>cB fun u2=>?_;rw [ejb];refine ⟨(I5 "list" _ (TyAt.ref (gb hC) rfl) list_getitem_lookup),Y5 (gb hC) (svl (lq (by assumption))) (Z8 (by rw [Q8];lia)) (x:=.str qb.1 qb.2) hqb' ?_⟩;refine H5 ⟨ebc,nM (knd:=strKind pw w) (k:=qb.1) ebc ej Dj (by decide) (by show (_==_)=true;simp) rfl (I6 ?_)⟩;refine bF rfl ?_;exact stop
      ·refine iF c2 ?_;exact stop
     ·refine iF c1 ?_;exact stop
    ·intro fl τ1 m1 zA1;obtain ⟨zB1,zz⟩:=zA1;refine lK zz fun bi bj bk hF=>?_;clear zz;obtain rfl:=zB1;refine G6 (W.cut (fun fl τ1 m1=>fl=.next∧∃ bi bj bk,FS bi bj bk τ1 m1) (fun Q X hQ=>jB (fun n τ1 m1=>∃ bi bj bk,FS bi bj bk τ1 m1) 0 (kY bi bj bk hF) ?_) ?_)
     ·intro n τ1 m1 zC1;refine lK zC1 fun bi bj bk hF=>?_;clear zC1;have hF':=hF;refine iy (hFS.mp hF) fun hC zD1 hB hN ma mb mc m5 m6 m7 m8=>?_;refine dG zD1 fun ta tb tc mi mj mk=>?_;clear zD1;have hb':=hB;refine bY hb' fun b1 b2 b3 b4 b5=>?_;clear hb';have stop:W (cx w os A fd316 316 L) (execs [] (cx w os A fd316 316 L).env) τ1 m1 Q NoX:=G9 (hQ ⟨rfl,(kY bi bj bk hF')⟩);have eia:((bi:Int)+(bk:Int))=((bi+bk:Nat):Int):=rfl;have ejb:((bj:Int)+(bk:Int))=((bj+bk:Nat):Int):=rfl;refine aQ (U3 (J0 (M3 ?_)));walk_at "nm";walk_at "nm";refine Y4 fun u1=>?_;walk_at "nm";rw [eia];refine bL (I6 ?_);by_cases c1:((bi+bk:Nat):Int)<(ahi:Int)
      ·refine iT c1 ?_;refine U3 (J0 (M3 ?_));walk_at "nm";walk_at "nm";refine Y4 fun u2=>?_;walk_at "nm";rw [ejb];refine bL (I6 ?_);by_cases c2:((bj+bk:Nat):Int)<(bhi:Int)
       ·refine iT c2 ?_;obtain ⟨qb,hqb⟩:∃ q,second[bj+bk]? = some q:=⟨_,Z6 ((kq4 796387561639580887273537) h4 c2)⟩
        have hqb':(second.map fun p=>Value.str p.1 p.2)[bj+bk]? = some (.str qb.1 qb.2):=by rw [S9,hqb];rfl
        have ebc:=hC.is (a:=bc) (o:=R9 "set.__contains__" j) (by exact mL mH);refine G8 (gj hC) fun oj ej Dj=>?_;refine U3 (U7 (K8 ?_));walk_at "nm";refine mU (cls:="builtin_function_or_method") (id:="set.__contains__") (x:=j) (.inl rfl) (G7 (T5 ?_ fun O O=>.inl rfl));walk_at "nm";refine M3 ?_;walk_at "nm";walk_at "nm";refine Y4 fun u3=>?_;rw [ejb];refine ⟨(I5 "list" _ (TyAt.ref (gb hC) rfl) list_getitem_lookup),Y5 (gb hC) (svl (lq (by assumption))) (Z8 (by rw [Q8];exact (kq4 796387561639580887273537) h4 c2)) (x:=.str qb.1 qb.2) hqb' ?_⟩;refine H5 ⟨ebc,nM (knd:=strKind pw w) (k:=qb.1) ebc ej Dj (by decide) (by show (_==_)=true;simp) rfl (I6 ?_)⟩;refine bF rfl ?_;exact stop
       ·refine iF c2 ?_;exact stop
      ·refine iF c1 ?_;exact stop
     ·intro fl τ1 m1 zF1;obtain ⟨zG1,zz⟩:=zF1;refine lK zz fun bi bj bk hF=>?_;clear zz;obtain rfl:=zG1;refine iy (hFS.mp hF) fun hC zH1 hB hN ma mb mc m5 m6 m7 m8=>?_;refine dG zH1 fun ta tb tc mi mj mk=>?_;clear zH1;refine G6 (Y9 (K8 (I9 (.ref 255) ?_)));refine I2 (by kernel_rfl) (G7 ?_);walk_at "nm";refine G7 ?_;walk_at "nm";refine G7 ?_;walk_at "nm";have hCe:Cells τ1 ([]++L0):=hC.right;refine H5 (V7 (Eg (.int (bi:Int) ta) (.int (bj:Int) tb) (.int (bk:Int) tc)) (hr5.less (by decide)) hCe (fun v τ2 L' hC3 hv=>?_) fun O O O O h=>h.elim);refine ao hv fun mm d zI1 zJ1=>?_;clear hv;obtain rfl:=zI1;obtain rfl:=zJ1;exact hQ (H6 τ2 (fun O O z=>z) (H6 _ hC3 (I8_4 mm d bi bj bk ta tb tc rfl rfl hB hN)))
open PySem.Calls Builtin in
section
variable {c:Cx} {τ:PH} {m:Lo} {X:PV}
theorem yF {e:Bool} {Q:PV} (h:∀ b,τ b=none→Q (.ref b) (G5 τ b (methodObj (.ref 209) (.ref 255))) m):W c (getAttr (.ref 255) (G4 "_make") e) τ m Q X:=fun s hs=>by
 have hf:findCls (H3 c.w.params) (.ref 255) (.type "type") (G4 "_make")=some (.get (.builtin "classmethod.__get__") (.ref 211) .none (.ref 255)):=by kernel_rfl
 have hp:recIn (H3 c.w.params) 211 "classmethod"=some [.ref 209,.bool false]:=by kernel_rfl
 refine cls_bind hs.top (m5 _) hf ?_;have st0:=Step.toks hs (s.toks+1);have st:=Step.new (o:=methodObj (.ref 209) (.ref 255)) st0.at_ rfl;exact wpAny_call (cm_get (s:={ s with toks:=s.toks+1 }) hs.top hp (handed_on rfl (I5 _ m (st0.trans st) (h _ hs.fresh))))
end
theorem xN {w:World} {os:OsState} (t:Addr) (i j k:Value):U4 w os 2 (.ref 209) ⟨[.ref 255,.ref t],[]⟩ [(ecl t (H4 [i,j,k]))]
  (fun v L'=>∃ mm d,v=.ref mm∧L'=[(ecl mm (T7 d [i,j,k])),(ecl d emptyDict),(ecl t (H4 [i,j,k]))]):=by
 intro τ hC;refine Z7 (RX:=fun v τ'=>∃ L',Cells τ' L'∧False) k209 cd209 rfl (binds:=[(G4 "cls",.ref 255),(G4 "iterable",.ref t)]) (V9 (fun P=>by kernel_rfl)) fun A L hr=>?_;let c0:Cx:=cx w os A fd209 209 L;show W c0 (execs _ c0.env) _ (upd (upd (fun O=>none) (G4 "cls") (.ref 255)) (G4 "iterable") (.ref t)) _ _;refine W7 fun Q X hQ=>?_;have et:=hC.is (a:=t) (o:=H4 [i,j,k]) (by exact mH);refine G6 (O7 (O8 fun O=>?_));refine G6 (K3 (N7 ?_));refine I9 (.type "tuple") ?_;refine uy (v:=.builtin "tuple.__new__") ?_ ?_ ?_ ?_ ?_
 ·kernel_rfl
 ·kernel_rfl
 ·kernel_rfl
 ·kernel_rfl
 refine I2 rfl (G7 ?_);walk_at "nm";refine G7 ?_;walk_at "nm";refine H5 (uF et (by simp) fun d mm hd hmm hne=>?_);have h1:(G5 τ d emptyDict) mm=none:=by unfold G5;rw [if_neg (Ne.symm hne)];exact hmm
 have hC2:=(hC.new (P:=(·=emptyDict)) hd rfl).new (P:=(·=T7 d [i,j,k])) h1 rfl;generalize G5 (G5 τ d emptyDict) mm (T7 d [i,j,k])=τ1 at hC2 ⊢;have em:=hC2.is (a:=mm) (o:=T7 d [i,j,k]) (by exact mH);refine G6 (K6 (J0 (K8 (I9 (.builtin "len") (I2 rfl (G7 ?_))))));walk_at "nm";refine H5 (Ac em (by simp) fun u1=>J9 fun u2=>iW (I6 ?_));refine Q7 (by simp) ?_;refine G9 (G6 (Y9 ?_));walk_at "nm";exact hQ (H6 τ1 (fun O O z=>z) (H6 _ hC2 (I5 mm d rfl rfl)))
theorem slot_map_next:Slot "map" "__next__" "map.__next__" :=
 Slot.of (owner:="map") (n:="__next__") (by rw [typeLookup_type,builtinLookup_eq_fast];kernel_rfl) (by decide +kernel) (by decide +kernel) (by decide +kernel) (.inl (by decide +kernel)) (by rw [isSubtype_type];kernel_rfl)
theorem wJ:Slot "map" "__iter__" "map.__iter__" :=
 Slot.of (owner:="map") (n:="__iter__") (by rw [typeLookup_type,builtinLookup_eq_fast];kernel_rfl) (by decide +kernel) (by decide +kernel) (by decide +kernel) (.inl (by decide +kernel)) (by rw [isSubtype_type];kernel_rfl)
theorem wO:entryFor PySem.table "map.__next__"=some Builtin.«map.__next__»:=by first | exact entryFor_of_fast (by kernel_rfl) | exact entryFor_of_tree (by kernel_rfl)
theorem vg (a:Value):argsOk "map.__next__" ⟨[a],[]⟩:=by unfold argsOk;kernel_rfl
theorem Bd (a:Value):argsOk "map.__iter__" ⟨[a],[]⟩:=by unfold argsOk;kernel_rfl
theorem zx:typeLookup (.type "map") "__len__"=pure none:=by rw [typeLookup_type,builtinLookup_eq_fast];kernel_rfl
theorem CT:typeLookup (.type "map") "__length_hint__"=pure none:=by rw [typeLookup_type,builtinLookup_eq_fast];kernel_rfl
theorem wU:mroOf (.type "map")=pure [.type "map",.type "object"]:=by rw [mroOf_type];kernel_rfl
theorem Bk:typeLookup (.type "map") "__new__"=pure (some (.builtin "map.__new__")):=by rw [typeLookup_type,builtinLookup_eq_fast];kernel_rfl
theorem Er (a b:Value):checkTypeCall "map" ⟨[a,b],[]⟩=pure ():=by kernel_rfl
theorem Bu (a b:Value):checkBuiltinCall "map.__new__" ⟨[.type "map",a,b],[]⟩=pure ():=by kernel_rfl
theorem Es:entryFor PySem.table "map.__new__"=some Builtin.«map.__new__»:=by first | exact entryFor_of_fast (by kernel_rfl) | exact entryFor_of_tree (by kernel_rfl)
theorem An:isSubtype (.type "map") (.type "map")=pure true:=by rw [isSubtype_type];kernel_rfl
theorem yW:Slot "map" "__init__" "object.__init__" :=
 Slot.of (owner:="object") (n:="__init__") (by rw [typeLookup_type,builtinLookup_eq_fast];kernel_rfl) (by decide +kernel) (by decide +kernel) (by decide +kernel) (.inl (by decide +kernel)) (by rw [isSubtype_type];kernel_rfl)
theorem En:TypeCalled "map" "map.__new__" "object.__init__" :=
 ⟨by decide +kernel,by decide +kernel,⟨_,_,wU⟩,madeBy_type wU Bk (by decide +kernel),by decide +kernel,by rw [isSubtype_type];kernel_rfl,yW⟩
noncomputable abbrev X5 (tp f:Addr):Obj:={ cls:=.type "map",data:=.fields #[.ref tp,.ref f] }
theorem Ea (f l:Addr) (items:Array Value) (n:Nat) :
  Meets (Builtin.«map.__new__» ⟨[.type "map",.ref f,.ref l],[]⟩) (fun O R s=>s.heap.get? l=some { cls:=.type "list",dict:=none,data:=.seq items n,slots:=#[] } ∧
   R (.ok (.ret (.ref (((s.heap.push { cls:=.type "list_iterator",data:=.fields #[.ref l,.int 0 0] }).push { cls:=.type "tuple",data:=.seq #[.ref s.heap.objs.size] }).objs.size))))
    { s with heap:=((s.heap.push { cls:=.type "list_iterator",data:=.fields #[.ref l,.int 0 0] }).push { cls:=.type "tuple",data:=.seq #[.ref s.heap.objs.size] }).push (X5 (s.heap.push { cls:=.type "list_iterator",data:=.fields #[.ref l,.int 0 0] }).objs.size f) }) :=
 .of_wp fun prog w A R s h=>by
  obtain ⟨hp,g,d,tk,os⟩:=s;obtain ⟨hl,h⟩:=h;have hsub:=An;have hL:Heap.IsList (Shared.heap ⟨hp,g,d,tk,os⟩) l items:=⟨_,hl,rfl,n,rfl⟩
  wp_walk using AutoSeq1.wpAny_loadPart' hl,wpAny_pyIter_list hL
  exact ⟨_,rfl,h⟩
section
variable {c:Cx} {τ:PH} {m:Lo} {X:PV}
theorem W.cMap {f l:Addr} {vs:List Value} {n:Nat} {Q:PV} (hl:τ l=some (G3 vs n))
  (h:∀ it tp mp,τ it=none→τ tp=none→τ mp=none→it≠tp→it≠mp→tp≠mp→Q (.ref mp) (G5 (G5 (G5 τ it (liO (.ref l) 0)) tp (H4 [.ref it])) mp (X5 tp f)) m):W c (PySem.call (.type "map") [.ref f,.ref l]) τ m Q X:=fun s hs=>by
 have hz1:(s.heap.push (liO (.ref l) 0)).objs.size=s.heap.objs.size+1:=Heap.size_push ..;have hz2:((s.heap.push (liO (.ref l) 0)).push (H4 [.ref s.heap.objs.size])).objs.size=s.heap.objs.size+2:=by rw [Heap.size_push,hz1]
 refine callType_new En (by decide) (Er _ _) (Bu _ _) (fun obj=>by unfold argsOk;kernel_rfl) Es (Ea f l vs.toArray n) ⟨hs.keep _ _ hl,?_⟩;have nn:∀ k,s.heap.objs.size≤k→s.heap.get? k=none:=fun k hk=>Heap.get?_none_of_le hk;have k3:∀ b o,s.heap.get? b=some o→(((s.heap.push (liO (.ref l) 0)).push (H4 [.ref s.heap.objs.size])).push (X5 (s.heap.push (liO (.ref l) 0)).objs.size f)).get? b=some o:=fun b o e=>X6 _ (X6 _ (X6 _ e));have g1:(((s.heap.push (liO (.ref l) 0)).push (H4 [.ref s.heap.objs.size])).push (X5 (s.heap.push (liO (.ref l) 0)).objs.size f)).get? s.heap.objs.size=some (liO (.ref l) 0):=X6 _ (X6 _ (aN _ rfl));have g2:(((s.heap.push (liO (.ref l) 0)).push (H4 [.ref s.heap.objs.size])).push (X5 (s.heap.push (liO (.ref l) 0)).objs.size f)).get? (s.heap.objs.size+1)=some (H4 [.ref s.heap.objs.size]):=by
  have:=aN (s.heap.push (liO (.ref l) 0)) (o:=H4 [.ref s.heap.objs.size]) rfl;rw [hz1] at this;exact X6 _ this
 have g3:(((s.heap.push (liO (.ref l) 0)).push (H4 [.ref s.heap.objs.size])).push (X5 (s.heap.push (liO (.ref l) 0)).objs.size f)).get? (s.heap.objs.size+2)=some (X5 (s.heap.objs.size+1) f):=by
  have:=aN ((s.heap.push (liO (.ref l) 0)).push (H4 [.ref s.heap.objs.size])) (o:=X5 (s.heap.push (liO (.ref l) 0)).objs.size f) rfl;rw [hz2,hz1] at this;rw [hz1];exact this
 have st:=jG hs (jG hs (jG hs (jt (k:=s.toks) hs k3) (nn _ (K9 _)) g1) (nn _ (Nat.le_succ _)) g2) (nn _ (kq1 690042913)) g3;have hq:=h s.heap.objs.size (s.heap.objs.size+1) (s.heap.objs.size+2) (hs.none (nn _ (K9 _))) (hs.none (nn _ (Nat.le_succ _))) (hs.none (nn (s.heap.objs.size+2) (Nat.le_add_right _ 2))) (Nat.ne_of_lt (Nat.lt_succ_self _)) (Nat.ne_of_lt (Nat.lt_succ_of_lt (Nat.lt_succ_self _))) (Nat.ne_of_lt (Nat.lt_succ_self _));show Shared.TypeIs _ _ _∧V3 c τ s Q _ _;have e:((s.heap.push { cls:=.type "list_iterator",data:=.fields #[.ref l,.int 0 0] }).push { cls:=.type "tuple",data:=.seq #[.ref s.heap.objs.size] }).objs.size=s.heap.objs.size+2:=hz2;rw [e];exact ⟨⟨_,g3,rfl⟩,⟨_,m,st,hq⟩⟩
end
noncomputable def Cx.in2 (c:Cx):Cx:={ c with A:=c.A.in1 }
section
variable {c:Cx} {τ:PH} {m:Lo} {X:PV}
theorem At.in2 {s:Shared} (h:At c τ m s):At c.in2 τ m s:=⟨h.top,h.keep,h.low,h.mine,h.ns,h.cell,h.apart,h.noBoth,h.gens,h.os,h.fr,h.nofr⟩
theorem At.out2 {s:Shared} (h:At c.in2 τ m s):At c τ m s:=⟨h.top,h.keep,h.low,h.mine,h.ns,h.cell,h.apart,h.noBoth,h.gens,h.os,h.fr,h.nofr⟩
theorem Step.out2 {s s':Shared} {τ':PH} {m':Lo} (h:Step c.in2 τ s τ' m' s'):Step c τ s τ' m' s':=⟨h.at_.out2,h.keep,h.fresh⟩
theorem Aj {mp tp f it l:Addr} {vs:List Value} {n i:Nat} {x:Value} {Q:Option Value→PH→Lo→Prop} (hm:τ mp=some (X5 tp f)) (ht:τ tp=some (H4 [.ref it])) (hi:τ it=some (liO (.ref l) i)) (hl:τ l=some (G3 vs n)) (hx:vs[i]? = some x)
  (h:W c.in2 (PySem.call (.ref f) [x]) (G5 τ it (liO (.ref l) ((i+1:Nat):Int))) m (fun v=>Q (some v)) NoX):W c (pyNext (.ref mp)) τ m Q X:=fun s hs=>by
 have gm:=hs.keep _ _ hm;have gt:=hs.keep _ _ ht;have gi:=hs.keep _ _ hi;have hT:s.TypeIs (.ref mp) "map":=⟨_,gm,rfl⟩
 unfold pyNext;refine wpAny_bind (wpAny_attempt (wpAny_callSpecial?_slot (name:=G4 "__next__") hT slot_map_next (wpAny_call_entry slot_map_next hT wO ?_ (vg _))));show wpAny _ _ (field (.ref mp) 0>>=_) _ _ s;refine wpAny_bind (wpAny_field gm rfl (x:=.ref tp) rfl ?_);show wpAny _ _ (seqItems? (.ref tp)>>=_) _ _ s;refine wpAny_bind (wpAny_seqItems gt rfl ?_);dsimp only;rw [← Array.forIn_toList,List.forIn_cons];have hTi:s.TypeIs (.ref it) "list_iterator":=⟨_,gi,rfl⟩
 unfold Builtin.SmallTypes.nextOf;refine wpAny_bind (wpAny_bind (wpAny_bind (wpAny_holding (wpAny_bind (wpAny_callSpecial?_slot (name:=G4 "__next__") hTi slot_listiter_next (wpAny_call_entry slot_listiter_next hTi entry_listiter_next ?_ (args_listiter_next _)))))));show wpAny _ _ (field (.ref it) 0>>=_) _ _ s;refine wpAny_bind (wpAny_field gi rfl (x:=.ref l) rfl ?_);show wpAny _ _ (if (Value.ref l==Value.none)=true then _ else _) _ _ s;rw [if_neg (show ¬ ((Value.ref l==Value.none)=true) from Bool.false_ne_true)];show wpAny _ _ (field (.ref it) 1>>=_) _ _ s;refine wpAny_bind (wpAny_field gi rfl (x:=.int i 0) rfl ?_);show wpAny _ _ (seqItems? (.ref l)>>=_) _ _ s;refine wpAny_bind (wpAny_seqItems (hs.keep _ _ hl) rfl ?_);have hx':vs.toArray[i]? = some x:=by simpa using hx
 simp only [Int.toNat_natCast,hx'];refine wpAny_bind (wpAny_setField gi rfl (by simp) (wpAny_pure ⟨x,rfl,wpAny_pure (wpAny_pure ?_)⟩));have st1:Step c τ s (G5 τ it (liO (.ref l) ((i+1:Nat):Int))) m { s with heap:=s.heap.update it (Obj.mapFields (·.setIfInBounds 1 (rawInt ((i:Int)+1)))) }:=by
  refine Step.put (k:=s.toks) hs hi (Heap.SameBut.update ..) ?_;rw [Heap.get?_update_self _ gi rfl];rfl
 have hne:mp≠it:=fun z=>by
  rw [z,hi] at hm;have:=congrArg Obj.cls (aO hm);simp at this
 have gm1:=st1.at_.keep mp (X5 tp f) (P0 hne hm);refine wpAny_pure ?_;refine wpAny_bind (wpAny_field gm1 rfl (x:=.ref f) rfl ?_);refine wpAny_bind (wpAny_holding ?_);refine wpAny_mono (h _ st1.at_.in2) (fun v s2 q=>?_) (fun e s2 q=>?_)
 ·obtain ⟨τ',m',st2,q⟩:=q;exact wpAny_bind (wpAny_letGo (wpAny_pure ⟨v,rfl,wpAny_pure ⟨τ',m',st1.trans st2.out2,q⟩⟩))
 ·obtain ⟨_,_,_,q⟩:=q;exact q.elim
end
noncomputable def du (τ:PH) (a:Addr):PH:=fun b=>if b=a then none else τ b
theorem xJ {τ:PH} {a b:Addr} (h:b≠a):du τ a b=τ b:=by unfold du;rw [if_neg h]
theorem pJ {τ:PH} {a:Addr}:∀ b o,du τ a b=some o→b≠a∧τ b=some o:=fun b o h=>by
 unfold du at h;split at h
 ·cases h
 ·rename_i q;exact ⟨q,h⟩
section
variable {c:Cx} {τ:PH} {m:Lo} {X:PV}
theorem xM {s:Shared} {h':Heap} {k:Nat} {a:Addr} {o:Obj} (hs:At c τ m s) (ha:τ a=some o) (hx:Heap.ExtBut a s.heap h'):Step c τ s (du τ a) m { s with heap:=h',toks:=k }:=by
 obtain ⟨hl,hno⟩:=hs.low a o ha;obtain ⟨hn,hc⟩:=cU (s':={ s with heap:=h',toks:=k }) hs fun b o hb e=>dJ (hx b o (by rintro rfl;exact hno hb) e);have hfr:=hs.nofr a o ha;refine ⟨⟨fun b o e=>hx b o (fun z=>absurd hl (Nat.not_le.mpr (by rw [← z];exact jy e))) (hs.top b o e),fun b o e=>?_,fun b o e=>hs.low b o (pJ b o e).2,hs.mine,hn,hc,hs.apart,hs.noBoth,hs.gens,hs.os,hs.fr.keep fun b o hb e hn=>⟨o,hx b o (fun z=>hfr (z▸hb)) e,hn⟩,fun b o e=>hs.nofr b o (pJ b o e).2⟩,fun b o e h1 h2=>?_,fun b hb=>?_⟩
 ·obtain ⟨h1,h2⟩:=pJ b o e;exact hx b o h1 (hs.keep b o h2)
 ·exact .same (hx b o (fun z=>by rw [z,ha] at h1;cases h1) e)
 ·obtain ⟨o,e⟩:=Option.isSome_iff_exists.mp hb;left;rw [(pJ b o e).2];rfl
theorem Dc {mp tp f it l:Addr} {vs:List Value} {n i:Nat} {Q:Option Value→PH→Lo→Prop} (hq:c.A.handled=none) (hm:τ mp=some (X5 tp f)) (ht:τ tp=some (H4 [.ref it])) (hi:τ it=some (liO (.ref l) i)) (hl:τ l=some (G3 vs n)) (hx:vs[i]? = none)
  (h:Q none (du τ it) m):W c (pyNext (.ref mp)) τ m Q X:=fun s hs=>by
 have gm:=hs.keep _ _ hm;have gt:=hs.keep _ _ ht;have gi:=hs.keep _ _ hi;have hT:s.TypeIs (.ref mp) "map":=⟨_,gm,rfl⟩
 unfold pyNext;refine wpAny_bind (wpAny_attempt (wpAny_callSpecial?_slot (name:=G4 "__next__") hT slot_map_next (wpAny_call_entry slot_map_next hT wO ?_ (vg _))));show wpAny _ _ (field (.ref mp) 0>>=_) _ _ s;refine wpAny_bind (wpAny_field gm rfl (x:=.ref tp) rfl ?_);show wpAny _ _ (seqItems? (.ref tp)>>=_) _ _ s;refine wpAny_bind (wpAny_seqItems gt rfl ?_);dsimp only;rw [← Array.forIn_toList,List.forIn_cons];refine wpAny_bind (wpAny_bind (wpAny_bind (wpAny_holding (wpAny_nextOf_list_end (by exact hq) ⟨_,gi,rfl,rfl⟩ (Z9 hs hl) (by simpa using hx) fun h' e hxt hst=>?_))));refine G8 hst fun oe ge hce=>?_;clear hst;refine wpAny_bind (wpAny_isInstance (T:="StopIteration") (b:=true) ⟨_,ge,hce⟩ isSubtype_stop ?_);exact wpAny_pure ⟨_,m,xM (k:=s.toks) hs hi hxt,h⟩
end
section
variable {c:Cx} {τ:PH} {m:Lo} {X:PV}
noncomputable def MapEnd (c:Cx) (τ:PH) (m:Lo) (s:Shared) (it:Addr) (n:Nat) (J:Nat→List Value→PH→Prop) (r:Result) (s':Shared):Prop:=match r with
 | .ok (.ret v)=>v=.none∧∃ acc τ3,J n acc τ3∧Step c τ s (du τ3 it) m s'
 | _=>False
theorem Do {S mp tp f it l:Addr} {vs:List Value} {n:Nat} {J:Nat→List Value→PH→Prop} (hq:c.A.handled=none) (hvs:vs.length≤1000)
  (hk:∀ i acc τ',J i acc τ'→τ' mp=some (X5 tp f)∧τ' tp=some (H4 [.ref it])∧τ' it=some (liO (.ref l) i)∧τ' l=some (G3 vs n))
  (hs:∀ i x acc τ',vs[i]? = some x→J i acc τ'→W c.in2.in2 (PySem.call (.ref f) [x]) (G5 τ' it (liO (.ref l) ((i+1:Nat):Int))) m (fun v τ'' m''=>m''=m∧(∃ k,τ'' S=some (G3 acc k))∧acc.length≤1000∧∀ k,J (i+1) (acc++[v]) (G5 τ'' S (G3 (acc++[v]) k))) NoX) :
  ∀ (k i:Nat) (acc:List Value) (τ':PH) (s:Shared),vs.length-i=k→i≤vs.length→At c τ' m s→J i acc τ'→codeAny (MM c) c.A (.builtin "list.extend.loop" ⟨[.ref S,.ref mp,.none],[]⟩) (MapEnd c τ' m s it vs.length J) s:=by
 intro k;induction k with
 | zero =>
  intro i acc τ' s hk0 hi hat hJ;have hin:i=vs.length:=by exact (kq2 24807869705145409) hk0 hi
  subst hin;refine bR (hk _ _ _ hJ) fun a1 a2 a3 a4=>?_;refine codeAny_builtin F.entry_extend_loop ?_;rw [Around.under_plainId F.plain_extend_loop _];show wpAny _ c.A.in1 (pyNext (.ref mp)>>=_) _ _ s;refine wpAny_bind ?_;have z:W c.in2 (pyNext (.ref mp)) τ' m (fun v τ2 m2=>v=none∧m2=m∧τ2=du τ' it) NoX:=Dc (c:=c.in2) hq a1 a2 a3 a4 (List.getElem?_eq_none (K9 _)) ⟨rfl,rfl,rfl⟩;refine wpAny_mono (z s hat.in2) (fun v s' q=>?_) (fun e s' q=>?_)
  ·refine eN q fun τ2 m2 st zB zC zD=>?_;clear q;obtain rfl:=zB;obtain rfl:=zC;obtain rfl:=zD;exact wpAny_pure ⟨rfl,(I5 acc τ' hJ st.out2)⟩
  ·obtain ⟨_,_,_,q⟩:=q;exact q.elim
 | succ k ih =>
  intro i acc τ' s hk0 hi hat hJ;have hlt:i<vs.length:=by exact (kq3 24250337073492511809) hk0 hi
  refine bR (hk _ _ _ hJ) fun a1 a2 a3 a4=>?_;have hx:vs[i]? = some vs[i]:=Z6 hlt;refine codeAny_builtin F.entry_extend_loop ?_;rw [Around.under_plainId F.plain_extend_loop _];show wpAny _ c.A.in1 (pyNext (.ref mp)>>=_) _ _ s;refine wpAny_bind ?_;have z:=Aj (c:=c.in2) (X:=NoX) (Q:=fun v τ2 m2=>∃ w,v=some w∧m2=m∧(∃ k,τ2 S=some (G3 acc k))∧acc.length≤1000∧∀ k,J (i+1) (acc++[w]) (G5 τ2 S (G3 (acc++[w]) k))) a1 a2 a3 a4 hx
   (W.mono (hs i _ acc τ' hx hJ) (fun v τ2 m2 q=>(H6 v rfl q)) fun O O O q=>q)
  refine wpAny_mono (z s hat.in2) (fun v s' q=>?_) (fun e s' q=>?_)
  ·obtain ⟨τ2,m2,st,zz⟩:=q;refine E1_5 zz fun v' zE zF zG hal hJ'=>?_;clear zz;obtain rfl:=zE;obtain rfl:=zF;obtain ⟨k0,hS⟩:=zG;have at':=st.out2.at_;obtain ⟨n',stp⟩:=putL (m:=m2) at' hS (fun xs=>xs.push v') (acc++[v']) (by simp) s'.toks;have gS:=at'.keep _ _ hS;show wpAny _ c.A.in1 (updateSeq S (·.push v')>>=_) _ _ _;refine wpAny_bind ?_;refine wpAny_updateSeq gS rfl (wpAny_pure ⟨plainId_quiet F.plain_extend_loop _,?_⟩) (by show acc.toArray.size≤_;rw [dH,sizeLine_eq];exact q1) (by show (acc.toArray.push v').size≤_;rw [Array.size_push,dH,sizeLine_eq];exact q2);refine codeAny_mono (ih (i+1) (acc++[v']) _ _ (by lia) hlt stp.at_ (hJ' n')) fun r s'' hr=>?_;cases r with
   | error e=>exact hr.elim
   | ok fl =>
    cases fl with
    | ret v =>
     obtain ⟨zH,zz⟩:=hr;refine ao zz fun acc' τ3 h1 h2=>?_;clear zz;obtain rfl:=zH;exact ⟨rfl,(I5 acc' τ3 h1 ((st.out2.trans stp).trans h2))⟩
    | _=>exact hr.elim
  ·obtain ⟨_,_,_,q⟩:=q;exact q.elim
end
theorem yU:entryFor PySem.table "map.__iter__"=some Builtin.«dict_keyiterator.__iter__» :=
 entryFor_alias (id':="dict_keyiterator.__iter__") (by kernel_rfl) (by first | rfl | decide +kernel | (unfold String.splitOn;simp +decide [String.splitOnAux])) (by decide +kernel) (by kernel_rfl)
section
variable {c:Cx} {τ:PH} {m:Lo} {X:PV}
theorem Ca {mp tp f it l:Addr} {vs:List Value} {n:Nat} {Q:PV} (hq:c.A.handled=none) (hvs:vs.length≤1000) (hmp:τ mp=some (X5 tp f)) (J:Addr→Nat→List Value→PH→Prop)
  (h0:∀ S k,τ S=none→J S 0 [] (G5 τ S (G3 [] k)))
  (hk:∀ S i acc τ',J S i acc τ'→τ' mp=some (X5 tp f)∧τ' tp=some (H4 [.ref it])∧τ' it=some (liO (.ref l) i)∧τ' l=some (G3 vs n))
  (hs:∀ S i x acc τ',vs[i]? = some x→J S i acc τ'→W c.in2.in2.in2 (PySem.call (.ref f) [x]) (G5 τ' it (liO (.ref l) ((i+1:Nat):Int))) m (fun v τ'' m''=>m''=m∧(∃ k,τ'' S=some (G3 acc k))∧acc.length≤1000∧∀ k,J S (i+1) (acc++[v]) (G5 τ'' S (G3 (acc++[v]) k))) NoX)
  (hQ:∀ S acc τ',J S vs.length acc τ'→Q (.ref S) (du τ' it) m):W c (PySem.call (.type "list") [.ref mp]) τ m Q X:=fun s hs'=>by
 have hnone:τ s.heap.objs.size=none:=hs'.fresh;have st1:=Step.new (o:=G3 [] 0) hs' rfl;refine callType_codes (Q₁:=fun obj s1=>obj=.ref s.heap.objs.size∧s1={ s with heap:=s.heap.push { cls:=.type "list",data:=.seq #[] } }) F.called_list (F.typeCall_list_1 _) F.entry_list_init (code_list_new _ ⟨rfl,rfl⟩) fun obj s1 h₁=>?_;obtain ⟨rfl,rfl⟩:=h₁;generalize hSz:s.heap.objs.size=S at hnone st1 ⊢;have hS:(s.heap.push { cls:=.type "list",data:=.seq #[] }).get? S=some (G3 [] 0):=by rw [← hSz];exact aN _ rfl
 generalize hH:s.heap.push { cls:=.type "list",data:=.seq #[] }=H at hS st1 ⊢;refine ⟨(H6 _ hS rfl),F.args_list_init_2 _ _,?_⟩;show wpAny _ _ (do let old ← Builtin.List.listItems (.ref S);Builtin.List.listUpdate (.ref S) (fun O=>#[]);letGo old.toList.reverse;Builtin.List.listExtendWith (.ref S) (.ref mp) .none) _ _ _;refine wpAny_bind ?_;unfold Builtin.List.listItems;refine wpAny_bind (wpAny_seqItems hS rfl (wpAny_pure ?_));show wpAny _ _ (updateSeq S (fun O=>#[])>>=fun O=>letGo (#[]:Array Value).toList.reverse>>=fun O=>Builtin.List.listExtendWith (.ref S) (.ref mp) .none) _ _ _;obtain ⟨k1,st2⟩:=putL st1.at_ I4 (fun O=>(#[]:Array Value)) [] (by simp) s.toks;refine wpAny_bind (wpAny_updateSeq hS rfl ?_);have st2:=st1.trans st2;rw [Z0] at st2;have hS2:=st2.at_.keep S _ I4;generalize hH2:({ s with heap:=H }:Shared).heap.update S (Obj.mapSeq fun O=>(#[]:Array Value))=H2 at st2 hS2 ⊢;refine wpAny_bind (wpAny_letGo ?_);have hne:mp≠S:=fun z=>by rw [z,hnone] at hmp;cases hmp
 have hT:Shared.TypeIs { s with heap:=H2 } (.ref mp) "map":=(H6 _ (st2.at_.keep mp _ (P0 hne hmp)) rfl)
 unfold Builtin.List.listExtendWith;refine wpAny_bind (wpAny_typeOf hT ?_);have h1:Builtin.List.listSameRef (.ref S) (.ref mp)=false:=by simp [Builtin.List.listSameRef,Ne.symm hne]
 have h2:(Value.type "map"==Value.type "list")=false:=by decide
 have h3:(Value.type "map"==Value.type "tuple")=false:=by decide
 simp only [h1,h2,h3,Bool.or_false,Bool.false_eq_true,if_false];refine wpAny_bind (wpAny_pyIter_slot hT wJ (wpAny_call_entry wJ hT yU ?_ (Bd _)));show wpAny _ _ (ret (.ref mp)) _ _ _;refine wpAny_pure (H6 _ rfl (X8 "map" _ hT slot_map_next.lookup ?_));refine wpAny_bind (wpAny_holding ?_);unfold Builtin.List.listLengthHint;refine wpAny_bind (wpAny_specialOf hT zx ?_);show wpAny _ _ (specialOf (Value.ref mp) (G4 "__length_hint__")>>=_) _ _ _;refine wpAny_bind (wpAny_specialOf hT CT ?_);refine wpAny_pure ?_;show wpAny _ _ (rule "list.extend.makes-room">>=fun O=>Builtin.List.listTouch (.ref S)>>=fun O=>again (.builtin "list.extend.loop" ⟨[.ref S,.ref mp,.none],[]⟩)) _ _ _;refine wpAny_bind (wpAny_rule ?_);refine wpAny_bind ?_;show wpAny _ _ (updateSeq S (·.push .none)>>=fun O=>updateSeq S (·.pop)) _ _ _;obtain ⟨k3,st3⟩:=putL st2.at_ I4 (fun xs=>xs.push Value.none) [Value.none] (by simp) s.toks;have hS3:=st3.at_.keep S _ I4;refine wpAny_bind (wpAny_updateSeq hS2 rfl ?_);obtain ⟨k4,st4⟩:=putL st3.at_ I4 (fun xs=>xs.pop) [] (by simp) s.toks;refine wpAny_updateSeq (hz:=by seq_fits) hS3 rfl ?_;have st:=(st2.trans st3).trans st4;rw [Z0,Z0] at st;refine wpAny_pure ⟨plainId_quiet F.plain_extend_loop _,codeAny_mono (Do (c:=c.in2) (J:=J S) hq hvs (hk S) (hs S) vs.length 0 [] _ _ rfl (T3 _) st.at_.in2 (h0 S k4 hnone)) fun r s' hr=>?_⟩;cases r with
 | error e=>exact hr.elim
 | ok fl =>
  cases fl with
  | ret v =>
   obtain ⟨zB,acc,τ3,h1,h2⟩:=hr;obtain rfl:=zB;exact ⟨rfl,(I5 _ m (st.trans h2.out2) (hQ S acc τ3 h1))⟩
  | _=>exact hr.elim
end
theorem smMake {w:World} {os:OsState} (a b:Addr) (second:List (Str×Tok)) (jb:Nat) (hl:second.length≤8) (hnd:(nmL second).Nodup) :
  U4 w os 7 (.ref 362) ⟨[.none,.ref a,.ref b,.bool false],[]⟩ [(ecl b (G3 (strValues second) jb))]
   (fun v L'=>∃ x dx e j p bs,v=.ref x∧bs.map (·.1)=nmL second∧L'=smC w x dx a b second jb .none .none e j p bs):=by
 intro τ hC;have z:Spec w os 7 (.ref 362) ⟨[.none,.ref a,.ref b,.bool false],[]⟩ τ (fun v τ'=>∃ L',Cells τ' L'∧∃ x dx e j p bs,v=.ref x∧bs.map (·.1)=nmL second∧L'=smC w x dx a b second jb .none .none e j p bs):=by
  refine sU (fI:=280) (fun P=>by kernel_rfl) fun x dx hx hdx hne=>?_;have h1:(G5 τ dx emptyDict) x=none:=by unfold G5;rw [if_neg hne];exact hx
  have c1:Cells (G5 (G5 τ dx emptyDict) x (instObj 362 dx)) [(ecl x (instObj 362 dx)),(dx,fC []),(ecl b (G3 (strValues second) jb))]:=(hC.new (P:=fC []) hdx vd).new (P:=(·=instObj 362 dx)) h1 rfl;refine Spec.less ((smInit x dx a b second jb hl hnd _ c1).exc fun _ _ ⟨_,_,h⟩=>h.elim) fun v τ' ⟨L',hL,hv,e,j,p,bs,hbs,hL'⟩=>?_;exact M8 τ' (fun O O e=>e) hv (H6 L' hL (I6_3 x dx e j p bs rfl hbs hL'))
 exact z.exc fun O O h=>h.elim
noncomputable def ev {α:Type} (lt:Nat→Nat→Bool):KasT α→α
 | .ret a=>a
 | .ask i j k=>ev lt (k (lt i j))
theorem jY {α β:Type} (lt:Nat→Nat→Bool) (f:α→KasT β):∀ t:KasT α,ev lt (t.bind f)=ev lt (f (ev lt t))
 | .ret _=>rfl
 | .ask i j k=>jY lt f (k (lt i j))
section
variable {key:Nat→Int}
noncomputable def ltK (key:Nat→Int) (i j:Nat):Bool:=decide (key i<key j)
noncomputable def gK (key:Nat→Int) (p:Array Nat) (i:Nat):Int:=key (p.getD i 0)
noncomputable def Inc (key:Nat→Int) (p:Array Nat) (n:Nat):Prop:=∀ i j,i<j→j<n→gK key p i<gK key p j
noncomputable def Dec (key:Nat→Int) (p:Array Nat) (n:Nat):Prop:=∀ i j,i<j→j<n→gK key p j<gK key p i
noncomputable def Dst (key:Nat→Int) (p:Array Nat):Prop:=(p.toList.map key).Nodup
theorem Dst.perm {p q:Array Nat} (h:Dst key p) (hp:q.Perm p):Dst key q:=by
 unfold Dst at h ⊢;exact ((Array.perm_iff_toList_perm.mp hp).map key).nodup_iff.mpr h
theorem cX (p:Array Nat) (i:Nat):p.getD i 0=(p[i]?).getD 0:=by simp [Array.getD_eq_getD_getElem?]
theorem Dst.ne {p:Array Nat} (h:Dst key p) {i j:Nat} (hij:i<j) (hj:j<p.size):gK key p i≠gK key p j:=by
 have hi:i<p.size:=by exact q7
 unfold Dst at h;have:=List.pairwise_iff_getElem.mp h i j (by simpa using hi) (by simpa using hj) hij;unfold gK;rw [cX,cX,Array.getElem?_eq_getElem hi,Array.getElem?_eq_getElem hj];simpa using this
theorem Inc.snoc {p:Array Nat} {n:Nat} (h:Inc key p n) (h1:n=0∨gK key p (n-1)<gK key p n):Inc key p (n+1):=fun i j hij hj=>by
 rcases Nat.lt_succ_iff_lt_or_eq.mp hj with z | z
 ·exact h i j hij z
 ·subst z;rcases h1 with rfl | h1
  ·exact ((kq1 775713) hij).elim
  ·rcases Nat.lt_or_ge i (j-1) with z | z
   ·exact Int.lt_trans (h i (j-1) z ((kq2 724356387905) hij)) h1
   ·rw [show i=j-1 by exact (kq2 26066906800399144001) hij z];exact h1
theorem Dec.snoc {p:Array Nat} {n:Nat} (h:Dec key p n) (h0:1≤n) (h1:gK key p n<gK key p (n-1)):Dec key p (n+1):=fun i j hij hj=>by
 rcases Nat.lt_succ_iff_lt_or_eq.mp hj with z | z
 ·exact h i j hij z
 ·subst z;rcases Nat.lt_or_ge i (j-1) with z | z
  ·exact Int.lt_trans h1 (h i (j-1) z ((kq1 723282612272) h0))
  ·rw [show i=j-1 by exact (kq2 26066906800399144001) hij z];exact h1
theorem rO {p:Array Nat} (hd:Dst key p):∀ (f n:Nat),1≤n→n+f≤p.size→Inc key p n →
  n≤ev (ltK key) (kas_asc p f n)∧ev (ltK key) (kas_asc p f n)≤n+f∧Inc key p (ev (ltK key) (kas_asc p f n))∧(ev (ltK key) (kas_asc p f n)<n+f→gK key p (ev (ltK key) (kas_asc p f n))<gK key p (ev (ltK key) (kas_asc p f n)-1))
 | 0,n,_,_,hi=>⟨K9 _,K9 _,hi,fun h=>absurd h (V1 _)⟩
 | f+1,n,h1,hz,hi=>by
  unfold kas_asc;show _≤ev _ (if ltK key (p.getD n 0) (p.getD (n-1) 0)=true then KasT.ret n else kas_asc p f (n+1))∧ev _ (if ltK key (p.getD n 0) (p.getD (n-1) 0)=true then KasT.ret n else kas_asc p f (n+1))≤_∧Inc key p (ev _ (if ltK key (p.getD n 0) (p.getD (n-1) 0)=true then KasT.ret n else kas_asc p f (n+1)))∧(ev _ (if ltK key (p.getD n 0) (p.getD (n-1) 0)=true then KasT.ret n else kas_asc p f (n+1))<_→gK key p (ev _ (if ltK key (p.getD n 0) (p.getD (n-1) 0)=true then KasT.ret n else kas_asc p f (n+1)))<gK key p (ev _ (if ltK key (p.getD n 0) (p.getD (n-1) 0)=true then KasT.ret n else kas_asc p f (n+1))-1))
  by_cases c:ltK key (p.getD n 0) (p.getD (n-1) 0)=true
  ·simp only [if_pos c];exact ⟨K9 _,by show n≤_;exact (kq2 22098216993),hi,fun O=>of_decide_eq_true c⟩
  ·simp only [if_neg c];have hne:=hd.ne (i:=n-1) (j:=n) ((kq1 723282612272) h1) ((kq3 742226303467585) hz);have hge:¬ gK key p n<gK key p (n-1):=fun z=>c (decide_eq_true z);refine bR (rO hd f (n+1) ((kq1 707060584496) h1) ((kq3 741979948575196004417) hz) (hi.snoc (.inr (by lia)))) fun a1 a2 a3 a4=>?_;exact ⟨by exact q6,by exact (kq3 759288990584737972289) a2,a3,fun h=>a4 ((kq3 27338145649158902296432678092865) a2 h)⟩
theorem xG {p:Array Nat} (hd:Dst key p):∀ (f n:Nat),2≤n→n+f≤p.size→Dec key p n →
  ∃ n',ev (ltK key) (kas_desc f p n 0)=(p,n',0)∧n≤n'∧n'≤n+f∧Dec key p n'
 | 0,n,_,_,hi=>⟨n,rfl,K9 _,K9 _,hi⟩
 | f+1,n,h1,hz,hi=>by
  have e:ev (ltK key) (kas_desc (f+1) p n 0)=ev (ltK key) (if ltK key (p.getD n 0) (p.getD (n-1) 0)=true then kas_desc f p (n+1) 0
   else (KasT.ask (p.getD (n-1) 0) (p.getD n 0) fun d=>if d=true then .ret (p,n,0) else kas_desc f p (n+1) (0+1))):=by
   rw [kas_desc];show ev _ (if ltK key (p.getD n 0) (p.getD (n-1) 0)=true then _ else _)=_;rfl
  rw [e];have hne:=hd.ne (i:=n-1) (j:=n) ((kq1 23145043592270) h1) ((kq3 742226303467585) hz);by_cases c:ltK key (p.getD n 0) (p.getD (n-1) 0)=true
  ·rw [if_pos c];refine dw (xG hd f (n+1) ((kq1 724029563077710) h1) ((kq3 741979948575196004417) hz) (hi.snoc q6 (of_decide_eq_true c))) fun n' a1 a2 a3 a4=>?_;exact ⟨n',a1,by exact q6,by exact (kq3 759288990584737972289) a3,a4⟩
  ·rw [if_neg c];have hge:¬ gK key p n<gK key p (n-1):=fun z=>c (decide_eq_true z);have c2:ltK key (p.getD (n-1) 0) (p.getD n 0)=true:=decide_eq_true (show gK key p (n-1)<gK key p n by lia);refine ⟨n,?_,K9 _,by exact (kq2 22098216993),hi⟩;show ev _ (if ltK key (p.getD (n-1) 0) (p.getD n 0)=true then _ else _)=_;rw [if_pos c2];rfl
theorem yX {p:Array Nat} {n:Nat} (hn:n≤p.size) (h:Dec key p n):Inc key (kas_rev p 0 n) n:=fun i j hij hj=>by
 have e:∀ k,k<n→gK key (kas_rev p 0 n) k=gK key p (n-1-k):=fun k hk=>by
  unfold gK kas_rev;rw [cX,cX,getElem?_mirror hn _ (by lia) k];by_cases c:(0≤k∧k<0+(n-0) / 2)∨(n-(n-0) / 2≤k∧k<n)
  ·rw [if_pos c,show 0+n-1-k=n-1-k by lia]
  ·rw [if_neg c,show n-1-k=k by lia]
 rw [e i q7,e j hj];exact h _ _ (by lia) ((kq3 24340886714808620097) hij hj)
end
section
variable {key:Nat→Int}
theorem kO (p:Array Nat) (i j:Nat):(kas_rev p i j).Perm p:=mirror_perm _ _ _ _
theorem oZ {p q:Array Nat} (h:q.Perm p):q.size=p.size:=by
 have:=(Array.perm_iff_toList_perm.mp h).length_eq;simpa using this
theorem By {p:Array Nat} {n nrem:Nat} (hd:Dst key p) (hdec:Dec key p n) (h1:1≤n) (hn:n≤nrem) (hz:nrem≤p.size) :
  ∃ m p',ev (ltK key) (kas_tail3 n nrem p)=(m,p')∧p'.Perm p∧n≤m∧m≤nrem∧Inc key p' m:=by
 have hp:=kO p 0 n;obtain ⟨a1,zz⟩:=rO (hd.perm hp) (nrem-n) n h1 (by rw [oZ hp];exact (kq3 23187452354565853249) hn hz) (yX q3 hdec);refine M6 zz fun a2 a3 O=>?_;clear zz;refine ⟨_,kas_rev p 0 n,?_,hp,a1,by exact (kq3 23134589518523519041) hn a2,a3⟩;unfold kas_tail3;rw [jY];rfl
theorem yM {p:Array Nat} {nrem:Nat} (hd:Dst key p) (h2:2≤nrem) (hz:nrem≤p.size) :
  ∃ m p',ev (ltK key) (kas_count nrem p)=(m,p')∧p'.Perm p∧1≤m∧m≤nrem∧Inc key p' m:=by
 refine bR (rO hd (nrem-1) 1 (K9 _) ((kq2 740846081022931633230) h2 hz) (fun i j a b=>by exact ((kq2 25417569345) a b).elim)) fun a1 a2 a3 a4=>?_;have e:ev (ltK key) (kas_count nrem p)=ev (ltK key) (if (ev (ltK key) (kas_asc p (nrem-1) 1)==nrem)=true then KasT.ret (ev (ltK key) (kas_asc p (nrem-1) 1),p) else if ev (ltK key) (kas_asc p (nrem-1) 1)>1 then
   KasT.ask (p.getD 0 0) (p.getD (ev (ltK key) (kas_asc p (nrem-1) 1)-1) 0) (fun c=>if c=true then .ret (ev (ltK key) (kas_asc p (nrem-1) 1),p) else kas_descPart (ev (ltK key) (kas_asc p (nrem-1) 1)) nrem (kas_rev p 0 (ev (ltK key) (kas_asc p (nrem-1) 1))))
   else kas_descPart (ev (ltK key) (kas_asc p (nrem-1) 1)) nrem p):=by
  unfold kas_count;rw [jY]
 rw [e];generalize ev (ltK key) (kas_asc p (nrem-1) 1)=n at a1 a2 a3 a4 ⊢;by_cases c1:(n==nrem)=true
 ·rw [if_pos c1];exact ⟨n,p,rfl,Array.Perm.refl _,a1,by exact (kq2 739117914805951398990) h2 a2,a3⟩
 ·rw [if_neg c1];have hne:n≠nrem:=fun z=>c1 (by rw [z];simp);by_cases c2:n>1
  ·rw [if_pos c2];have c3:ltK key (p.getD 0 0) (p.getD (n-1) 0)=true:=decide_eq_true (a3 0 (n-1) ((kq1 24330046619013168) a1 c2) ((kq1 723282612272) a1));refine ⟨n,p,?_,Array.Perm.refl _,a1,by exact (kq2 739117914805951398990) h2 a2,a3⟩;show ev _ (if ltK key (p.getD 0 0) (p.getD (n-1) 0)=true then _ else _)=_;rw [if_pos c3];rfl
  ·rw [if_neg c2];have h1:n=1:=by exact (kq1 791709207777328) a1 c2
   subst h1;have hlt:=a4 ((kq1 24298658846082126) h2);have hdec:Dec key p 2:=fun i j a b=>by
    have:i=0:=by exact (kq2 792804873819201) a b
    have:j=1:=by exact (kq2 25943778458341561409) a b this
    subst i;subst j;exact hlt
   refine dw (xG hd (nrem-(1+1)) (1+1) (by lia) ((kq2 776833511314687651533685838) h2 hz) hdec) fun n' b1 b2 b3 b4=>?_;refine eZ (By (nrem:=nrem) hd b4 q6 ((kq2 775021306724510235120763982) h2 b3) hz) fun m p' d1 d2 d3 d4 d5=>?_;refine ⟨m,p',?_,d2,by exact q8,d4,d5⟩;unfold kas_descPart;rw [jY,b1];exact d1
theorem rR {p:Array Nat} {k:Nat} (hd:Dst key p) (hk:k<p.size) (hi:Inc key p k):∀ (f l r:Nat),r-l≤f→l≤r→r≤k→(∀ i,i<l→gK key p i<gK key p k)→(∀ i,r≤i→i<k→gK key p k<gK key p i) →
  ev (ltK key) (kas_place p k f l r)≤k∧(∀ i,i<ev (ltK key) (kas_place p k f l r)→gK key p i<gK key p k)∧(∀ i,ev (ltK key) (kas_place p k f l r)≤i→i<k→gK key p k<gK key p i)
 | 0,l,r,hf,hlr,hrk,h1,h2=>by
  have:l=r:=by exact (kq2 24807869703048257) hf hlr
  subst this;exact ⟨hrk,h1,h2⟩
 | f+1,l,r,hf,hlr,hrk,h1,h2=>by
  have e:ev (ltK key) (kas_place p k (f+1) l r)=ev (ltK key) (if l≥r then KasT.ret l else (if ltK key (p.getD k 0) (p.getD ((l+r) / 2) 0)=true then kas_place p k f l ((l+r) / 2) else kas_place p k f ((l+r) / 2+1) r)):=by
   rw [kas_place];by_cases c:l≥r
   ·rw [if_pos c,if_pos c]
   ·rw [if_neg c,if_neg c];rfl
  rw [e];by_cases c:l≥r
  ·rw [if_pos c];have:l=r:=by exact (kq2 24259721252929) hlr c
   subst this;exact ⟨hrk,h1,h2⟩
  ·rw [if_neg c];have hm1:l≤(l+r) / 2:=by lia
   have hm2:(l+r) / 2<r:=by lia
   generalize (l+r) / 2=mid at hm1 hm2 ⊢;by_cases c2:ltK key (p.getD k 0) (p.getD mid 0)=true
   ·rw [if_pos c2];have hlt:gK key p k<gK key p mid:=of_decide_eq_true c2;refine rR hd hk hi f l mid ((kq4 23744495688702538927169) hf hm2) hm1 q8 h1 fun i hi1 hi2=>?_;rcases Nat.lt_or_ge mid i with z | z
    ·exact Int.lt_trans hlt (hi mid i z hi2)
    ·rw [show i=mid by exact (kq2 24226435256385) hi1 z];exact hlt
   ·rw [if_neg c2];have hge:¬ gK key p k<gK key p mid:=fun z=>c2 (decide_eq_true z);have hne:=hd.ne (i:=mid) (j:=k) q3 hk;have hlt:gK key p mid<gK key p k:=by lia
    refine rR hd hk hi f (mid+1) r ((kq4 25496090946206518928666479676481) hf c hm1) (by assumption) hrk (fun i hi1=>?_) h2;rcases Nat.lt_or_ge i mid with z | z
    ·exact Int.lt_trans (hi i mid z q3) hlt
    ·rw [show i=mid by exact (kq2 24841954564587585) hi1 z];exact hlt
theorem Bt {p:Array Nat} {k l:Nat} (hk:k<p.size) (hl:l≤k) (hi:Inc key p k) (h1:∀ i,i<l→gK key p i<gK key p k) (h2:∀ i,l≤i→i<k→gK key p k<gK key p i):Inc key (bubble p k (k-l)) (k+1):=by
 have e:∀ i,i<k+1→gK key (bubble p k (k-l)) i=if i=l then gK key p k else if l<i then gK key p (i-1) else gK key p i:=fun i hik=>by
  unfold gK;rw [cX,getElem?_bubble hk (k-l) (kq2 21023809) i];rw [show k-(k-l)=l by exact (kq2 775828969443393) hl];by_cases c:i=l
  ·rw [if_pos c,if_pos c,cX]
  ·rw [if_neg c,if_neg c];by_cases c2:l<i
   ·rw [if_pos ⟨c2,by exact (kq2 689398431809) hik⟩,if_pos c2,cX]
   ·rw [if_neg (by exact (kq3 938131135088012454287425) c c2),if_neg c2,cX]
 intro i j hij hj;rw [e i q7,e j hj];by_cases ci:i=l
 ·rw [if_pos ci,if_neg (by exact (kq3 868720154039361) hij ci),if_pos (by exact (kq3 23162426283073) hij ci)];exact h2 _ ((kq3 23204166074684481) hij ci) ((kq4 797618863973097712735297) hij hj ci)
 ·rw [if_neg ci];by_cases cj:j=l
  ·rw [if_pos cj,if_neg (by exact (kq3 867552996709441) hij cj)];exact h1 _ ((kq3 24321341337659036737) hij ci cj)
  ·rw [if_neg cj];by_cases c1:l<i
   ·rw [if_pos c1,if_pos q7];exact hi _ _ ((kq3 24914004949614056513) hij c1) ((kq4 797618862744943224509505) hij hj c1)
   ·rw [if_neg c1];by_cases c2:l<j
    ·rw [if_pos c2];rcases Nat.lt_or_ge i (j-1) with z | z
     ·exact hi _ _ z ((kq3 24305366061228310593) hj c2)
     ·exact ((kq3 28562772634874094795118657) ci c1 c2 z).elim
    ·rw [if_neg c2];exact hi _ _ hij ((kq3 26078670454418798062703071297) hl hj cj c2)
theorem uY:∀ (f:Nat) (p:Array Nat) (k:Nat),Dst key p→k+f≤p.size→Inc key p k→∃ p',ev (ltK key) (kas_bin f p k)=p'∧p'.Perm p∧Inc key p' (k+f)
 | 0,p,k,hd,hz,hi=>⟨p,rfl,Array.Perm.refl _,hi⟩
 | f+1,p,k,hd,hz,hi=>by
  refine M6 (rR hd (show k<p.size by exact (kq3 742226303467585) hz) hi k 0 k (kq1 21024289) (T3 _) (K9 _) (fun i h=>absurd h (Nat.not_lt_zero _)) (fun i h1 h2=>by exact ((kq2 25401839681) h1 h2).elim)) fun b1 b2 b3=>?_;have hp:(bubble p k (k-ev (ltK key) (kas_place p k k 0 k))).Perm p:=bubble_perm _ _ _;obtain ⟨p',zz⟩:=uY f _ (k+1) (hd.perm hp) (by rw [oZ hp];exact (kq3 741979948575196004417) hz) (Bt ((kq3 742226303467585) hz) b1 hi b2 b3);refine M6 zz fun c1 c2 c3=>?_;clear zz;refine ⟨p',?_,c2.trans hp,by rw [show k+(f+1)=k+1+f by exact (kq2 25405951379587137)];exact c3⟩;unfold kas_bin;rw [jY];exact c1
theorem Dn {n:Nat} (h2:2≤n) (hd:Dst key (List.toArray (List.range n))):∃ p',ev (ltK key) (kas_sort n)=p'∧p'.Perm (List.toArray (List.range n))∧Inc key p' n:=by
 have hz:(List.toArray (List.range n)).size=n:=by simp
 refine eZ (yM (nrem:=n) hd h2 ((kq2 672225345) hz)) fun m q a1 a2 a3 a4 a5=>?_;unfold kas_sort;rw [jY,a1];dsimp only;by_cases c:m<n
 ·rw [if_pos c];have e:max m 1=m:=by lia
  rw [e];obtain ⟨p',b1,b2,b3⟩:=uY (n-m) q m (hd.perm a2) (by rw [oZ a2,hz];exact (kq2 706525377123393) c) a5;exact ⟨p',b1,b2.trans a2,by rw [show n=m+(n-m) by exact (kq2 794501372269633) c];exact b3⟩
 ·rw [if_neg c];exact ⟨q,rfl,a2,by rw [show n=m by exact (kq2 775250893656129) a4 c];exact a5⟩
end
noncomputable def AskP {α:Type} (N:Nat) (P:α→Prop):KasT α→Prop
 | .ret a=>P a
 | .ask i j k=>i<N∧j<N∧∀ b,AskP N P (k b)
theorem AskP.bind {α β:Type} {N:Nat} {P:α→Prop} {Q:β→Prop} {f:α→KasT β} (hf:∀ a,P a→AskP N Q (f a)):∀ t:KasT α,AskP N P t→AskP N Q (t.bind f)
 | .ret a,h=>hf a h
 | .ask i j k,⟨h1,h2,h3⟩=>⟨h1,h2,fun b=>AskP.bind hf (k b) (h3 b)⟩
theorem AskP.mono {α:Type} {N:Nat} {P P':α→Prop} (hp:∀ a,P a→P' a):∀ t:KasT α,AskP N P t→AskP N P' t
 | .ret a,h=>hp a h
 | .ask i j k,⟨h1,h2,h3⟩=>⟨h1,h2,fun b=>AskP.mono hp (k b) (h3 b)⟩
theorem xf {α:Type} {N:Nat} {P:α→Prop} {lt:Nat→Nat→Bool} {cmp:Nat→Nat→(Bool→Shared→Prop)→Shared→Prop} {Q:α→Shared→Prop} {s:Shared}
  (hc:∀ i j,i<N→j<N→∀ C:Bool→Shared→Prop,C (lt i j) s→cmp i j C s):∀ t:KasT α,AskP N P t→Q (ev lt t) s→t.kasWp cmp Q s
 | .ret a,_,hq=>hq
 | .ask i j k,⟨h1,h2,h3⟩,hq=>hc i j h1 h2 _ (xf hc (k (lt i j)) (h3 _) hq)
noncomputable def OKp (N:Nat) (p:Array Nat):Prop:=0<N∧∀ x∈p.toList,x<N
theorem OKp.get {N:Nat} {p:Array Nat} (h:OKp N p) (i:Nat):p.getD i 0<N:=by
 rw [cX];cases q:p[i]? with
 | none=>exact h.1
 | some x=>exact h.2 x (by simpa using Array.mem_of_getElem? q)
theorem OKp.perm {N:Nat} {p q:Array Nat} (h:OKp N p) (hp:q.Perm p):OKp N q:=⟨h.1,fun x hx=>h.2 x ((Array.perm_iff_toList_perm.mp hp).mem_iff.mp hx)⟩
theorem rE {N:Nat} {p:Array Nat} (h:OKp N p):∀ f n,AskP N (fun O=>True) (kas_asc p f n)
 | 0,n=>trivial
 | f+1,n=>⟨h.get _,h.get _,fun b=>by
  show AskP N _ (if b=true then KasT.ret n else kas_asc p f (n+1));split
  ·trivial
  ·exact rE h f (n+1)⟩
theorem qp {N:Nat}:∀ (f:Nat) (p:Array Nat) (n q:Nat),OKp N p→AskP N (fun r=>OKp N r.1) (kas_desc f p n q)
 | 0,p,n,q,h=>h
 | f+1,p,n,q,h=>⟨h.get _,h.get _,fun b=>by
  show AskP N _ (if b=true then (if q>0 then kas_desc f (kas_rev p (n-(q+1)) n) (n+1) 0 else kas_desc f p (n+1) 0) else _);split
  ·split
   ·exact qp f _ _ _ (h.perm (kO _ _ _))
   ·exact qp f _ _ _ h
  ·refine ⟨h.get _,h.get _,fun d=>?_⟩;show AskP N _ (if d=true then KasT.ret (p,n,q) else kas_desc f p (n+1) (q+1));split
   ·exact h
   ·exact qp f _ _ _ h⟩
theorem vm {N:Nat} {p:Array Nat} (h:OKp N p) (n nrem:Nat):AskP N (fun r=>OKp N r.2) (kas_tail3 n nrem p):=by
 unfold kas_tail3;refine AskP.bind (P:=fun O=>True) (fun a O=>?_) _ (rE (h.perm (kO _ _ _)) _ _);exact h.perm (kO p 0 n)
theorem vH {N:Nat} {p:Array Nat} (h:OKp N p) (n nrem:Nat):AskP N (fun r=>OKp N r.2) (kas_descPart n nrem p):=by
 unfold kas_descPart;refine AskP.bind (P:=fun r=>OKp N r.1) (fun a ha=>?_) _ (qp _ _ _ _ h);split
 ·exact vm (ha.perm (kO _ _ _)) _ _
 ·exact vm ha _ _
theorem Cd {N:Nat} {p:Array Nat} (h:OKp N p) (nrem:Nat):AskP N (fun r=>OKp N r.2) (kas_count nrem p):=by
 unfold kas_count;refine AskP.bind (P:=fun O=>True) (fun n O=>?_) _ (rE h _ _);split
 ·exact h
 ·split
  ·refine ⟨h.get _,h.get _,fun c=>?_⟩;show AskP N _ (if c=true then KasT.ret (n,p) else kas_descPart n nrem (kas_rev p 0 n));split
   ·exact h
   ·exact vH (h.perm (kO _ _ _)) _ _
  ·exact vH h _ _
theorem sG {N:Nat} {p:Array Nat} (h:OKp N p) (k:Nat):∀ f l r,AskP N (fun O=>True) (kas_place p k f l r)
 | 0,l,r=>trivial
 | f+1,l,r=>by
  unfold kas_place;split
  ·trivial
  ·refine ⟨h.get _,h.get _,fun c=>?_⟩;show AskP N _ (if c=true then kas_place p k f l ((l+r) / 2) else kas_place p k f ((l+r) / 2+1) r);split
   ·exact sG h k f _ _
   ·exact sG h k f _ _
theorem vL {N:Nat}:∀ (f:Nat) (p:Array Nat) (k:Nat),OKp N p→AskP N (fun O=>True) (kas_bin f p k)
 | 0,p,k,h=>trivial
 | f+1,p,k,h=>by
  unfold kas_bin;exact AskP.bind (P:=fun O=>True) (fun l O=>vL f _ _ (h.perm (bubble_perm _ _ _))) _ (sG h _ _ _ _)
theorem zq {n:Nat} (hn:0<n):AskP n (fun O=>True) (kas_sort n):=by
 unfold kas_sort;refine AskP.bind (P:=fun r=>OKp n r.2) (fun r hr=>?_) _ (Cd ⟨hn,fun x hx=>by simpa using hx⟩ n);split
 ·exact vL _ _ _ hr
 ·trivial
structure Mb where
 mm:Addr
 d:Addr
 i:Nat
 j:Nat
 k:Nat
 ti:Tok
 tj:Tok
 tk:Tok
noncomputable def Mb.items (b:Mb):List Value:=[.int (b.i:Int) b.ti,.int (b.j:Int) b.tj,.int (b.k:Int) b.tk]
noncomputable abbrev Mb.obj (b:Mb):Obj:=T7 b.d b.items
open PySem.Calls Builtin in
theorem mat_lt {w:World} {A:Around} {s:Shared} {a b:Mb} {Q:Bool→Shared→Prop} {E:Value→Shared→Prop} (hu:A.units<cLine) (X:(H3 w.params).In s.heap) (ga:s.heap.get? a.mm=some a.obj) (gb:s.heap.get? b.mm=some b.obj) (hk:a.i=b.i→a=b)
  (h:Q (decide ((a.i:Int)<(b.i:Int))) s):wpAny (model pw w) A (keyLt' oneType' (.ref a.mm) (.ref b.mm)) Q E s:=by
 have hf:findIn (H3 w.params) (.ref 255) "__lt__"=some (some (.builtin "tuple.__lt__")):=by kernel_rfl
 rw [keyLt'_oneType,oneLt'_eq];simp only [if_true];refine wpAny_bind (wpAny_cRoomFor hu ?_);refine wpAny_bind ?_;unfold callSpecialIfBound?;refine wpAny_holding (wpAny_bind (uW X ga F.slot_tuple_lt hf ?_));refine wpAny_bind (tO (n:="__lt__") X ga F.slot_tuple_lt (by decide +kernel) (by decide +kernel) F.entry_tuple_lt (F.args_tuple_lt_2 _ _) ?_);obtain ⟨hh,g,dr,t0,oo⟩:=s;have X:(H3 w.params).In hh:=X;have ga:hh.get? a.mm=some a.obj:=ga;have gb:hh.get? b.mm=some b.obj:=gb;have L1:Looks (model pw w) hh (isInstance (.ref b.mm) (.type "tuple")) true:=wX (s:=⟨hh,g,dr,t0,oo⟩) X gb;unfold Builtin.«tuple.__lt__»;by_cases he:(a.i:Int)=(b.i:Int)
 ·obtain rfl:=hk ((kq2 24259282766753) he);rw [show decide ((a.i:Int)<(a.i:Int))=false by simp] at h;repeat (first | with_reducible refine wpAny_eqBool_int ?_ | simp only [beq_self_eq_true,Bool.not_true,Bool.not_false,Bool.false_eq_true,if_true,if_false] | lk)
  simpa using h
 ·have hb:((a.i:Int)==(b.i:Int))=false:=beq_false_of_ne he;have R:∀ {A':Around} {Q':Value→Shared→Prop} {E':Value→Shared→Prop} {s':Shared},Q' (.bool (decide ((a.i:Int)<(b.i:Int)))) s'→wpAny (model pw w) A' (richCompare CmpOp.Lt (.int (a.i:Int) a.ti) (.int (b.i:Int) b.ti)) Q' E' s':=fun h=>PyProof.Rows.lt_int h;repeat (first | with_reducible refine wpAny_eqBool_int ?_ | with_reducible refine R ?_ | simp only [hb,Bool.not_true,Bool.not_false,Bool.false_eq_true,if_true,if_false] | lk)
  exact h
open PySem.Calls
section
variable {c:Cx} {τ:PH} {m:Lo} {X:PV}
noncomputable abbrev mbV (bl:List Mb):List Value:=bl.map fun b=>.ref b.mm
theorem Bo {bl:List Mb} (hk:(bl.map (·.i)).Nodup) {a b:Mb} (ha:a∈bl) (hb:b∈bl) (h:a.i=b.i):a=b:=by
 obtain ⟨x,hx⟩:=List.mem_iff_getElem?.mp ha;obtain ⟨y,hy⟩:=List.mem_iff_getElem?.mp hb;obtain ⟨lx,ex⟩:=List.getElem?_eq_some_iff.mp hx;obtain ⟨ly,ey⟩:=List.getElem?_eq_some_iff.mp hy;have key:∀ {x y:Nat} (lx:x<bl.length) (ly:y<bl.length),x<y→bl[x].i≠bl[y].i:=fun {x y} lx ly hxy=>by
  have:=List.pairwise_iff_getElem.mp hk x y (by simpa using lx) (by simpa using ly) hxy;simpa using this
 rcases Nat.lt_trichotomy x y with z | z | z
 ·exact absurd (by rw [ex,ey];exact h) (key lx ly z)
 ·subst z;rw [← ex,← ey]
 ·exact absurd (by rw [ex,ey];exact h.symm) (key ly lx z)
theorem yD {l:Addr} {bl:List Mb} {n:Nat} {Q:PV} (hu:c.A.units≤9000) (hl:τ l=some (G3 (mbV bl) n)) (hb:∀ b∈bl,τ b.mm=some b.obj) (hn:bl.length<64) (hk:(bl.map (·.i)).Nodup)
  (h:∀ bl' n',bl'.Perm bl→bl'.Pairwise (fun a b=>a.i<b.i)→Q .none (G5 τ l (G3 (mbV bl') n')) m):W c (PySem.call (.builtin "list.sort") [.ref l]) τ m Q X:=fun s hs=>by
 have ho:=hs.keep _ _ hl;have hvl:(mbV bl).length=bl.length:=I3 _;have s1:=Heap.SameBut.update s.heap l (Obj.mapSeq fun O=>(#[]:Array Value));obtain ⟨e1,ho1⟩:∃ e1,(s.heap.update l (Obj.mapSeq fun O=>(#[]:Array Value))).get? l=some (seqObj "list" #[] e1):=⟨_,get?_update_seq ho fun O=>#[]⟩
 have stA:=Step.put (k:=s.toks) (o':=G3 [] e1) hs hl s1 ho1;have stB:=stA.trans (jt (k:=s.toks) (h':=((s.heap.update l (Obj.mapSeq fun O=>(#[]:Array Value))).push (seqObj "tuple" (mbV bl).toArray 0)).push (seqObj "list" #[] 0)) stA.at_ fun b o e=>X6 _ (X6 _ e));refine wpAny_call_entry slot_list_sort (Z9 hs hl).typeIs entry_list_sort ?_ (args_list_sort _);rw [list_sort_plain];refine wpAny_bind (listItems_at ho rfl ?_);refine wpAny_bind (listUpdate_at ho rfl ?_ (by rw [dH,sizeLine_eq];exact (kq2 25377770820435140692259439009) hn hvl) (T3 _));refine wpAny_bind (seqEpoch_at ho1 rfl ?_);refine wpAny_bind (wpAny_newTuple ?_ (by show (mbV bl).length≤_;rw [sizeLine_eq];exact (kq2 25377770820435140692259439009) hn hvl));refine wpAny_bind (wpAny_newList ?_ (T3 _));refine wpAny_holding ?_;show wpAny (MM c) c.A.in1 _ _ _ { s with heap:=((s.heap.update l (Obj.mapSeq fun O=>(#[]:Array Value))).push (seqObj "tuple" (mbV bl).toArray 0)).push (seqObj "list" #[] 0) };dsimp only;have ho3:(((s.heap.update l (Obj.mapSeq fun O=>(#[]:Array Value))).push (seqObj "tuple" (mbV bl).toArray 0)).push (seqObj "list" #[] 0)).get? l=some (seqObj "list" #[] e1):=X6 _ (X6 _ ho1);generalize hH:((s.heap.update l (Obj.mapSeq fun O=>(#[]:Array Value))).push (seqObj "tuple" (mbV bl).toArray 0)).push (seqObj "list" #[] 0)=H at stB ho3 ⊢;by_cases hn2:(mbV bl).toArray.size<2
 ·rw [if_pos hn2,if_pos hn2];refine wpAny_bind (wpAny_pure ?_);refine wpAny_bind (wpAny_pure (a:=((),SortSt.mk' general' ((mbV bl).toArray.zip (mbV bl).toArray) #[] 7 none)) ?_);obtain ⟨st',hst⟩:∃ st',st'=SortSt.mk' general' ((mbV bl).toArray.zip (mbV bl).toArray) #[] 7 none:=⟨_,rfl⟩
  rw [← hst];have hf:failedOf st'=none:=by rw [hst,show failedOf (SortSt.mk' general' ((mbV bl).toArray.zip (mbV bl).toArray) #[] 7 none)=none from rfl]
  obtain ⟨bl',hbl⟩:∃ bl',bl'=bl:=⟨_,rfl⟩
  have hpm:bl'.Perm bl:=by rw [hbl]
  have hpw:bl'.Pairwise (fun a b=>a.i<b.i):=by
   have hl2:bl.length<2:=by rw [dH,hvl] at hn2;exact hn2
   rw [hbl];match bl,hl2 with
   | [],_=>exact List.Pairwise.nil
   | [_],_=>exact List.pairwise_singleton _ _
  have har:(arrOf st').map (·.2)=(mbV bl').toArray:=by
   rw [hst,hbl];show ((mbV bl).toArray.zip (mbV bl).toArray).map (·.2)=_;apply Array.toList_inj.mp;rw [Array.toList_map,Array.toList_zip,List.map_snd_zip (K9 _)]
  dsimp only;refine wpAny_bind (seqEpoch_at ho3 rfl ?_);rw [har];obtain ⟨c2,hc2⟩:∃ c2,(H.update l (Obj.mapSeq fun O=>(mbV bl').toArray)).get? l=some (seqObj "list" (mbV bl').toArray c2):=⟨_,get?_update_seq ho3 fun O=>(mbV bl').toArray⟩
  refine wpAny_bind (listUpdate_at ho3 rfl ?_ (T3 _) (by rw [dH,sizeLine_eq,I3,hpm.length_eq];exact (kq1 796096541682624008028225953) hn));rw [hf];simp only [bne_self_eq_false,Bool.false_eq_true,if_false];refine wpAny_pure (H6 _ rfl ?_);have stC:=stB.trans (Step.put (k:=s.toks) (o':=G3 (mbV bl') c2) stB.at_ I4 (Heap.SameBut.update H l _) hc2);rw [Z0] at stC;exact I5 _ m stC (h bl' c2 hpm hpw)
 ·rw [if_neg hn2,if_neg hn2];have h2:2≤bl.length:=by rw [dH,hvl] at hn2;exact q9
  have hTm:∀ v∈mbV bl,Looks (MM c) H (typeOf v) (.ref 255):=fun v hv=>by
   refine G8 (List.mem_map.mp hv) fun b hbm zB=>?_;obtain rfl:=zB;have hne:b.mm≠l:=fun z=>by
    have:=hb b hbm;rw [z,hl] at this;have:=congrArg Obj.cls (aO this);simp at this
   exact (Looks.ld (stB.at_.keep b.mm b.obj (by unfold G5;rw [if_neg hne];exact hb b hbm))).andThen .now
  refine wpAny_bind (kas_kind (T:=.ref 255) (by rw [hvl];exact h2) hTm (by decide) (by decide) ?_);have hit:∀ i,i<bl.length→∃ b,bl[i]? = some b∧kas_item (pairsOf (mbV bl)) i=(.ref b.mm,.ref b.mm):=fun i hi=>by
   refine H6 (bl[i]) (Z6 hi) ?_;rw [kas_item_eq];simp [hi]
  obtain ⟨b0,hb0⟩:∃ b0,bl[0]? = some b0:=⟨_,Z6 q6⟩
  obtain ⟨f,hf0⟩:∃ f:Nat→Mb,f=fun i=>(bl[i]?).getD b0:=⟨_,rfl⟩
  have hfi:∀ i b,bl[i]? = some b→f i=b:=fun i b hib=>by rw [hf0];show (bl[i]?).getD b0=b;rw [hib];rfl
  have hrange:(List.range bl.length).map f=bl:=by
   refine List.ext_getElem (by simp) fun i h1 h2=>?_;rw [List.getElem_map,List.getElem_range];exact hfi i _ (Z6 h2)
  have hDst:Dst (fun i=>((f i).i:Int)) (List.toArray (List.range bl.length)):=by
   unfold Dst;show ((List.range bl.length).map fun i=>((f i).i:Int)).Nodup;have e:(List.range bl.length).map (fun i=>((f i).i:Int))=((List.range bl.length).map f).map fun b=>(b.i:Int):=by rw [fZ];rfl
   rw [e,hrange];unfold List.Nodup at hk ⊢;rw [List.pairwise_map] at hk ⊢;exact hk.imp fun hab z=>hab ((kq2 24259282766753) z)
  refine R4 (Dn h2 hDst) fun p' hev hpp hinc=>?_;have X3:(H3 c.w.params).In H:=stB.at_.top;have hgb:∀ b∈bl,H.get? b.mm=some b.obj:=fun b hbm=>by
   have hne:b.mm≠l:=fun z=>by
    have:=hb b hbm;rw [z,hl] at this;have:=congrArg Obj.cls (aO this);simp at this
   exact stB.at_.keep b.mm b.obj (by unfold G5;rw [if_neg hne];exact hb b hbm)
  have hcmp:∀ i j,i<bl.length→j<bl.length→∀ C:Bool→Shared→Prop,C (ltK (fun i=>((f i).i:Int)) i j) { s with heap:=H }→kas_cmp pw c.w c.A.in1 oneType' (pairsOf (mbV bl)) i j C { s with heap:=H }:=fun i j hi hj C hC=>by
   refine G8 (hit i hi) fun bi e1 e2=>?_;refine G8 (hit j hj) fun bj e3 e4=>?_;unfold kas_cmp;rw [e2,e4];have m1:=aW e1;have m2:=aW e3;refine mat_lt (s:={ s with heap:=H }) (by show c.A.units+1<cLine;rw [show cLine=9900 from rfl];exact (kq1 812409565193131709426344353) hu) X3 (hgb bi m1) (hgb bj m2) (fun z=>Bo hk m1 m2 z) ?_;have e5:ltK (fun i=>((f i).i:Int)) i j=decide ((bi.i:Int)<(bj.i:Int)):=by
    have x1:=hfi i bi e1;have x2:=hfi j bj e3;show decide (((f i).i:Int)<((f j).i:Int))=_;rw [x1,x2]
   rw [e5] at hC;exact hC
  have hps:p'.size=bl.length:=by rw [oZ hpp];simp
  have hpin:∀ i∈p'.toList,i<bl.length:=fun i hi=>by
   have:=(Array.perm_iff_toList_perm.mp hpp).mem_iff.mp hi;simpa using this
  have est:SortSt.mk' oneType' ((mbV bl).toArray.zip (mbV bl).toArray) #[] 7 none=kas_st oneType' (pairsOf (mbV bl)) (List.toArray (List.range bl.length)):=by
   have e:=kas_range (pairsOf (mbV bl));rw [pairsOf_size,hvl] at e;show SortSt.mk' oneType' (pairsOf (mbV bl)) #[] 7 none=SortSt.mk' oneType' ((List.toArray (List.range bl.length)).map (kas_item (pairsOf (mbV bl)))) #[] 7 none;rw [e]
  have run:=kas_runs (prog:=pw) (w:=c.w) (A:=c.A.in1) (κ:=oneType') (it:=pairsOf (mbV bl)) (E:=V3 c τ s X) (Q:=fun O st' s'=>s'={ s with heap:=H }∧arrOf st'=p'.map (kas_item (pairsOf (mbV bl)))∧failedOf st'=none) (G:=fun q s'=>s'={ s with heap:=H }∧q=p')
   h2 hn (fun q st' s' a1 a2 a3 a4=>⟨a4.1,by rw [a2,a4.2],a3⟩) (xf hcmp (kas_sort bl.length) (zq q6) ⟨rfl,hev⟩)
  rw [← est] at run;refine wpAny_bind (wpAny_mono run ?_ fun O O e=>e);rintro ⟨⟨⟩,st'⟩ s' zC;refine M6 zC fun zD har0 hf=>?_;clear zC;obtain rfl:=zD;obtain ⟨bl',hbl⟩:∃ bl',bl'=p'.toList.map f:=⟨_,rfl⟩
  have hpm:bl'.Perm bl:=by
   rw [hbl];have:=(Array.perm_iff_toList_perm.mp hpp).map f;have e:(List.toArray (List.range bl.length)).toList.map f=bl:=hrange;rw [e] at this;exact this
  have hpw:bl'.Pairwise (fun a b=>a.i<b.i):=by
   rw [hbl,List.pairwise_map,List.pairwise_iff_getElem];intro i j hi hj hij;have hj':j<p'.size:=by simpa using hj
   have hi':i<p'.size:=by assumption
   have:=hinc i j hij ((kq3 23162390698049) hps hj');unfold gK at this;rw [cX,cX,Array.getElem?_eq_getElem hi',Array.getElem?_eq_getElem hj'] at this;have z:((f p'[i]).i:Int)<((f p'[j]).i:Int):=this;have z2:(f p'[i]).i<(f p'[j]).i:=by exact (kq2 23159737584545) z
   simpa using z2
  have har:(arrOf st').map (·.2)=(mbV bl').toArray:=by
   rw [har0,hbl];apply Array.toList_inj.mp;rw [Array.map_map,Array.toList_map];show p'.toList.map _=(p'.toList.map f).map fun b=>Value.ref b.mm;rw [fZ];refine List.map_congr_left fun i hi=>?_;refine G8 (hit i (hpin i hi)) fun b e1 e2=>?_;show (kas_item (pairsOf (mbV bl)) i).2=Value.ref (f i).mm;rw [e2,hfi i b e1]
  dsimp only;refine wpAny_bind (seqEpoch_at ho3 rfl ?_);rw [har];obtain ⟨c2,hc2⟩:∃ c2,(H.update l (Obj.mapSeq fun O=>(mbV bl').toArray)).get? l=some (seqObj "list" (mbV bl').toArray c2):=⟨_,get?_update_seq ho3 fun O=>(mbV bl').toArray⟩
  refine wpAny_bind (listUpdate_at ho3 rfl ?_ (T3 _) (by rw [dH,sizeLine_eq,I3,hpm.length_eq];exact (kq1 796096541682624008028225953) hn));rw [hf];simp only [bne_self_eq_false,Bool.false_eq_true,if_false];refine wpAny_pure (H6 _ rfl ?_);have stC:=stB.trans (Step.put (k:=s.toks) (o':=G3 (mbV bl') c2) stB.at_ I4 (Heap.SameBut.update H l _) hc2);rw [Z0] at stC;exact I5 _ m stC (h bl' c2 hpm hpw)
end
section
variable {c:Cx} {τ:PH} {m:Lo} {X:PV}
theorem DX {t1 t2 t3 value:Expr} {pos:Pos} {Q:PF} (h:W c (eval value c.env) τ m (fun v τ1 m1=>W c (assign t1 c.env v) τ1 m1 (fun O τ2 m2=>W c (assign t2 c.env v) τ2 m2 (fun O τ3 m3=>W c (assign t3 c.env v) τ3 m3 (fun O=>Q .next) X) X) X) X)
  (he:autoParam ((assignEach [t1,t2,t3] c.env).map (·.2)=[assign t1 c.env,assign t2 c.env,assign t3 c.env]) aR) (hw:autoParam (swappedStores [t1,t2,t3] value c.env=pure none) aR):W c (exec (.Assign [t1,t2,t3] value pos) c.env) τ m Q X:=fun s hs =>
 wpAny_Assign_three (h.use hs (fun v s1 τ1 m1 st1 q1=>q1.use st1.at_ (fun O s2 τ2 m2 st2 q2=>q2.use st2.at_ (fun O s3 τ3 m3 st3 q3=>W.cont q3 ((st1.trans st2).trans st3)) (fun O O τ' m' st q=>⟨τ',m',(st1.trans st2).trans st,q⟩)) (fun O O τ' m' st q=>⟨τ',m',st1.trans st,q⟩)) xx) he hw
end
structure Win where
 al:Nat
 ah:Nat
 bl:Nat
 bh:Nat
structure B3 where
 i:Nat
 j:Nat
 k:Nat
noncomputable def Mat (fs ss:List Str) (i j:Nat):Prop:=∃ s,fs[i]? = some s∧ss[j]? = some s
structure Rise (fs ss:List Str) (r:Str→Nat):Prop where
 r1:(fs.map r).Pairwise (·<·)
 r2:(ss.map r).Pairwise (·<·)
theorem wZ {fs:List Str} {r:Str→Nat} (h:(fs.map r).Pairwise (·<·)) {i j:Nat} {s t:Str} (hi:fs[i]? = some s) (hj:fs[j]? = some t):i<j↔r s<r t:=by
 obtain ⟨li,ei⟩:=List.getElem?_eq_some_iff.mp hi;obtain ⟨lj,ej⟩:=List.getElem?_eq_some_iff.mp hj;have key:∀ {i j:Nat} (li:i<fs.length) (lj:j<fs.length),i<j→r fs[i]<r fs[j]:=fun {i j} li lj hij=>by
  have:=List.pairwise_iff_getElem.mp h i j (by simpa using li) (by simpa using lj) hij;simpa using this
 constructor
 ·intro hij;have:=key li lj hij;rw [ei,ej] at this;exact this
 ·intro hr;rcases Nat.lt_trichotomy i j with z | z | z
  ·exact z
  ·subst z;rw [hi] at hj;cases hj;exact (kq2 706827297) hr
  ·have:=key lj li z;rw [ei,ej] at this;exact (kq4 23231110140993) hr this
theorem Rise.lt {fs ss:List Str} {r:Str→Nat} (h:Rise fs ss r) {i j i' j':Nat} (m:Mat fs ss i j) (m':Mat fs ss i' j'):i<i'↔j<j':=by
 refine G8 m fun s a b=>?_;clear m;refine G8 m' fun t c d=>?_;clear m';exact (wZ h.r1 a c).trans (wZ h.r2 b d).symm
theorem Rise.eq {fs ss:List Str} {r:Str→Nat} (h:Rise fs ss r) {i j i' j':Nat} (m:Mat fs ss i j) (m':Mat fs ss i' j'):i=i'↔j=j':=by
 have h1:=h.lt m m';have h2:=h.lt m' m;lia
structure Srch (fs ss:List Str) (B:List B3) (Q:List Win):Prop where
 blk:∀ b∈B,1≤b.k∧∀ t,t<b.k→Mat fs ss (b.i+t) (b.j+t)
 win:∀ q∈Q,q.al≤q.ah∧q.ah≤fs.length∧q.bl≤q.bh∧q.bh≤ss.length
 cov:∀ i j,Mat fs ss i j→(∃ b∈B,∃ t,t<b.k∧i=b.i+t∧j=b.j+t)∨∃ q∈Q,q.al≤i∧i<q.ah∧q.bl≤j∧j<q.bh
 bb:B.Pairwise fun a b=>a.i+a.k≤b.i∨b.i+b.k≤a.i
 bq:∀ b∈B,∀ q∈Q,b.i+b.k≤q.al∨q.ah≤b.i
 qq:Q.Pairwise fun p q=>p.ah≤q.al∨q.ah≤p.al
theorem Bf (fs ss:List Str):Srch fs ss [] [⟨0,fs.length,0,ss.length⟩] where
 blk:=fun b h=>by cases h
 win:=fun q h=>by
  rw [I7] at h;subst h;exact ⟨T3 _,K9 _,T3 _,K9 _⟩
 cov:=fun i j ⟨s,a,b⟩=>.inr (gP _ (List.mem_singleton_self _) (T3 _) ((List.getElem?_eq_some_iff.mp a).1) (T3 _) ((List.getElem?_eq_some_iff.mp b).1))
 bb:=List.Pairwise.nil
 bq:=fun b h=>by cases h
 qq:=List.pairwise_singleton _ _
theorem Srch.none {fs ss:List Str} {B:List B3} {Q:List Win} {q:Win} (h:Srch fs ss B (Q++[q])) (hN:NoM fs ss q.al q.ah q.bl q.bh):Srch fs ss B Q where
 blk:=h.blk
 win:=fun p hp=>h.win p (O2 _ hp)
 cov:=fun i j m=>by
  rcases h.cov i j m with z | ⟨p,hp,z⟩
  ·exact .inl z
  ·rcases List.mem_append.mp hp with y | y
   ·exact .inr (H6 p y z)
   ·rw [I7] at y;subst y;refine G8 m fun s a b=>?_;clear m;exact absurd b (hN i j s z.1 z.2.1 z.2.2.1 z.2.2.2 a)
 bb:=h.bb
 bq:=fun b hb p hp=>h.bq b hb p (O2 _ hp)
 qq:=(List.pairwise_append.mp h.qq).1
noncomputable def dg (q:Win) (i j k:Nat):List Win:=(if q.al<i∧q.bl<j then [⟨q.al,i,q.bl,j⟩] else [])++(if i+k<q.ah∧j+k<q.bh then [⟨i+k,q.ah,j+k,q.bh⟩] else [])
theorem pK {q p:Win} {i j k:Nat} (h:p∈dg q i j k):(p=⟨q.al,i,q.bl,j⟩∧q.al<i∧q.bl<j)∨(p=⟨i+k,q.ah,j+k,q.bh⟩∧i+k<q.ah∧j+k<q.bh):=by
 unfold dg at h;rcases List.mem_append.mp h with h | h
 ·split at h
  ·rename_i c;rw [I7] at h;exact .inl ⟨h,c⟩
  ·cases h
 ·split at h
  ·rename_i c;rw [I7] at h;exact .inr ⟨h,c⟩
  ·cases h
theorem Srch.step {fs ss:List Str} {r:Str→Nat} {B:List B3} {Q:List Win} {q:Win} {i j k:Nat} (hR:Rise fs ss r) (h:Srch fs ss B (Q++[q])) (hB:Blk fs ss q.al q.ah q.bl q.bh i j k) (hk:1≤k):Srch fs ss (B++[⟨i,j,k⟩]) (Q++dg q i j k):=by
 refine bY hB fun b1 b2 b3 b4 b5=>?_;clear hB;have hq:=h.win q (O6 _ (List.mem_singleton_self _));have hbq:=fun b hb=>h.bq b hb q (O6 _ (List.mem_singleton_self _));have hqq:=List.pairwise_append.mp h.qq;have hpq:∀ p∈Q,p.ah≤q.al∨q.ah≤p.al:=fun p hp=>hqq.2.2 p hp q (List.mem_singleton_self _);have hm:∀ t,t<k→Mat fs ss (i+t) (j+t):=fun t ht=>b5 t ht;refine ⟨fun b hb=>?_,fun p hp=>?_,fun i' j' m=>?_,?_,fun b hb p hp=>?_,?_⟩
 ·rcases List.mem_append.mp hb with z | z
  ·exact h.blk b z
  ·rw [I7] at z;subst z;exact ⟨hk,hm⟩
 ·rcases List.mem_append.mp hp with z | z
  ·exact h.win p (O2 _ z)
  ·rcases pK z with ⟨rfl,c⟩ | ⟨rfl,c⟩ <;> refine ⟨?_,?_,?_,?_⟩ <;> dsimp only <;> lia
 ·rcases h.cov i' j' m with ⟨b,hb,z⟩ | ⟨p,hp,z⟩
  ·exact .inl (H6 b (O2 _ hb) z)
  ·rcases List.mem_append.mp hp with y | y
   ·exact .inr (H6 p (O2 _ y) z)
   ·rw [I7] at y;subst y;have m0:=hm 0 (by assumption);have ml:=hm (k-1) ((kq1 723282612272) hk);have l0:=hR.lt m m0;have ll:=hR.lt ml m;by_cases c1:i'<i
    ·have:j'<j:=by have:=l0.mp (by assumption);assumption
     refine .inr (gP ⟨p.al,i,p.bl,j⟩ (O6 _ ?_) ?_ ?_ ?_ ?_)
     ·unfold dg;rw [if_pos ⟨by exact (kq0 881459857774792434172149068656103489 [_,_,_,_,_,_,_]) z b1 c1,by exact (kq0 31762324240075419135703618956208984446453603340734529 [_,_,_,_,_,_,_,_]) z b3 l0 c1⟩];exact O2 _ (List.mem_singleton_self _)
     all_goals dsimp only;lia
    ·by_cases c2:i'<i+k
     ·have e:=hR.eq (hm (i'-i) ((kq3 24268880985050927152) hk c2)) m;have:i+(i'-i)=i':=by exact (kq2 24825428550898753) c1
      have hj:=e.mp this;exact .inl (H6 ⟨i,j,k⟩ (O6 _ (List.mem_singleton_self _)) (M8 (i'-i) (by dsimp only;lia) (by dsimp only;lia) (by dsimp only;lia)))
     ·have:j+k≤j':=by have:=ll.mp (by lia);exact (kq3 724589214849155137) this
      refine .inr (gP ⟨i+k,p.ah,j+k,p.bh⟩ (O6 _ ?_) ?_ ?_ ?_ ?_)
      ·unfold dg;rw [if_pos (show i+k<p.ah∧j+k<p.bh from ⟨by exact (kq0 30131453382933940320753125032962845669508337729 [_,_,_,_,_,_,_,_]) z b2 c2,by exact (kq0 945789301959884842120933542103547911452315713 [_,_,_,_,_,_,_,_]) z b4 this⟩)];exact O6 _ (List.mem_singleton_self _)
      all_goals dsimp only;lia
 ·rw [List.pairwise_append];refine ⟨h.bb,List.pairwise_singleton _ _,fun a ha b hb=>?_⟩;rw [I7] at hb;subst hb;have:=hbq a ha;dsimp only;exact (kq6 1203475180041513549215314307806856114950209) b1 b2 this
 ·rcases List.mem_append.mp hb with z | z
  ·rcases List.mem_append.mp hp with y | y
   ·exact h.bq b z p (O2 _ y)
   ·have:=hbq b z;rcases pK y with ⟨rfl,c⟩ | ⟨rfl,c⟩ <;> dsimp only <;> lia
  ·rw [I7] at z;subst z;rcases List.mem_append.mp hp with y | y
   ·have:=hpq p y;dsimp only;exact (kq6 1147585874036954260437922658959577153) b1 b2 this
   ·rcases pK y with ⟨rfl,c⟩ | ⟨rfl,c⟩ <;> dsimp only <;> lia
 ·rw [List.pairwise_append];refine ⟨hqq.1,?_,fun a ha b hb=>?_⟩
  ·unfold dg;rw [List.pairwise_append];refine ⟨by split <;> simp,by split <;> simp,fun a ha b hb=>?_⟩;split at ha
   ·rw [I7] at ha;subst ha;split at hb
    ·rw [I7] at hb;subst hb;dsimp only;exact (kq4 30378425911329)
    ·cases hb
   ·cases ha
  ·have:=hpq a ha;rcases pK hb with ⟨rfl,c⟩ | ⟨rfl,c⟩ <;> dsimp only <;> lia
noncomputable def N8:B3→List B3→List B3
 | s,[]=>if s.k≠0 then [s] else []
 | s,b::r=>if s.i+s.k=b.i∧s.j+s.k=b.j then N8 ⟨s.i,s.j,s.k+b.k⟩ r else (if s.k≠0 then [s] else [])++N8 b r
noncomputable def fB (b:B3):List B3:=(List.range b.k).map fun t=>⟨b.i+t,b.j+t,1⟩
theorem sO (r:List B3):∀ (n:Nat) (i j k:Nat),N8 ⟨i,j,k⟩ ((List.range n).map (fun t=>(⟨i+k+t,j+k+t,1⟩:B3))++r)=N8 ⟨i,j,k+n⟩ r
 | 0,i,j,k=>rfl
 | n+1,i,j,k=>by
  rw [List.range_succ_eq_map,O4,fZ,bz];show (if i+k=i+k+0∧j+k=j+k+0 then N8 ⟨i,j,k+1⟩ _ else _)=_;rw [if_pos ⟨rfl,rfl⟩];have e:(List.range n).map ((fun t=>(⟨i+k+t,j+k+t,1⟩:B3))∘Nat.succ)=(List.range n).map fun t=>(⟨i+(k+1)+t,j+(k+1)+t,1⟩:B3):=by
   refine List.map_congr_left fun t O=>?_;show (⟨i+k+(t+1),j+k+(t+1),1⟩:B3)=⟨i+(k+1)+t,j+(k+1)+t,1⟩
   rw [show i+k+(t+1)=i+(k+1)+t by exact (kq3 26641226556698362234945),show j+k+(t+1)=j+(k+1)+t by exact (kq3 26641226556698362234945)]
  rw [e,sO r n i j (k+1),show k+1+n=k+(n+1) by exact (kq2 25423459813247489)]
theorem yt (s b:B3) (r:List B3) (hk:1≤b.k):N8 s (fB b++r)=N8 s (b::r):=by
 obtain ⟨n,hn⟩:∃ n,b.k=n+1:=⟨b.k-1,by exact (kq1 794418090135600) hk⟩
 obtain ⟨bi,bj,bk⟩:=b;dsimp only at hn;subst hn;unfold fB;dsimp only;rw [List.range_succ_eq_map,O4,fZ,bz];have e:(List.range n).map ((fun t=>(⟨bi+t,bj+t,1⟩:B3))∘Nat.succ)=(List.range n).map fun t=>(⟨bi+1+t,bj+1+t,1⟩:B3):=by
  refine List.map_congr_left fun t O=>?_;show (⟨bi+(t+1),bj+(t+1),1⟩:B3)=⟨bi+1+t,bj+1+t,1⟩
  rw [show bi+(t+1)=bi+1+t by exact (kq2 25405951379587137),show bj+(t+1)=bj+1+t by exact (kq2 25405951379587137)]
 rw [e];show (if s.i+s.k=bi+0∧s.j+s.k=bj+0 then N8 ⟨s.i,s.j,s.k+1⟩ _ else (if s.k≠0 then [s] else [])++N8 ⟨bi+0,bj+0,1⟩ _)=(if s.i+s.k=bi∧s.j+s.k=bj then N8 ⟨s.i,s.j,s.k+(n+1)⟩ r else (if s.k≠0 then [s] else [])++N8 ⟨bi,bj,n+1⟩ r)
 simp only [Nat.add_zero];by_cases c:s.i+s.k=bi∧s.j+s.k=bj
 ·rw [if_pos c,if_pos c];have z:=sO r n s.i s.j (s.k+1);rw [show s.i+(s.k+1)=bi+1 by exact (kq5 894416007025236534381496092737) c,show s.j+(s.k+1)=bj+1 by exact (kq5 894418424876983850030902396993) c] at z;rw [z,show s.k+1+n=s.k+(n+1) by exact (kq2 25423459813247489)]
 ·rw [if_neg c,if_neg c];have z:=sO r n bi bj 1;rw [z,show 1+n=n+1 by exact (kq1 24243128368)]
theorem uQ:∀ (bs:List B3) (s:B3),(∀ b∈bs,1≤b.k)→N8 s (bs.flatMap fB)=N8 s bs
 | [],s,_=>rfl
 | b::r,s,h=>by
  rw [List.flatMap_cons,yt s b _ (h b K4)];have ih:=fun s=>uQ r s fun b hb=>h b (H9 _ hb);rw [N8,N8,ih,ih]
theorem vh:∀ l l':List B3,l.Pairwise (fun a b=>a.i<b.i)→l'.Pairwise (fun a b=>a.i<b.i)→(∀ x,x∈l↔x∈l')→l=l'
 | [],[],_,_,_=>rfl
 | [],b::r,_,_,h=>by have:=(h b).mpr K4;cases this
 | a::r,[],_,_,h=>by have:=(h a).mp K4;cases this
 | a::r,b::r',h1,h2,h=>by
  obtain ⟨a1,a2⟩:=List.pairwise_cons.mp h1;obtain ⟨b1,b2⟩:=List.pairwise_cons.mp h2;have e:a=b:=by
   rcases List.mem_cons.mp ((h a).mp K4) with z | z
   ·exact z
   ·rcases List.mem_cons.mp ((h b).mpr K4) with y | y
    ·exact y.symm
    ·have:=a1 b y;have:=b1 a z;lia
  subst e;have ih:=vh r r' a2 b2 fun x=>⟨fun hx=>by
   rcases List.mem_cons.mp ((h x).mp (H9 _ hx)) with z | z
   ·have:=a1 x hx;rw [z] at this;exact ((kq1 775201) this).elim
   ·exact z,fun hx=>by
   rcases List.mem_cons.mp ((h x).mpr (H9 _ hx)) with z | z
   ·have:=b1 x hx;rw [z] at this;exact ((kq1 775201) this).elim
   ·exact z⟩
  rw [ih]
theorem singles_mem {b x:B3}:x∈fB b↔∃ t,t<b.k∧x=⟨b.i+t,b.j+t,1⟩:=by
 unfold fB;rw [tQ];constructor
 ·intro zB;refine G8 zB fun t ht zC=>?_;clear zB;obtain rfl:=zC;exact ⟨t,List.mem_range.mp ht,rfl⟩
 ·intro zD;refine G8 zD fun t ht zE=>?_;clear zD;obtain rfl:=zE;exact ⟨t,List.mem_range.mpr ht,rfl⟩
theorem Dm (b:B3):(fB b).Pairwise fun x y=>x.i<y.i:=by
 unfold fB;rw [List.pairwise_map];exact List.pairwise_lt_range.imp fun h=>by dsimp only;exact (kq3 758735569015873) h
theorem vY:∀ bs:List B3,bs.Pairwise (fun a b=>a.i+a.k≤b.i)→(bs.flatMap fB).Pairwise fun x y=>x.i<y.i
 | [],_=>List.Pairwise.nil
 | b::r,h=>by
  obtain ⟨h1,h2⟩:=List.pairwise_cons.mp h;rw [List.flatMap_cons,List.pairwise_append];refine ⟨Dm b,vY r h2,fun x hx y hy=>?_⟩;refine G8 (singles_mem.mp hx) fun t ht zF=>?_;obtain rfl:=zF;refine G8 (List.mem_flatMap.mp hy) fun c hc hy=>?_;refine G8 (singles_mem.mp hy) fun u hu zG=>?_;obtain rfl:=zG;have:=h1 c hc;dsimp only;exact (kq5 25462435849803617391681) ht this
theorem Aa {fs ss:List Str} {B bs M:List B3} (h:Srch fs ss B []) (hp:bs.Perm B) (hs:bs.Pairwise fun a b=>a.i<b.i) (hM:M.Pairwise fun a b=>a.i<b.i) (hm:∀ x,x∈M↔x.k=1∧Mat fs ss x.i x.j):bs.flatMap fB=M:=by
 have hd:bs.Pairwise fun a b=>a.i+a.k≤b.i∨b.i+b.k≤a.i:=hp.symm.pairwise h.bb fun h=>h.symm;have hk:∀ b∈bs,1≤b.k:=fun b hb=>(h.blk b (hp.mem_iff.mp hb)).1;have hd2:bs.Pairwise fun a b=>a.i+a.k≤b.i:=by
  refine List.Pairwise.imp_of_mem (fun {a b} ha hb hab=>?_) (hs.and hd);have:=hk b hb;exact (kq4 26065552501261068998277726571910209) hab this
 refine vh _ _ (vY bs hd2) hM fun x=>?_;rw [List.mem_flatMap,hm];constructor
 ·intro zH;refine G8 zH fun b hb hx=>?_;clear zH;refine G8 (singles_mem.mp hx) fun t ht zI=>?_;obtain rfl:=zI;exact ⟨rfl,(h.blk b (hp.mem_iff.mp hb)).2 t ht⟩
 ·rintro ⟨h1,m⟩;rcases h.cov _ _ m with ⟨b,hb,t,ht,e1,e2⟩ | ⟨q,hq,_⟩
  ·refine ⟨b,hp.mem_iff.mpr hb,singles_mem.mpr ⟨t,ht,?_⟩⟩;obtain ⟨xi,xj,xk⟩:=x;dsimp only at e1 e2 h1;subst e1 e2 h1;rfl
  ·cases hq
structure Wq where
 t:Addr
 q:Win
 u1:Tok
 u2:Tok
 u3:Tok
 u4:Tok
noncomputable def Wq.items (x:Wq):List Value:=[.int (x.q.al:Int) x.u1,.int (x.q.ah:Int) x.u2,.int (x.q.bl:Int) x.u3,.int (x.q.bh:Int) x.u4]
noncomputable abbrev Wq.cell (x:Wq):H7:=(ecl x.t (H4 x.items))
noncomputable abbrev wqV (l:List Wq):List Value:=l.map fun x=>.ref x.t
noncomputable def Mb.b3 (b:Mb):B3:=⟨b.i,b.j,b.k⟩
noncomputable abbrev Mb.cells (b:Mb):List H7:=[(ecl b.mm b.obj),(ecl b.d emptyDict)]
noncomputable def bC (l:List Wq):Nat:=(l.map fun x=>2*(x.q.ah-x.q.al)+1).sum
theorem wzA {S A H i k:Nat} (h1:A≤i) (h2:i+k≤H) (hk:¬k=0):(S+(2*(i-A)+1+(2*(H-(i+k))+1))+1≤S+(2*(H-A)+1))∧(S+(2*(i-A)+1)+1≤S+(2*(H-A)+1))∧(S+(2*(H-(i+k))+1)+1≤S+(2*(H-A)+1)):=by
 obtain ⟨x,rfl⟩:=Nat.exists_eq_add_of_le h1;obtain ⟨y,rfl⟩:=Nat.exists_eq_add_of_le h2;rw [Nat.add_sub_cancel_left,Nat.add_sub_cancel_left,show A+x+k+y-A=x+k+y by rw [Nat.add_assoc,Nat.add_assoc,Nat.add_sub_cancel_left,← Nat.add_assoc]];clear h1 h2;exact ⟨by exact (kq4 29373569302306141660924263300988066449528216097) hk,by exact (kq4 27356268188269940820452068408811084321) hk,by exact (kq4 27356268188231256374816020992631790113) hk⟩
open Classical in
noncomputable def cnt (p:H7) (L:List H7):Nat:=L.countP fun q=>decide (q=p)
theorem qR (p:H7):cnt p []=0:=rfl
open Classical in
noncomputable def cnt1 (p q:H7):Nat:=if q=p then 1 else 0
open Classical in
theorem dq (p q:H7) (L:List H7):cnt p (q::L)=cnt1 p q+cnt p L:=by
 unfold cnt cnt1;rw [List.countP_cons];simp;exact (kq2 24227432513)
theorem cO (p:H7) (L K:List H7):cnt p (L++K)=cnt p L+cnt p K:=by unfold cnt;rw [List.countP_append]
open Classical in
open Classical in
theorem cnt_mem {p:H7} {L:List H7}:p∈L↔1≤cnt p L:=by
 unfold cnt;show _↔0<_;rw [List.countP_pos_iff];exact ⟨fun h=>⟨p,h,by simp⟩,fun ⟨a,h,e⟩=>by rw [← of_decide_eq_true e];exact h⟩
open Classical in
theorem cnt_nodup:∀ {L:List H7},L.Nodup↔∀ p,cnt p L≤1
 | []=>by simp [qR]
 | a::l=>by
  rw [qD,cnt_nodup (L:=l),cnt_mem];have hs:∀ p,cnt1 p a=if a=p then 1 else 0:=fun p=>rfl
  constructor
  ·rintro ⟨h1,h2⟩ p;rw [dq,hs];have:=h2 p;split
   ·rename_i e;subst e;exact (kq1 22559366860848) h1
   ·exact (kq1 704980242945) this
  ·intro h;refine ⟨?_,fun p=>?_⟩
   ·have:=h a;rw [dq,hs,if_pos rfl] at this;exact (kq1 27077105961008) this
   ·have:=h p;rw [dq] at this;exact (kq2 704463259713) this
theorem Cells.cnt {τ:PH} {L L':List H7} (h:Cells τ L) (hc:∀ p,Mine.cnt p L'≤Mine.cnt p L):Cells τ L':=by
 have hsub:∀ p∈L',p∈L:=fun p hp=>by
  have:=cnt_mem.mp hp;have:=hc p;exact cnt_mem.mpr q3
 have hnd:L.Nodup:=List.Pairwise.of_map (·.1) (fun a b h e=>h (by rw [e])) h.nd;have hnd':L'.Nodup:=cnt_nodup.mpr fun p=>W2 (hc p) (cnt_nodup.mp hnd p);have inj:∀ a∈L,∀ b∈L,a.1=b.1→a=b:=by
  have z:=h.nd;clear hsub hnd hnd' hc h;induction L with
  | nil=>intro a ha;cases ha
  | cons x l ih =>
   rw [O4,qD] at z;intro a ha b hb e;rcases List.mem_cons.mp ha with h1 | h1
   ·rcases List.mem_cons.mp hb with h2 | h2
    ·rw [h1,h2]
    ·exact absurd (List.mem_map.mpr ⟨b,h2,by rw [← e,h1]⟩:x.1∈l.map (·.1)) z.1
   ·rcases List.mem_cons.mp hb with h2 | h2
    ·exact absurd (List.mem_map.mpr ⟨a,h1,by rw [e,h2]⟩:x.1∈l.map (·.1)) z.1
    ·exact ih z.2 a h1 b h2 e
 refine ⟨fun p hp=>h.at_ p (hsub p hp),?_⟩;rw [List.Nodup,List.pairwise_map];exact List.Pairwise.imp_of_mem (fun ha hb hne e=>hne (inj _ (hsub _ ha) _ (hsub _ hb) e)) hnd'
theorem dM {α:Type} {c:Cx} {τ:PH} {m:Lo} {X:PV} {t:Sem α} {Q:α→PH→Lo→Prop} (h:∀ m',m'=m→W c t τ m' Q X):W c t τ m Q X:=h m rfl
noncomputable def SubC (L' L:List H7):Prop:=∀ p,cnt p L'≤cnt p L
noncomputable def Has (a:H7) (L R:List H7):Prop:=∀ p,cnt1 p a+cnt p R≤cnt p L
noncomputable def HasL (X L R:List H7):Prop:=∀ p,cnt p X+cnt p R≤cnt p L
section
variable {a b:H7} {L L' R X K Y:List H7}
theorem Has.h:Has a (a::R) R:=fun p=>by rw [dq];exact K9 _
theorem Has.c (h:Has a L R):Has a (b::L) (b::R):=fun p=>by have:=h p;rw [dq,dq];exact (kq4 758735593204965558337) this
theorem Has.l (h:Has a L R):Has a (L++K) (R++K):=fun p=>by have:=h p;rw [cO,cO];exact (kq4 758770496168649672769) this
theorem Has.r (h:Has a K R):Has a (L++K) (L++R):=fun p=>by have:=h p;rw [cO,cO];exact (kq4 758735593204965558337) this
theorem HasL.h:HasL X (X++R) R:=fun p=>by rw [cO];exact K9 _
theorem HasL.w:HasL X X []:=fun p=>K9 _
theorem HasL.c (h:HasL X L R):HasL X (b::L) (b::R):=fun p=>by have:=h p;rw [dq,dq];exact (kq4 758735593204965558337) this
theorem HasL.l (h:HasL X L R):HasL X (L++K) (R++K):=fun p=>by have:=h p;rw [cO,cO];exact (kq4 758770496168649672769) this
theorem HasL.r (h:HasL X K R):HasL X (L++K) (L++R):=fun p=>by have:=h p;rw [cO,cO];exact (kq4 758735593204965558337) this
theorem SubC.n:SubC [] L:=fun p=>T3 _
theorem SubC.r:SubC L L:=fun p=>K9 _
theorem SubC.c (h:Has a L R) (k:SubC L' R):SubC (a::L') L:=fun p=>by have:=h p;have:=k p;rw [dq];lia
theorem SubC.p (h:HasL X L R) (k:SubC L' R):SubC (X++L') L:=fun p=>by have:=h p;have:=k p;rw [cO];lia
theorem SubC.t (h:HasL X L R):SubC X L:=fun p=>by have:=h p;exact (kq3 690470635585) this
theorem SubC.s (h:SubC (X++(Y++K)) L):SubC ((X++Y)++K) L:=by rw [W4];exact h
theorem SubC.k (h:SubC (a::(Y++K)) L):SubC ((a::Y)++K) L:=h
theorem SubC.z (h:SubC K L):SubC ([]++K) L:=h
end
theorem lJ {α:Type} {c:Cx} {τ:PH} {m:Lo} {X:PV} {t:Sem α} {Q:α→PH→Lo→Prop} (h:∀ Q':α→PH→Lo→Prop,(∀ a τ' m',Q a τ' m'→Q' a τ' m')→W c t τ m Q' X):W c t τ m Q X:=h Q fun O O O h=>h
theorem Wq.cells_snoc (qs:List Wq) (x:Wq):(qs++[x]).map Wq.cell=qs.map Wq.cell++[(ecl x.t (H4 x.items))]:=by simp
theorem vf:∀ ql:List Wq,ql.length≤bC ql
 | []=>T3 _
 | a::l=>by
  have:=vf l;unfold bC at *;simp only [O4,List.sum_cons,R8];exact (kq4 776924405256784099463233) this
structure Nt where
 t:Addr
 b:B3
 u1:Tok
 u2:Tok
 u3:Tok
noncomputable def Nt.items (x:Nt):List Value:=[.int (x.b.i:Int) x.u1,.int (x.b.j:Int) x.u2,.int (x.b.k:Int) x.u3]
noncomputable abbrev Nt.cell (x:Nt):H7:=(ecl x.t (H4 x.items))
noncomputable abbrev ntV (l:List Nt):List Value:=l.map fun x=>.ref x.t
theorem Nt.cells_snoc (qs:List Nt) (x:Nt):(qs++[x]).map Nt.cell=qs.map Nt.cell++[(ecl x.t (H4 x.items))]:=by simp
theorem Mb.cells_snoc (qs:List Mb) (x:Mb):(qs++[x]).flatMap Mb.cells=qs.flatMap Mb.cells++[(ecl x.mm x.obj),(ecl x.d emptyDict)]:=by rw [eO];rfl
theorem Cells.del {τ:PH} {L:List H7} {a:Addr} {P:Obj→Prop} (h:Cells τ ((a,P)::L)):Cells (du τ a) L:=by
 have hn:=(List.nodup_cons.mp h.nd).1;refine ⟨fun p hp=>?_,h.tail.nd⟩;refine G8 (h.tail.at_ p hp) fun o e q=>?_;refine H6 o ?_ q;rw [xJ (fun z=>hn (by rw [← show p.1=a from z];exact O3 (f:=(·.1)) hp))];exact e
theorem sS:∀ (bs:List B3) (s:B3),(N8 s bs).length≤bs.length+1
 | [],s=>by unfold N8;split <;> simp
 | b::r,s=>by
  unfold N8;split
  ·have:=sS r ⟨s.i,s.j,s.k+b.k⟩;simp only [R8];exact (kq2 741425431823597633) this
  ·have:=sS r b;rw [bW,R8];split <;> simp <;> lia
theorem BR {w:World} {os:OsState} (x dx a b:Addr) (first second:List (Str×Tok)) (ja jb:Nat) (oc:Value) (e j p:Addr) (bs:List (Str×Addr)) (hl1:first.length≤8) (hl2:second.length≤8) (hbs:bs.map (·.1)=nmL second) (hnd:(nmL second).Nodup)
  (r:Str→Nat) (hR:Rise (nmL first) (nmL second) r) (M:List B3) (hM:M.Pairwise fun a b=>a.i<b.i) (hm:∀ x,x∈M↔x.k=1∧Mat (nmL first) (nmL second) x.i x.j) :
  U4 w os 9 (.ref 323) ⟨[.ref x],[]⟩ ((ecl a (G3 (strValues first) ja))::smC w x dx a b second jb .none oc e j p bs)
   (fun v L'=>∃ la ml n,v=.ref la∧ml.map Mb.b3=N8 ⟨0,0,0⟩ M++[⟨first.length,second.length,0⟩]∧L'=(ecl la (G3 (mbV ml) n))::(ml.flatMap Mb.cells++(ecl a (G3 (strValues first) ja))::smC w x dx a b second jb (.ref la) oc e j p bs)):=by
 intro τ hC;refine Z7 (RX:=fun v τ'=>∃ L',Cells τ' L'∧False) k323 cd323 rfl (binds:=[(G4 "self",.ref x)]) (V9 (fun P=>by kernel_rfl)) fun A L hr=>?_;let c0:Cx:=cx w os A fd323 323 L;show W c0 (execs _ c0.env) _ (upd (fun O=>none) (G4 "self") (.ref x)) _ _;have hq:(cx w os A fd323 323 L).A.handled=none:=hr.quiet;have hr8:Room 8 (cx w os A fd323 323 L).A:=hr;generalize hL0:((ecl a (G3 (strValues first) ja))::smC w x dx a b second jb .none oc e j p bs:List H7)=L0 at hC ⊢;refine lJ fun Q hQ=>?_;have ga:∀ {τ':PH} {G:List H7},Cells τ' (G++L0)→τ' a=some (G3 (strValues first) ja):=fun h=>by
  obtain ⟨_,z,rfl⟩:=h.inR (p:=(ecl a (G3 (strValues first) ja))) (by rw [← hL0];simp);exact z
 have gb:∀ {τ':PH} {G:List H7},Cells τ' (G++L0)→τ' b=some (G3 (strValues second) jb):=fun h=>by
  obtain ⟨_,z,rfl⟩:=h.inR (p:=(ecl b (G3 (strValues second) jb))) (by rw [← hL0];delta smC;exact mC (mL (mC (mC mH))));exact z
 have gx:∀ {τ':PH} {G:List H7},Cells τ' (G++L0)→τ' x=some (instObj 362 dx):=fun h=>by
  obtain ⟨_,z,rfl⟩:=h.inR (p:=(ecl x (instObj 362 dx))) (by rw [← hL0];delta smC;exact mC (mL mH));exact z
 have gdx:∀ {τ':PH} {G:List H7},Cells τ' (G++L0)→∃ od,τ' dx=some od∧S8 od (Y6 a b .none oc e j p):=fun h=>h.inR (p:=(dx,fC (Y6 a b .none oc e j p))) (by rw [← hL0];delta smC;exact mC (mL (mC mH)));have hC0:Cells τ ([]++L0):=hC;refine G8 (gdx hC0) fun od edx hf=>?_;refine G6 (O7 (O8 fun O=>?_));refine G6 (K6 (J0 (R7 ?_)));walk_at "nm";refine T9 (gx hC0) edx hf (v:=.none) (by kernel_rfl) (by kernel_rfl) rfl (aL (mD (I6 ?_)));refine Q7 (by simp only [show (!(Value.none==Value.none))=false from rfl]) ?_;refine G9 (G6 ?_);refine jz (names:=[G4 "la",G4 "lb"]) (U6 (G7 (K8 (I9 (.builtin "len") (I2 rfl (G7 (R7 ?_)))))));walk_at "nm";refine T9 (gx hC0) edx hf (v:=.ref a) (by kernel_rfl) (by kernel_rfl) rfl ?_;refine H5 (cY (ga hC0) (svl (lq (by assumption))) fun tla=>?_);refine G7 (K8 (I9 (.builtin "len") (I2 rfl (G7 (R7 ?_)))));walk_at "nm";refine T9 (gx hC0) edx hf (v:=.ref b) (by kernel_rfl) (by kernel_rfl) rfl ?_;refine H5 (cY (gb hC0) (svl (lq (by assumption))) fun tlb=>?_);rw [Q8,Q8];refine H5 ⟨leB rfl,fun tp htp=>?_⟩;refine ie hq I4 rfl ?_;refine M4 (aP (M4 (aP (aj ?_))));have hC1:=hC0.keep (o:=H4 [.int (first.length:Int) tla,.int (second.length:Int) tlb]) htp;generalize G5 τ tp (H4 [.int (first.length:Int) tla,.int (second.length:Int) tlb])=τ1 at hC1 ⊢;refine G6 (K3 (V6 (G7 (U6 (G7 (J9 fun v1=>G7 ?_))))));walk_at "nm";refine G7 (J9 fun v2=>G7 ?_);walk_at "nm";refine H5 ⟨leB rfl,fun t0 ht0=>H5 ⟨leB rfl,fun qa hqa=>?_⟩⟩;let L1:List H7:=[(ecl qa (G3 (wqV [⟨t0,⟨0,first.length,0,second.length⟩,v1,tla,v2,tlb⟩]) 0)),Wq.cell ⟨t0,⟨0,first.length,0,second.length⟩,v1,tla,v2,tlb⟩]++L0;have hC2:Cells (G5 (G5 τ1 t0 (H4 [.int 0 v1,.int (first.length:Int) tla,.int 0 v2,.int (second.length:Int) tlb])) qa (G3 [.ref t0] 0)) L1:=by
  refine (hC1.new (P:=(·=H4 (Wq.items ⟨t0,⟨0,first.length,0,second.length⟩,v1,tla,v2,tlb⟩))) ht0 rfl).new (P:=(·=G3 (wqV [⟨t0,⟨0,first.length,0,second.length⟩,v1,tla,v2,tlb⟩]) 0)) hqa rfl
 generalize G5 (G5 τ1 t0 (H4 [.int 0 v1,.int (first.length:Int) tla,.int 0 v2,.int (second.length:Int) tlb])) qa (G3 [.ref t0] 0)=τ2 at hC2 ⊢;refine G6 (K3 (V6 (H5 ⟨leB rfl,fun ma hma=>?_⟩)));have hC3:=hC2.new (o:=G3 [] 0) (P:=(·=G3 (mbV []) 0)) hma rfl;generalize G5 τ2 ma (G3 [] 0)=τ3 at hC3 ⊢;have hfl:(nmL first).length=first.length:=I3 _
 have hsl:(nmL second).length=second.length:=I3 _;let J1:PF:=fun fl τ' m'=>fl=.next∧∃ (bl:List Mb) (kb:Nat),Cells τ' ((ecl ma (G3 (mbV bl) kb))::(bl.flatMap Mb.cells++L0))∧Srch (nmL first) (nmL second) (bl.map Mb.b3) []∧bl.length≤17∧vl m' "self" (.ref x)∧vl m' "la" (.int (first.length:Int) tla)∧vl m' "lb" (.int (second.length:Int) tlb)∧vl m' "matching_blocks" (.ref ma);let K1:PN:=fun n τ' m'=>∃ (ql:List Wq) (bl:List Mb) (kq kb:Nat),n=bC ql∧bl.length+n≤17∧Cells τ' ((ecl ma (G3 (mbV bl) kb))::(ecl qa (G3 (wqV ql) kq))::(ql.map Wq.cell++(bl.flatMap Mb.cells++L0)))∧Srch (nmL first) (nmL second) (bl.map Mb.b3) (ql.map Wq.q)∧vl m' "self" (.ref x)∧vl m' "la" (.int (first.length:Int) tla)∧vl m' "lb" (.int (second.length:Int) tlb)∧vl m' "matching_blocks" (.ref ma)∧vl m' "queue" (.ref qa);refine G6 (W.mono (Q':=J1) (X':=NoX)
  (jB (K1)
   (2*first.length+1) (I4_9 [⟨t0,⟨0,first.length,0,second.length⟩,v1,tla,v2,tlb⟩] [] 0 0 (by simp [bC]) (by simp;exact (kq1 721763316670913) hl1) hC3 (by rw [← hfl,← hsl];exact Bf _ _) ?_ ?_ ?_ ?_ ?_) ?_) ?_ fun O O O h=>h.elim)
 ·walk_at "mv"
 ·walk_at "mv"
 ·walk_at "mv"
 ·walk_at "mv"
 ·walk_at "mv"
 ·intro n τ' m' zB;refine E4_9 zB fun ql bl kq kb zC hbl hCw hS n1 n2 n3 n4 n5=>?_;clear zB;obtain rfl:=zC;have eqa:=hCw.is (a:=qa) (o:=G3 (wqV ql) kq) (by exact mC mH);have hszq:ql.length≤17:=by have:=vf ql;exact (kq3 23686809856134039617) hbl this
  refine U7 ?_;walk_at "nm";refine nu eqa (mpl (lq (by assumption))) ?_;rcases List.eq_nil_or_concat ql with rfl | ⟨qs,q,rfl⟩
  ·show W _ _ _ _ _ _;refine G9 ⟨rfl,(I2_7 bl kb ?_ hS (by assumption) n1 n2 n3 n4)⟩;exact (hCw.perm (List.Perm.swap _ _ _)).tail
  rw [List.concat_eq_append] at *;have hemp:(!(wqV (qs++[q])).isEmpty)=true:=by simp
  rw [hemp];show W _ _ _ _ _ _;refine lJ fun Q2 hQ2=>?_;have hqw:=hS.win q.q (by simp);have hmap:(qs++[q]).map Wq.q=qs.map Wq.q++[q.q]:=by simp
  rw [hmap] at hS;have hwz:bC (qs++[q])=bC qs+(2*(q.q.ah-q.q.al)+1):=by unfold bC;simp
  have eqt:=hCw.is (a:=q.t) (o:=H4 q.items) (by simp);refine G6 (mZ (N7 ?_));walk_at "nm";refine T8 eqa F.plainAttrs_list F.slot_list_pop F.type_list_pop (aq rfl ?_);refine mq (vs:=wqV qs) (x:=.ref q.t) (n:=kq) (by rw [eqa,show wqV (qs++[q])=wqV qs++[Value.ref q.t] by simp [wqV]]) (by rw [I3];simp at hszq;exact q1) fun k1=>?_;have hne:q.t≠qa:=by
   have z:=hCw.nd;simp only [O4,qD,N6,nH,qC,bB] at z;intro e;exact z.2.1 (by rw [← e];simp)
  have eqt1:G5 τ' qa (G3 (wqV qs) k1) q.t=some (H4 q.items):=P0 hne eqt;have hC4:Cells (G5 τ' qa (G3 (wqV qs) k1)) (L0++((ecl ma (G3 (mbV bl) kb))::(ecl qa (G3 (wqV qs) k1))::(qs.map Wq.cell++bl.flatMap Mb.cells))):=by
   have z:=(hCw.perm (List.Perm.swap _ _ _)).put (P':=(·=G3 (wqV qs) k1)) (o:=G3 (wqV qs) k1) rfl;refine z.cnt ?_;rw [Wq.cells_snoc];exact SubC.p (.c (.c (.r (.r .w)))) (.c (.c .h) (.c .h (.p (.l .h) (.t (.r .h)))))
  generalize G5 τ' qa (G3 (wqV qs) k1)=τ4 at hC4 eqt1 ⊢;refine eE hq eqt1 rfl rfl ?_;refine M4 (I8 (M4 (I8 (M4 (I8 (M4 (I8 (aj ?_))))))));refine G8 (gdx (G:=[]) hC4.left) fun od edx hf=>?_;refine G6 (cZ (N7 ?_));walk_at "nm";refine bU (f:=316) (gx (G:=[]) hC4.left) edx hf (by kernel_rfl) (by kernel_rfl) (I2 (by kernel_rfl) (G7 ?_));walk_at "nm";refine G7 ?_;walk_at "nm";refine G7 ?_;walk_at "nm";refine G7 ?_;walk_at "nm";refine bR hqw fun w1 w2 w3 w4=>?_;clear hqw;rw [hfl] at w2;rw [hsl] at w4;rw [← hL0] at hC4;refine H5 (V7 (smFind x dx a b first second ja jb .none oc e j p bs hl1 hl2 hbs hnd q.q.al q.q.ah q.q.bl q.q.bh q.u1 q.u2 q.u3 q.u4 w1 w2 w3 w4) (hr8.less (leB rfl)) hC4 (fun v τ5 L' hC5 hv=>?_) fun O O O O h=>h.elim);refine E8_4 hv fun mm d i jj k ti tj tk zF zG hB hN=>?_;clear hv;obtain rfl:=zF;obtain rfl:=zG;have hC5:Cells τ5 ((ecl mm (T7 d [.int ((i:Nat):Int) ti,.int ((jj:Nat):Int) tj,.int ((k:Nat):Int) tk]))::(ecl d emptyDict)::(L0++((ecl ma (G3 (mbV bl) kb))::(ecl qa (G3 (wqV qs) k1))::(qs.map Wq.cell++bl.flatMap Mb.cells)))):=by rw [← hL0];exact hC5
  have emm:=hC5.is (a:=mm) (o:=T7 d [.int ((i:Nat):Int) ti,.int ((jj:Nat):Int) tj,.int ((k:Nat):Int) tk]) (by exact mH);refine tH hq emm rfl rfl ?_;refine M4 (I8 (M4 (I8 (M4 (I8 (aj ?_))))));refine I8 ?_;refine dM fun m1 em=>?_;have o1:vl m1 "self" (.ref x):=K7 em (by walk_at "mv");have o2:vl m1 "la" (.int (first.length:Int) tla):=K7 em (by walk_at "mv");have o3:vl m1 "lb" (.int (second.length:Int) tlb):=K7 em (by walk_at "mv");have o4:vl m1 "matching_blocks" (.ref ma):=K7 em (by walk_at "mv");have o5:vl m1 "queue" (.ref qa):=K7 em (by walk_at "mv");have o6:vl m1 "alo" (.int (q.q.al:Int) q.u1):=K7 em (by walk_at "mv");have o7:vl m1 "ahi" (.int (q.q.ah:Int) q.u2):=K7 em (by walk_at "mv");have o8:vl m1 "blo" (.int (q.q.bl:Int) q.u3):=K7 em (by walk_at "mv");have o9:vl m1 "bhi" (.int (q.q.bh:Int) q.u4):=K7 em (by walk_at "mv");have o10:vl m1 "i" (.int ((i:Nat):Int) ti):=K7 em (by walk_at "mv");have o11:vl m1 "j" (.int ((jj:Nat):Int) tj):=K7 em (by walk_at "mv");have o12:vl m1 "k" (.int ((k:Nat):Int) tk):=K7 em (by walk_at "mv");have o13:vl m1 "x" (.ref mm):=K7 em (by walk_at "mv");clear em;refine bY hB fun b1 b2 b3 b4 b5=>?_;clear hB;refine G6 (K6 (U7 ?_));walk_at "nm";refine qi ?_;by_cases hk:k=0
  ·have e0:(((k:Nat):Int) != 0)=false:=by subst hk;rfl
   rw [e0];refine Q7 rfl ?_;refine G9 (G9 (hQ2 _ _ _ (H6 (bC qs) ((kq4 776013653654730050625) hwz) (I4_9 qs bl k1 kb rfl ((kq5 26669550160868095229420773632854081) hbl hwz) ?_ (hS.none (hN hk)) o1 o2 o3 o4 o5))));refine hC5.cnt ?_;exact SubC.c (.c (.c (.r .h))) (.c (.c (.c (.r .h))) (.p (.c (.c (.r .h))) (.p (.c (.c (.r .w))) (.t (.c (.c .h))))))
  have e0:(((k:Nat):Int) != 0)=true:=by
   rw [bne_iff_ne];exact (kq1 27266705006549537) hk
  rw [e0];refine W8 rfl ?_;have hS2:=hS.step hR ⟨b1,b2,b3,b4,b5⟩ (Nat.pos_of_ne_zero hk);have ema:=hC5.is (a:=ma) (o:=G3 (mbV bl) kb) (by exact mC (mC (mR mH)));refine G6 (O7 (N7 ?_));walk_at "nm";refine T8 ema F.plainAttrs_list F.slot_list_append F.type_list_append (I2 rfl (G7 ?_));walk_at "nm";refine H5 (V4 ema (mpl ((kq2 737880758513099556929) hbl)) fun kb2=>?_);have hC6:Cells (G5 τ5 ma (G3 (mbV bl++[.ref mm]) kb2)) ((ecl ma (G3 (mbV (bl++[⟨mm,d,i,jj,k,ti,tj,tk⟩])) kb2))::(ecl qa (G3 (wqV qs) k1))::(qs.map Wq.cell++((bl++[(⟨mm,d,i,jj,k,ti,tj,tk⟩:Mb)]).flatMap Mb.cells++L0))):=by
   let L5:List H7:=(ecl ma (G3 (mbV bl) kb))::(ecl mm (T7 d [.int ((i:Nat):Int) ti,.int ((jj:Nat):Int) tj,.int ((k:Nat):Int) tk]))::(ecl d emptyDict)::(ecl qa (G3 (wqV qs) k1))::(qs.map Wq.cell++(bl.flatMap Mb.cells++L0))
   have z:Cells τ5 L5:=hC5.cnt (by exact SubC.c (.c (.c (.r .h))) (.c .h (.c .h (.c (.r .h) (.p (.r .h) (.p (.r .w) (.t .h)))))));have y:=z.put (P':=(·=G3 (mbV (bl++[⟨mm,d,i,jj,k,ti,tj,tk⟩])) kb2)) (o:=G3 (mbV bl++[.ref mm]) kb2) (by simp [mbV]);refine y.cnt ?_;intro p;rw [eO,show ([⟨mm,d,i,jj,k,ti,tj,tk⟩]:List Mb).flatMap Mb.cells=[(ecl mm (T7 d [.int ((i:Nat):Int) ti,.int ((jj:Nat):Int) tj,.int ((k:Nat):Int) tk])),(ecl d emptyDict)] from rfl];simp only [cO,dq,qR];exact (kq0 28685232734742154341753021414593979992902721 [_,_,_,_,_,_,_])
  generalize G5 τ5 ma (G3 (mbV bl++[.ref mm]) kb2)=τ6 at hC6 ⊢;have hB3:(bl++[⟨mm,d,i,jj,k,ti,tj,tk⟩]:List Mb).map Mb.b3=bl.map Mb.b3++[⟨i,jj,k⟩]:=by simp [Mb.b3]
  rw [← hB3] at hS2;have hbl2:(bl++[⟨mm,d,i,jj,k,ti,tj,tk⟩]:List Mb).length=bl.length+1:=by simp
  generalize (bl++[⟨mm,d,i,jj,k,ti,tj,tk⟩]:List Mb)=bl2 at hC6 hS2 hbl2;let J2:PF:=fun fl τ' m'=>fl=.next∧m'=m1∧∃ ql1 kq1,ql1.map Wq.q=qs.map Wq.q++(if q.q.al<i∧q.q.bl<jj then [⟨q.q.al,i,q.q.bl,jj⟩] else [])∧Cells τ' ((ecl ma (G3 (mbV bl2) kb2))::(ecl qa (G3 (wqV ql1) kq1))::(ql1.map Wq.cell++(bl2.flatMap Mb.cells++L0)));refine G6 (W.mono (Q':=J2) (X':=NoX) (lJ fun Q3 hQ3=>K6 (aQ (U3 (J0 ?_)))) ?_ fun O O O h=>h.elim)
  ·walk_at "nm";walk_at "nm";refine bL (I6 ?_);by_cases c1:q.q.al<i
   ·refine iT (show ((q.q.al:Nat):Int)<((i:Nat):Int) by exact (kq2 6559586374721) c1) ?_;refine U3 (J0 ?_);walk_at "nm";walk_at "nm";refine bL (I6 ?_);by_cases c2:q.q.bl<jj
    ·refine iT (show ((q.q.bl:Nat):Int)<((jj:Nat):Int) by exact (kq2 6559586374721) c2) ?_;refine ik ?_;refine W8 rfl ?_;have eqa:=hC6.is (a:=qa) (o:=G3 (wqV qs) k1) (by exact mC mH);refine G6 (O7 (N7 ?_));walk_at "nm";refine T8 eqa F.plainAttrs_list F.slot_list_append F.type_list_append (I2 rfl (G7 (U6 (G7 ?_))));walk_at "nm";refine G7 ?_;walk_at "nm";refine G7 ?_;walk_at "nm";refine G7 ?_;walk_at "nm";refine H5 ⟨leB rfl,fun ta hta=>H5 (V4 (O9 hta eqa) (by rw [I3];simp at hszq;exact q1) fun k2=>G9 (hQ3 _ _ _ ?_))⟩;refine ⟨rfl,rfl,(I5 (qs++[⟨ta,⟨q.q.al,i,q.q.bl,jj⟩,q.u1,ti,q.u3,tj⟩]) k2 (by rw [if_pos (And.intro c1 c2)];simp) ?_)⟩;have z:=hC6.new (P:=(·=H4 (Wq.items ⟨ta,⟨q.q.al,i,q.q.bl,jj⟩,q.u1,ti,q.u3,tj⟩))) hta rfl;have z2:=((z.cnt (L':=(ecl qa (G3 (wqV qs) k1))::(ecl ta (H4 (Wq.items ⟨ta,⟨q.q.al,i,q.q.bl,jj⟩,q.u1,ti,q.u3,tj⟩)))::(ecl ma (G3 (mbV bl2) kb2))::(qs.map Wq.cell++(bl2.flatMap Mb.cells++L0))) (by exact SubC.c (.c (.c .h)) .r)).put (P':=(·=G3 (wqV (qs++[⟨ta,⟨q.q.al,i,q.q.bl,jj⟩,q.u1,ti,q.u3,tj⟩])) k2)) (o:=G3 (wqV qs++[.ref ta]) k2) (by simp [wqV]))
     refine z2.cnt ?_;rw [Wq.cells_snoc];exact SubC.c (.c (.c .h)) (.c .h (.s (.p (.c .h) (.k (.c .h (.z .r))))))
    ·refine iF (show ¬ ((q.q.bl:Nat):Int)<((jj:Nat):Int) by exact (kq2 27231504528331841) c2) ?_;refine G9 (hQ3 _ _ _ ⟨rfl,rfl,(I5 qs k1 (by rw [if_neg (fun z=>c2 z.2),X4]) hC6)⟩)
   ·refine iF (show ¬ ((q.q.al:Nat):Int)<((i:Nat):Int) by exact (kq2 27231504528331841) c1) ?_;refine G9 (hQ3 _ _ _ ⟨rfl,rfl,(I5 qs k1 (by rw [if_neg (fun z=>c1 z.1),X4]) hC6)⟩)
  intro fl τ7 m2 zK;obtain ⟨zL,zM,zz⟩:=zK;refine ao zz fun ql1 kq1 hq1 hC7=>?_;clear zz;obtain rfl:=zL;obtain rfl:=zM;have hql1:ql1.length≤18:=by
   have z:=congrArg List.length hq1;rw [I3,bW,I3] at z;simp only [bW,List.length_singleton] at hszq;split at z <;> simp at z <;> lia
  have fin:∀ (ql2:List Wq) kq2 τ8,ql2.map Wq.q=qs.map Wq.q++dg q.q i jj k→Cells τ8 ((ecl ma (G3 (mbV bl2) kb2))::(ecl qa (G3 (wqV ql2) kq2))::(ql2.map Wq.cell++(bl2.flatMap Mb.cells++L0))) →
    ∃ n,n<bC (qs++[q])∧∃ ql bl kq kb,n=bC ql∧bl.length+n≤17∧Cells τ8 ((ecl ma (G3 (mbV bl) kb))::(ecl qa (G3 (wqV ql) kq))::(ql.map Wq.cell++(bl.flatMap Mb.cells++L0)))∧Srch (nmL first) (nmL second) (bl.map Mb.b3) (ql.map Wq.q)∧vl m2 "self" (.ref x)∧vl m2 "la" (.int (first.length:Int) tla)∧vl m2 "lb" (.int (second.length:Int) tlb)∧vl m2 "matching_blocks" (.ref ma)∧vl m2 "queue" (.ref qa):=by
   intro ql2 kq2 τ8 hq2 hC8;have hws:∀ l:List Wq,bC l=((l.map Wq.q).map fun y=>2*(y.ah-y.al)+1).sum:=fun l=>by unfold bC;rw [fZ];rfl
   have hlt:bC ql2+1≤bC (qs++[q]):=by
    rw [hwz,hws ql2,hq2,N6,jH,← hws qs];unfold dg;rw [N6,jH];have wz:=wzA (S:=bC qs) b1 b2 hk;split <;> split <;> simp <;> first | exact wz.1 | exact wz.2.1 | exact wz.2.2 | lia
   refine H6 (bC ql2) (by assumption) (I4_9 ql2 bl2 kq2 kb2 rfl ((kq4 833423483536158593075099374929985) hbl hbl2 hlt) hC8 (by rw [hq2];exact hS2) o1 o2 o3 o4 o5)
  refine G6 (K6 (aQ (U3 (J0 (M3 ?_)))));walk_at "nm";walk_at "nm";refine Y4 fun v3=>?_;walk_at "nm";refine bL (I6 ?_);by_cases c1:i+k<q.q.ah
  ·refine iT (show (((i:Nat):Int)+((k:Nat):Int))<((q.q.ah:Nat):Int) by exact (kq3 7043307771451105462337) c1) ?_;refine U3 (J0 (M3 ?_));walk_at "nm";walk_at "nm";refine Y4 fun v4=>?_;walk_at "nm";refine bL (I6 ?_);by_cases c2:jj+k<q.q.bh
   ·refine iT (show (((jj:Nat):Int)+((k:Nat):Int))<((q.q.bh:Nat):Int) by exact (kq3 7043307771451105462337) c2) ?_;refine ik ?_;refine W8 rfl ?_;have eqa:=hC7.is (a:=qa) (o:=G3 (wqV ql1) kq1) (by exact mC mH);refine G6 (O7 (N7 ?_));walk_at "nm";refine T8 eqa F.plainAttrs_list F.slot_list_append F.type_list_append (I2 rfl (G7 (U6 (G7 (M3 ?_)))));walk_at "nm";walk_at "nm";refine Y4 fun v5=>G7 ?_;walk_at "nm";refine G7 (M3 ?_);walk_at "nm";walk_at "nm";refine Y4 fun v6=>G7 ?_;walk_at "nm";rw [← cW,← cW];refine H5 ⟨leB rfl,fun ta hta=>H5 (V4 (O9 hta eqa) (mpl (lq (by assumption))) fun k2=>G9 (G9 (G9 (hQ2 _ _ _ ?_))))⟩;refine fin (ql1++[⟨ta,⟨i+k,q.q.ah,jj+k,q.q.bh⟩,v5,q.u2,v6,q.u4⟩]) k2 _ ?_ ?_
    ·rw [N6,hq1,W4];unfold dg;rw [if_pos (show i+k<q.q.ah∧jj+k<q.q.bh from And.intro c1 c2)];rfl
    ·have z:=hC7.new (P:=(·=H4 (Wq.items ⟨ta,⟨i+k,q.q.ah,jj+k,q.q.bh⟩,v5,q.u2,v6,q.u4⟩))) hta rfl;have z2:=((z.cnt (L':=(ecl qa (G3 (wqV ql1) kq1))::(ecl ta (H4 (Wq.items ⟨ta,⟨i+k,q.q.ah,jj+k,q.q.bh⟩,v5,q.u2,v6,q.u4⟩)))::(ecl ma (G3 (mbV bl2) kb2))::(ql1.map Wq.cell++(bl2.flatMap Mb.cells++L0))) (by exact SubC.c (.c (.c .h)) .r)).put (P':=(·=G3 (wqV (ql1++[⟨ta,⟨i+k,q.q.ah,jj+k,q.q.bh⟩,v5,q.u2,v6,q.u4⟩])) k2)) (o:=G3 (wqV ql1++[.ref ta]) k2) (by simp [wqV]))
     refine z2.cnt ?_;rw [Wq.cells_snoc];exact SubC.c (.c (.c .h)) (.c .h (.s (.p (.c .h) (.k (.c .h (.z .r))))))
   ·refine iF (show ¬ (((jj:Nat):Int)+((k:Nat):Int))<((q.q.bh:Nat):Int) by exact (kq3 29239605519437535686805569) c2) ?_;refine G9 (G9 (G9 (hQ2 _ _ _ (fin ql1 kq1 _ ?_ hC7))));unfold dg;rw [hq1,if_neg (fun z:i+k<q.q.ah∧jj+k<q.q.bh=>c2 z.2),X4]
  ·refine iF (show ¬ (((i:Nat):Int)+((k:Nat):Int))<((q.q.ah:Nat):Int) by exact (kq3 29239605519437535686805569) c1) ?_;refine G9 (G9 (G9 (hQ2 _ _ _ (fin ql1 kq1 _ ?_ hC7))));unfold dg;rw [hq1,if_neg (fun z:i+k<q.q.ah∧jj+k<q.q.bh=>c1 z.1),X4]
 ·intro fl τ' m' zO;obtain ⟨zP,zz⟩:=zO;refine E2_7 zz fun bl kb hCw hS hbl n1 n2 n3 n4=>?_;clear zz;obtain rfl:=zP;have ema:=hCw.is (a:=ma) (o:=G3 (mbV bl) kb) (by exact mH);have hbb:(bl.map Mb.b3).Pairwise fun a b=>a.i≠b.i:=by
   refine List.Pairwise.imp_of_mem (fun {a b} ha hb h=>?_) hS.bb;have:=(hS.blk a ha).1;have:=(hS.blk b hb).1;lia
  have hik:(bl.map (·.i)).Nodup:=by
   rw [List.Nodup,List.pairwise_map];rw [List.pairwise_map] at hbb;exact hbb
  refine G6 (O7 (N7 ?_));walk_at "nm";refine T8 ema F.plainAttrs_list F.slot_list_sort F.type_list_sort (aq rfl ?_);refine yD (bl:=bl) (n:=kb) (by have:=hr8.units;exact (kq1 25353352030358997941207570031041) this) ema (fun b hb=>?_) (lr (by assumption)) hik fun bs' k2 hperm hsort=>?_
  ·have e:=hCw.is (a:=b.mm) (o:=b.obj) (H9 _ (O2 _ (List.mem_flatMap.mpr (H6 b hb (by simp)))));exact e
  let L6:List H7:=(ecl ma (G3 (mbV bs') k2))::(bs'.flatMap Mb.cells++L0)
  have hC4:Cells (G5 τ' ma (G3 (mbV bs') k2)) L6:=by
   have z:=hCw.put (P':=(·=G3 (mbV bs') k2)) (o:=G3 (mbV bs') k2) rfl;exact z.perm (((hperm.symm.flatMap_right Mb.cells).append_right L0).cons _)
  generalize G5 τ' ma (G3 (mbV bs') k2)=τ4 at hC4 ⊢;have hbs1:∀ b∈bs'.map Mb.b3,1≤b.k:=fun b hb=>(hS.blk b ((hperm.map Mb.b3).mem_iff.mp hb)).1;have hmg:N8 ⟨0,0,0⟩ (bs'.map Mb.b3)=N8 ⟨0,0,0⟩ M:=by
   rw [← uQ _ _ hbs1,Aa hS (hperm.map Mb.b3) (by rw [List.pairwise_map];exact hsort) hM hm]
  have hbs17:bs'.length≤17:=by rw [hperm.length_eq];exact hbl
  clear hS hperm hsort hbb hik hCw ema;refine G6 (DX (J9 fun z0=>I8 (I8 (I8 ?_))));refine G6 (K3 (V6 (H5 ⟨leB rfl,fun na hna=>?_⟩)));have hC5:=hC4.new (o:=G3 [] 0) (P:=(·=G3 (ntV []) 0)) hna rfl;have ema5:G5 τ4 na (G3 [] 0) ma=some (G3 (mbV bs') k2):=by
   have e:=hC5.is (a:=ma) (o:=G3 (mbV bs') k2) (by exact mC mH);exact e
  generalize G5 τ4 na (G3 [] 0)=τ5 at hC5 ema5 ⊢;let J3:PF:=fun fl τ' m'=>fl=.next∧∃ (nl:List Nt) (kn:Nat) (s:B3) (s1 s2 s3:Tok),nl.length≤17∧Cells τ' ((ecl na (G3 (ntV nl) kn))::(nl.map Nt.cell++L0))∧nl.map Nt.b++(if s.k≠0 then [s] else [])=N8 ⟨0,0,0⟩ M∧vl m' "self" (.ref x)∧vl m' "la" (.int (first.length:Int) tla)∧vl m' "lb" (.int (second.length:Int) tlb)∧vl m' "non_adjacent" (.ref na)∧vl m' "i1" (.int (s.i:Int) s1)∧vl m' "j1" (.int (s.j:Int) s2)∧vl m' "k1" (.int (s.k:Int) s3);refine G6 (W.mono (Q':=J3) (X':=NoX)
   (aB ?_) ?_ fun O O O h=>h.elim)
  ·walk_at "nm";let J4:PN:=fun i τ' m'=>∃ (nl:List Nt) (kn:Nat) (s:B3) (s1 s2 s3:Tok),nl.length≤i∧Cells τ' ((ecl na (G3 (ntV nl) kn))::(nl.map Nt.cell++((ecl ma (G3 (mbV bs') k2))::(bs'.flatMap Mb.cells++L0))))∧nl.map Nt.b++N8 s ((bs'.drop i).map Mb.b3)=N8 ⟨0,0,0⟩ M∧vl m' "self" (.ref x)∧vl m' "la" (.int (first.length:Int) tla)∧vl m' "lb" (.int (second.length:Int) tlb)∧vl m' "non_adjacent" (.ref na)∧vl m' "i1" (.int (s.i:Int) s1)∧vl m' "j1" (.int (s.j:Int) s2)∧vl m' "k1" (.int (s.k:Int) s3);refine R0 _ _ _ (Iters.list hq ema5) (Q0 J4 (pN [] 0 ⟨0,0,0⟩ z0 z0 z0 (T3 _) hC5 (by rw [List.drop_zero];exact hmg) (by walk_at "mv") (by walk_at "mv") (by walk_at "mv") (by walk_at "mv") (by show _=some (Value.int (0:Int) z0);walk_at "mv") (by show _=some (Value.int (0:Int) z0);walk_at "mv") (by show _=some (Value.int (0:Int) z0);walk_at "mv")) ?_ ?_ ?_)
   ·intro i τ' m' zT b hb;refine E6_3 zT fun nl kn s s1 s2 s3 O hCS O=>?_;clear zT;rw [I7] at hb;rw [hb];have e:=hCS.is (a:=ma) (o:=G3 (mbV bs') k2) (by exact mC (mR mH));rw [e,ema5]
   ·intro i v τ' m' hi hv zV;refine qT zV fun nl kn s s1 s2 s3 hnl hCS hmer n1 n2 n3 n4 n5 n6 n7=>?_;clear zV;obtain ⟨b,hb,rfl⟩:∃ b,bs'[i]? = some b∧v=.ref b.mm:=by
     rw [S9] at hv;cases z:bs'[i]? with
     | none=>rw [z] at hv;cases hv
     | some b=>rw [z] at hv;cases hv;exact (H6 b rfl rfl)
    have hbm:b∈bs':=aW hb;have hdr:bs'.drop i=b::bs'.drop (i+1):=by
     obtain ⟨hl,e⟩:=List.getElem?_eq_some_iff.mp hb;rw [List.drop_eq_getElem_cons hl,e]
    have hi17:i<17:=by
     have:bs'.length≤17:=hbs17;simp at hi;exact q3
    have eb:=hCS.is (a:=b.mm) (o:=b.obj) (H9 _ (O6 _ (H9 _ (O2 _ (List.mem_flatMap.mpr (H6 b hbm (by simp)))))));have hbk:1≤b.k:=hbs1 b.b3 (O3 hbm);refine tH hq eb rfl rfl ?_;refine M4 (I8 (M4 (I8 (M4 (I8 (aj ?_))))));rw [hdr,O4] at hmer;refine lJ fun Q4 hQ4=>dM fun m1 em=>?_;have o1:vl m1 "self" (.ref x):=K7 em (by walk_at "mv");have o2:vl m1 "la" (.int (first.length:Int) tla):=K7 em (by walk_at "mv");have o3:vl m1 "lb" (.int (second.length:Int) tlb):=K7 em (by walk_at "mv");have o4:vl m1 "non_adjacent" (.ref na):=K7 em (by walk_at "mv");have o5:vl m1 "i1" (.int (s.i:Int) s1):=K7 em (by walk_at "mv");have o6:vl m1 "j1" (.int (s.j:Int) s2):=K7 em (by walk_at "mv");have o7:vl m1 "k1" (.int (s.k:Int) s3):=K7 em (by walk_at "mv");have o8:vl m1 "i2" (.int (b.i:Int) b.ti):=K7 em (by walk_at "mv");have o9:vl m1 "j2" (.int (b.j:Int) b.tj):=K7 em (by walk_at "mv");have o10:vl m1 "k2" (.int (b.k:Int) b.tk):=K7 em (by walk_at "mv");clear em n1 n2 n3 n4 n5 n6 n7;let J5:PB:=fun t τ'' m''=>τ''=τ'∧m''=m1∧t=decide (s.i+s.k=b.i∧s.j+s.k=b.j);refine G6 (K6 (W.mono (Q':=J5) (X':=NoX) (aQ (U3 (J0 (M3 ?_)))) ?_ fun O O O h=>h.elim))
    ·walk_at "nm";walk_at "nm";refine Y4 fun v3=>?_;walk_at "nm";refine il (I6 ?_);by_cases c1:s.i+s.k=b.i
     ·refine bT (beq_iff_eq.mpr (show ((s.i:Int)+(s.k:Int))=(b.i:Int) by exact (kq3 8223899392168517814337) c1)) ?_;refine U3 (J0 (M3 ?_));walk_at "nm";walk_at "nm";refine Y4 fun v4=>?_;walk_at "nm";refine il (I6 ?_);by_cases c2:s.j+s.k=b.j
      ·refine bT (beq_iff_eq.mpr (show ((s.j:Int)+(s.k:Int))=(b.j:Int) by exact (kq3 8223899392168517814337) c2)) ?_;exact ik ⟨rfl,rfl,by rw [decide_eq_true (And.intro c1 c2)]⟩
      ·refine bF (beq_eq_false_iff_ne.mpr (show ((s.j:Int)+(s.k:Int))≠(b.j:Int) by exact (kq3 29277384451300492849563713) c2)) ?_;exact ⟨rfl,rfl,by rw [decide_eq_false (fun z=>c2 z.2)]⟩
     ·refine bF (beq_eq_false_iff_ne.mpr (show ((s.i:Int)+(s.k:Int))≠(b.i:Int) by exact (kq3 29277384451300492849563713) c1)) ?_;exact ⟨rfl,rfl,by rw [decide_eq_false (fun z=>c1 z.1)]⟩
    intro t τ'' m'' zX;refine M6 zX fun zY zZ zA1=>?_;clear zX;obtain rfl:=zY;obtain rfl:=zZ;obtain rfl:=zA1;by_cases hc:s.i+s.k=b.i∧s.j+s.k=b.j
    ·refine ju hc ?_;refine G6 (iC (v₀:=.int (s.k:Int) s3) (by walk_at "mv") (by kernel_rfl) ?_);walk_at "nm";refine iU fun v5=>?_;refine G9 (G9 (hQ4 _ _ _ (pN nl kn ⟨s.i,s.j,s.k+b.k⟩ s1 s2 v5 ((kq2 707061141569) hnl) hCS ?_ (by walk_at "mv") (by walk_at "mv") (by walk_at "mv") (by walk_at "mv") (by walk_at "mv") (by walk_at "mv") (by show _=some (Value.int ((s.k+b.k:Nat):Int) v5);rw [cW];walk_at "mv"))));rw [← hmer];conv=>rhs;unfold N8
     rw [if_pos (show s.i+s.k=b.b3.i∧s.j+s.k=b.b3.j from hc)];rfl
    ·refine jD hc ?_;let J6:PF:=fun fl τ' m'=>fl=.next∧m'=m''∧∃ nl2 kn2,nl2.map Nt.b=nl.map Nt.b++(if s.k≠0 then [s] else [])∧nl2.length≤i+1∧Cells τ' ((ecl na (G3 (ntV nl2) kn2))::(nl2.map Nt.cell++((ecl ma (G3 (mbV bs') k2))::(bs'.flatMap Mb.cells++L0))));refine G6 (W.mono (Q':=J6) (X':=NoX) (lJ fun Q5 hQ5=>K6 (U7 ?_)) ?_ fun O O O h=>h.elim)
     ·walk_at "nm";refine qi ?_;by_cases hk:s.k=0
      ·rw [show ((s.k:Int) != 0)=false by rw [hk];rfl];refine Q7 rfl ?_;exact G9 (hQ5 _ _ _ ⟨rfl,rfl,(X8 nl kn (by rw [if_neg (fun z=>z hk),X4]) ((kq2 707061141569) hnl) hCS)⟩)
      ·rw [show ((s.k:Int) != 0)=true by rw [bne_iff_ne];exact (kq1 27266705006549537) hk];refine W8 rfl ?_;have ena:=hCS.is (a:=na) (o:=G3 (ntV nl) kn) (by exact mH);refine G6 (O7 (N7 ?_));walk_at "nm";refine T8 ena F.plainAttrs_list F.slot_list_append F.type_list_append (I2 rfl (G7 (U6 (G7 ?_))));walk_at "nm";refine G7 ?_;walk_at "nm";refine G7 ?_;walk_at "nm";refine H5 ⟨leB rfl,fun ta hta=>H5 (V4 (O9 hta ena) (mpl ((kq2 23612184272420259057729) hnl hi17)) fun k3=>G9 (hQ5 _ _ _ ⟨rfl,rfl,(X8 (nl++[⟨ta,s,s1,s2,s3⟩]) k3 (by rw [if_pos hk];simp) (by simp;assumption) ?_)⟩))⟩;have z:=hCS.new (P:=(·=H4 (Nt.items ⟨ta,s,s1,s2,s3⟩))) hta rfl;have z2:=((z.cnt (L':=(ecl na (G3 (ntV nl) kn))::(ecl ta (H4 (Nt.items ⟨ta,s,s1,s2,s3⟩)))::(nl.map Nt.cell++((ecl ma (G3 (mbV bs') k2))::(bs'.flatMap Mb.cells++L0)))) (by exact SubC.c (.c .h) .r)).put (P':=(·=G3 (ntV (nl++[⟨ta,s,s1,s2,s3⟩])) k3)) (o:=G3 (ntV nl++[.ref ta]) k3) (by simp [ntV]))
       refine z2.cnt ?_;rw [Nt.cells_snoc];exact SubC.c .h (.s (.p (.c .h) (.k (.c .h (.z .r)))))
     intro fl τ6 m2 zC1;obtain ⟨zD1,zE1,zz⟩:=zC1;refine aV zz fun nl2 kn2 hnl2 hlen2 hC6=>?_;clear zz;obtain rfl:=zD1;obtain rfl:=zE1;refine G6 ?_;refine jz (names:=[G4 "i1",G4 "j1",G4 "k1"]) (U6 (G7 ?_));walk_at "nm";refine G7 ?_;walk_at "nm";refine G7 ?_;walk_at "nm";refine H5 ⟨leB rfl,fun tp2 htp2=>?_⟩;refine ie hq I4 rfl ?_;refine M4 (aP (M4 (aP (M4 (aP (aj ?_))))));refine G9 (G9 (hQ4 _ _ _ (pN nl2 kn2 ⟨b.i,b.j,b.k⟩ b.ti b.tj b.tk hlen2 (hC6.keep htp2) ?_ (by walk_at "mv") (by walk_at "mv") (by walk_at "mv") (by walk_at "mv") (by walk_at "mv") (by walk_at "mv") (by walk_at "mv"))));rw [hnl2,← hmer];conv=>rhs;unfold N8
     rw [if_neg (show ¬ (s.i+s.k=b.b3.i∧s.j+s.k=b.b3.j) from hc),W4];rfl
   ·intro τ' m' zF1;refine qT zF1 fun nl kn s s1 s2 s3 hnl hCS hmer n1 n2 n3 n4 n5 n6 n7=>?_;clear zF1;refine G9 ⟨rfl,(pN nl kn s s1 s2 s3 (by simp at hnl;exact q3) (hCS.cnt (by exact SubC.c .h (.p .h (.t (.c (.r .w)))))) ?_ n1 n2 n3 n4 n5 n6 n7)⟩;rw [List.drop_eq_nil_of_le (by simp)] at hmer;exact hmer
  ·intro fl τ' m' zG1;obtain ⟨zH1,zz⟩:=zG1;refine qT zz fun nl kn s s1 s2 s3 hnl hCS hmer n1 n2 n3 n4 n5 n6 n7=>?_;clear zz;obtain rfl:=zH1;let J7:PF:=fun fl τ2 m2=>fl=.next∧m2=m'∧∃ nl2 kn2,nl2.map Nt.b=N8 ⟨0,0,0⟩ M∧nl2.length≤18∧Cells τ2 ((ecl na (G3 (ntV nl2) kn2))::(nl2.map Nt.cell++L0));refine G6 (W.mono (Q':=J7) (X':=NoX) (lJ fun Q5 hQ5=>K6 (U7 ?_)) ?_ fun O O O h=>h.elim)
   ·walk_at "nm";refine qi ?_;by_cases hk:s.k=0
    ·rw [show ((s.k:Int) != 0)=false by rw [hk];rfl];refine Q7 rfl ?_;exact G9 (hQ5 _ _ _ ⟨rfl,rfl,(X8 nl kn (by rw [← hmer,if_neg (fun z=>z hk),X4]) (lq (by assumption)) hCS)⟩)
    ·rw [show ((s.k:Int) != 0)=true by rw [bne_iff_ne];exact (kq1 27266705006549537) hk];refine W8 rfl ?_;have ena:=hCS.is (a:=na) (o:=G3 (ntV nl) kn) (by exact mH);refine G6 (O7 (N7 ?_));walk_at "nm";refine T8 ena F.plainAttrs_list F.slot_list_append F.type_list_append (I2 rfl (G7 (U6 (G7 ?_))));walk_at "nm";refine G7 ?_;walk_at "nm";refine G7 ?_;walk_at "nm";refine H5 ⟨leB rfl,fun ta hta=>H5 (V4 (O9 hta ena) (mpl (lq (by assumption))) fun k3=>G9 (hQ5 _ _ _ ⟨rfl,rfl,(X8 (nl++[⟨ta,s,s1,s2,s3⟩]) k3 (by rw [← hmer,if_pos hk];simp) (by simp;assumption) ?_)⟩))⟩;have z:=hCS.new (P:=(·=H4 (Nt.items ⟨ta,s,s1,s2,s3⟩))) hta rfl;have z2:=((z.cnt (L':=(ecl na (G3 (ntV nl) kn))::(ecl ta (H4 (Nt.items ⟨ta,s,s1,s2,s3⟩)))::(nl.map Nt.cell++L0)) (by exact SubC.c (.c .h) .r)).put (P':=(·=G3 (ntV (nl++[⟨ta,s,s1,s2,s3⟩])) k3)) (o:=G3 (ntV nl++[.ref ta]) k3) (by simp [ntV]))
     refine z2.cnt ?_;rw [Nt.cells_snoc];exact SubC.c .h (.s (.p (.c .h) (.k (.c .h (.z .r)))))
   intro fl τ6 m2 zJ1;obtain ⟨zK1,zL1,zz⟩:=zJ1;refine aV zz fun nl2 kn2 hnl2 hlen2 hC6=>?_;clear zz;obtain rfl:=zK1;obtain rfl:=zL1;have ena:=hC6.is (a:=na) (o:=G3 (ntV nl2) kn2) (by exact mH);refine G6 (O7 (N7 ?_));walk_at "nm";refine T8 ena F.plainAttrs_list F.slot_list_append F.type_list_append (I2 rfl (G7 (U6 (G7 ?_))));walk_at "nm";refine G7 ?_;walk_at "nm";refine G7 (J9 fun zz=>H5 ⟨leB rfl,fun ta hta=>H5 (V4 (O9 hta ena) (mpl (lq (by assumption))) fun k3=>?_)⟩);have hC7:Cells (G5 (G5 τ6 ta (H4 [.int (first.length:Int) tla,.int (second.length:Int) tlb,.int 0 zz])) na (G3 (ntV nl2++[.ref ta]) k3)) ((ecl na (G3 (ntV (nl2++[⟨ta,⟨first.length,second.length,0⟩,tla,tlb,zz⟩])) k3))::((nl2++[(⟨ta,⟨first.length,second.length,0⟩,tla,tlb,zz⟩:Nt)]).map Nt.cell++L0)):=by
    have z:=hC6.new (o:=H4 [.int (first.length:Int) tla,.int (second.length:Int) tlb,.int 0 zz]) (P:=(·=H4 (Nt.items ⟨ta,⟨first.length,second.length,0⟩,tla,tlb,zz⟩))) hta rfl;have z2:=((z.cnt (L':=(ecl na (G3 (ntV nl2) kn2))::(ecl ta (H4 (Nt.items ⟨ta,⟨first.length,second.length,0⟩,tla,tlb,zz⟩)))::(nl2.map Nt.cell++L0)) (by exact SubC.c (.c .h) .r)).put (P':=(·=G3 (ntV (nl2++[⟨ta,⟨first.length,second.length,0⟩,tla,tlb,zz⟩])) k3)) (o:=G3 (ntV nl2++[.ref ta]) k3) (by simp [ntV]))
    refine z2.cnt ?_;rw [Nt.cells_snoc];exact SubC.c .h (.s (.p (.c .h) (.k (.c .h (.z .r)))))
   generalize G5 (G5 τ6 ta (H4 [.int (first.length:Int) tla,.int (second.length:Int) tlb,.int 0 zz])) na (G3 (ntV nl2++[.ref ta]) k3)=τ7 at hC7 ⊢;have hnl3:(nl2++[⟨ta,⟨first.length,second.length,0⟩,tla,tlb,zz⟩]:List Nt).map Nt.b=N8 ⟨0,0,0⟩ M++[⟨first.length,second.length,0⟩]:=by rw [N6,hnl2];rfl
   have hlen3:(nl2++[⟨ta,⟨first.length,second.length,0⟩,tla,tlb,zz⟩]:List Nt).length≤19:=by simp;assumption
   generalize (nl2++[⟨ta,⟨first.length,second.length,0⟩,tla,tlb,zz⟩]:List Nt)=nl3 at hC7 hnl3 hlen3;clear hC6 ena hmer hCS hnl2 hlen2;have ena:=hC7.is (a:=na) (o:=G3 (ntV nl3) k3) (by exact mH);refine G6 (bK (K8 (I9 (.type "list") (I2 rfl (G7 ?_)))));refine K8 (I9 (.type "map") (I2 rfl (G7 (R7 ?_))));refine I9 (.ref 255) (yF fun bm hbm=>G7 ?_);walk_at "nm";have hC8:=hC7.new (o:=methodObj (.ref 209) (.ref 255)) (P:=(·=methodObj (.ref 209) (.ref 255))) hbm rfl;have ena8:G5 τ7 bm (methodObj (.ref 209) (.ref 255)) na=some (G3 (ntV nl3) k3):=O9 hbm ena;generalize G5 τ7 bm (methodObj (.ref 209) (.ref 255))=τ8 at hC8 ena8 ⊢;refine H5 (W.cMap ena8 fun it tp mp h1 h2 h3 h4 h5 h6=>H5 ?_);let L8:List H7:=(ecl mp (X5 tp bm))::(ecl tp (H4 [.ref it]))::(ecl it (liO (.ref na) ((0:Nat):Int)))::(ecl bm (methodObj (.ref 209) (.ref 255)))::(ecl na (G3 (ntV nl3) k3))::(nl3.map Nt.cell++L0)
   have hC9:Cells (G5 (G5 (G5 τ8 it (liO (.ref na) 0)) tp (H4 [.ref it])) mp (X5 tp bm)) L8:=by
    have e1:G5 τ8 it (liO (.ref na) 0) tp=none:=by unfold G5;rw [if_neg (Ne.symm h4)];exact h2
    have e2:G5 (G5 τ8 it (liO (.ref na) 0)) tp (H4 [.ref it]) mp=none:=by unfold G5;rw [if_neg (Ne.symm h6),if_neg (Ne.symm h5)];exact h3
    exact ((hC8.new (P:=(·=liO (.ref na) ((0:Nat):Int))) h1 rfl).new (P:=(·=H4 [.ref it])) e1 rfl).new (P:=(·=X5 tp bm)) e2 rfl
   have emp:G5 (G5 (G5 τ8 it (liO (.ref na) 0)) tp (H4 [.ref it])) mp (X5 tp bm) mp=some (X5 tp bm):=I4;generalize G5 (G5 (G5 τ8 it (liO (.ref na) 0)) tp (H4 [.ref it])) mp (X5 tp bm)=τ9 at hC9 emp ⊢;refine Ca (vs:=ntV nl3) (n:=k3) (it:=it) (l:=na) hq (mpl (lq (by assumption))) emp (fun S i acc τ'=>∃ (ml:List Mb) (k:Nat),acc=mbV ml∧ml.map Mb.b3=(nl3.take i).map Nt.b∧ml.length≤i∧i≤19∧Cells τ' ((ecl S (G3 (mbV ml) k))::(ecl mp (X5 tp bm))::(ecl tp (H4 [.ref it]))::(ecl it (liO (.ref na) ((i:Nat):Int)))::(ecl bm (methodObj (.ref 209) (.ref 255)))::(ecl na (G3 (ntV nl3) k3))::(nl3.map Nt.cell++(ml.flatMap Mb.cells++L0)))) ?_ ?_ ?_ ?_
   ·exact fun S k hS=>(I2_5 [] k rfl rfl (T3 _) (T3 _) (hC9.new (P:=(·=G3 (mbV []) k)) hS rfl))
   ·intro S i acc τ' zO1;refine eZ zO1 fun ml k zP1 hml hl hi hCS=>?_;clear zO1;obtain rfl:=zP1;refine ⟨?_,?_,?_,?_⟩
    ·have e:=hCS.is (a:=mp) (o:=X5 tp bm) (by exact mC mH);exact e
    ·have e:=hCS.is (a:=tp) (o:=H4 [.ref it]) (by exact mC (mC mH));exact e
    ·have e:=hCS.is (a:=it) (o:=liO (.ref na) ((i:Nat):Int)) (by exact mC (mC (mC mH)));exact e
    ·have e:=hCS.is (a:=na) (o:=G3 (ntV nl3) k3) (by exact mC (mC (mC (mC (mC mH)))));exact e
   ·intro S i v acc τ' hv zU1;refine eZ zU1 fun ml k zV1 hml hl hi hCS=>?_;clear zU1;obtain rfl:=zV1;obtain ⟨b,hb,rfl⟩:∃ b,nl3[i]? = some b∧v=.ref b.t:=by
     rw [S9] at hv;cases z:nl3[i]? with
     | none=>rw [z] at hv;cases hv
     | some b=>rw [z] at hv;cases hv;exact (H6 b rfl rfl)
    have hil:i<nl3.length:=(List.getElem?_eq_some_iff.mp hb).1;have htk:nl3.take (i+1)=nl3.take i++[b]:=by
     rw [aC,hb];rfl
    refine dK (List.append_of_mem (aW hb)) fun A1 A2 hA=>?_;have hA:nl3.map Nt.cell=A1.map Nt.cell++(ecl b.t (H4 [.int (b.b.i:Int) b.u1,.int (b.b.j:Int) b.u2,.int (b.b.k:Int) b.u3]))::A2.map Nt.cell:=by rw [hA,N6,O4];rfl
    have z:=(hCS.cnt (L':=(ecl it (liO (.ref na) ((i:Nat):Int)))::(ecl S (G3 (mbV ml) k))::(ecl mp (X5 tp bm))::(ecl tp (H4 [.ref it]))::(ecl bm (methodObj (.ref 209) (.ref 255)))::(ecl na (G3 (ntV nl3) k3))::(nl3.map Nt.cell++(ml.flatMap Mb.cells++L0))) (by exact SubC.c (.c (.c (.c .h))) .r)).put (P':=(·=liO (.ref na) ((i+1:Nat):Int))) (o:=liO (.ref na) ((i+1:Nat):Int)) rfl;have ebm:G5 τ' it (liO (.ref na) ((i+1:Nat):Int)) bm=some (methodObj (.ref 209) (.ref 255)):=by
     have e:=z.is (a:=bm) (o:=methodObj (.ref 209) (.ref 255)) (by exact mC (mC (mC (mC mH))));exact e
    have z1:Cells (G5 τ' it (liO (.ref na) ((i+1:Nat):Int))) ([(ecl b.t (H4 [.int (b.b.i:Int) b.u1,.int (b.b.j:Int) b.u2,.int (b.b.k:Int) b.u3]))]++((ecl it (liO (.ref na) ((i+1:Nat):Int)))::(ecl S (G3 (mbV ml) k))::(ecl mp (X5 tp bm))::(ecl tp (H4 [.ref it]))::(ecl bm (methodObj (.ref 209) (.ref 255)))::(ecl na (G3 (ntV nl3) k3))::((A1++A2).map Nt.cell++(ml.flatMap Mb.cells++L0)))):=by
     refine z.cnt ?_;rw [hA];rw [N6];exact SubC.k (.c (.c (.c (.c (.c (.c (.c (.l (.r .h)))))))) (.z .r))
    refine uA (c:=(cx w os A fd323 323 L).in2.in2.in2) (xN b.t (.int (b.b.i:Int) b.u1) (.int (b.b.j:Int) b.u2) (.int (b.b.k:Int) b.u3)) ebm ?_ z1 (fun v τ'' L' hC10 hv=>?_) fun O O O O h=>h.elim
    ·exact ⟨by have:=hr8.depth;show (cx w os A fd323 323 L).A.depth+2≤900;exact (kq1 811297472691771219939688495784385) this,by have:=hr8.units;show (cx w os A fd323 323 L).A.units+1+1+1+8*2≤9000;exact (kq1 913450774074260305555130629459871628382366572993) this,hr8.quiet⟩
    ·refine ao hv fun mm d zX1 zY1=>?_;clear hv;obtain rfl:=zX1;obtain rfl:=zY1;refine ⟨rfl,?_,by rw [I3];exact (kq3 773713677946233535702126017) hlen3 hl hil,fun k'=>(I2_5 (ml++[⟨mm,d,b.b.i,b.b.j,b.b.k,b.u1,b.u2,b.u3⟩]) k' (by simp [mbV]) ?_ (by simp;assumption) q3 ?_)⟩
     ·have e:=hC10.is (a:=S) (o:=G3 (mbV ml) k) (by exact mR (mC mH));exact ⟨k,e⟩
     ·rw [htk,N6,N6,hml];rfl
     ·have y:=(hC10.cnt (L':=(ecl S (G3 (mbV ml) k))::(ecl mm (T7 d [.int (b.b.i:Int) b.u1,.int (b.b.j:Int) b.u2,.int (b.b.k:Int) b.u3]))::(ecl d emptyDict)::(ecl b.t (H4 [.int (b.b.i:Int) b.u1,.int (b.b.j:Int) b.u2,.int (b.b.k:Int) b.u3]))::(ecl it (liO (.ref na) ((i+1:Nat):Int)))::(ecl mp (X5 tp bm))::(ecl tp (H4 [.ref it]))::(ecl bm (methodObj (.ref 209) (.ref 255)))::(ecl na (G3 (ntV nl3) k3))::((A1++A2).map Nt.cell++(ml.flatMap Mb.cells++L0))) (by exact SubC.c (.r (.c .h)) (.c (.l .h) (.c (.l .h) (.c (.l .h) (.c (.r .h) (.c (.r .h) (.c (.r .h) (.c (.r .h) (.c (.r .h) (.p (.r .h) (.p (.r .h) (.t (.r .w)))))))))))))).put (P':=(·=G3 (mbV (ml++[⟨mm,d,b.b.i,b.b.j,b.b.k,b.u1,b.u2,b.u3⟩])) k')) (o:=G3 (mbV ml++[.ref mm]) k') (by simp [mbV]);refine y.cnt ?_;rw [Mb.cells_snoc,hA,show Mb.obj ⟨mm,d,b.b.i,b.b.j,b.b.k,b.u1,b.u2,b.u3⟩=T7 d [.int (b.b.i:Int) b.u1,.int (b.b.j:Int) b.u2,.int (b.b.k:Int) b.u3] from rfl];rw [N6];exact SubC.c .h (.c (.c (.c (.c (.c .h)))) (.c (.c (.c (.c (.c .h)))) (.c (.c (.c (.c .h))) (.c (.c (.c (.c .h))) (.c (.c (.c (.c .h))) (.s (.p (.c (.c (.c (.l .h)))) (.k (.c (.c (.c .h)) (.p (.c (.c .h)) (.s (.p (.c (.c .h)) (.k (.c .h (.k (.c .h (.z .r)))))))))))))))))
   ·intro S acc τ' zA2;refine eZ zA2 fun ml k zB2 hml hl hi hCS=>?_;clear zA2;obtain rfl:=zB2;rw [I3,aD,hnl3] at hml;have hCd:=(hCS.cnt (L':=(ecl it (liO (.ref na) (((ntV nl3).length:Nat):Int)))::(ecl S (G3 (mbV ml) k))::(ml.flatMap Mb.cells++L0)) (by exact SubC.c (.c (.c (.c .h))) (.c .h (.p (.c (.c (.c (.c (.r .h))))) (.t (.c (.c (.c (.c (.r .w)))))))))).del;generalize du τ' it=τd at hCd ⊢;walk_at "nm";let L10:List H7:=((ecl S (G3 (mbV ml) k))::ml.flatMap Mb.cells)++L0;have hCe:Cells τd L10:=hCd;refine G8 (gdx hCe) fun od edx hf=>?_;refine Y7 (gx hCe) edx hf (by simp [Y6,smF]) (by kernel_rfl) fun od' hf'=>?_;have hset:aM (G4 "matching_blocks") (.ref S) (Y6 a b .none oc e j p)=Y6 a b (.ref S) oc e j p:=by kernel_rfl
    rw [hset] at hf';have hCf:Cells (G5 τd dx od') ((ecl S (G3 (mbV ml) k))::(ml.flatMap Mb.cells++(ecl a (G3 (strValues first) ja))::smC w x dx a b second jb (.ref S) oc e j p bs)):=by
     rw [← hL0] at hCd;have z:=(hCd.cnt (L':=(dx,fC (Y6 a b .none oc e j p))::(ecl S (G3 (mbV ml) k))::(ml.flatMap Mb.cells++(ecl a (G3 (strValues first) ja))::(ecl x (instObj 362 dx))::(ecl b (G3 (strValues second) jb))::(e,T6 w (bkv bs))::(j,Y8 w)::(p,Y8 w)::ixs 0 bs)) (by unfold smC;exact SubC.c (.c (.r (.c (.l (.c .h))))) (.c .h (.p .h (.c .h (.c (.l .h) (.c (.l .h) (.c (.l .h) (.c (.l .h) (.c (.l .h) (.t (.r .w)))))))))))).put (P':=fC (Y6 a b (.ref S) oc e j p)) (o:=od') hf';refine z.cnt ?_;unfold smC;exact SubC.c (.c .h) (.p (.c .h) (.c (.c .h) (.k (.c (.c .h) (.k (.c .h (.k (.c .h (.k (.c .h (.k (.c .h (.k (.c .h (.z .r)))))))))))))))
    have edx':G5 τd dx od' dx=some od':=I4;generalize G5 τd dx od'=τf at hCf edx' ⊢;refine G6 (Y9 (R7 ?_));walk_at "nm";have ex':τf x=some (instObj 362 dx):=by
     obtain ⟨_,z,rfl⟩:=hCf.at_ (ecl x (instObj 362 dx)) (by delta smC;exact mC (mR (mC (mL mH))));exact z
    refine T9 ex' edx' hf' (v:=.ref S) (by kernel_rfl) (by kernel_rfl) rfl ?_;refine hQ _ _ _ (H6 τf (fun O O e=>e) (H6 _ hCf (lG S ml k rfl hml ?_)));rfl
set_option genInjectivity true in
structure O5 where
 tag:Str
 i1:Nat
 i2:Nat
 j1:Nat
 j2:Nat
structure Ot where
 t:Addr
 o:O5
 u0:Tok
 u1:Tok
 u2:Tok
 u3:Tok
 u4:Tok
noncomputable def Ot.items (x:Ot):List Value:=[.str x.o.tag x.u0,.int (x.o.i1:Int) x.u1,.int (x.o.i2:Int) x.u2,.int (x.o.j1:Int) x.u3,.int (x.o.j2:Int) x.u4]
noncomputable abbrev Ot.cell (x:Ot):H7:=(ecl x.t (H4 x.items))
noncomputable abbrev otV (l:List Ot):List Value:=l.map fun x=>.ref x.t
theorem Ot.cells_snoc (qs:List Ot) (x:Ot):(qs++[x]).map Ot.cell=qs.map Ot.cell++[(ecl x.t (H4 x.items))]:=by simp
noncomputable def aa (i ai j bj:Nat):Str:=if i<ai∧j<bj then G4 "replace" else if i<ai then G4 "delete" else if j<bj then G4 "insert" else G4 ""
noncomputable def bw:Nat→Nat→List B3→List O5
 | _,_,[]=>[]
 | i,j,b::r=>(if i<b.i∨j<b.j then [⟨aa i b.i j b.j,i,b.i,j,b.j⟩] else [])++(if b.k≠0 then [⟨G4 "equal",b.i,b.i+b.k,b.j,b.j+b.k⟩] else [])++bw (b.i+b.k) (b.j+b.k) r
theorem tagLen (i ai j bj:Nat):(aa i ai j bj).length<10000:=by
 unfold aa;split
 ·decide +kernel
 ·split
  ·decide +kernel
  ·split <;> decide +kernel
theorem Ft (i ai j bj:Nat):decide ((aa i ai j bj).length≠0)=decide (i<ai∨j<bj):=by
 unfold aa;by_cases h1:i<ai <;> by_cases h2:j<bj <;> simp [h1,h2] <;> decide +kernel
theorem Cq {w:World} {os:OsState} (x dx a b:Addr) (first second:List (Str×Tok)) (ja jb:Nat) (e j p:Addr) (bs:List (Str×Addr)) (hl1:first.length≤8) (hl2:second.length≤8) (hbs:bs.map (·.1)=nmL second) (hnd:(nmL second).Nodup)
  (r:Str→Nat) (hR:Rise (nmL first) (nmL second) r) (M:List B3) (hML:M.length≤17) (hM:M.Pairwise fun a b=>a.i<b.i) (hm:∀ x,x∈M↔x.k=1∧Mat (nmL first) (nmL second) x.i x.j) :
  U4 w os 10 (.ref 330) ⟨[.ref x],[]⟩ ((ecl a (G3 (strValues first) ja))::smC w x dx a b second jb .none .none e j p bs)
   (fun v L'=>∃ la ol n,v=.ref la∧ol.map Ot.o=bw 0 0 (N8 ⟨0,0,0⟩ M++[⟨first.length,second.length,0⟩])∧ol.length≤40∧L'=(ecl la (G3 (otV ol) n))::(ol.map Ot.cell++[(ecl a (G3 (strValues first) ja)),(ecl b (G3 (strValues second) jb))])):=by
 intro τ hC;refine Z7 (RX:=fun v τ'=>∃ L',Cells τ' L'∧False) k330 cd330 rfl (binds:=[(G4 "self",.ref x)]) (V9 (fun P=>by kernel_rfl)) fun A L hr=>?_;let c0:Cx:=cx w os A fd330 330 L;show W c0 (execs _ c0.env) _ (upd (fun O=>none) (G4 "self") (.ref x)) _ _;refine W7 fun Q X hQ=>?_;have hq:(cx w os A fd330 330 L).A.handled=none:=hr.quiet;have hr9:Room 9 (cx w os A fd330 330 L).A:=hr;have ex:τ x=some (instObj 362 dx):=by
  obtain ⟨_,z,rfl⟩:=hC.at_ (ecl x (instObj 362 dx)) (by delta smC;exact mC (mL mH));exact z
 refine G8 (hC.at_ (dx,fC (Y6 a b .none .none e j p)) (by delta smC;exact mC (mL (mC mH)))) fun od edx hf=>?_;refine G6 (O7 (O8 fun O=>?_));refine G6 (K6 (J0 (R7 ?_)));walk_at "nm";refine T9 ex edx hf (v:=.none) (by kernel_rfl) (by kernel_rfl) rfl (aL (mD (I6 ?_)));refine Q7 rfl ?_;refine G9 (G6 (cZ (J9 fun z0=>I8 (I8 ?_))));refine G6 (cZ (V6 (H5 ⟨leB rfl,fun an han=>dZ ?_⟩)));walk_at "nm";refine Y7 (O9 han ex) (O9 han edx) hf (by simp [Y6,smF]) (by kernel_rfl) fun od' hf'=>I8 ?_;have hset:aM (G4 "opcodes") (.ref an) (Y6 a b .none .none e j p)=Y6 a b .none (.ref an) e j p:=by kernel_rfl
 rw [hset] at hf';have hC1:Cells (G5 (G5 τ an (G3 [] 0)) dx od') (((ecl a (G3 (strValues first) ja))::smC w x dx a b second jb .none (.ref an) e j p bs)++[(ecl an (G3 (otV []) 0))]):=by
  have z:=hC.new (o:=G3 [] 0) (P:=(·=G3 (otV []) 0)) han rfl;have z2:=(z.cnt (L':=(dx,fC (Y6 a b .none .none e j p))::(ecl an (G3 (otV []) 0))::(ecl a (G3 (strValues first) ja))::(ecl x (instObj 362 dx))::(ecl b (G3 (strValues second) jb))::(e,T6 w (bkv bs))::(j,Y8 w)::(p,Y8 w)::ixs 0 bs) (by unfold smC;exact SubC.c (.c (.c (.l (.c .h)))) (.c .h (.c .h (.c (.l .h) (.c (.l .h) (.c (.l .h) (.c (.l .h) (.c (.l .h) (.t (.r .w))))))))))).put (P':=fC (Y6 a b .none (.ref an) e j p)) (o:=od') hf';refine z2.cnt ?_;unfold smC;exact SubC.k (.c (.c (.c .h)) (.s (.k (.c (.c (.c .h)) (.k (.c .h (.k (.c (.c .h) (.k (.c (.c .h) (.k (.c (.c .h) (.k (.c (.c .h) (.z (.p (.c .w) .r))))))))))))))))
 have edx':G5 (G5 τ an (G3 [] 0)) dx od' dx=some od':=I4;generalize G5 (G5 τ an (G3 [] 0)) dx od'=τ1 at hC1 edx' ⊢;have ex':τ1 x=some (instObj 362 dx):=by
  obtain ⟨_,z,rfl⟩:=hC1.at_ (ecl x (instObj 362 dx)) (by delta smC;exact mL (mC (mL mH)));exact z
 have hj:∀ Mx:List B3,N8 ⟨0,0,0⟩ M++[⟨first.length,second.length,0⟩]=Mx→Mx.length≤19:=fun Mx h=>by
  rw [← h,bW,List.length_singleton];have:=sS M ⟨0,0,0⟩;exact (kq2 24329616215953203938753) hML this
 generalize hMx:N8 ⟨0,0,0⟩ M++[⟨first.length,second.length,0⟩]=Mx;have hj:=hj Mx hMx;let J1:PF:=fun fl τ' m'=>fl=.next∧vl m' "answer" (.ref an)∧∃ ol n,ol.map Ot.o=bw 0 0 Mx∧ol.length≤40∧Cells τ' ((ecl an (G3 (otV ol) n))::(ol.map Ot.cell++[(ecl a (G3 (strValues first) ja)),(ecl b (G3 (strValues second) jb))]));refine G6 (W.mono (Q':=J1) (X':=NoX)
  (aB (N7 ?_)) ?_ fun O O O h=>h.elim)
 ·walk_at "nm";refine bU (f:=323) ex' edx' hf' (by kernel_rfl) (by kernel_rfl) (aq (by kernel_rfl) ?_);refine V7 (BR x dx a b first second ja jb (.ref an) e j p bs hl1 hl2 hbs hnd r hR M hM hm) hr9 hC1 (fun v τ2 L' hC2 hv=>?_) fun O O O O h=>h.elim;refine dG hv fun la ml n zB hml zC=>?_;clear hv;obtain rfl:=zB;obtain rfl:=zC;rw [hMx] at hml;let L2:List H7:=(ecl an (G3 (otV []) 0))::(ecl la (G3 (mbV ml) n))::(ml.flatMap Mb.cells++[(ecl a (G3 (strValues first) ja)),(ecl b (G3 (strValues second) jb))])
  have hC3:Cells τ2 L2:=hC2.cnt (by unfold smC;exact SubC.c (.r .h) (.c (.l .h) (.p (.l .h) (.c (.l .h) (.c (.l (.l (.c (.c .h)))) .n)))));have ela:=hC3.is (a:=la) (o:=G3 (mbV ml) n) (by exact mC mH);have hmll:ml.length≤19:=by rw [← hml,I3] at hj;exact hj
  let J2:PN:=fun i τ' m'=>∃ (ol:List Ot) (kn:Nat) (pi pj:Nat) (s1 s2:Tok),ol.length≤2*i∧Cells τ' ((ecl an (G3 (otV ol) kn))::(ol.map Ot.cell++((ecl la (G3 (mbV ml) n))::(ml.flatMap Mb.cells++[(ecl a (G3 (strValues first) ja)),(ecl b (G3 (strValues second) jb))]))))∧ol.map Ot.o++bw pi pj ((ml.drop i).map Mb.b3)=bw 0 0 Mx∧vl m' "answer" (.ref an)∧vl m' "i" (.int (pi:Int) s1)∧vl m' "j" (.int (pj:Int) s2);refine R0 _ _ _ (Iters.list hq ela) (Q0 J2 (je [] 0 0 0 z0 z0 (T3 _) hC3 (by rw [List.drop_zero,hml];rfl) (by walk_at "mv") (by show _=some (Value.int (0:Int) z0);walk_at "mv") (by show _=some (Value.int (0:Int) z0);walk_at "mv")) ?_ ?_ ?_)
  ·intro i τ' m' zE b hb;refine E6_3 zE fun ol kn pi pj s1 s2 O hCS O=>?_;clear zE;rw [I7] at hb;rw [hb];have e:=hCS.is (a:=la) (o:=G3 (mbV ml) n) (by exact mC (mR mH));rw [e,ela]
  ·intro i v τ' m' hi hv zG;refine E6_6 zG fun ol kn pi pj s1 s2 hol hCS hops n1 n2 n3=>?_;clear zG;obtain ⟨g,hg,rfl⟩:∃ g,ml[i]? = some g∧v=.ref g.mm:=by
    rw [S9] at hv;cases z:ml[i]? with
    | none=>rw [z] at hv;cases hv
    | some g=>rw [z] at hv;cases hv;exact (H6 g rfl rfl)
   have hgm:g∈ml:=aW hg;have hdr:ml.drop i=g::ml.drop (i+1):=by
    obtain ⟨hl,e⟩:=List.getElem?_eq_some_iff.mp hg;rw [List.drop_eq_getElem_cons hl,e]
   have hi19:i<19:=by simp at hi;exact q3
   have eb:=hCS.is (a:=g.mm) (o:=g.obj) (H9 _ (O6 _ (H9 _ (O2 _ (List.mem_flatMap.mpr (H6 g hgm (by simp)))))));refine tH hq eb rfl rfl ?_;refine M4 (I8 (M4 (I8 (M4 (I8 (aj ?_))))));rw [hdr,O4] at hops;refine G6 (K3 (O8 fun tt=>?_));refine dM fun m1 em=>?_;have o1:vl m1 "answer" (.ref an):=K7 em (by walk_at "mv");have o2:vl m1 "i" (.int (pi:Int) s1):=K7 em (by walk_at "mv");have o3:vl m1 "j" (.int (pj:Int) s2):=K7 em (by walk_at "mv");have o4:vl m1 "ai" (.int (g.i:Int) g.ti):=K7 em (by walk_at "mv");have o5:vl m1 "bj" (.int (g.j:Int) g.tj):=K7 em (by walk_at "mv");have o6:vl m1 "size" (.int (g.k:Int) g.tk):=K7 em (by walk_at "mv");have o7:vl m1 "tag" (.str (G4 "") tt):=K7 em (by walk_at "mv");clear em n1 n2 n3;let J3:PF:=fun fl τ'' m''=>fl=.next∧τ''=τ'∧vl m'' "answer" (.ref an)∧vl m'' "i" (.int (pi:Int) s1)∧vl m'' "j" (.int (pj:Int) s2)∧vl m'' "ai" (.int (g.i:Int) g.ti)∧vl m'' "bj" (.int (g.j:Int) g.tj)∧vl m'' "size" (.int (g.k:Int) g.tk)∧∃ tt,vl m'' "tag" (.str (aa pi g.i pj g.j) tt);refine G6 (W.mono (Q':=J3) (X':=NoX) (K6 (aQ (U3 (J0 ?_)))) ?_ fun O O O h=>h.elim)
   ·walk_at "nm";walk_at "nm";refine bL (I6 ?_);by_cases c1:pi<g.i
    ·refine iT (show ((pi:Nat):Int)<((g.i:Nat):Int) by exact (kq2 6559586374721) c1) ?_;refine U3 (J0 ?_);walk_at "nm";walk_at "nm";refine bL (I6 ?_);by_cases c2:pj<g.j
     ·refine iT (show ((pj:Nat):Int)<((g.j:Nat):Int) by exact (kq2 6559586374721) c2) ?_;refine ik ?_;refine W8 rfl ?_;refine G6 (K3 (O8 fun t2=>?_));refine G9 ⟨rfl,rfl,by walk_at "mv",by walk_at "mv",by walk_at "mv",by walk_at "mv",by walk_at "mv",by walk_at "mv",⟨t2,?_⟩⟩;unfold aa;rw [if_pos (And.intro c1 c2)];walk_at "mv"
     ·refine iF (show ¬ ((pj:Nat):Int)<((g.j:Nat):Int) by exact (kq2 27231504528331841) c2) ?_;refine G6 (K6 (J0 ?_));walk_at "nm";walk_at "nm";refine bL (I6 ?_);refine ju (show ((pi:Nat):Int)<((g.i:Nat):Int) by exact (kq2 6559586374721) c1) ?_;refine G6 (K3 (O8 fun t2=>?_));refine G9 (G9 ⟨rfl,rfl,by walk_at "mv",by walk_at "mv",by walk_at "mv",by walk_at "mv",by walk_at "mv",by walk_at "mv",⟨t2,?_⟩⟩);unfold aa;rw [if_neg (fun z=>c2 z.2),if_pos c1];walk_at "mv"
    ·refine iF (show ¬ ((pi:Nat):Int)<((g.i:Nat):Int) by exact (kq2 27231504528331841) c1) ?_;refine G6 (K6 (J0 ?_));walk_at "nm";walk_at "nm";refine bL (I6 ?_);refine jD (show ¬ ((pi:Nat):Int)<((g.i:Nat):Int) by exact (kq2 27231504528331841) c1) ?_;refine G6 (K6 (J0 ?_));walk_at "nm";walk_at "nm";refine bL (I6 ?_);by_cases c2:pj<g.j
     ·refine ju (show ((pj:Nat):Int)<((g.j:Nat):Int) by exact (kq2 6559586374721) c2) ?_;refine G6 (K3 (O8 fun t2=>?_));refine G9 (G9 (G9 ⟨rfl,rfl,by walk_at "mv",by walk_at "mv",by walk_at "mv",by walk_at "mv",by walk_at "mv",by walk_at "mv",⟨t2,?_⟩⟩));unfold aa;rw [if_neg (fun z=>c1 z.1),if_neg c1,if_pos c2];walk_at "mv"
     ·refine jD (show ¬ ((pj:Nat):Int)<((g.j:Nat):Int) by exact (kq2 27231504528331841) c2) ?_;refine G9 (G9 (G9 ⟨rfl,rfl,o1,o2,o3,o4,o5,o6,⟨tt,?_⟩⟩));unfold aa;rw [if_neg (fun z=>c1 z.1),if_neg c1,if_neg c2];exact o7
   clear o1 o2 o3 o4 o5 o6 o7;intro fl τ'' m2 zI;refine E0_9 zI fun zJ zK o1 o2 o3 o4 o5 o6 zz=>?_;obtain ⟨tt2,o7⟩:=zz;obtain rfl:=zJ;obtain rfl:=zK;let J4:PF:=fun fl τ3 m3=>fl=.next∧m3=m2∧∃ ol2 kn2,ol2.map Ot.o=ol.map Ot.o++(if pi<g.i∨pj<g.j then [⟨aa pi g.i pj g.j,pi,g.i,pj,g.j⟩] else [])∧ol2.length≤ol.length+1∧Cells τ3 ((ecl an (G3 (otV ol2) kn2))::(ol2.map Ot.cell++((ecl la (G3 (mbV ml) n))::(ml.flatMap Mb.cells++[(ecl a (G3 (strValues first) ja)),(ecl b (G3 (strValues second) jb))]))));refine G6 (W.mono (Q':=J4) (X':=NoX) (K6 (U7 ?_)) ?_ fun O O O h=>h.elim)
   ·walk_at "nm";refine kW (tagLen _ _ _ _) ?_;rw [Ft];by_cases hc:pi<g.i∨pj<g.j
    ·refine ju hc ?_;have ean:=hCS.is (a:=an) (o:=G3 (otV ol) kn) (by exact mH);refine G6 (O7 (N7 ?_));walk_at "nm";refine T8 ean F.plainAttrs_list F.slot_list_append F.type_list_append (I2 rfl (G7 (U6 (G7 ?_))));walk_at "nm";refine G7 ?_;walk_at "nm";refine G7 ?_;walk_at "nm";refine G7 ?_;walk_at "nm";refine G7 ?_;walk_at "nm";refine H5 ⟨leB rfl,fun ta hta=>H5 (V4 (O9 hta ean) (mpl ((kq2 24178876694958413994605633) hol hi19)) fun k3=>G9 ⟨rfl,rfl,(X8 (ol++[⟨ta,⟨aa pi g.i pj g.j,pi,g.i,pj,g.j⟩,tt2,s1,g.ti,s2,g.tj⟩]) k3 (by rw [if_pos hc];simp) (by simp) ?_)⟩)⟩;have z:=hCS.new (P:=(·=H4 (Ot.items ⟨ta,⟨aa pi g.i pj g.j,pi,g.i,pj,g.j⟩,tt2,s1,g.ti,s2,g.tj⟩))) hta rfl;have z2:=((z.cnt (L':=(ecl an (G3 (otV ol) kn))::(ecl ta (H4 (Ot.items ⟨ta,⟨aa pi g.i pj g.j,pi,g.i,pj,g.j⟩,tt2,s1,g.ti,s2,g.tj⟩)))::(ol.map Ot.cell++((ecl la (G3 (mbV ml) n))::(ml.flatMap Mb.cells++[(ecl a (G3 (strValues first) ja)),(ecl b (G3 (strValues second) jb))])))) (by exact SubC.c (.c .h) .r)).put (P':=(·=G3 (otV (ol++[⟨ta,⟨aa pi g.i pj g.j,pi,g.i,pj,g.j⟩,tt2,s1,g.ti,s2,g.tj⟩])) k3)) (o:=G3 (otV ol++[.ref ta]) k3) (by simp [otV]))
     refine z2.cnt ?_;rw [Ot.cells_snoc];exact SubC.c .h (.s (.p (.c .h) (.k (.c .h (.z .r)))))
    ·refine jD hc ?_;exact G9 ⟨rfl,rfl,(X8 ol kn (by rw [if_neg hc,X4]) (kq1 21577761) hCS)⟩
   intro fl τ3 m3 zM;obtain ⟨zN,zO,zz⟩:=zM;refine aV zz fun ol2 kn2 hol2 hlen2 hC4=>?_;clear zz;obtain rfl:=zN;obtain rfl:=zO;refine G6 ?_;refine jz (names:=[G4 "i",G4 "j"]) (U6 (G7 (M3 ?_)));walk_at "nm";walk_at "nm";refine Y4 fun v5=>G7 (M3 ?_);walk_at "nm";walk_at "nm";refine Y4 fun v6=>?_;refine H5 ⟨leB rfl,fun tp2 htp2=>?_⟩;refine ie hq I4 rfl ?_;refine M4 (aP (M4 (aP (aj ?_))));have hC5:=hC4.keep (o:=H4 [.int ((g.i:Int)+(g.k:Int)) v5,.int ((g.j:Int)+(g.k:Int)) v6]) htp2;generalize G5 τ3 tp2 (H4 [.int ((g.i:Int)+(g.k:Int)) v5,.int ((g.j:Int)+(g.k:Int)) v6])=τ4 at hC5 ⊢;rw [← cW,← cW];refine dM fun m4 em=>?_;have q1:vl m4 "answer" (.ref an):=K7 em (by walk_at "mv");have q2:vl m4 "i" (.int ((g.i+g.k:Nat):Int) v5):=K7 em (by walk_at "mv");have q3:vl m4 "j" (.int ((g.j+g.k:Nat):Int) v6):=K7 em (by walk_at "mv");have q4:vl m4 "ai" (.int (g.i:Int) g.ti):=K7 em (by walk_at "mv");have q5:vl m4 "bj" (.int (g.j:Int) g.tj):=K7 em (by walk_at "mv");have q6:vl m4 "size" (.int (g.k:Int) g.tk):=K7 em (by walk_at "mv");clear em;refine G6 (K6 (U7 ?_));walk_at "nm";refine qi ?_;by_cases hk:g.k=0
   ·rw [show ((g.k:Int) != 0)=false by rw [hk];rfl];refine Q7 rfl ?_;refine G9 (G9 (je ol2 kn2 (g.i+g.k) (g.j+g.k) v5 v6 ((kq3 24272465736019309601307713) hol hlen2) hC5 ?_ q1 q2 q3));rw [hol2,← hops];conv=>rhs;unfold bw
    rw [if_neg (show ¬ g.b3.k≠0 from fun z=>z hk),X4,W4];rfl
   ·rw [show ((g.k:Int) != 0)=true by rw [bne_iff_ne];exact (kq1 27266705006549537) hk];refine W8 rfl ?_;have ean:=hC5.is (a:=an) (o:=G3 (otV ol2) kn2) (by exact mH);refine G6 (O7 (N7 ?_));walk_at "nm";refine T8 ean F.plainAttrs_list F.slot_list_append F.type_list_append (I2 rfl (G7 (U6 (G7 (O8 fun t7=>G7 ?_)))));walk_at "nm";refine G7 ?_;walk_at "nm";refine G7 ?_;walk_at "nm";refine G7 ?_;walk_at "nm";refine H5 ⟨leB rfl,fun ta hta=>H5 (V4 (O9 hta ean) (mpl ((kq3 811308473899690052396226780937281) hol hi19 hlen2)) fun k3=>G9 (G9 (je (ol2++[⟨ta,⟨G4 "equal",g.i,g.i+g.k,g.j,g.j+g.k⟩,t7,g.ti,v5,g.tj,v6⟩]) k3 (g.i+g.k) (g.j+g.k) v5 v6 (by simp;exact (kq3 24855004930816751769663650881) hol hlen2) ?_ ?_ q1 q2 q3)))⟩
    ·have z:=hC5.new (P:=(·=H4 (Ot.items ⟨ta,⟨G4 "equal",g.i,g.i+g.k,g.j,g.j+g.k⟩,t7,g.ti,v5,g.tj,v6⟩))) hta rfl;have z2:=((z.cnt (L':=(ecl an (G3 (otV ol2) kn2))::(ecl ta (H4 (Ot.items ⟨ta,⟨G4 "equal",g.i,g.i+g.k,g.j,g.j+g.k⟩,t7,g.ti,v5,g.tj,v6⟩)))::(ol2.map Ot.cell++((ecl la (G3 (mbV ml) n))::(ml.flatMap Mb.cells++[(ecl a (G3 (strValues first) ja)),(ecl b (G3 (strValues second) jb))])))) (by exact SubC.c (.c .h) .r)).put (P':=(·=G3 (otV (ol2++[⟨ta,⟨G4 "equal",g.i,g.i+g.k,g.j,g.j+g.k⟩,t7,g.ti,v5,g.tj,v6⟩])) k3)) (o:=G3 (otV ol2++[.ref ta]) k3) (by simp [otV]))
     refine z2.cnt ?_;rw [Ot.cells_snoc];exact SubC.c .h (.s (.p (.c .h) (.k (.c .h (.z .r)))))
    ·rw [N6,hol2,← hops];conv=>rhs;unfold bw
     rw [if_pos (show g.b3.k≠0 from hk),W4,W4,W4];rfl
  ·intro τ' m' zQ;refine E6_6 zQ fun ol kn pi pj s1 s2 hol hCS hops n1 n2 n3=>?_;clear zQ;rw [List.drop_eq_nil_of_le (by simp)] at hops;refine G9 ⟨rfl,n1,(X8 ol kn (by rw [← hops];simp [bw]) (by simp at hol;exact (kq2 24178517848173606880300481) hmll hol) (hCS.cnt (by exact SubC.c .h (.p .h (.c (.c (.r .h)) (.c (.c (.r .h)) .n))))))⟩
 ·intro fl τ' m' zR;obtain ⟨zS,n1,zz⟩:=zR;refine aV zz fun ol n hol h40 hCf=>?_;clear zz;obtain rfl:=zS;refine G6 (Y9 ?_);walk_at "nm";exact hQ (H6 τ' (fun O O e=>e) (H6 _ hCf (gG an ol n rfl (by rw [hMx];exact hol) h40 rfl)))
noncomputable def O5.dat (o:O5):PyData:=.tuple [.str o.tag,.int o.i1,.int o.i2,.int o.j1,.int o.j2]
noncomputable def o5D (l:List O5):PyData:=.list (l.map O5.dat)
theorem nW {l:List O5} (h:∀ o∈l,PyData.strOk o.tag=true):(o5D l).canLay0=true:=by
 unfold o5D;rw [PyData.canLay0];induction l with
 | nil=>rfl
 | cons a l ih =>
  rw [O4,PyData.canLayAll0,ih fun o ho=>h o (H9 _ ho)];unfold O5.dat;simp [PyData.canLay0,PyData.canLayAll0,h a K4]
theorem xn (l:List O5):(o5D l).depth≤2:=by
 unfold o5D;rw [PyData.depth];suffices PyData.depthAll (l.map O5.dat)≤1 by exact q2
 induction l with
 | nil=>rw [bB,PyData.depthAll];exact (kq0 21009 [])
 | cons a l ih =>
  rw [O4,PyData.depthAll];have:a.dat.depth=1:=by unfold O5.dat;simp [PyData.depth,PyData.depthAll]
  lia
theorem qI:∀ l l':List O5,PyData.eqv (o5D l) (o5D l')=true↔l=l':=by
 intro l l';unfold o5D;rw [PyData.eqv];induction l generalizing l' with
 | nil=>cases l' <;> simp [PyData.eqvAll]
 | cons a l ih =>
  cases l' with
  | nil=>simp [PyData.eqvAll]
  | cons b l' =>
   rw [O4,O4,PyData.eqvAll,Bool.and_eq_true,ih];have:PyData.eqv a.dat b.dat=true↔a=b:=by
    unfold O5.dat;obtain ⟨t,i,j,k,n⟩:=a;obtain ⟨t',i',j',k',n'⟩:=b;simp [PyData.eqv,PyData.eqvAll,Int.ofNat_inj]
   rw [this];simp
theorem ot_rd {τ:PH} {x:Ot} (e:τ x.t=some (H4 x.items)):Rd τ (.ref x.t) x.o.dat :=
 .tuple e (.cons (.str _ _) (.cons (.int _ _) (.cons (.int _ _) (.cons (.int _ _) (.cons (.int _ _) .nil)))))
theorem qx {τ:PH} {la:Addr} {ol:List Ot} {n:Nat} (e:τ la=some (G3 (otV ol) n)) (h:∀ x∈ol,τ x.t=some (H4 x.items)):Rd τ (.ref la) (o5D (ol.map Ot.o)):=by
 refine .list e ?_;clear e;induction ol with
 | nil=>exact .nil
 | cons a l ih=>exact .cons (ot_rd (h a K4)) (ih fun x hx=>h x (H9 _ hx))
theorem Cells.tup {τ:PH} {L:List H7} {x:Ot} (h:Cells τ L) (hm:Ot.cell x∈L):τ x.t=some (H4 x.items):=by
 refine G8 (h.at_ _ hm) fun O e zB=>?_;obtain rfl:=zB;exact e
structure CdS where
 cs:List O5
 i:Nat
 j:Nat
noncomputable def az (ρ i' p j' q:Nat):Str:=if ρ=0 then G4 "equal" else if p<i'∧q<j' then G4 "replace" else if p<i' then G4 "delete" else G4 "insert"
noncomputable def M7 (ρ:Nat):Nat:=if ρ=2 then 0 else 1
noncomputable def M9 (ρ:Nat):Nat:=if ρ=1 then 0 else 1
noncomputable def au (cs:List O5) (p i q j ρ:Nat):CdS:=⟨cs++[⟨az ρ (i+M7 ρ) p (j+M9 ρ) q,p,i+M7 ρ,q,j+M9 ρ⟩],i+M7 ρ,j+M9 ρ⟩
noncomputable def cJ (s:CdS) (ρ:Nat):CdS:=match s.cs.getLast? with
 | some o=>if (o.tag==G4 "equal")=(ρ==0) then au s.cs.dropLast o.i1 o.i2 o.j1 o.j2 ρ else au s.cs s.i s.i s.j s.j ρ
 | none=>au s.cs s.i s.i s.j s.j ρ
noncomputable def rho (x:Int):Nat:=(x.fmod 3).toNat
theorem ph (x:Int):x.fmod 3=(rho x:Int)∧rho x<3:=by
 unfold rho;have h1:0≤x.fmod 3:=Int.fmod_nonneg_of_pos _ (by decide);have h2:x.fmod 3<3:=Int.fmod_lt_of_pos _ (by decide);lia
noncomputable def eH (l:List Nat):CdS:=l.foldl cJ ⟨[],0,0⟩
theorem wordOk (ρ i' p j' q:Nat):PyData.strOk (az ρ i' p j' q)=true:=by
 unfold az;split
 ·decide +kernel
 ·split
  ·decide +kernel
  ·split <;> decide +kernel
theorem codes_ {w:World} {os:OsState} (na:Addr) (l:List (Int×Tok)) (n:Nat) (hl:l.length≤20) :
  U4 w os 2 (.ref 488) ⟨[.ref na],[]⟩ [(ecl na (G3 (H8 l) n))]
   (fun v L'=>∃ la ol k,v=.ref la∧ol.map Ot.o=(eH (l.map fun p=>rho p.1)).cs∧ol.length≤20∧(∀ o∈ol,PyData.strOk o.o.tag=true)∧L'=(ecl la (G3 (otV ol) k))::(ol.map Ot.cell++[(ecl na (G3 (H8 l) n))])):=by
 intro τ hC;refine Z7 (RX:=fun v τ'=>∃ L',Cells τ' L'∧False) k488 cd488 rfl (binds:=[(G4 "numbers",.ref na)]) (V9 (fun P=>by kernel_rfl)) fun A L hr=>?_;let c0:Cx:=cx w os A fd488 488 L;show W c0 (execs _ c0.env) _ (upd (fun O=>none) (G4 "numbers") (.ref na)) _ _;refine W7 fun Q X hQ=>?_;have hq:(cx w os A fd488 488 L).A.handled=none:=hr.quiet;have hu:(cx w os A fd488 488 L).A.units≤9000:=by have:=hr.units;exact (kq1 792292250948718685662736563713) this
 refine G6 (K3 (V6 (H5 ⟨leB rfl,fun ca hca=>?_⟩)));have hC1:=hC.new (o:=G3 [] 0) (P:=(·=G3 (otV []) 0)) hca rfl;generalize G5 τ ca (G3 [] 0)=τ1 at hC1 ⊢;refine G6 ?_;refine mZ (U6 (G7 (J9 fun z1=>G7 (J9 fun z2=>H5 ⟨leB rfl,fun tp htp=>?_⟩))));have hC2:=hC1.keep (o:=H4 [.int 0 z1,.int 0 z2]) htp;have etp:G5 τ1 tp (H4 [.int 0 z1,.int 0 z2]) tp=some (H4 [.int 0 z1,.int 0 z2]):=I4;generalize G5 τ1 tp (H4 [.int 0 z1,.int 0 z2])=τ2 at hC2 etp ⊢;refine eE hq etp rfl rfl ?_;refine M4 (I8 (M4 (I8 (aj ?_))));have ena:=hC2.is (a:=na) (o:=G3 (H8 l) n) (by exact mC mH);let J1:PF:=fun fl τ' m'=>fl=.next∧vl m' "codes" (.ref ca)∧∃ ol k,ol.map Ot.o=(eH (l.map fun p=>rho p.1)).cs∧ol.length≤20∧(∀ o∈ol,PyData.strOk o.o.tag=true)∧Cells τ' ((ecl ca (G3 (otV ol) k))::(ol.map Ot.cell++[(ecl na (G3 (H8 l) n))]));refine G6 (W.mono (Q':=J1) (X':=NoX)
  (aB ?_) ?_ fun O O O h=>h.elim)
 ·walk_at "nm";let J2:PN:=fun t τ' m'=>∃ (ol:List Ot) (k pi pj:Nat) (s1 s2:Tok),ol.length≤t∧(∀ o∈ol,PyData.strOk o.o.tag=true)∧eH ((l.take t).map fun p=>rho p.1)=⟨ol.map Ot.o,pi,pj⟩∧Cells τ' ((ecl ca (G3 (otV ol) k))::(ol.map Ot.cell++[(ecl na (G3 (H8 l) n))]))∧vl m' "codes" (.ref ca)∧vl m' "i" (.int (pi:Int) s1)∧vl m' "j" (.int (pj:Int) s2);refine R0 _ _ _ (Iters.list hq ena) (Q0 J2 (jR [] 0 0 0 z1 z2 (T3 _) (fun o h=>(by cases h)) rfl hC2 (by walk_at "mv") (by show _=some (Value.int (0:Int) z1);walk_at "mv") (by show _=some (Value.int (0:Int) z2);walk_at "mv")) ?_ ?_ ?_)
  ·intro t τ' m' zC b hb;refine E6_5 zC fun ol k pi pj s1 s2 O O O hCS O=>?_;clear zC;rw [I7] at hb;rw [hb];have e:=hCS.is (a:=na) (o:=G3 (H8 l) n) (by exact mC (mR mH));rw [e,ena]
  ·intro t v τ' m' ht hv zE;refine E6_7 zE fun ol k pi pj s1 s2 hol htag hcs hCS n1 n2 n3=>?_;clear zE;obtain ⟨g,hg,rfl⟩:∃ g,l[t]? = some g∧v=.int g.1 g.2:=by
    unfold H8 at hv;rw [S9] at hv;cases z:l[t]? with
    | none=>rw [z] at hv;cases hv
    | some g=>rw [z] at hv;cases hv;exact (H6 g rfl rfl)
   have htl:t<20:=by
    have:=(List.getElem?_eq_some_iff.mp hg).1;exact q3
   refine O1 (ph g.1) fun hρ hρ3=>?_;have hnx:eH ((l.take (t+1)).map fun p=>rho p.1)=cJ ⟨ol.map Ot.o,pi,pj⟩ (rho g.1):=by
    rw [aC,hg,N6];unfold eH at hcs ⊢;rw [List.foldl_append,hcs];rfl
   generalize rho g.1=ρ at hρ hρ3 hnx;refine I8 ?_;refine G6 ?_;refine jz (names:=[G4 "p",G4 "q"]) (U6 (G7 ?_));walk_at "nm";refine G7 ?_;walk_at "nm";refine H5 ⟨leB rfl,fun tp2 htp2=>?_⟩;refine ie hq I4 rfl ?_;refine M4 (aP (M4 (aP (aj ?_))));have hC3:=hCS.keep (o:=H4 [.int (pi:Int) s1,.int (pj:Int) s2]) htp2;generalize G5 τ' tp2 (H4 [.int (pi:Int) s1,.int (pj:Int) s2])=τ3 at hC3 ⊢;refine dM fun m1 em=>?_;have o1:vl m1 "codes" (.ref ca):=K7 em (by walk_at "mv");have o2:vl m1 "i" (.int (pi:Int) s1):=K7 em (by walk_at "mv");have o3:vl m1 "j" (.int (pj:Int) s2):=K7 em (by walk_at "mv");have o4:vl m1 "p" (.int (pi:Int) s1):=K7 em (by walk_at "mv");have o5:vl m1 "q" (.int (pj:Int) s2):=K7 em (by walk_at "mv");have o6:vl m1 "x" (.int g.1 g.2):=K7 em (by walk_at "mv");clear em n1 n2 n3 hCS;let J3:PF:=fun fl τ4 m4=>fl=.next∧∃ (ol2:List Ot) (k2 p i q j:Nat) (a1 a2 a3 a4:Tok),ol2.length≤t∧(∀ o∈ol2,PyData.strOk o.o.tag=true)∧cJ ⟨ol.map Ot.o,pi,pj⟩ ρ=au (ol2.map Ot.o) p i q j ρ∧Cells τ4 ((ecl ca (G3 (otV ol2) k2))::(ol2.map Ot.cell++[(ecl na (G3 (H8 l) n))]))∧vl m4 "codes" (.ref ca)∧vl m4 "i" (.int (i:Int) a2)∧vl m4 "j" (.int (j:Int) a4)∧vl m4 "p" (.int (p:Int) a1)∧vl m4 "q" (.int (q:Int) a3)∧vl m4 "x" (.int g.1 g.2);refine G6 (W.mono (Q':=J3) (X':=NoX) (K6 (aQ (U3 (J0 ?_)))) ?_ fun O O O h=>h.elim)
   ·have eca:=hC3.is (a:=ca) (o:=G3 (otV ol) k) (by exact mH);walk_at "nm";refine V6 (H5 ⟨leB rfl,fun ea hea=>?_⟩);have hC4:=hC3.keep (o:=G3 [] 0) hea;have eca4:G5 τ3 ea (G3 [] 0) ca=some (G3 (otV ol) k):=O9 hea eca;have eea:G5 τ3 ea (G3 [] 0) ea=some (G3 (otV []) 0):=I4;generalize G5 τ3 ea (G3 [] 0)=τ4 at hC4 eca4 eea ⊢;have rd1:Rd τ4 (.ref ca) (o5D (ol.map Ot.o)):=qx eca4 fun x hx=>hC4.tup (H9 _ (O2 _ (O3 hx)));have rd2:Rd τ4 (.ref ea) (o5D []):=qx (ol:=[]) eea fun x hx=>(by cases hx)
    refine rN rd1 rd2 (nW (fun o ho=>by obtain ⟨x,hx,rfl⟩:=List.mem_map.mp ho;exact htag x hx)) (nW fun o ho=>(by cases ho)) hu (by have:=xn (ol.map Ot.o);exact q1) (I6 ?_);rcases List.eq_nil_or_concat ol with rfl | ⟨os',o,rfl⟩
    ·rw [show PyData.eqv (o5D (([]:List Ot).map Ot.o)) (o5D [])=true from (qI _ _).mpr rfl];refine bF (by simp only [Bool.not_true]) ?_;exact G9 ⟨rfl,(tB [] k pi pi pj pj s1 s1 s2 s2 (T3 _) (fun o h=>(by cases h)) rfl hC4 o1 o2 o3 o4 o5 o6)⟩
    ·rw [List.concat_eq_append] at *;have hne:PyData.eqv (o5D ((os'++[o]).map Ot.o)) (o5D [])=false:=by
      rw [Bool.eq_false_iff];intro z;have:=(qI _ _).mp z;simp at this
     rw [hne];refine bT (by simp only [Bool.not_false]) ?_;have eo:τ4 o.t=some (H4 o.items):=hC4.tup (H9 _ (O2 _ (O3 (by simp))));refine U3 (J0 (nC (T5 (T5 ?_ fun O O=>.inl rfl) fun O O=>.inl rfl)));walk_at "nm";refine qw (J9 fun O=>pO fun O=>⟨(I5 "list" _ (TyAt.ref eca4 rfl) list_getitem_lookup),?_⟩);refine Y5 (j:=os'.length) (x:=.ref o.t) eca4 (mpl ((kq2 23612184272452996223425) htl hol)) ?_ (by simp) ?_
     ·have hl':(otV (os'++[o])).length=os'.length+1:=by simp
      rw [hl'];have e:(if (-1:Int)<0 then (-1:Int)+((os'.length+1:Nat):Int) else -1)=os'.length:=by rw [if_pos (by decide)];exact (kq1 256994604222195563440)
      unfold seqIndex?;simp only [e];rw [if_pos (by simp;exact (kq1 208974772078497))];rfl
     refine J9 fun O=>⟨(I5 "tuple" _ (TyAt.ref eo rfl) F.slot_tuple_getitem.lookup),?_⟩
     refine rD (j:=0) (x:=.str o.o.tag o.u0) eo (by simp [Ot.items]) (by decide) (by decide) (by rfl) rfl ?_;refine O8 fun O=>mG ?_;refine nC (M3 ?_);walk_at "nm";refine J9 fun O=>gw (by decide) fun O=>J9 fun O=>il (W.eqB (I6 ?_));rw [hρ];have hcase:(((o.o.tag==G4 "equal")==((ρ:Int)==0))=true)↔(o.o.tag==G4 "equal")=(ρ==0):=by
      rw [beq_iff_eq,show ((ρ:Int)==0)=(ρ==0) from by rw [Bool.eq_iff_iff];simp]
     have hlast:((os'++[o]).map Ot.o).getLast? = some o.o:=by simp
     by_cases hc:(o.o.tag==G4 "equal")=(ρ==0)
     ·rw [hcase.mpr hc];refine bT rfl ?_;refine ik ?_;refine W8 rfl ?_;refine G6 (mZ (N7 ?_));walk_at "nm";refine T8 eca4 F.plainAttrs_list F.slot_list_pop F.type_list_pop (aq rfl ?_);refine mq (vs:=otV os') (x:=.ref o.t) (n:=k) (by rw [eca4,show otV (os'++[o])=otV os'++[Value.ref o.t] by simp [otV]]) (by rw [I3];simp at hol;exact (kq2 24178876694991885126259137) htl hol) fun k2=>?_;have hne2:o.t≠ca:=by
       have z:=hC4.nd;simp only [O4,qD,N6,nH,qC,bB] at z;intro e;exact z.1 (by rw [← e];simp)
      have eo2:G5 τ4 ca (G3 (otV os') k2) o.t=some (H4 o.items):=P0 hne2 eo;have hC5:Cells (G5 τ4 ca (G3 (otV os') k2)) ((ecl ca (G3 (otV os') k2))::(os'.map Ot.cell++[(ecl na (G3 (H8 l) n))])):=by
       refine (hC4.put (P':=(·=G3 (otV os') k2)) rfl).cnt ?_;rw [Ot.cells_snoc];exact SubC.c .h (.p (.l .h) (.c (.r .h) .n))
      generalize G5 τ4 ca (G3 (otV os') k2)=τ5 at hC5 eo2 ⊢;refine eE hq eo2 rfl rfl ?_;refine M4 (I8 (M4 (I8 (M4 (I8 (M4 (I8 (M4 (I8 (aj ?_))))))))));refine G9 ⟨rfl,(tB os' k2 o.o.i1 o.o.i2 o.o.j1 o.o.j2 o.u1 o.u2 o.u3 o.u4 (by simp at hol;exact q6) (fun x hx=>htag x (O2 _ hx)) ?_ hC5 (by walk_at "mv") (by walk_at "mv") (by walk_at "mv") (by walk_at "mv") (by walk_at "mv") (by walk_at "mv"))⟩;unfold cJ;rw [List.concat_eq_append,hlast];dsimp only;rw [if_pos hc];simp
     ·refine bF (show ((o.o.tag==G4 "equal")==((ρ:Int)==0))=false from by rw [Bool.eq_false_iff];exact fun z=>hc (hcase.mp z)) ?_;refine G9 ⟨rfl,(tB (os'++[o]) k pi pi pj pj s1 s1 s2 s2 hol htag ?_ hC4 o1 o2 o3 o4 o5 o6)⟩;unfold cJ;rw [List.concat_eq_append,hlast];dsimp only;rw [if_neg hc]
   clear o1 o2 o3 o4 o5 o6;intro fl τ4 m4 zG;obtain ⟨zH,zz⟩:=zG;refine E10_10 zz fun ol2 k2 p i q j a1 a2 a3 a4 hol2 htag2 hst hC4 o1 o2 o3 o4 o5 o6=>?_;clear zz;obtain rfl:=zH;rw [hst] at hnx;refine G6 (W.mono (Q':=fun fl τ5 m5=>fl=.next∧τ5=τ4∧∃ b2,vl m5 "codes" (.ref ca)∧vl m5 "i" (.int ((i+M7 ρ:Nat):Int) b2)∧vl m5 "j" (.int (j:Int) a4)∧vl m5 "p" (.int (p:Int) a1)∧vl m5 "q" (.int (q:Int) a3)∧vl m5 "x" (.int g.1 g.2)) (X':=NoX) (K6 (J0 (M3 ?_))) ?_ fun O O O h=>h.elim)
   ·walk_at "nm";refine J9 fun O=>gw (by decide) fun O=>J9 fun O=>iW (I6 ?_);rw [hρ];unfold M7;by_cases h2:ρ=2
    ·rw [if_pos h2];refine Q7 (show ((ρ:Int) != 2)=false from by rw [h2];rfl) ?_;exact G9 ⟨rfl,rfl,(bu a2 o1 o2 o3 o4 o5 o6)⟩
    ·rw [if_neg h2];refine W8 (show ((ρ:Int) != 2)=true from by rw [bne_iff_ne];exact (kq1 27921088947931515329) h2) ?_;refine G6 (iC o2 (by kernel_rfl) (J9 fun v1=>iU fun v2=>?_));exact G9 ⟨rfl,rfl,(bu v2 (by walk_at "mv") (by rw [cW];show _=some (Value.int ((i:Int)+1) v2);walk_at "mv") (by walk_at "mv") (by walk_at "mv") (by walk_at "mv") (by walk_at "mv"))⟩
   clear o1 o2 o3 o4 o5 o6;intro fl τ5 m5 zI;obtain ⟨zJ,zK,zz⟩:=zI;refine dU zz fun b2 o1 o2 o3 o4 o5 o6=>?_;clear zz;obtain rfl:=zJ;obtain rfl:=zK;refine G6 (W.mono (Q':=fun fl τ6 m6=>fl=.next∧τ6=τ5∧∃ b4,vl m6 "codes" (.ref ca)∧vl m6 "i" (.int ((i+M7 ρ:Nat):Int) b2)∧vl m6 "j" (.int ((j+M9 ρ:Nat):Int) b4)∧vl m6 "p" (.int (p:Int) a1)∧vl m6 "q" (.int (q:Int) a3)∧vl m6 "x" (.int g.1 g.2)) (X':=NoX) (K6 (J0 (M3 ?_))) ?_ fun O O O h=>h.elim)
   ·walk_at "nm";refine J9 fun O=>gw (by decide) fun O=>J9 fun O=>iW (I6 ?_);rw [hρ];unfold M9;by_cases h2:ρ=1
    ·rw [if_pos h2];refine Q7 (show ((ρ:Int) != 1)=false from by rw [h2];rfl) ?_;exact G9 ⟨rfl,rfl,(bu a4 o1 o2 o3 o4 o5 o6)⟩
    ·rw [if_neg h2];refine W8 (show ((ρ:Int) != 1)=true from by rw [bne_iff_ne];exact (kq1 27266703932807681) h2) ?_;refine G6 (iC o3 (by kernel_rfl) (J9 fun v1=>iU fun v2=>?_));exact G9 ⟨rfl,rfl,(bu v2 (by walk_at "mv") (by walk_at "mv") (by rw [cW];show _=some (Value.int ((j:Int)+1) v2);walk_at "mv") (by walk_at "mv") (by walk_at "mv") (by walk_at "mv"))⟩
   clear o1 o2 o3 o4 o5 o6;intro fl τ6 m6 zL;obtain ⟨zM,zN,zz⟩:=zL;refine dU zz fun b4 o1 o2 o3 o4 o5 o6=>?_;clear zz;obtain rfl:=zM;obtain rfl:=zN;unfold au at hnx;generalize i+M7 ρ=i' at hnx o2;generalize j+M9 ρ=j' at hnx o3;refine G6 (W.mono (Q':=fun fl τ7 m7=>fl=.next∧τ7=τ6∧∃ tw,vl m7 "codes" (.ref ca)∧vl m7 "i" (.int (i':Int) b2)∧vl m7 "j" (.int (j':Int) b4)∧vl m7 "p" (.int (p:Int) a1)∧vl m7 "q" (.int (q:Int) a3)∧vl m7 "word" (.str (az ρ i' p j' q) tw)) (X':=NoX) (K6 (J0 (M3 ?_))) ?_ fun O O O h=>h.elim)
   ·walk_at "nm";refine J9 fun O=>gw (by decide) fun O=>J9 fun O=>il (I6 ?_);rw [hρ];unfold az;by_cases h0:ρ=0
    ·rw [if_pos h0];refine W8 (show ((ρ:Int)==0)=true from by rw [h0];rfl) ?_;refine G6 (K3 (O8 fun t2=>?_));exact G9 ⟨rfl,rfl,(bu t2 (by walk_at "mv") (by walk_at "mv") (by walk_at "mv") (by walk_at "mv") (by walk_at "mv") (by walk_at "mv"))⟩
    rw [if_neg h0];refine Q7 (show ((ρ:Int)==0)=false from by rw [beq_eq_false_iff_ne];exact (kq1 27266705006549537) h0) ?_;refine G6 (K6 (aQ (U3 (J0 ?_))));walk_at "nm";walk_at "nm";refine fO (I6 ?_);by_cases c1:p<i'
    ·refine iT (show ((p:Nat):Int)<((i':Nat):Int) by exact (kq2 6559586374721) c1) ?_;refine U3 (J0 ?_);walk_at "nm";walk_at "nm";refine fO (I6 ?_);by_cases c2:q<j'
     ·rw [if_pos (And.intro c1 c2)];refine iT (show ((q:Nat):Int)<((j':Nat):Int) by exact (kq2 6559586374721) c2) ?_;refine ik ?_;refine W8 rfl ?_;refine G6 (K3 (O8 fun t2=>?_));exact G9 (G9 ⟨rfl,rfl,(bu t2 (by walk_at "mv") (by walk_at "mv") (by walk_at "mv") (by walk_at "mv") (by walk_at "mv") (by walk_at "mv"))⟩)
     ·rw [decide_eq_false (show ¬ ((q:Nat):Int)<((j':Nat):Int) by exact (kq2 27231504528331841) c2),if_neg (fun z:p<i'∧q<j'=>c2 z.2),if_pos c1];refine bF rfl ?_;refine G6 (K3 (uG (J0 ?_)));walk_at "nm";walk_at "nm";refine fO (I6 ?_);rw [decide_eq_true (show ((p:Nat):Int)<((i':Nat):Int) by exact (kq2 6559586374721) c1)];simp only [if_true];refine O8 fun t2=>?_;exact G9 (G9 ⟨rfl,rfl,(bu t2 (by walk_at "mv") (by walk_at "mv") (by walk_at "mv") (by walk_at "mv") (by walk_at "mv") (by walk_at "mv"))⟩)
    ·rw [decide_eq_false (show ¬ ((p:Nat):Int)<((i':Nat):Int) by exact (kq2 27231504528331841) c1),if_neg (fun z:p<i'∧q<j'=>c1 z.1),if_neg c1];refine bF rfl ?_;refine G6 (K3 (uG (J0 ?_)));walk_at "nm";walk_at "nm";refine fO (I6 ?_);rw [decide_eq_false (show ¬ ((p:Nat):Int)<((i':Nat):Int) by exact (kq2 27231504528331841) c1)];simp only [Bool.false_eq_true,if_false];refine O8 fun t2=>?_;exact G9 (G9 ⟨rfl,rfl,(bu t2 (by walk_at "mv") (by walk_at "mv") (by walk_at "mv") (by walk_at "mv") (by walk_at "mv") (by walk_at "mv"))⟩)
   clear o1 o2 o3 o4 o5 o6;intro fl τ7 m7 zO;obtain ⟨zP,zQ,zz⟩:=zO;refine dU zz fun tw o1 o2 o3 o4 o5 o6=>?_;clear zz;obtain rfl:=zP;obtain rfl:=zQ;have hwk:=wordOk ρ i' p j' q;generalize az ρ i' p j' q=wd at hnx o6 hwk;have eca:=hC4.is (a:=ca) (o:=G3 (otV ol2) k2) (by exact mH);refine G6 (O7 (N7 ?_));walk_at "nm";refine T8 eca F.plainAttrs_list F.slot_list_append F.type_list_append (I2 rfl (G7 (U6 (G7 ?_))));walk_at "nm";refine G7 ?_;walk_at "nm";refine G7 ?_;walk_at "nm";refine G7 ?_;walk_at "nm";refine G7 ?_;walk_at "nm";refine H5 ⟨leB rfl,fun ta hta=>H5 (V4 (O9 hta eca) (mpl ((kq2 23612184272452996223425) htl hol2)) fun k3=>G9 (jR (ol2++[⟨ta,⟨wd,p,i',q,j'⟩,tw,a1,b2,a3,b4⟩]) k3 i' j' b2 b4 (by simp;assumption) (fun o ho=>?_) (by rw [hnx];simp) ?_ o1 o2 o3))⟩
   ·rcases List.mem_append.mp ho with z | z
    ·exact htag2 o z
    ·rw [I7] at z;subst z;exact hwk
   ·have z:=hC4.new (P:=(·=H4 (Ot.items ⟨ta,⟨wd,p,i',q,j'⟩,tw,a1,b2,a3,b4⟩))) hta rfl;have z2:=((z.cnt (L':=(ecl ca (G3 (otV ol2) k2))::(ecl ta (H4 (Ot.items ⟨ta,⟨wd,p,i',q,j'⟩,tw,a1,b2,a3,b4⟩)))::(ol2.map Ot.cell++[(ecl na (G3 (H8 l) n))])) (by exact SubC.c (.c .h) .r)).put (P':=(·=G3 (otV (ol2++[⟨ta,⟨wd,p,i',q,j'⟩,tw,a1,b2,a3,b4⟩])) k3)) (o:=G3 (otV ol2++[.ref ta]) k3) (by simp [otV]))
    refine z2.cnt ?_;rw [Ot.cells_snoc];exact SubC.c .h (.s (.p (.c .h) (.k (.c .h (.z .r)))))
  ·intro τ' m' zS;refine E6_7 zS fun ol k pi pj s1 s2 hol htag hcs hCS n1 n2 n3=>?_;clear zS;have hlen:(H8 l).length=l.length:=by unfold H8;rw [I3]
   rw [hlen] at hol hcs;rw [aD] at hcs;exact G9 ⟨rfl,n1,(cR ol k (by rw [hcs]) q3 htag hCS)⟩
 ·intro fl τ' m' zT;obtain ⟨zU,n1,zz⟩:=zT;refine eN zz fun ol k hol h20 htag hCf=>?_;clear zz;obtain rfl:=zU;refine G6 (Y9 ?_);walk_at "nm";exact hQ (H6 τ' (fun O O e=>e) (H6 _ hCf (I3_5 ca ol k rfl hol h20 htag rfl)))
noncomputable def qd (l:List Int):List Int:=[1]++(List.range (l.length-1)).map (fun k=>l.getD k 0+l.getD (k+1) 0)++[1]
noncomputable def bI:Nat→List Int
 | 0=>[1]
 | n+1=>qd (bI n)
theorem ou:∀ n,(bI n).length=n+1
 | 0=>rfl
 | n+1=>by
  have:=ou n;unfold bI qd;simp [this]
noncomputable def W3 (l:List O5):Int:=l.foldl (fun a o=>if o.tag=G4 "equal" then a else a*(bI (o.i2-o.i1+(o.j2-o.j1))).getD (o.i2-o.i1) 0) 1
theorem Em:∀ n,n<17→∀ k,k<n+1→Builtin.Int.intBits ((bI n).getD k 0)≤64:=by decide +kernel
theorem Ar {w:World} {os:OsState} (la:Addr) (ol:List Ot) (k:Nat) (hol:ol.length≤40) (hok:∀ o∈ol,o.o.i1≤o.o.i2∧o.o.j1≤o.o.j2∧o.o.i2≤8∧o.o.j2≤8) :
  U4 w os 2 (.ref 510) ⟨[.ref la],[]⟩ ((ecl la (G3 (otV ol) k))::ol.map Ot.cell)
   (fun v L'=>∃ t,v=.int (W3 (ol.map Ot.o)) t∧L'=(ecl la (G3 (otV ol) k))::ol.map Ot.cell):=by
 intro τ hC;refine Z7 (RX:=fun v τ'=>∃ L',Cells τ' L'∧False) k510 cd510 rfl (binds:=[(G4 "codes",.ref la)]) (V9 (fun P=>by kernel_rfl)) fun A L hr=>?_;let c0:Cx:=cx w os A fd510 510 L;show W c0 (execs _ c0.env) _ (upd (fun O=>none) (G4 "codes") (.ref la)) _ _;refine W7 fun Q X hQ=>?_;have hq:(cx w os A fd510 510 L).A.handled=none:=hr.quiet;have hu:(cx w os A fd510 510 L).A.units≤9000:=by have:=hr.units;exact (kq1 792292250948718685662736563713) this
 generalize hL0:(((ecl la (G3 (otV ol) k))::ol.map Ot.cell):List H7)=L0 at hC;refine G6 (K3 (J9 fun z1=>?_));have ela:=hC.is (a:=la) (o:=G3 (otV ol) k) (by rw [← hL0];simp);let J1:PF:=fun fl τ' m'=>fl=.next∧Cells τ' L0∧∃ t,vl m' "due" (.int (W3 (ol.map Ot.o)) t);refine G6 (W.mono (Q':=J1) (X':=NoX) (aB ?_) ?_ fun O O O h=>h.elim)
 ·walk_at "nm";let J2:PN:=fun s τ' m'=>Cells τ' L0∧∃ t,vl m' "due" (.int (W3 ((ol.take s).map Ot.o)) t);refine R0 _ _ _ (Iters.list hq ela) (Q0 J2 ⟨hC,⟨z1,by show _=some (Value.int (1:Int) z1);walk_at "mv"⟩⟩ ?_ ?_ ?_)
  ·rintro s τ' m' ⟨hCS,_⟩ b hb;rw [I7] at hb;rw [hb];have e:=hCS.is (a:=la) (o:=G3 (otV ol) k) (by rw [← hL0];simp);rw [e,ela]
  ·intro s v τ' m' hs hv zB;obtain ⟨hCS,td,n1⟩:=zB;obtain ⟨o,ho,rfl⟩:∃ o,ol[s]? = some o∧v=.ref o.t:=by
    rw [S9] at hv;cases z:ol[s]? with
    | none=>rw [z] at hv;cases hv
    | some o=>rw [z] at hv;cases hv;exact (H6 o rfl rfl)
   have hom:o∈ol:=aW ho;have hpm:W3 ((ol.take (s+1)).map Ot.o)=if o.o.tag=G4 "equal" then W3 ((ol.take s).map Ot.o) else W3 ((ol.take s).map Ot.o)*(bI (o.o.i2-o.o.i1+(o.o.j2-o.o.j1))).getD (o.o.i2-o.o.i1) 0:=by
    rw [aC,ho,N6];unfold W3;rw [List.foldl_append];rfl
   generalize W3 ((ol.take s).map Ot.o)=due at hpm n1;refine bR (hok o hom) fun h1 h2 h3 h4=>?_;have eo:τ' o.t=some (H4 o.items):=hCS.tup (by rw [← hL0];exact H9 _ (O3 hom));refine eE hq eo rfl rfl ?_;refine M4 (I8 (M4 (I8 (M4 (I8 (M4 (I8 (M4 (I8 (aj ?_))))))))));refine dM fun m1 em=>?_;have o1:vl m1 "due" (.int due td):=K7 em (by walk_at "mv");have o2:vl m1 "word" (.str o.o.tag o.u0):=K7 em (by walk_at "mv");have o3:vl m1 "p" (.int (o.o.i1:Int) o.u1):=K7 em (by walk_at "mv");have o4:vl m1 "i" (.int (o.o.i2:Int) o.u2):=K7 em (by walk_at "mv");have o5:vl m1 "q" (.int (o.o.j1:Int) o.u3):=K7 em (by walk_at "mv");have o6:vl m1 "j" (.int (o.o.j2:Int) o.u4):=K7 em (by walk_at "mv");clear em n1;refine G6 (K6 (J0 ?_));walk_at "nm";refine O8 fun O=>pM (I6 ?_);by_cases hw:o.o.tag=G4 "equal"
   ·refine Q7 (show (o.o.tag != G4 "equal")=false from by rw [hw];simp) ?_;refine G9 (G9 ⟨hCS,⟨td,?_⟩⟩);rw [hpm,if_pos hw];exact o1
   refine W8 (show (o.o.tag != G4 "equal")=true from by rw [bne_iff_ne];exact hw) ?_;rw [if_neg hw] at hpm;refine G6 (K3 (V6 (G7 (J9 fun v1=>H5 ⟨leB rfl,fun lA hlA=>?_⟩))));have hC2:=hCS.new (o:=G3 [.int 1 v1] 0) (P:=(·=G3 (H8 [(1,v1)]) 0)) hlA rfl;generalize G5 τ' lA (G3 [.int 1 v1] 0)=τ2 at hC2 ⊢;let J3:PF:=fun fl τ3 m3=>fl=.next∧∃ lA lst n,Cells τ3 ((ecl lA (G3 (H8 lst) n))::L0)∧lst.map (·.1)=bI (o.o.i2-o.o.i1+(o.o.j2-o.o.j1))∧vl m3 "line" (.ref lA)∧vl m3 "due" (.int due td)∧vl m3 "p" (.int (o.o.i1:Int) o.u1)∧vl m3 "i" (.int (o.o.i2:Int) o.u2);refine G6 (W.mono (Q':=J3) (X':=NoX) (aB (K8 (I9 (.type "range") (I2 rfl (G7 (M3 (M3 (M3 ?_)))))))) ?_ fun O O O h=>h.elim)
   ·walk_at "nm";walk_at "nm";refine cB fun O=>?_;walk_at "nm";refine Y4 fun O=>?_;walk_at "nm";refine cB fun O=>H5 (iM fun ro u1 u2 u3 hro=>?_);have hN:((o.o.i2:Int)-(o.o.i1:Int)+(o.o.j2:Int)-(o.o.j1:Int))=((o.o.i2-o.o.i1+(o.o.j2-o.o.j1):Nat):Int):=by exact (kq4 310711280455206778981662422118927698158014529) h1 h2
    rw [hN];have hN16:o.o.i2-o.o.i1+(o.o.j2-o.o.j1)≤16:=by exact (kq4 793606199043968912818053569) h3 h4
    generalize hNN:o.o.i2-o.o.i1+(o.o.j2-o.o.j1)=N at hN16 hpm ⊢;let J4:PN:=fun t τ3 m3=>∃ lA lst n,Cells τ3 ((ecl lA (G3 (H8 lst) n))::L0)∧lst.map (·.1)=bI t∧vl m3 "line" (.ref lA)∧vl m3 "due" (.int due td)∧vl m3 "p" (.int (o.o.i1:Int) o.u1)∧vl m3 "i" (.int (o.o.i2:Int) o.u2);refine R0 _ _ _ (gD hq I4 (kq0 166643633 []) (by lia) (by lia)) (Q0 J4 (dX lA [(1,v1)] 0 (hC2.keep hro) rfl (by walk_at "mv") (by walk_at "mv") (by walk_at "mv") (by walk_at "mv")) (fun O O O O b hb=>(by cases hb)) ?_ ?_)
    ·rintro t v τ3 m3 ht ⟨tv,rfl⟩ zC;refine fW zC fun lA lst n hC3 hlst n1 n2 n3 n4=>?_;clear zC;have ht16:t<16:=by exact q3
     have hlen:lst.length=t+1:=by rw [← I3 (f:=(·.1)),hlst,ou]
     have hvl:(H8 lst).length=t+1:=by unfold H8;rw [I3,hlen]
     refine I8 ?_;have elA:=hC3.is (a:=lA) (o:=G3 (H8 lst) n) (by exact mH);refine G6 (K3 (M3 (M3 (V6 (G7 (J9 fun v2=>H5 ⟨leB rfl,fun aA haA=>?_⟩))))));have hC4:=hC3.new (o:=G3 [.int 1 v2] 0) (P:=(·=G3 (H8 [(1,v2)]) 0)) haA rfl;have elA4:G5 τ3 aA (G3 [.int 1 v2] 0) lA=some (G3 (H8 lst) n):=O9 haA elA;generalize G5 τ3 aA (G3 [.int 1 v2] 0)=τ4 at hC4 elA4 ⊢;refine iQ (cl:=[(G4 "line",L+1)]) ⟨by kernel_rfl,by kernel_rfl,(by intro p hp;rw [I7] at hp;subst hp;kernel_rfl),by kernel_rfl,by kernel_rfl,by kernel_rfl⟩ (K8 (I9 (.type "range") (I2 rfl (G7 (M3 (K8 (I9 (.builtin "len") (I2 rfl (G7 ?_)))))))));walk_at "nm";refine H5 (cY elA4 ((kq2 24178876694994665614262721) ht16 hvl) fun O=>J9 fun O=>cB fun O=>H5 (iM fun rr w1 w2 w3 hrr=>?_));rw [hvl,show (((t+1:Nat):Int)-1)=((t:Nat):Int) from qj (Nat.succ_pos t)];have hC5:=hC4.keep (o:=aG 0 ((t:Nat):Int) 1 w1 w2 w3) hrr;have err:G5 τ4 rr (aG 0 ((t:Nat):Int) 1 w1 w2 w3) rr=some (aG 0 ((t:Nat):Int) 1 w1 w2 w3):=I4;have elA5:G5 τ4 rr (aG 0 ((t:Nat):Int) 1 w1 w2 w3) lA=some (G3 (H8 lst) n):=O9 hrr elA4;generalize G5 τ4 rr (aG 0 ((t:Nat):Int) 1 w1 w2 w3)=τ5 at hC5 err elA5 ⊢;let J5:Addr→PN:=fun acc s τ6 m6=>∃ us j2,τ5 acc=none∧us.length=s∧τ6=G5 τ5 acc (G3 (H8 us) j2)∧us.map (·.1)=(List.range s).map (fun k=>(bI t).getD k 0+(bI t).getD (k+1) 0)∧vl m6 "line" (.ref lA);refine R0 _ _ _ (gD hq err (kq0 166643633 []) (kq1 166627249) ((kq1 5862606194538134028737) ht16)) (Q0 J5 ?_ ?_ ?_ ?_)
     ·intro acc hacc;refine I2_5 [] 0 hacc rfl rfl rfl ?_
      (try unfold vl);unfold aH
      rw [if_pos (by kernel_rfl)];walk_at "mv"
     ·intro acc s τ6 m6 zE b hb;refine eN zE fun us j2 hacc O zF O=>?_;clear zE;obtain rfl:=zF;cases hb
     ·rintro acc L' s v τ6 m6 hs2 ⟨tv2,rfl⟩ zG;refine eZ zG fun us j2 hacc husl zH hus q1=>?_;clear zG;obtain rfl:=zH;have hst:s<t:=by assumption
      obtain ⟨g1,hg1⟩:∃ g,lst[s]? = some g:=⟨_,Z6 ((kq3 23683104776994881) hlen hst)⟩
      obtain ⟨g2,hg2⟩:∃ g,lst[s+1]? = some g:=⟨_,Z6 ((kq3 24268213564400549953) hlen hst)⟩
      have e1:(bI t).getD s 0=g1.1:=by rw [← hlst,List.getD_eq_getElem?_getD,S9,hg1];rfl
      have e2:(bI t).getD (s+1) 0=g2.1:=by rw [← hlst,List.getD_eq_getElem?_getD,S9,hg2];rfl
      have elA6:G5 τ5 acc (G3 (H8 us) j2) lA=some (G3 (H8 lst) n):=O9 hacc elA5;rw [Int.zero_add ((s:Nat):Int)];refine I8 (rm ?_);refine bT rfl ?_;refine M3 (T5 ?_ fun O O=>.inl rfl);walk_at "nm";walk_at "nm";refine ⟨(I5 "list" _ (TyAt.ref elA6 rfl) list_getitem_lookup),Y5 elA6 ((kq2 24178876694994665614262721) ht16 hvl) (Z8 ((kq3 23683104776994881) hvl hst)) (iH hg1) ?_⟩;refine T5 ?_ fun O O=>.inl rfl;walk_at "nm";refine M3 ?_;walk_at "nm";refine J9 fun O=>Y4 fun O=>?_;rw [show (((s:Nat):Int)+1)=((s+1:Nat):Int) from rfl];refine ⟨(I5 "list" _ (TyAt.ref elA6 rfl) list_getitem_lookup),Y5 elA6 ((kq2 24178876694994665614262721) ht16 hvl) (Z8 ((kq3 24268213564400549953) hvl hst)) (iH hg2) ?_⟩;refine Y4 fun t9=>?_;refine V4 I4 (by unfold H8;rw [I3];exact (kq3 773724054239774999472423361) ht16 husl hst) fun j'=>(I2_5 (us++[(g1.1+g2.1,t9)]) j' hacc (by simp [husl]) ?_ ?_ (by walk_at "mv"))
      ·rw [Z0];unfold H8;rw [N6];rfl
      ·rw [N6,hus,List.range_succ,N6];simp only [O4,bB,e1,e2]
     ·intro acc τ6 m6 zI;refine eZ zI fun us j2 hacc husl zJ hus q1=>?_;clear zI;obtain rfl:=zJ;refine ⟨fun p hp=>?_,?_⟩
      ·rw [I7] at hp;subst hp;refine q1.trans (Eq.symm ?_);walk_at "mv"
      have hC6:=hC5.new (o:=G3 (H8 us) j2) (P:=(·=G3 (H8 us) j2)) hacc rfl;generalize G5 τ5 acc (G3 (H8 us) j2)=τ6 at hC6 ⊢;have eacc:=hC6.is (a:=acc) (o:=G3 (H8 us) j2) (by exact mH);have eaA:=hC6.is (a:=aA) (o:=G3 (H8 [(1,v2)]) 0) (by exact mC mH);have hus1:us.length=t:=by rw [husl];lia
      refine jK eaA eacc (by unfold H8;rw [I3,I3];simp;exact (kq3 792293431559309330288535585217) ht16 husl hus1) fun b1 hb1=>?_;have eb1:G5 τ6 b1 (G3 (H8 [(1,v2)]++H8 us) 0) b1=some (G3 (H8 ((1,v2)::us)) 0):=I4;have hC7:=hC6.keep (o:=G3 (H8 [(1,v2)]++H8 us) 0) hb1;generalize G5 τ6 b1 (G3 (H8 [(1,v2)]++H8 us) 0)=τ7 at hC7 eb1 ⊢;refine V6 (G7 (J9 fun v3=>H5 ⟨leB rfl,fun cA hcA=>?_⟩));have hC8:=hC7.keep (o:=G3 [.int 1 v3] 0) hcA;have eb2:G5 τ7 cA (G3 [.int 1 v3] 0) b1=some (G3 (H8 ((1,v2)::us)) 0):=O9 hcA eb1;have ecA:G5 τ7 cA (G3 [.int 1 v3] 0) cA=some (G3 (H8 [(1,v3)]) 0):=I4;generalize G5 τ7 cA (G3 [.int 1 v3] 0)=τ8 at hC8 eb2 ecA ⊢;refine jK eb2 ecA (by unfold H8;rw [I3,I3];simp;exact (kq3 773724051933967140271079873) ht16 husl hus1) fun d1 hd1=>G9 (dX d1 ((1,v2)::us++[(1,v3)]) 0 ?_ ?_ (by walk_at "mv") (by walk_at "mv") (by walk_at "mv") (by walk_at "mv"))
      ·have z:=hC8.new (o:=G3 (H8 ((1,v2)::us)++H8 [(1,v3)]) 0) (P:=(·=G3 (H8 ((1,v2)::us++[(1,v3)])) 0)) hd1 (by unfold H8;rw [N6]);exact z.cnt (by exact SubC.c .h (.t (.c (.c (.c .w)))))
      ·show (1:Int)::List.map (·.1) (us++[(1,v3)])=qd (bI t);rw [N6,hus];unfold qd;rw [ou,jU t];rfl
    ·intro τ3 m3 zM;refine fW zM fun lA lst n hC3 hlst n1 n2 n3 n4=>?_;clear zM;rw [jU N] at hlst;exact G9 ⟨rfl,(dX lA lst n hC3 (by rw [hNN];exact hlst) n1 n2 n3 n4)⟩
   clear o1 o2 o3 o4 o5 o6;intro fl τ3 m3 zN;obtain ⟨zO,zz⟩:=zN;refine fW zz fun lA lst n hC3 hlst n1 n2 n3 n4=>?_;clear zz;obtain rfl:=zO;have elA:=hC3.is (a:=lA) (o:=G3 (H8 lst) n) (by exact mH);have hlen:lst.length=o.o.i2-o.o.i1+(o.o.j2-o.o.j1)+1:=by rw [← I3 (f:=(·.1)),hlst,ou]
   obtain ⟨g,hg⟩:∃ g,lst[o.o.i2-o.o.i1]? = some g:=⟨_,Z6 (by lia)⟩
   have eg:(bI (o.o.i2-o.o.i1+(o.o.j2-o.o.j1))).getD (o.o.i2-o.o.i1) 0=g.1:=by rw [← hlst,List.getD_eq_getElem?_getD,S9,hg];rfl
   have hb:=Em (o.o.i2-o.o.i1+(o.o.j2-o.o.j1)) ((kq4 894964615621447400484033010956619841) h1 h2 h3 h4) (o.o.i2-o.o.i1) (kq4 24878538692313009217);rw [eg] at hpm hb;refine G6 (iC n2 (by kernel_rfl) (T5 ?_ fun O O=>.inl rfl));walk_at "nm";refine M3 ?_;walk_at "nm";walk_at "nm";refine cB fun O=>?_;rw [isubN (show o.o.i1≤o.o.i2 by assumption)];refine ⟨(I5 "list" _ (TyAt.ref elA rfl) list_getitem_lookup),Y5 elA (by unfold H8;rw [I3];lia) (Z8 (by unfold H8;rw [I3];lia)) (iH hg) ?_⟩;refine yl (IntMulOk.of_right hb) fun t9=>G9 (G9 ⟨hC3.tail,⟨t9,?_⟩⟩);rw [hpm];walk_at "mv"
  ·intro τ' m' zQ;obtain ⟨hCS,t,n1⟩:=zQ;rw [I3,aD] at n1;exact G9 ⟨rfl,hCS,⟨t,n1⟩⟩
 ·intro fl τ' m' zR;obtain ⟨zS,hCf,t,n1⟩:=zR;obtain rfl:=zS;refine G6 (Y9 ?_);walk_at "nm";exact hQ (H6 τ' (fun O O e=>e) (H6 _ hCf (H6 t rfl hL0.symm)))
noncomputable def Z5:Nat→Nat→Nat
 | _,0=>1
 | 0,_+1=>0
 | n+1,k+1=>Z5 n k+Z5 n (k+1)
theorem qJ (n:Nat):Z5 n 0=1:=by cases n <;> rfl
theorem qO:∀ n k,n<k→Z5 n k=0
 | 0,k+1,_=>rfl
 | n+1,k+1,h=>by
  show Z5 n k+Z5 n (k+1)=0;rw [qO n k ((kq2 741128366279169) h),qO n (k+1) q6]
theorem rF:∀ n,Z5 n n=1
 | 0=>rfl
 | n+1=>by
  show Z5 n n+Z5 n (n+1)=1;rw [rF n,qO n (n+1) (kq1 22626337)]
theorem oh:∀ n k,Z5 n k≤2 ^ n
 | n,0=>by rw [qJ];exact Nat.one_le_two_pow
 | 0,k+1=>T3 _
 | n+1,k+1=>by
  show Z5 n k+Z5 n (k+1)≤2 ^ (n+1);have:=oh n k;have:=oh n (k+1);rw [Nat.pow_succ];lia
theorem uB:∀ n,n<9→∀ k,k<n+1→(bI n).getD k 0=(Z5 n k:Int):=by decide +kernel
theorem lB {F' S':List Str} (hFS:(F'=[]∧S'=[])∨∃ x F S,F'=x::F∧S'=x::S):∀ A B:List Str,(∀ a∈A,a∉B∧a∉S')→(∀ b∈B,b∉A∧b∉F')→lin (A++F') (B++S')=Z5 (A.length+B.length) A.length*lin F' S'
 | [],[],_,_=>by simp [Z5]
 | [],b::B,hA,hB=>by
  rw [lL,qJ,Nat.one_mul,aX];rcases hFS with ⟨rfl,rfl⟩ | ⟨x,F,S,rfl,rfl⟩
  ·rw [jL,jL]
  ·refine O1 (hB b K4) fun O b2=>?_;rw [bz,jn,if_neg (fun e=>b2 (by rw [e];exact K4)),if_pos (show x∈b::(B++x::S) from H9 _ (O6 _ K4)),if_neg b2,Nat.zero_add];have z:=lB (.inr (R0 x F S rfl rfl)) [] B (fun O h=>(by cases h)) fun b hb=>⟨cV,(hB b (H9 _ hb)).2⟩
   rw [lL,qJ,Nat.one_mul,aX] at z;exact z
 | a::A,[],hA,hB=>by
  rw [lL,Nat.add_zero,rF,Nat.one_mul,aX];rcases hFS with ⟨rfl,rfl⟩ | ⟨x,F,S,rfl,rfl⟩
  ·rw [nR,nR]
  ·refine O1 (hA a K4) fun O a2=>?_;rw [bz,jn,if_neg (fun e=>a2 (by rw [e];exact K4)),if_pos (show x∈a::(A++x::F) from H9 _ (O6 _ K4)),if_neg a2,Nat.add_zero];have z:=lB (.inr (R0 x F S rfl rfl)) A [] (fun a ha=>⟨cV,(hA a (H9 _ ha)).2⟩) (fun O h=>(by cases h));rw [lL,Nat.add_zero,rF,Nat.one_mul,aX] at z;exact z
 | a::A,b::B,hA,hB=>by
  refine O1 (hA a K4) fun a1 a2=>?_;refine O1 (hB b K4) fun b1 b2=>?_;have na:a∉b::(B++S'):=fun h=>by
   rcases List.mem_cons.mp h with z | z
   ·exact a1 (by rw [z];exact K4)
   ·rcases List.mem_append.mp z with z | z
    ·exact a1 (H9 _ z)
    ·exact a2 z
  have nb:b∉a::(A++F'):=fun h=>by
   rcases List.mem_cons.mp h with z | z
   ·exact b1 (by rw [z];exact K4)
   ·rcases List.mem_append.mp z with z | z
    ·exact b1 (H9 _ z)
    ·exact b2 z
  rw [bz,bz,jn,if_neg (fun e=>na (by rw [e];exact K4)),if_neg na,if_neg nb];have z1:=lB hFS A (b::B) (fun x hx=>hA x (H9 _ hx)) fun x hx=>⟨fun h=>(hB x hx).1 (H9 _ h),(hB x hx).2⟩
  have z2:=lB hFS (a::A) B (fun x hx=>⟨fun h=>(hA x hx).1 (H9 _ h),(hA x hx).2⟩) fun x hx=>hB x (H9 _ hx);rw [bz] at z1 z2;rw [z1,z2,← Nat.add_mul];congr 1;simp only [R8];rw [show A.length+1+(B.length+1)=(A.length+B.length+1)+1 from by exact (kq2 26656212354827181705729),show A.length+(B.length+1)=A.length+B.length+1 from by exact (kq2 25421329509990465),show A.length+1+B.length=A.length+B.length+1 from by exact (kq2 25421329509468673)];rfl
termination_by A B=>A.length+B.length
noncomputable def Hc:Nat→Nat→List Nat→Nat
 | f,s,[]=>Z5 (f+s) f
 | f,s,ρ::r=>if ρ=0 then Z5 (f+s) f*Hc 0 0 r else if ρ=1 then Hc (f+1) s r else Hc f (s+1) r
theorem qm:∀ (ρs:List Nat) (f s:Nat),Hc f s ρs≤2 ^ (f+s+ρs.length)
 | [],f,s=>oh _ _
 | ρ::r,f,s=>by
  unfold Hc;rw [R8];split
  ·have h1:=oh (f+s) f;have h2:=qm r 0 0;rw [show 0+0+r.length=r.length from by exact (kq1 23674800689)] at h2;have h3:=Nat.mul_le_mul h1 h2;rw [← Nat.pow_add] at h3;exact W2 h3 (Nat.pow_le_pow_right (leB rfl) (kq3 23727781505965082689))
  ·split
   ·have:=qm r (f+1) s
    rwa [show f+1+s+r.length=f+s+(r.length+1) from by exact (kq3 26658431503543067298305)] at this
   ·have:=qm r f (s+1)
    rwa [show f+(s+1)+r.length=f+s+(r.length+1) from by exact (kq3 26658431503543067820097)] at this
noncomputable def S6:Nat→List Nat→List Str
 | _,[]=>[]
 | k,ρ::r=>(if ρ=2 then [] else [M5 k])++S6 (k+1) r
noncomputable def S7:Nat→List Nat→List Str
 | _,[]=>[]
 | k,ρ::r=>(if ρ=1 then [] else [M5 k])++S7 (k+1) r
theorem cL (k ρ:Nat) (r:List Nat):S6 k (ρ::r)=(if ρ=2 then [] else [M5 k])++S6 (k+1) r:=rfl
theorem cQ (k ρ:Nat) (r:List Nat):S7 k (ρ::r)=(if ρ=1 then [] else [M5 k])++S7 (k+1) r:=rfl
theorem kI:∀ i,i<8→∀ j,j<8→M5 i=M5 j→i=j:=by
 have:∀ i,i<8→∀ j,j<8→i=j∨(M5 i==M5 j)=false:=by decide +kernel
 intro i hi j hj e;rcases this i hi j hj with z | z
 ·exact z
 ·rw [e] at z;simp at z
theorem jP:∀ (ρs:List Nat) (k:Nat) (x:Str),x∈S6 k ρs→∃ i,k≤i∧i<k+ρs.length∧x=M5 i
 | [],_,_,h=>by cases h
 | ρ::r,k,x,h=>by
  unfold S6 at h;rcases List.mem_append.mp h with z | z
  ·split at z
   ·cases z
   ·rw [I7] at z;exact M8 k (K9 _) (by simp) z
  ·refine R4 (jP r (k+1) x z) fun i a b c=>?_;exact M8 i q6 (by simp only [R8];exact (kq3 796182478733230817345) b) c
theorem jJ:∀ (ρs:List Nat) (k:Nat) (x:Str),x∈S7 k ρs→∃ i,k≤i∧i<k+ρs.length∧x=M5 i
 | [],_,_,h=>by cases h
 | ρ::r,k,x,h=>by
  unfold S7 at h;rcases List.mem_append.mp h with z | z
  ·split at z
   ·cases z
   ·rw [I7] at z;exact M8 k (K9 _) (by simp) z
  ·refine R4 (jJ r (k+1) x z) fun i a b c=>?_;exact M8 i q6 (by simp only [R8];exact (kq3 796182478733230817345) b) c
theorem pW:∀ (ρs:List Nat) (k:Nat) (A B:List Str),(∀ ρ∈ρs,ρ<3)→k+ρs.length≤8→(∀ a∈A,∃ i,i<k∧a=M5 i)→(∀ b∈B,∃ i,i<k∧b=M5 i)→(∀ a∈A,a∉B)→lin (A++S6 k ρs) (B++S7 k ρs)=Hc A.length B.length ρs
 | [],k,A,B,_,hk,hA,hB,hAB=>by
  have z:=lB (F':=[]) (S':=[]) (.inl ⟨rfl,rfl⟩) A B (fun a ha=>⟨hAB a ha,cV⟩) fun b hb=>⟨fun h=>hAB b h hb,cV⟩
  rw [jL,Nat.mul_one] at z;exact z
 | ρ::r,k,A,B,h3,hk,hA,hB,hAB=>by
  have h3r:∀ ρ∈r,ρ<3:=fun x hx=>h3 x (H9 _ hx);simp only [R8] at hk;have nF:∀ x i,i<k→x=M5 i→x∉S6 k (ρ::r):=fun x i hi e hx=>by
   refine R4 (jP _ _ _ hx) fun i' a b c=>?_;simp only [R8] at b;have:=kI i ((kq3 25103844610777767559233) hk hi) i' q3 (e.symm.trans c);exact (kq3 833534641132609) hi a this
  have nS:∀ x i,i<k→x=M5 i→x∉S7 k (ρ::r):=fun x i hi e hx=>by
   refine R4 (jJ _ _ _ hx) fun i' a b c=>?_;simp only [R8] at b;have:=kI i ((kq3 25103844610777767559233) hk hi) i' q3 (e.symm.trans c);exact (kq3 833534641132609) hi a this
  have up:∀ (L:List Str),(∀ a∈L,∃ i,i<k∧a=M5 i)→∀ a∈L,∃ i,i<k+1∧a=M5 i:=fun L h a ha=>by
   refine G8 (h a ha) fun i h1 h2=>?_;exact H6 i ((kq2 741420880961) h1) h2
  have snoc:∀ (L:List Str),(∀ a∈L,∃ i,i<k∧a=M5 i)→∀ a∈L++[M5 k],∃ i,i<k+1∧a=M5 i:=fun L h a ha=>by
   rcases List.mem_append.mp ha with z | z
   ·exact up L h a z
   ·rw [I7] at z;exact (H6 k (kq1 22626337) z)
  have nk:∀ (L:List Str),(∀ a∈L,∃ i,i<k∧a=M5 i)→M5 k∉L:=fun L h hm=>by
   refine G8 (h _ hm) fun i h1 h2=>?_;have:=kI k ((kq2 766106313647800385) hk) i ((kq3 25103844610777767559233) hk h1) h2;exact (kq2 25435395137) h1 this
  unfold Hc;by_cases h0:ρ=0
  ·rw [if_pos h0];subst h0;have e1:S6 k (0::r)=M5 k::S6 (k+1) r:=by rw [cL];rfl
   have e2:S7 k (0::r)=M5 k::S7 (k+1) r:=by rw [cQ];rfl
   have z:=lB (F':=S6 k (0::r)) (S':=S7 k (0::r)) (.inr (R0 (M5 k) _ _ e1 e2)) A B (fun a ha=>⟨hAB a ha,by obtain ⟨i,h1,h2⟩:=hA a ha;exact nS a i h1 h2⟩) fun b hb=>⟨fun h=>hAB b h hb,by obtain ⟨i,h1,h2⟩:=hB b hb;exact nF b i h1 h2⟩
   rw [z];congr 1;rw [e1,e2,jn,if_pos rfl];exact pW r (k+1) [] [] h3r ((kq2 765560724534567415398465) hk) (fun O h=>(by cases h)) (fun O h=>(by cases h)) fun O h=>(by cases h)
  ·rw [if_neg h0];by_cases h1:ρ=1
   ·rw [if_pos h1];subst h1;have e1:S6 k (1::r)=M5 k::S6 (k+1) r:=by rw [cL];rfl
    have e2:S7 k (1::r)=S7 (k+1) r:=by rw [cQ];rfl
    rw [e1,e2,show A++M5 k::S6 (k+1) r=(A++[M5 k])++S6 (k+1) r from by simp];have z:=pW r (k+1) (A++[M5 k]) B h3r ((kq2 765560724534567415398465) hk) (snoc A hA) (up B hB) fun a ha=>by
     rcases List.mem_append.mp ha with z | z
     ·exact hAB a z
     ·rw [I7] at z;rw [z];exact nk B hB
    rw [z,bW];rfl
   ·rw [if_neg h1];have h2:ρ=2:=by have:=h3 ρ K4;exact (kq1 834016106459027488922145) h0 h1 this
    subst h2;have e1:S6 k (2::r)=S6 (k+1) r:=by rw [cL];rfl
    have e2:S7 k (2::r)=M5 k::S7 (k+1) r:=by rw [cQ];rfl
    rw [e1,e2,show B++M5 k::S7 (k+1) r=(B++[M5 k])++S7 (k+1) r from by simp];have z:=pW r (k+1) A (B++[M5 k]) h3r ((kq2 765560724534567415398465) hk) (up A hA) (snoc B hB) fun a ha hm=>by
     rcases List.mem_append.mp hm with z | z
     ·exact hAB a ha z
     ·rw [I7] at z;rw [z] at ha;exact nk A hA ha
    rw [z,bW];rfl
noncomputable abbrev eqT:Str:=G4 "equal"
theorem tags_ne:(G4 "replace"==eqT)=false∧(G4 "delete"==eqT)=false∧(G4 "insert"==eqT)=false:=by decide +kernel
theorem pI {ρ:Nat} (h:ρ≠0) (i' p j' q:Nat):(az ρ i' p j' q==eqT)=false:=by
 unfold az;rw [if_neg h];split
 ·exact tags_ne.1
 ·split
  ·exact tags_ne.2.1
  ·exact tags_ne.2.2
theorem lR (cs:List O5) (o:O5) (i j ρ:Nat) (h:(o.tag==eqT)=(ρ==0)):cJ ⟨cs++[o],i,j⟩ ρ=au cs o.i1 o.i2 o.j1 o.j2 ρ:=by
 unfold cJ;simp only [List.getLast?_concat];rw [if_pos h,List.dropLast_concat]
theorem lW (cs:List O5) (o:O5) (i j ρ:Nat) (h:(o.tag==eqT)≠(ρ==0)):cJ ⟨cs++[o],i,j⟩ ρ=au (cs++[o]) i i j j ρ:=by
 unfold cJ;simp only [List.getLast?_concat];rw [if_neg h]
noncomputable def run (s:CdS) (ρs:List Nat):List O5:=(ρs.foldl cJ s).cs
theorem rB (s:CdS) (ρ:Nat) (r:List Nat):run s (ρ::r)=run (cJ s ρ) r:=rfl
theorem tD (cs:List O5) (o:O5):W3 (cs++[o])=if (o.tag==eqT)=true then W3 cs else W3 cs*(bI (o.i2-o.i1+(o.j2-o.j1))).getD (o.i2-o.i1) 0:=by
 unfold W3;rw [List.foldl_append];show (if o.tag=G4 "equal" then _ else _)=_;by_cases h:o.tag=G4 "equal"
 ·rw [if_pos h,if_pos (beq_iff_eq.mpr h)]
 ·rw [if_neg h,if_neg (fun z=>h (beq_iff_eq.mp z))]
theorem mX:∀ (ρs:List Nat),(∀ ρ∈ρs,ρ<3)→∀ (cs:List O5) (o:O5) (i j:Nat),o.i1≤o.i2→o.j1≤o.j2→(o.i2-o.i1)+(o.j2-o.j1)+ρs.length≤8∨(o.tag==eqT)=true∧ρs.length≤8 →
  W3 (run ⟨cs++[o],i,j⟩ ρs)=W3 cs*(if (o.tag==eqT)=true then (Hc 0 0 ρs:Int) else (Hc (o.i2-o.i1) (o.j2-o.j1) ρs:Int))
 | [],_,cs,o,i,j,h1,h2,hl=>by
  show W3 (cs++[o])=_;rw [tD];split
  ·show W3 cs=W3 cs*((1:Nat):Int);rw [Int.natCast_one,Int.mul_one]
  ·rename_i hne;have hl:(o.i2-o.i1)+(o.j2-o.j1)≤8:=by
    rcases hl with z | z
    ·simpa using z
    ·exact absurd z.1 hne
   rw [uB _ q2 _ (by exact (kq4 24878538692313009217))];rfl
 | ρ::r,h3,cs,o,i,j,h1,h2,hl=>by
  have h3r:∀ ρ∈r,ρ<3:=fun x hx=>h3 x (H9 _ hx);have hρ:=h3 ρ K4;rw [rB];simp only [R8] at hl;by_cases he:(o.tag==eqT)=true
  ·rw [if_pos he];by_cases h0:ρ=0
   ·subst h0;rw [lR _ _ _ _ _ (by rw [he];rfl)];unfold au;rw [mX r h3r cs _ _ _ (by show o.i1≤o.i2+1;exact (kq2 707061141569) h1) (by show o.j1≤o.j2+1;exact (kq2 707061141569) h2) (.inr ⟨by rw [show az 0 (o.i2+M7 0) o.i1 (o.j2+M9 0) o.j1=eqT from rfl];simp,by rcases hl with z | z <;> lia⟩),if_pos (by rw [show az 0 (o.i2+M7 0) o.i1 (o.j2+M9 0) o.j1=eqT from rfl];simp)];show _=W3 cs*(((if (0:Nat)=0 then Z5 (0+0) 0*Hc 0 0 r else _:Nat)):Int);rw [if_pos rfl,show Z5 (0+0) 0=1 from rfl,Nat.one_mul]
   ·rw [lW _ _ _ _ _ (by rw [he];intro z;exact h0 (beq_iff_eq.mp z.symm))];unfold au;have hw:=pI h0 (i+M7 ρ) i (j+M9 ρ) j;rw [mX r h3r (cs++[o]) _ _ _ (by show i≤i+_;exact (kq2 21563425)) (by show j≤j+_;exact (kq2 21563425)) (.inl (by
     show (i+M7 ρ-i)+(j+M9 ρ-j)+r.length≤8;unfold M7 M9;have hh:r.length+1≤8:=by rcases hl with z | z <;> lia
     have:ρ=1∨ρ=2:=by exact (kq1 1046094165196479011655105) hρ h0
     rcases this with rfl | rfl <;> simp <;> exact (kq1 730095564272126465) hh)),if_neg (by show ¬ (az ρ (i+M7 ρ) i (j+M9 ρ) j==eqT)=true;rw [hw];simp),tD,if_pos he]
    show W3 cs*((Hc (i+M7 ρ-i) (j+M9 ρ-j) r:Nat):Int)=W3 cs*(((if ρ=0 then _ else if ρ=1 then Hc (0+1) 0 r else Hc 0 (0+1) r:Nat)):Int);rw [if_neg h0];have:ρ=1∨ρ=2:=by exact (kq1 1046094165196479011655105) hρ h0
    rcases this with rfl | rfl <;> simp [M7,M9]
  ·rw [if_neg he];have hl:(o.i2-o.i1)+(o.j2-o.j1)+(r.length+1)≤8:=by
    rcases hl with z | z
    ·exact z
    ·exact absurd z.1 he
   have hef:(o.tag==eqT)=false:=by simpa using he
   by_cases h0:ρ=0
   ·subst h0;rw [lW _ _ _ _ _ (by rw [hef];decide)];unfold au;rw [mX r h3r (cs++[o]) _ _ _ (by show i≤i+1;exact (kq1 21577761)) (by show j≤j+1;exact (kq1 21577761)) (.inr ⟨by rw [show az 0 (i+M7 0) i (j+M9 0) j=eqT from rfl];simp,by exact (kq5 783919486732920137007090753) hl⟩),if_pos (by rw [show az 0 (i+M7 0) i (j+M9 0) j=eqT from rfl];simp),tD,if_neg he,uB _ (by exact (kq5 884580023103668756640627133310422081) hl) _ (by exact (kq4 24878538692313009217))];show _=W3 cs*(((if (0:Nat)=0 then Z5 (o.i2-o.i1+(o.j2-o.j1)) (o.i2-o.i1)*Hc 0 0 r else _:Nat)):Int);rw [if_pos rfl,Int.natCast_mul,Int.mul_assoc]
   ·rw [lR _ _ _ _ _ (by rw [hef];symm;rw [beq_eq_false_iff_ne];exact h0)];unfold au;have hw:=pI h0 (o.i2+M7 ρ) o.i1 (o.j2+M9 ρ) o.j1;have h12:ρ=1∨ρ=2:=by exact (kq1 1046094165196479011655105) hρ h0
    rw [mX r h3r cs _ _ _ (by show o.i1≤o.i2+_;exact (kq3 706624933953) h1) (by show o.j1≤o.j2+_;exact (kq3 706624933953) h2) (.inl (by
     show (o.i2+M7 ρ-o.i1)+(o.j2+M9 ρ-o.j1)+r.length≤8;unfold M7 M9;rcases h12 with rfl | rfl <;> simp <;> lia)),if_neg (by show ¬ (az ρ (o.i2+M7 ρ) o.i1 (o.j2+M9 ρ) o.j1==eqT)=true;rw [hw];simp)]
    show W3 cs*((Hc (o.i2+M7 ρ-o.i1) (o.j2+M9 ρ-o.j1) r:Nat):Int)=W3 cs*(((if ρ=0 then _ else if ρ=1 then Hc (o.i2-o.i1+1) (o.j2-o.j1) r else Hc (o.i2-o.i1) (o.j2-o.j1+1) r:Nat)):Int);rw [if_neg h0];rcases h12 with rfl | rfl
    ·rw [if_pos rfl,show M7 1=1 from rfl,show M9 1=0 from rfl,show o.i2+1-o.i1=o.i2-o.i1+1 from by exact (kq2 833007217214601908289) h1,show o.j2+0=o.j2 from rfl]
    ·rw [if_neg (by decide),show M7 2=0 from rfl,show M9 2=1 from rfl,show o.j2+1-o.j1=o.j2-o.j1+1 from by exact (kq2 833007217214601908289) h2,show o.i2+0=o.i2 from rfl]
theorem yp (ρs:List Nat) (h3:∀ ρ∈ρs,ρ<3) (hl:ρs.length≤8):W3 (eH ρs).cs=(Hc 0 0 ρs:Int):=by
 cases ρs with
 | nil=>rfl
 | cons ρ r =>
  have h3r:∀ ρ∈r,ρ<3:=fun x hx=>h3 x (H9 _ hx);have hρ:=h3 ρ K4;simp only [R8] at hl;show W3 (run (au [] 0 0 0 0 ρ) r)=_;unfold au;have z:=mX r h3r [] ⟨az ρ (0+M7 ρ) 0 (0+M9 ρ) 0,0,0+M7 ρ,0,0+M9 ρ⟩ (0+M7 ρ) (0+M9 ρ) (T3 _) (T3 _);rw [show W3 []=1 from rfl,Int.one_mul] at z;by_cases h0:ρ=0
  ·subst h0;rw [z (.inr ⟨by rw [show az 0 (0+M7 0) 0 (0+M9 0) 0=eqT from rfl];simp,by exact q6⟩),if_pos (by rw [show az 0 (0+M7 0) 0 (0+M9 0) 0=eqT from rfl];simp)];show _=(((if (0:Nat)=0 then Z5 (0+0) 0*Hc 0 0 r else _:Nat)):Int)
   rw [if_pos rfl,show Z5 (0+0) 0=1 from rfl,Nat.one_mul]
  ·have hw:=pI h0 (0+M7 ρ) 0 (0+M9 ρ) 0;have h12:ρ=1∨ρ=2:=by exact (kq1 1046094165196479011655105) hρ h0
   rw [z (.inl (by
     show (0+M7 ρ-0)+(0+M9 ρ-0)+r.length≤8;unfold M7 M9;rcases h12 with rfl | rfl <;> simp <;> exact (kq1 730095564272126465) hl)),if_neg (by show ¬ (az ρ (0+M7 ρ) 0 (0+M9 ρ) 0==eqT)=true;rw [hw];simp)]
   show ((Hc (0+M7 ρ-0) (0+M9 ρ-0) r:Nat):Int)=(((if ρ=0 then _ else if ρ=1 then Hc (0+1) 0 r else Hc 0 (0+1) r:Nat)):Int)
   rw [if_neg h0];rcases h12 with rfl | rfl <;> simp [M7,M9]
noncomputable def CdOk (n:Nat) (s:CdS):Prop:=(∀ o∈s.cs,o.i1≤o.i2∧o.j1≤o.j2∧o.i2≤n∧o.j2≤n)∧s.i≤n∧s.j≤n
theorem sH {n:Nat} {cs:List O5} {p i q j ρ:Nat} (h:∀ o∈cs,o.i1≤o.i2∧o.j1≤o.j2∧o.i2≤n∧o.j2≤n) (h1:p≤i) (h2:q≤j) (h3:i≤n) (h4:j≤n):CdOk (n+1) (au cs p i q j ρ):=by
 have a:M7 ρ≤1:=by unfold M7;split <;> lia
 have b:M9 ρ≤1:=by unfold M9;split <;> lia
 unfold au;refine ⟨fun o ho=>?_,by show i+M7 ρ≤n+1;exact (kq3 23725053101782192193) h3 a,by show j+M9 ρ≤n+1;exact (kq3 23725053101782192193) h4 b⟩;rcases List.mem_append.mp ho with z | z
 ·have:=h o z;exact (kq5 1255185245215773063202856152005091417952488710590529) this
 ·rw [I7] at z;subst z;dsimp only;exact (kq0 45222814421743573424116903070953751586818478957509211418318484918337 [_,_,_,_,_,_,_]) h1 h2 h3 h4 a b
theorem BX {n:Nat} {s:CdS} {ρ:Nat} (h:CdOk n s):CdOk (n+1) (cJ s ρ):=by
 obtain ⟨cs,i,j⟩:=s;refine M6 h fun h1 h2 h3=>?_;clear h;dsimp only at h1 h2 h3;rcases List.eq_nil_or_concat cs with rfl | ⟨l,o,rfl⟩
 ·exact sH (fun o ho=>by cases ho) (K9 _) (K9 _) h2 h3
 ·rw [List.concat_eq_append] at *;by_cases hc:(o.tag==eqT)=(ρ==0)
  ·rw [lR _ _ _ _ _ hc];have ho:=h1 o (by simp);exact sH (fun x hx=>h1 x (O2 _ hx)) ho.1 ho.2.1 ho.2.2.1 ho.2.2.2
  ·rw [lW _ _ _ _ _ hc];exact sH h1 (K9 _) (K9 _) h2 h3
theorem xC:∀ (ρs:List Nat) (s:CdS) (n:Nat),CdOk n s→CdOk (n+ρs.length) (ρs.foldl cJ s)
 | [],s,n,h=>h
 | ρ::r,s,n,h=>by
  have:=xC r _ _ (BX (ρ:=ρ) h);rw [List.foldl_cons,R8]
  rwa [show n+1+r.length=n+(r.length+1) from by exact (kq2 25423459813247489)] at this
theorem dN {a b:Nat} (h:b<a):a-b=a-(b+1)+1:=by rw [Nat.sub_add_eq,Nat.sub_add_cancel (Nat.sub_pos_of_lt h)]
noncomputable def Q9:Nat→Nat→List Nat→List B3
 | _,_,[]=>[]
 | i,j,ρ::r=>if ρ=0 then ⟨i,j,1⟩::Q9 (i+1) (j+1) r else if ρ=1 then Q9 (i+1) j r else Q9 i (j+1) r
noncomputable def cP (i j:Nat) (ρs:List Nat):B3:=⟨i+(ρs.map M7).sum,j+(ρs.map M9).sum,0⟩
noncomputable def chg (pi si pj sj:Nat):List O5:=if pi<si∨pj<sj then [⟨aa pi si pj sj,pi,si,pj,sj⟩] else []
theorem rU (i j ρ:Nat) (r:List Nat):cP i j (ρ::r)=cP (i+M7 ρ) (j+M9 ρ) r:=by
 unfold cP;rw [O4,O4,List.sum_cons,List.sum_cons,Nat.add_assoc,Nat.add_assoc]
theorem fP (i j ρ:Nat) (r:List Nat):Q9 i j (ρ::r)=if ρ=0 then ⟨i,j,1⟩::Q9 (i+1) (j+1) r else if ρ=1 then Q9 (i+1) j r else Q9 i (j+1) r:=rfl
theorem mQ:∀ (ρs:List Nat) (i j:Nat) (b:B3),b∈Q9 i j ρs→i≤b.i∧j≤b.j
 | [],_,_,_,h=>by cases h
 | ρ::r,i,j,b,h=>by
  unfold Q9 at h;split at h
  ·rcases List.mem_cons.mp h with rfl | z
   ·exact ⟨K9 _,K9 _⟩
   ·have:=mQ r _ _ b z;exact (kq4 1030160196055594911188208129) this
  ·split at h
   ·have:=mQ r _ _ b h;exact (kq4 1006015816460541406300673) this
   ·have:=mQ r _ _ b h;exact (kq4 1006015816460541905457217) this
theorem flushM {si sj sk:Nat} (hk:1≤sk):∀ L:List B3,(∀ b∈L,si+sk<b.i∨sj+sk<b.j)→N8 ⟨si,sj,sk⟩ L=⟨si,sj,sk⟩::N8 ⟨si+sk,sj+sk,0⟩ L
 | [],_=>by
  unfold N8;simp;exact (kq1 26525880368) hk
 | b::r,h=>by
  have hb:=h b K4;unfold N8;dsimp only;rw [if_neg (show ¬ (si+sk=b.i∧sj+sk=b.j) by exact (kq5 32236575200173166943194835640764481) hb),if_pos (show sk≠0 by exact (kq1 26525880368) hk),if_neg (show ¬ (si+sk+0=b.i∧sj+sk+0=b.j) by exact (kq5 33802499702525288110021367080854987327553) hb),if_neg (show ¬ ((0:Nat)≠0) by simp)];rfl
theorem wi {pi pj:Nat} {s:B3} {L:List B3} (hk:1≤s.k):bw pi pj (s::L)=chg pi s.i pj s.j++(⟨eqT,s.i,s.i+s.k,s.j,s.j+s.k⟩::bw (s.i+s.k) (s.j+s.k) L):=by
 show (if pi<s.i∨pj<s.j then _ else _)++(if s.k≠0 then _ else _)++_=_;rw [if_pos (show s.k≠0 by exact (kq1 26525880368) hk),W4];rfl
theorem pR {ρ:Nat} (h:ρ≠0) {p i' q j':Nat} (hne:p<i'∨q<j'):az ρ i' p j' q=aa p i' q j':=by
 unfold az aa;rw [if_neg h];by_cases h1:p<i'∧q<j'
 ·rw [if_pos h1,if_pos h1]
 ·rw [if_neg h1,if_neg h1];by_cases h2:p<i'
  ·rw [if_pos h2,if_pos h2]
  ·rw [if_neg h2,if_neg h2,if_pos (by exact (kq4 779510786237946516545) hne h2)]
theorem tag_ne {p i' q j':Nat} (hne:p<i'∨q<j'):(aa p i' q j'==eqT)=false:=by
 rw [← pR (ρ:=1) (by decide) hne];exact pI (by decide) _ _ _ _
theorem ud:∀ (ρs:List Nat),(∀ ρ∈ρs,ρ<3) →
  (∀ (pre:List O5) (pi pj si sj sk:Nat),1≤sk→run ⟨pre++chg pi si pj sj++[⟨eqT,si,si+sk,sj,sj+sk⟩],si+sk,sj+sk⟩ ρs=pre++bw pi pj (N8 ⟨si,sj,sk⟩ (Q9 (si+sk) (sj+sk) ρs)++[cP (si+sk) (sj+sk) ρs])) ∧
  (∀ (pre:List O5) (i0 j0 i j:Nat),i0≤i→j0≤j→(i0<i∨j0<j)→run ⟨pre++[⟨aa i0 i j0 j,i0,i,j0,j⟩],i,j⟩ ρs=pre++bw i0 j0 (N8 ⟨i0,j0,0⟩ (Q9 i j ρs)++[cP i j ρs]))
 | [],_=>by
  refine ⟨fun pre pi pj si sj sk hk=>?_,fun pre i0 j0 i j h1 h2 h3=>?_⟩
  ·show pre++chg pi si pj sj++[_]=pre++bw pi pj (N8 ⟨si,sj,sk⟩ []++[cP (si+sk) (sj+sk) []]);rw [show N8 ⟨si,sj,sk⟩ []=[⟨si,sj,sk⟩] from by unfold N8;rw [if_pos (by show sk≠0;exact (kq1 26525880368) hk)],List.singleton_append,wi hk,W4];congr 3;simp [cP,bw]
  ·show pre++[_]=pre++bw i0 j0 (N8 ⟨i0,j0,0⟩ []++[cP i j []]);rw [show N8 ⟨i0,j0,0⟩ []=[] from by unfold N8;rw [if_neg (by simp)],aX];congr 1;simp [cP,bw,h3]
 | ρ::r,h3=>by
  have h3r:∀ ρ∈r,ρ<3:=fun x hx=>h3 x (H9 _ hx);have hρ:=h3 ρ K4;refine O1 (ud r h3r) fun iA iD=>?_;refine ⟨fun pre pi pj si sj sk hk=>?_,fun pre i0 j0 i j h1 h2 h4=>?_⟩
  ·rw [rB,rU];by_cases h0:ρ=0
   ·subst h0;rw [lR _ _ _ _ _ (by simp)];have z:=iA pre pi pj si sj (sk+1) (leB rfl);have e:Q9 (si+sk) (sj+sk) (0::r)=⟨si+sk,sj+sk,1⟩::Q9 (si+sk+1) (sj+sk+1) r:=by rw [fP,if_pos rfl]
    have e2:N8 ⟨si,sj,sk⟩ (⟨si+sk,sj+sk,1⟩::Q9 (si+sk+1) (sj+sk+1) r)=N8 ⟨si,sj,sk+1⟩ (Q9 (si+sk+1) (sj+sk+1) r):=by
     conv=>lhs;unfold N8
     rw [if_pos ⟨rfl,rfl⟩]
    rw [e,e2];exact z
   ·have h12:ρ=1∨ρ=2:=by exact (kq1 1046094165196479011655105) hρ h0
    have hi:si+sk<si+sk+M7 ρ∨sj+sk<sj+sk+M9 ρ:=by unfold M7 M9;rcases h12 with rfl | rfl <;> simp
    rw [lW _ _ _ _ _ (by simp;exact fun z=>h0 z)];have z:=iD (pre++chg pi si pj sj++[⟨eqT,si,si+sk,sj,sj+sk⟩]) (si+sk) (sj+sk) (si+sk+M7 ρ) (sj+sk+M9 ρ) (kq3 22612535199809) (kq3 22612535199809) hi;unfold au;rw [pR h0 hi,z];have e:Q9 (si+sk) (sj+sk) (ρ::r)=Q9 (si+sk+M7 ρ) (sj+sk+M9 ρ) r:=by
     rw [fP,if_neg h0];rcases h12 with rfl | rfl
     ·rw [if_pos rfl];rfl
     ·rw [if_neg (by decide)];rfl
    rw [e,flushM hk _ (fun b hb=>by have:=mQ _ _ _ b hb;lia),bz,wi hk,W4,W4];rfl
  ·rw [rB,rU];have ht:=tag_ne h4;by_cases h0:ρ=0
   ·subst h0;rw [lW _ _ _ _ _ (by rw [ht];decide)];have z:=iA pre i0 j0 i j 1 (leB rfl);unfold au;rw [show chg i0 i j0 j=[⟨aa i0 i j0 j,i0,i,j0,j⟩] from by unfold chg;rw [if_pos h4]] at z;have e:Q9 i j (0::r)=⟨i,j,1⟩::Q9 (i+1) (j+1) r:=by rw [fP,if_pos rfl]
    have e2:N8 ⟨i0,j0,0⟩ (⟨i,j,1⟩::Q9 (i+1) (j+1) r)=N8 ⟨i,j,1⟩ (Q9 (i+1) (j+1) r):=by
     conv=>lhs;unfold N8
     dsimp only;rw [if_neg (by exact (kq4 30743156590620245083459540033) h4),if_neg (by simp),aX]
    rw [e,e2];exact z
   ·have h12:ρ=1∨ρ=2:=by exact (kq1 1046094165196479011655105) hρ h0
    rw [lR _ _ _ _ _ (by rw [ht];symm;rw [beq_eq_false_iff_ne];exact h0)];unfold au;have hi:i0<i+M7 ρ∨j0<j+M9 ρ:=by exact (kq6 1149533615604658728869115579227820097) h1 h2 h4
    have z:=iD pre i0 j0 (i+M7 ρ) (j+M9 ρ) ((kq3 706624933953) h1) ((kq3 706624933953) h2) hi;have e:Q9 i j (ρ::r)=Q9 (i+M7 ρ) (j+M9 ρ) r:=by
     rw [fP,if_neg h0];rcases h12 with rfl | rfl
     ·rw [if_pos rfl];rfl
     ·rw [if_neg (by decide)];rfl
    rw [e];dsimp only;rw [pR h0 hi];exact z
theorem Ak (ρs:List Nat) (h3:∀ ρ∈ρs,ρ<3):bw 0 0 (N8 ⟨0,0,0⟩ (Q9 0 0 ρs)++[cP 0 0 ρs])=(eH ρs).cs:=by
 cases ρs with
 | nil=>rfl
 | cons ρ r =>
  have h3r:∀ ρ∈r,ρ<3:=fun x hx=>h3 x (H9 _ hx);have hρ:=h3 ρ K4;refine O1 (ud r h3r) fun iA iD=>?_;rw [rU];show _=run (au [] 0 0 0 0 ρ) r;by_cases h0:ρ=0
  ·subst h0;have z:=iA [] 0 0 0 0 1 (leB rfl);have e:Q9 0 0 (0::r)=⟨0,0,1⟩::Q9 (0+1) (0+1) r:=by
    rw [fP,if_pos rfl]
   have e2:N8 ⟨0,0,0⟩ (⟨0,0,1⟩::Q9 (0+1) (0+1) r)=N8 ⟨0,0,1⟩ (Q9 (0+1) (0+1) r):=by
    conv=>lhs;unfold N8
    rw [if_pos ⟨rfl,rfl⟩];rfl
   rw [e,e2];exact z.symm
  ·have h12:ρ=1∨ρ=2:=by exact (kq1 1046094165196479011655105) hρ h0
   have hi:0<0+M7 ρ∨0<0+M9 ρ:=by unfold M7 M9;rcases h12 with rfl | rfl <;> simp
   have z:=iD [] 0 0 (0+M7 ρ) (0+M9 ρ) (T3 _) (T3 _) hi;have e:Q9 0 0 (ρ::r)=Q9 (0+M7 ρ) (0+M9 ρ) r:=by
    rw [fP,if_neg h0];rcases h12 with rfl | rfl
    ·rw [if_pos rfl];rfl
    ·rw [if_neg (by decide)];rfl
   rw [e];unfold au;rw [pR h0 hi];exact z.symm
theorem qt:∀ (ρs:List Nat) (i j:Nat),(Q9 i j ρs).Pairwise fun a b=>a.i<b.i
 | [],_,_=>List.Pairwise.nil
 | ρ::r,i,j=>by
  unfold Q9;split
  ·refine List.pairwise_cons.mpr ⟨fun b hb=>?_,qt r _ _⟩;have:=mQ _ _ _ b hb;dsimp only;exact (kq4 777135105020876900865) this
  ·split
   ·exact qt r _ _
   ·exact qt r _ _
theorem nJ:∀ (ρs:List Nat) (i j:Nat),(Q9 i j ρs).length≤ρs.length
 | [],_,_=>K9 _
 | ρ::r,i,j=>by
  unfold Q9;rw [R8];split
  ·have:=nJ r (i+1) (j+1);rw [R8];exact (kq2 724031175184449) this
  ·split
   ·have:=nJ r (i+1) j;exact (kq2 707061141569) this
   ·have:=nJ r i (j+1);exact (kq2 707061141569) this
theorem qN:∀ (ρs:List Nat) (k:Nat),(S6 k ρs).length=(ρs.map M7).sum
 | [],_=>rfl
 | ρ::r,k=>by
  rw [cL,bW,qN r,O4,List.sum_cons];congr 1;unfold M7;split <;> rfl
theorem rC:∀ (ρs:List Nat) (k:Nat),(S7 k ρs).length=(ρs.map M9).sum
 | [],_=>rfl
 | ρ::r,k=>by
  rw [cQ,bW,rC r,O4,List.sum_cons];congr 1;unfold M9;split <;> rfl
theorem oH:∀ (ρs:List Nat) (k i j:Nat) (x:B3),(∀ ρ∈ρs,ρ<3)→k+ρs.length≤8→(x∈Q9 i j ρs↔x.k=1∧i≤x.i∧j≤x.j∧Mat (S6 k ρs) (S7 k ρs) (x.i-i) (x.j-j))
 | [],k,i,j,x,_,_=>by
  constructor
  ·intro h;cases h
  ·intro zB;obtain ⟨_,_,_,s,h,_⟩:=zB;cases h
 | ρ::r,k,i,j,x,h3,hk=>by
  have h3r:∀ ρ∈r,ρ<3:=fun x hx=>h3 x (H9 _ hx);have hρ:=h3 ρ K4;simp only [R8] at hk;have nF:∀ t:Nat,(S6 (k+1) r)[t]? ≠ some (M5 k):=fun t ht=>by
   refine R4 (jP _ _ _ (aW ht)) fun i' a b c=>?_;have:=kI k ((kq2 766106313647800385) hk) i' ((kq3 26323289592563761173964079169) hk b) c;exact (kq2 26046883777025) a this
  have nS:∀ t:Nat,(S7 (k+1) r)[t]? ≠ some (M5 k):=fun t ht=>by
   refine R4 (jJ _ _ _ (aW ht)) fun i' a b c=>?_;have:=kI k ((kq2 766106313647800385) hk) i' ((kq3 26323289592563761173964079169) hk b) c;exact (kq2 26046883777025) a this
  obtain ⟨xi,xj,xk⟩:=x;have h012:ρ=0∨ρ=1∨ρ=2:=by exact (kq1 1052721602962231003876801) hρ
  rcases h012 with rfl | rfl | rfl
  ·have e0:Q9 i j (0::r)=⟨i,j,1⟩::Q9 (i+1) (j+1) r:=by
    rw [fP,if_pos rfl]
   have e1:S6 k (0::r)=M5 k::S6 (k+1) r:=by rw [cL];rfl
   have e2:S7 k (0::r)=M5 k::S7 (k+1) r:=by rw [cQ];rfl
   rw [e0,e1,e2,qC,oH r (k+1) (i+1) (j+1) _ h3r ((kq2 765560724534567415398465) hk)];dsimp only;constructor
   ·rintro (z | ⟨a,b,c,d⟩)
    ·cases z;exact ⟨rfl,K9 _,K9 _,M5 k,by rw [Nat.sub_self];rfl,by rw [Nat.sub_self];rfl⟩
    ·refine ⟨a,by exact q6,by exact q6,?_⟩;refine G8 d fun s d1 d2=>?_;clear d;refine ⟨s,?_,?_⟩
     ·rw [dN b,List.getElem?_cons_succ];exact d1
     ·rw [dN c,List.getElem?_cons_succ];exact d2
   ·intro zC;obtain ⟨a,b,c,s,d1,d2⟩:=zC;by_cases hi:xi=i
    ·by_cases hj:xj=j
     ·left;rw [hi,hj,a]
     ·exfalso;rw [hi,Nat.sub_self,tR] at d1;cases d1;rw [dN (Nat.lt_of_le_of_ne c (Ne.symm hj)),List.getElem?_cons_succ] at d2;exact nS _ d2
    ·by_cases hj:xj=j
     ·exfalso;rw [hj,Nat.sub_self,tR] at d2;cases d2;rw [dN (Nat.lt_of_le_of_ne b (Ne.symm hi)),List.getElem?_cons_succ] at d1;exact nF _ d1
     ·right;refine ⟨a,by exact (kq2 723478711945482305) b hi,by exact (kq2 723478711945482305) c hj,s,?_,?_⟩
      ·rw [dN (Nat.lt_of_le_of_ne b (Ne.symm hi)),List.getElem?_cons_succ] at d1;exact d1
      ·rw [dN (Nat.lt_of_le_of_ne c (Ne.symm hj)),List.getElem?_cons_succ] at d2;exact d2
  ·have e0:Q9 i j (1::r)=Q9 (i+1) j r:=by
    rw [fP,if_neg (by decide),if_pos rfl]
   have e1:S6 k (1::r)=M5 k::S6 (k+1) r:=by rw [cL];rfl
   have e2:S7 k (1::r)=S7 (k+1) r:=by rw [cQ];rfl
   rw [e0,e1,e2,oH r (k+1) (i+1) j _ h3r ((kq2 765560724534567415398465) hk)];dsimp only;constructor
   ·intro zD;obtain ⟨a,b,c,s,d1,d2⟩:=zD;refine ⟨a,by exact q6,c,s,?_,d2⟩;rw [dN b,List.getElem?_cons_succ];exact d1
   ·intro zE;obtain ⟨a,b,c,s,d1,d2⟩:=zE;by_cases hi:xi=i
    ·exfalso;rw [hi,Nat.sub_self,tR] at d1;cases d1;exact nS _ d2
    ·refine ⟨a,by exact (kq2 723478711945482305) b hi,c,s,?_,d2⟩;rw [dN (Nat.lt_of_le_of_ne b (Ne.symm hi)),List.getElem?_cons_succ] at d1;exact d1
  ·have e0:Q9 i j (2::r)=Q9 i (j+1) r:=by
    rw [fP,if_neg (by decide),if_neg (by decide)]
   have e1:S6 k (2::r)=S6 (k+1) r:=by rw [cL];rfl
   have e2:S7 k (2::r)=M5 k::S7 (k+1) r:=by rw [cQ];rfl
   rw [e0,e1,e2,oH r (k+1) i (j+1) _ h3r ((kq2 765560724534567415398465) hk)];dsimp only;constructor
   ·intro zF;obtain ⟨a,b,c,s,d1,d2⟩:=zF;refine ⟨a,b,by exact q6,s,d1,?_⟩;rw [dN c,List.getElem?_cons_succ];exact d2
   ·intro zG;obtain ⟨a,b,c,s,d1,d2⟩:=zG;by_cases hj:xj=j
    ·exfalso;rw [hj,Nat.sub_self,tR] at d2;cases d2;exact nF _ d1
    ·refine ⟨a,b,by exact (kq2 723478711945482305) c hj,s,d1,?_⟩;rw [dN (Nat.lt_of_le_of_ne c (Ne.symm hj)),List.getElem?_cons_succ] at d2;exact d2
noncomputable def gR (s:Str):Nat:=s.cps.toList.getD 1 0
theorem pX:∀ k,k<8→gR (M5 k)=97+k:=by decide +kernel
theorem rQ:∀ (ρs:List Nat) (k:Nat),k+ρs.length≤8→((S6 k ρs).map gR).Pairwise (·<·)
 | [],_,_=>List.Pairwise.nil
 | ρ::r,k,h=>by
  simp only [R8] at h;have z:=rQ r (k+1) ((kq2 765560724534567415398465) h);rw [cL];split
  ·exact z
  ·rw [List.singleton_append,O4,List.pairwise_cons];refine ⟨fun a ha=>?_,z⟩;refine G8 (List.mem_map.mp ha) fun x hx zH=>?_;obtain rfl:=zH;refine R4 (jP _ _ _ hx) fun i a b zI=>?_;obtain rfl:=zI;rw [pX k ((kq2 766106313647800385) h),pX i ((kq3 26323289592563761173964079169) h b)];exact (kq2 874758142435010342541808652864001) a
theorem ru:∀ (ρs:List Nat) (k:Nat),k+ρs.length≤8→((S7 k ρs).map gR).Pairwise (·<·)
 | [],_,_=>List.Pairwise.nil
 | ρ::r,k,h=>by
  simp only [R8] at h;have z:=ru r (k+1) ((kq2 765560724534567415398465) h);rw [cQ];split
  ·exact z
  ·rw [List.singleton_append,O4,List.pairwise_cons];refine ⟨fun a ha=>?_,z⟩;refine G8 (List.mem_map.mp ha) fun x hx zJ=>?_;obtain rfl:=zJ;refine R4 (jJ _ _ _ hx) fun i a b zK=>?_;obtain rfl:=zK;rw [pX k ((kq2 766106313647800385) h),pX i ((kq3 26323289592563761173964079169) h b)];exact (kq2 874758142435010342541808652864001) a
theorem vR:∀ (ρs:List Nat) (k i:Nat),k≤i→i<k+ρs.length→M5 i∈S6 k ρs∨M5 i∈S7 k ρs
 | [],k,i,h1,h2=>by simp at h2;exact ((kq2 25401839681) h1 h2).elim
 | ρ::r,k,i,h1,h2=>by
  simp only [R8] at h2;rw [cL,cQ];by_cases e:i=k
  ·subst e;by_cases hr:ρ=2
   ·right;rw [if_neg (by exact (kq1 848794683841) hr)];exact O2 _ (List.mem_singleton_self _)
   ·left;rw [if_neg hr];exact O2 _ (List.mem_singleton_self _)
  ·rcases vR r (k+1) i ((kq2 723478711945482305) h1 e) ((kq3 795644755974612847681) h2) with z | z
   ·exact .inl (O6 _ z)
   ·exact .inr (O6 _ z)
noncomputable def iB (n:Nat):List Str:=(List.range n).map M5
theorem yz (ρs:List Nat) (h:ρs.length≤8):Places (S6 0 ρs) (S7 0 ρs) (iB ρs.length) gR where
 r1:=rQ ρs 0 ((kq1 712983950533057) h)
 r2:=ru ρs 0 ((kq1 712983950533057) h)
 nn:=by
  unfold iB;rw [List.Nodup,List.pairwise_map];refine List.Pairwise.imp_of_mem (fun {a b} ha hb hne e=>?_) (List.nodup_range (n:=ρs.length));exact hne (kI a (by have:=List.mem_range.mp ha;exact q3) b (by have:=List.mem_range.mp hb;exact q3) e)
 mem:=fun x=>by
  unfold iB;rw [tQ,nH];constructor
  ·intro zL;refine G8 zL fun i hi zM=>?_;clear zL;obtain rfl:=zM;exact vR ρs 0 i (T3 _) (by have:=List.mem_range.mp hi;exact (kq2 740966847553) this)
  ·rintro (z | z)
   ·refine R4 (jP _ _ _ z) fun i O b zN=>?_;obtain rfl:=zN;exact ⟨i,List.mem_range.mpr ((kq2 723758156321) b),rfl⟩
   ·refine R4 (jJ _ _ _ z) fun i O b zO=>?_;obtain rfl:=zO;exact ⟨i,List.mem_range.mpr ((kq2 723758156321) b),rfl⟩
theorem Aw (ρs:List Nat) (h3:∀ ρ∈ρs,ρ<3) (h:ρs.length≤8):(Vof (S6 0 ρs) (S7 0 ρs) []:Int)=W3 (eH ρs).cs∧Vof (S6 0 ρs) (S7 0 ρs) []≤256:=by
 have e:∀ F:List Str,R5 F []=F:=fun F=>by unfold R5;rw [List.filter_eq_self];simp
 have z:=pW ρs 0 [] [] h3 ((kq1 712983950533057) h) (fun O h=>(by cases h)) (fun O h=>(by cases h)) fun O h=>(by cases h)
 rw [aX,aX,lL] at z;unfold Vof;rw [e,e,z,yp ρs h3 h];refine ⟨rfl,W2 (show Hc 0 0 ρs≤2 ^ (0+0+ρs.length) from qm ρs 0 0) ?_⟩;rw [show 0+0+ρs.length=ρs.length from by exact (kq1 23674800689)];exact W2 (Nat.pow_le_pow_right (show 0<2 by exact (kq0 690641 [])) h) (by decide)
open PySem.AutoSeq1 (wpAny_loadPart')
open PySem.MeetsSeq PySem.SeqAt in
theorem Ec (l:Addr) (items:Array Value) (n:Nat) (x:Value) (j:Nat) (hj:j<items.size) (k:Nat) (hs1:items.size≤sizeLine) :
  ∀ i:Nat,j-i=k→i≤j→Meets (Builtin.«list.remove.loop» ⟨[.ref l,x,rawInt i],[]⟩)
   (fun A R s=>s.heap.get? l=some { cls:=.type "list",dict:=none,data:=.seq items n,slots:=#[] }∧(∀ t (ht:t<items.size),t≤j→EqAt A.in1 s items[t] x (decide (t=j)))∧R (.ok (.ret .none)) { s with heap:=s.heap.update l (Obj.mapSeq fun xs=>xs.eraseIdxIfInBounds j) }):=by
 induction k with
 | zero =>
  intro i hk hij prog w A R s h;obtain ⟨hp,g,d,tk,os⟩:=s;obtain ⟨hl,he,h⟩:=h;have hij':i=j:=by exact (kq2 24807869705145409) hk hij
  subst hij'
  wp_walk using wpAny_loadPart' hl
  have hi:items[((i:Nat):Int).toNat]? = some items[i]:=by simp [hj]
  rw [hi];refine wpAny_bind (he i hj (K9 _) prog w _ _ ?_);rw [decide_eq_true rfl];have hz':(items.eraseIdxIfInBounds i).size≤sizeLine+1:=W2 (size_erased items _) (Nat.le_succ_of_le hs1)
  wp_walk using (wpAny_updateSeq hl rfl (hz:=hs1) (_hz':=hz')),wpAny_loadPart' hl
  simpa using h
 | succ k ih =>
  intro i hk hij prog w A R s h;obtain ⟨hp,g,d,tk,os⟩:=s;obtain ⟨hl,he,h⟩:=h;have hlt:i<items.size:=by exact q5
  wp_walk using wpAny_loadPart' hl
  have hi:items[((i:Nat):Int).toNat]? = some items[i]:=by simp [hlt]
  have hc:((i:Int)+1)=((i+1:Nat):Int):=by push_cast;rfl
  rw [hi];refine wpAny_bind (he i hlt hij prog w _ _ ?_);rw [decide_eq_false (show ¬ i=j by exact (kq3 27796846424476737) hk)]
  wp_walk
  rw [hc];exact ⟨plainId_quiet plain_remove_loop _,codeAny_builtin entry_remove_loop (by
   rw [Around.under_plainId plain_remove_loop _];exact ih (i+1) ((kq3 815820882306303904833) hk) ((kq3 23670057907010601602113) hk hij) prog w A R _ ⟨hl,he,h⟩)⟩
open PySem.MeetsSeq PySem.SeqAt in
theorem Eo (l:Addr) (items:Array Value) (n:Nat) (x:Value) (j:Nat) (hj:j<items.size) (hs1:items.size≤sizeLine) :
  Meets (Builtin.«list.remove» ⟨[.ref l,x],[]⟩)
   (fun A R s=>s.heap.get? l=some { cls:=.type "list",dict:=none,data:=.seq items n,slots:=#[] }∧(∀ t (ht:t<items.size),t≤j→EqAt A.in1 s items[t] x (decide (t=j)))∧R (.ok (.ret .none)) { s with heap:=s.heap.update l (Obj.mapSeq fun xs=>xs.eraseIdxIfInBounds j) }):=by
 intro prog w A R s h;obtain ⟨hp,g,d,tk,os⟩:=s;obtain ⟨hl,he,h⟩:=h
 wp_walk using wpAny_loadPart' hl
 exact ⟨plainId_quiet plain_remove_loop _,codeAny_builtin entry_remove_loop (by
  rw [Around.under_plainId plain_remove_loop _];exact Ec l items n x j hj _ hs1 0 rfl (T3 _) prog w A R _ ⟨hl,he,h⟩)⟩
section
variable {c:Cx} {τ:PH} {m:Lo} {X:PV}
theorem zy {l:Addr} {pre post:List Value} {y x:Value} {n:Nat} {Q:PV} (hl:τ l=some (G3 (pre++y::post) n)) (hn:(pre++y::post).length≤10000) (hu:c.A.units≤9000)
  {dy dx:PyData} (ry:Rd τ y dy) (rx:Rd τ x dx) (hy:dy.canLay0=true) (hx:dx.canLay0=true) (hd:dx.depth≤100) (heq:PyData.eqv dy dx=true)
  (hpre:∀ z∈pre,∃ dz,Rd τ z dz∧dz.canLay0=true∧PyData.eqv dz dx=false)
  (h:∀ n',Q .none (G5 τ l (G3 (pre++post) n')) m):W c (PySem.call (.builtin "list.remove") [.ref l,x]) τ m Q X:=fun s hs=>by
 obtain ⟨n',st⟩:=putL hs hl (fun xs=>xs.eraseIdxIfInBounds pre.length) (pre++post) (by simp [Array.eraseIdxIfInBounds,List.eraseIdx_append_of_length_le]) s.toks;refine call_meets F.slot_list_remove (Z9 hs hl).typeIs F.entry_list_remove (F.args_list_remove_2 _ _) (Eo l (pre++y::post).toArray n x pre.length (by simp) (by rw [sizeLine_eq];simp at hn ⊢;exact q1)) ⟨hs.keep _ _ hl,fun t ht htj=>?_,(I5 _ _ st (h n'))⟩;have hcl:cLine=9900:=rfl;have hu1:∀ d:PyData,c.A.in1.units+min d.depth dx.depth<cLine:=fun d=>by
  have h1:c.A.in1.units=c.A.units+1:=rfl;have h2:min d.depth dx.depth≤dx.depth:=Nat.min_le_right _ _;exact (kq5 32353211624224988189909299533712958118101126173982237089) hu hd hcl h2 h1
 obtain ⟨xs,rx'⟩:=rx.reads hs.keep;by_cases e:t=pre.length
 ·subst e;obtain ⟨ys,ry'⟩:=ry.reads hs.keep;rw [decide_eq_true rfl,← heq];have z:=SeqAt.eqAt_reads dy dx c.A.in1 s y x ys xs ry' rx' hy hx (hu1 dy);have e2:(pre++y::post).toArray[pre.length]=y:=by simp
  rw [e2];exact z
 ·have hlt:t<pre.length:=by exact (kq2 741131707011137) htj e
  refine R4 (hpre pre[t] (List.getElem_mem hlt)) fun dz rz hz hzx=>?_;obtain ⟨zs,rz'⟩:=rz.reads hs.keep;rw [decide_eq_false e,← hzx];have z:=SeqAt.eqAt_reads dz dx c.A.in1 s pre[t] x zs xs rz' rx' hz hx (hu1 dz);have e2:(pre++y::post).toArray[t]=pre[t]:=by simp [List.getElem_append_left hlt]
  rw [e2];exact z
end
noncomputable def leS (a b:Str):Prop:=a.cps.toList≤b.cps.toList
theorem uo:∀ (l:List Str) (p:Str),risingS p l=true→(p::l).Pairwise leS
 | [],p,_=>List.pairwise_singleton _ _
 | x::r,p,h=>by
  unfold risingS at h;obtain ⟨h1,h2⟩:=Bool.and_eq_true_iff.mp h;have z:=uo r x h2;have hpx:leS p x:=by
   rw [ltCps_eq] at h1;have:¬ (x.cps.toList<p.cps.toList):=by simpa using h1
   exact List.not_lt.mp this
  refine List.pairwise_cons.mpr ⟨fun y hy=>?_,z⟩;rcases List.mem_cons.mp hy with rfl | hy
  ·exact hpx
  ·exact List.le_trans hpx ((List.pairwise_cons.mp z).1 y hy)
theorem vV (l:List Str) (h:sortedS l=true):l.Pairwise leS:=by
 cases l with
 | nil=>exact List.Pairwise.nil
 | cons x r=>exact uo r x h
theorem BW {a b:Str} (h:a.cps.toList=b.cps.toList):a=b:=by
 cases a;cases b;congr 1;exact Array.toList_inj.mp h
theorem Dv {a b l l':List Str} (h1:sortedS a=true) (h2:sortedS b=true) (p1:a.Perm l) (p2:b.Perm l'):a=b↔l.Perm l':=by
 constructor
 ·intro e;subst e;exact p1.symm.trans p2
 ·intro p;exact List.Perm.eq_of_pairwise (le:=leS) (fun x y O O hx hy=>BW (List.le_antisymm hx hy)) (vV a h1) (vV b h2) ((p1.trans p).trans p2.symm)
structure St where
 t:Addr
 o:Addr
 ord:List (Str×Tok)
 j:Nat
 c:Nat
 tok:Tok
noncomputable def St.items (s:St):List Value:=[.ref s.o,.int (s.c:Int) s.tok]
noncomputable abbrev St.cells (s:St):List H7:=[(ecl s.t (H4 s.items)),(ecl s.o (G3 (strValues s.ord) s.j))]
noncomputable abbrev stV (l:List St):List Value:=l.map fun s=>.ref s.t
noncomputable def St.dat (s:St):PyData:=.tuple [.list (s.ord.map fun p=>.str p.1),.int (s.c:Int)]
theorem St.cells_snoc (l:List St) (x:St):(l++[x]).flatMap St.cells=l.flatMap St.cells++[(ecl x.t (H4 x.items)),(ecl x.o (G3 (strValues x.ord) x.j))]:=by rw [eO];rfl
theorem oJ {τ:PH} {t o:Addr} {ord:List (Str×Tok)} {j c:Nat} {tok:Tok} (e:τ t=some (H4 [.ref o,.int (c:Int) tok])) (eo:τ o=some (G3 (strValues ord) j)):Rd τ (.ref t) (.tuple [.list (ord.map fun p=>.str p.1),.int (c:Int)]) :=
 .tuple e (.cons (.list eo (dC ord)) (.cons (.int _ _) .nil))
theorem pY {ord:List (Str×Tok)} (c:Nat) (h:∀ p∈ord,PyData.strOk p.1=true):(PyData.tuple [.list (ord.map fun p=>.str p.1),.int (c:Int)]).canLay0=true:=by
 simp only [PyData.canLay0,PyData.canLayAll0,ig ord h,Bool.and_self]
theorem Ds (ord:List (Str×Tok)) (c:Nat):(PyData.tuple [.list (ord.map fun p=>.str p.1),.int (c:Int)]).depth≤100:=by
 have h:∀ l:List (Str×Tok),PyData.depthAll (l.map fun p=>.str p.1)≤0:=by
  intro l;induction l with
  | nil=>simp [PyData.depthAll]
  | cons p r ih=>simp [PyData.depthAll,PyData.depth] at ih ⊢;exact (kq1 756079137) ih
 have:=h ord;simp only [PyData.depth,PyData.depthAll];lia
theorem xD (a b:List (Str×Tok)) (c c':Nat):PyData.eqv (.tuple [.list (a.map fun p=>.str p.1),.int (c:Int)]) (.tuple [.list (b.map fun p=>.str p.1),.int (c':Int)])=(decide (a.map (·.1)=b.map (·.1))&&decide (c=c')):=by
 simp only [PyData.eqv,PyData.eqvAll,nq,Bool.and_true];congr 1;rw [Bool.eq_iff_iff];simp [Int.ofNat_inj]
structure GoodL (F S:List (Str×Tok)) (n:Nat) (l:List St):Prop where
 ok:∀ s∈l,Z3 (esR F S) (NR F S) (nmL s.ord)∧s.ord.length=n∧1≤s.c
 np:l.Pairwise fun a b=>¬ (nmL a.ord).Perm (nmL b.ord)
noncomputable def U8 (F S:List (Str×Tok)) (l:List St):Nat:=(l.map fun s=>s.c*Vof (nmL F) (nmL S) (nmL s.ord)).sum
theorem kJ (F S:List (Str×Tok)) (l l':List St):U8 F S (l++l')=U8 F S l+U8 F S l':=by unfold U8;rw [N6,jH]
theorem qP {F S:List (Str×Tok)} {ns:List Str} {r:Str→Nat} (P:Places (nmL F) (nmL S) ns r) {n:Nat}:∀ {l:List St},(∀ s∈l,1≤s.c)→l.length≤U8 F S l
 | [],_=>T3 _
 | a::l,h=>by
  have h1:=qP P (n:=n) (l:=l) fun s hs=>h s (H9 _ hs);have h2:=h a K4;have h3:1≤Vof (nmL F) (nmL S) (nmL a.ord):=P.pos;have h4:1*1≤a.c*Vof (nmL F) (nmL S) (nmL a.ord):=Nat.mul_le_mul h2 h3;unfold U8 at h1 ⊢;rw [O4,List.sum_cons,R8];exact (kq3 24278349961340294549569) h1 h4
theorem mY {first second:List (Str×Tok)} {r:Str→Nat} (hR:Rows first second r) {ord:List (Str×Tok)} (hO:Z3 (esR first second) (NR first second) (nmL ord)):∀ p∈ord,PyData.strOk p.1=true:=by
 intro p hp;obtain ⟨i,hi⟩:=List.getElem?_of_mem hp;have h1:p.1∈NR first second:=(hO i p.1 (by unfold nmL;rw [S9,hi];rfl)).1
 have h2:p.1∈nmL (first++second):=by
  rw [show nmL (first++second)=nmL first++nmL second from N6];exact h1
 refine G8 (List.mem_map.mp h2) fun q hq e=>?_;rw [← e];exact (hR.ok q hq).2
noncomputable abbrev msC (ms:List (Addr×St)):List H7:=ms.map fun q=>(ecl q.1 (H4 q.2.items))
theorem Gb (ms:List (Addr×St)) (q:Addr×St):msC (ms++[q])=msC ms++[(ecl q.1 (H4 q.2.items))]:=by simp [msC]
theorem ms_rd {τ:PH}:∀ ms:List (Addr×St),(∀ q∈ms,τ q.1=some (H4 q.2.items)∧τ q.2.o=some (G3 (strValues q.2.ord) q.2.j))→RdAll τ (ms.map fun q=>.ref q.1) (ms.map fun q=>q.2.dat)
 | [],_=>.nil
 | q::ms,h=>.cons (oJ (h q K4).1 (h q K4).2) (ms_rd ms fun x hx=>h x (H9 _ hx))
theorem wK:∀ ms:List (Addr×St),(∀ q∈ms,∀ p∈q.2.ord,PyData.strOk p.1=true)→PyData.canLayAll0 (ms.map fun q=>q.2.dat)=true
 | [],_=>rfl
 | q::ms,h=>by
  rw [O4,PyData.canLayAll0,wK ms fun x hx=>h x (H9 _ hx),Bool.and_true];exact pY _ (h q K4)
theorem vq:∀ ms:List (Addr×St),PyData.depthAll (ms.map fun q=>q.2.dat)≤2
 | []=>T3 _
 | q::ms=>by
  rw [O4,PyData.depthAll];have:=vq ms;have h2:q.2.dat.depth≤2:=by
   have h:∀ l:List (Str×Tok),PyData.depthAll (l.map fun p=>.str p.1)≤0:=by
    intro l;induction l with
    | nil=>simp [PyData.depthAll]
    | cons p r ih=>simp [PyData.depthAll,PyData.depth] at ih ⊢;assumption
   have:=h q.2.ord;simp only [St.dat,PyData.depth,PyData.depthAll];lia
  lia
noncomputable abbrev F2 (fa sa:Addr) (first second:List (Str×Tok)) (jf js:Nat):List H7:=[(ecl fa (G3 (strValues first) jf)),(ecl sa (G3 (strValues second) js))]
theorem Am {w:World} {os:OsState} (fa sa:Addr) (first second:List (Str×Tok)) (jf js:Nat) (tN:Tok) (ns:List Str) (r:Str→Nat) (hR:Rows first second r) (P:Places (nmL first) (nmL second) ns r) (hN:ns.length≤8) (hV:Vof (nmL first) (nmL second) []≤256) :
  U4 w os 8 (.ref 505) ⟨[.ref fa,.ref sa,.int (ns.length:Int) tN],[]⟩ (F2 fa sa first second jf js)
   (fun v L'=>∃ la n t tk o ord j,v=.ref la∧Z3 (esR first second) (NR first second) (nmL ord)∧ord.length=ns.length ∧
    L'=[(ecl la (G3 [.ref t] n)),(ecl t (H4 [.int (Vof (nmL first) (nmL second) []:Int) tk,.ref o])),(ecl o (G3 (strValues ord) j))]++F2 fa sa first second jf js):=by
 intro τ hC;refine Z7 (RX:=fun v τ'=>∃ L',Cells τ' L'∧False) k505 cd505 rfl (binds:=[(G4 "first",.ref fa),(G4 "second",.ref sa),(G4 "size",.int (ns.length:Int) tN)]) (V9 (fun P=>by kernel_rfl)) fun A L hr=>?_;let c0:Cx:=cx w os A fd505 505 L;show W c0 (execs _ c0.env) _ (upd (upd (upd (fun O=>none) (G4 "first") (.ref fa)) (G4 "second") (.ref sa)) (G4 "size") (.int (ns.length:Int) tN)) _ _;refine W7 fun Q X hQ=>?_;have hq:(cx w os A fd505 505 L).A.handled=none:=hr.quiet;have hr7:Room 7 (cx w os A fd505 505 L).A:=hr;have hu:(cx w os A fd505 505 L).A.units≤9000:=by have:=hr.units;exact (kq1 25353352030358997941207570030017) this
 generalize hF2:F2 fa sa first second jf js=L2 at hC
 generalize hV0:Vof (nmL first) (nmL second) []=V0 at hV;refine G6 (K3 (V6 (G7 (U6 (G7 (V6 (H5 ⟨leB rfl,fun o0 ho0=>G7 (J9 fun tk0=>H5 ⟨leB rfl,fun t0 ht0=>H5 ⟨leB rfl,fun s0 hs0=>?_⟩⟩)⟩)))))));let L1:List H7:=(ecl s0 (G3 (stV [⟨t0,o0,[],0,1,tk0⟩]) 0))::([(⟨t0,o0,[],0,1,tk0⟩:St)].flatMap St.cells++L2)
 have hC1:Cells (G5 (G5 (G5 τ o0 (G3 [] 0)) t0 (H4 [.ref o0,.int 1 tk0])) s0 (G3 [.ref t0] 0)) L1 :=
  ((hC.new (P:=(·=G3 (strValues []) 0)) ho0 rfl).new (P:=(·=H4 (St.items ⟨t0,o0,[],0,1,tk0⟩))) ht0 rfl).new (P:=(·=G3 (stV [⟨t0,o0,[],0,1,tk0⟩]) 0)) hs0 rfl
 generalize G5 (G5 (G5 τ o0 (G3 [] 0)) t0 (H4 [.ref o0,.int 1 tk0])) s0 (G3 [.ref t0] 0)=τ1 at hC1 ⊢;have hG0:GoodL first second 0 [⟨t0,o0,[],0,1,tk0⟩]:=⟨fun s hs=>by
  rw [I7] at hs;subst hs;exact ⟨fun i p hp=>(by cases hp),rfl,K9 _⟩,List.pairwise_singleton _ _⟩
 have hW0:U8 first second [⟨t0,o0,[],0,1,tk0⟩]=V0:=by
  unfold U8;simp [hV0]
 let J1:PF:=fun fl τ' m'=>fl=.next∧∃ sA ks sl,Cells τ' ((ecl sA (G3 (stV sl) ks))::(sl.flatMap St.cells++L2))∧GoodL first second ns.length sl∧U8 first second sl=V0∧vl m' "first" (.ref fa)∧vl m' "second" (.ref sa)∧vl m' "states" (.ref sA)
 refine G6 (W.mono (Q':=J1) (X':=NoX)
  (aB (K8 (I9 (.type "range") (I2 rfl (G7 ?_))))) ?_ fun O O O h=>h.elim)
 ·walk_at "nm";refine H5 (iM fun ro u1 u2 u3 hro=>?_);let J2:PN:=fun n τ' m'=>∃ sA ks sl,Cells τ' ((ecl sA (G3 (stV sl) ks))::(sl.flatMap St.cells++L2))∧GoodL first second n sl∧U8 first second sl=V0∧vl m' "first" (.ref fa)∧vl m' "second" (.ref sa)∧vl m' "states" (.ref sA)
  refine R0 _ _ _ (gD hq I4 (kq0 166643633 []) (kq1 166627249) ((kq1 5862606194538133987777) hN)) (Q0 J2 (dX s0 0 _ (hC1.keep hro) hG0 hW0 (by walk_at "mv") (by walk_at "mv") (by walk_at "mv")) (fun O O O O b hb=>(by cases hb)) ?_ ?_)
  ·rintro n v τ' m' hn ⟨tv,rfl⟩ zB;refine fW zB fun sA ks sl hCs hG hW n1 n2 n3=>?_;clear zB;have hnN:n<ns.length:=by assumption
   have hsl:sl.length≤256:=by
    have:=qP P (n:=n) (l:=sl) fun s hs=>(hG.ok s hs).2.2;exact (kq3 811296694126484835883771305918881) hV hW this
   refine I8 ?_;refine G6 (K3 (V6 (H5 ⟨leB rfl,fun lA hlA=>?_⟩)));have hC2:=hCs.new (o:=G3 [] 0) (P:=(·=G3 (stV []) 0)) hlA rfl;have esA:G5 τ' lA (G3 [] 0) sA=some (G3 (stV sl) ks):=by
    have e:=hC2.is (a:=sA) (o:=G3 (stV sl) ks) (by exact mC mH);exact e
   generalize G5 τ' lA (G3 [] 0)=τ2 at hC2 esA ⊢;let J3:PF:=fun fl τ3 m3=>fl=.next∧∃ kl ll,Cells τ3 ((ecl lA (G3 (stV ll) kl))::(ll.flatMap St.cells++L2))∧GoodL first second (n+1) ll∧U8 first second ll=V0∧vl m3 "first" (.ref fa)∧vl m3 "second" (.ref sa)∧vl m3 "later" (.ref lA)
   refine G6 (W.mono (Q':=J3) (X':=NoX) (aB ?_) ?_ fun O O O h=>h.elim)
   ·walk_at "nm";let J4:PN:=fun i τ3 m3=>∃ kl ll,Cells τ3 ((ecl lA (G3 (stV ll) kl))::(ll.flatMap St.cells++((ecl sA (G3 (stV sl) ks))::(sl.flatMap St.cells++L2))))∧GoodL first second (n+1) ll∧U8 first second ll=U8 first second (sl.take i)∧vl m3 "first" (.ref fa)∧vl m3 "second" (.ref sa)∧vl m3 "later" (.ref lA)
    refine R0 _ _ _ (Iters.list hq esA) (Q0 J4 (lC 0 [] hC2 ⟨fun s hs=>(by cases hs),List.Pairwise.nil⟩ rfl (by walk_at "mv") (by walk_at "mv") (by walk_at "mv")) ?_ ?_ ?_)
    ·intro i τ3 m3 zD b hb;refine ao zD fun kl ll hCS O=>?_;clear zD;rw [I7] at hb;rw [hb];have e:=hCS.is (a:=sA) (o:=G3 (stV sl) ks) (by exact mC (mR mH));rw [e,esA]
    ·intro i v τ3 m3 hi hv zF;refine E2_6 zF fun kl ll hCS hGl hWl p1 p2 p3=>?_;clear zF;obtain ⟨s,hs,rfl⟩:∃ s,sl[i]? = some s∧v=.ref s.t:=by
      rw [S9] at hv;cases z:sl[i]? with
      | none=>rw [z] at hv;cases hv
      | some s=>rw [z] at hv;cases hv;exact (H6 s rfl rfl)
     have hsm:s∈sl:=aW hs;refine M6 (hG.ok s hsm) fun hO hol hc1=>?_;have hWn:U8 first second (sl.take (i+1))=U8 first second (sl.take i)+s.c*Vof (nmL first) (nmL second) (nmL s.ord):=by
      rw [aC,hs,kJ];unfold U8;simp
     have hWle:U8 first second (sl.take (i+1))≤V0:=by
      rw [← hW];conv=>rhs;rw [← List.take_append_drop (i+1) sl]
      rw [kJ];exact (kq2 21563425)
     have es:=hCS.is (a:=s.t) (o:=H4 s.items) (H9 _ (O6 _ (H9 _ (O2 _ (List.mem_flatMap.mpr (H6 s hsm (by simp)))))));refine eE hq es rfl rfl ?_;refine M4 (I8 (M4 (I8 (aj ?_))));refine dK (List.append_of_mem hsm) fun B1 B2 hB=>?_;have hsc:sl.flatMap St.cells=B1.flatMap St.cells++((ecl s.t (H4 s.items))::(ecl s.o (G3 (strValues s.ord) s.j))::B2.flatMap St.cells):=by rw [hB,eO,List.flatMap_cons];rfl
     let J5:PF:=fun fl τ4 m4=>fl=.next∧∃ kl ll,Cells τ4 ((ecl lA (G3 (stV ll) kl))::(ll.flatMap St.cells++((ecl sA (G3 (stV sl) ks))::(sl.flatMap St.cells++L2))))∧GoodL first second (n+1) ll∧U8 first second ll=U8 first second (sl.take (i+1))∧vl m4 "first" (.ref fa)∧vl m4 "second" (.ref sa)∧vl m4 "later" (.ref lA)
     refine G6 (W.mono (Q':=J5) (X':=NoX) (aB (K8 (I9 (.ref 500) (I2 (by kernel_rfl) (G7 ?_))))) ?_ fun O O O h=>h.elim)
     ·walk_at "nm";refine G7 ?_;walk_at "nm";refine G7 ?_;walk_at "nm";have hC3:Cells τ3 (inC fa sa s.o first second s.ord jf js s.j++((ecl lA (G3 (stV ll) kl))::(ll.flatMap St.cells++((ecl sA (G3 (stV sl) ks))::(B1.flatMap St.cells++((ecl s.t (H4 s.items))::B2.flatMap St.cells)))))):=by
       refine hCS.cnt ?_;rw [hsc,← hF2];unfold inC F2;exact SubC.k (.c (.c (.r (.c (.r .h)))) (.k (.c (.c (.r (.c (.r .h)))) (.k (.c (.c (.r (.c (.l (.r (.c .h)))))) (.z (.c .h (.p .h (.c .h (.p (.l .h) (.c (.l .h) (.t .h))))))))))))
      refine H5 (V7 (tX fa sa s.o first second s.ord jf js s.j r hR hO) hr7 hC3 (fun v τ4 L' hC4 hv=>?_) fun O O O O h=>h.elim);refine E3_4 hv fun wA wl jw zH zI hwn hwm=>?_;clear hv;obtain rfl:=zH;obtain rfl:=zI;have hC5:Cells τ4 ((ecl lA (G3 (stV ll) kl))::(ll.flatMap St.cells++((ecl wA (G3 (strValues wl) jw))::(ecl sA (G3 (stV sl) ks))::(sl.flatMap St.cells++L2)))):=by
       refine hC4.cnt ?_;rw [hsc,← hF2];unfold inC F2;exact SubC.c (.r .h) (.p (.r .h) (.c (.l .h) (.c (.r .h) (.s (.p (.r .h) (.k (.c (.r .h) (.k (.c (.l (.c (.c .h))) (.p (.r .w) (.c (.l .h) (.c (.l .h) .n))))))))))))
      have ewA:=hC5.is (a:=wA) (o:=G3 (strValues wl) jw) (by exact mC (mR mH));have hstep:=P.step hO (by rw [show (nmL s.ord).length=s.ord.length from I3 _,hol];exact hnN) hwn hwm;generalize hRS:(ecl wA (G3 (strValues wl) jw))::(ecl sA (G3 (stV sl) ks))::(sl.flatMap St.cells++L2)=RS at hC5;have hRo:(ecl s.o (G3 (strValues s.ord) s.j))∈RS:=by
       rw [← hRS];exact H9 _ (H9 _ (O2 _ (List.mem_flatMap.mpr (H6 s hsm (by simp)))))
      have hRw:(ecl wA (G3 (strValues wl) jw))∈RS:=by rw [← hRS];exact K4
      let J6:PN:=fun b τ' m'=>∃ kl ll,Cells τ' ((ecl lA (G3 (stV ll) kl))::(ll.flatMap St.cells++RS))∧GoodL first second (n+1) ll∧U8 first second ll=U8 first second (sl.take i)+s.c*(((nmL wl).take b).map fun x=>Vof (nmL first) (nmL second) (nmL s.ord++[x])).sum∧vl m' "first" (.ref fa)∧vl m' "second" (.ref sa)∧vl m' "later" (.ref lA)∧vl m' "order" (.ref s.o)∧vl m' "count" (.int (s.c:Int) s.tok)
      refine R0 _ _ _ (Iters.list hq ewA) (Q0 J6 (I2_8 kl ll hC5 hGl (by rw [hWl];simp) (by walk_at "mv") (by walk_at "mv") (by walk_at "mv") (by walk_at "mv") (by walk_at "mv")) ?_ ?_ ?_)
      ·intro b τ' m' zK x hx;refine ao zK fun kl ll hCS O=>?_;clear zK;rw [I7] at hx;rw [hx];have e:=hCS.is (a:=wA) (o:=G3 (strValues wl) jw) (H9 _ (O6 _ hRw));rw [e,ewA]
      ·intro b v τ' m' hb hv zM;refine E2_8 zM fun kl ll hCS hGl hWl n1 n2 n3 n4 n5=>?_;clear zM;refine G8 (gZ hv) fun p hp zN=>?_;obtain rfl:=zN;have hpw:p.1∈nmL wl:=O3 (f:=(·.1)) (aW hp);have hav:=(hwm _).mp hpw;have hon:=yw hO hav;have hWb:(((nmL wl).take (b+1)).map fun x=>Vof (nmL first) (nmL second) (nmL s.ord++[x])).sum=(((nmL wl).take b).map fun x=>Vof (nmL first) (nmL second) (nmL s.ord++[x])).sum+Vof (nmL first) (nmL second) (nmL s.ord++[p.1]):=by
        rw [aC,show (nmL wl)[b]? = some p.1 from by unfold nmL;rw [S9,hp];rfl,N6,jH];simp
       have hWb2:U8 first second ll+s.c*Vof (nmL first) (nmL second) (nmL s.ord++[p.1])≤V0:=by
        refine W2 ?_ hWle;rw [hWl,hWn,hstep,Nat.add_assoc,← Nat.mul_add,← hWb];refine Nat.add_le_add_left (Nat.mul_le_mul_left _ ?_) _;conv=>rhs;rw [← List.take_append_drop (b+1) (nmL wl),N6,jH]
        exact Nat.le_add_right _ _
       have hll:ll.length≤256:=by
        have:=qP P (n:=n) (l:=ll) fun s hs=>(hGl.ok s hs).2.2;exact (kq6 27875942149131039355143429382721489659494817) hV hWl hWb2 this
       have hord9:s.ord.length≤8:=by exact (kq3 747601692224096182721) hN hnN hol
       have hokN:∀ q∈s.ord++[p],PyData.strOk q.1=true:=mY hR (by rw [show nmL (s.ord++[p])=nmL s.ord++[p.1] from by simp [nmL]];exact hon);refine I8 ?_;have eo:=hCS.is (a:=s.o) (o:=G3 (strValues s.ord) s.j) (H9 _ (O6 _ hRo));refine G6 (K3 (K8 (I9 (.builtin "sorted") (I2 rfl (G7 (M3 ?_))))));walk_at "nm";refine V6 (G7 ?_);walk_at "nm";refine H5 ⟨leB rfl,fun pA hpA=>?_⟩;have hD1:=hCS.keep (o:=G3 [.str p.1 p.2] 0) hpA;have e1:G5 τ' pA (G3 [.str p.1 p.2] 0) s.o=some (G3 (strValues s.ord) s.j):=O9 hpA eo;have e2:G5 τ' pA (G3 [.str p.1 p.2] 0) pA=some (G3 (strValues [p]) 0):=I4;generalize G5 τ' pA (G3 [.str p.1 p.2] 0)=τ5 at hD1 e1 e2 ⊢;refine jK e1 e2 (by rw [Q8,Q8];simp;exact q1) fun gA hgA=>H5 ?_;have hD2:=hD1.keep (o:=G3 (strValues s.ord++strValues [p]) 0) hgA;have e3:G5 τ5 gA (G3 (strValues s.ord++strValues [p]) 0) gA=some (G3 (strValues (s.ord++[p])) 0):=by rw [bx];exact I4
       generalize G5 τ5 gA (G3 (strValues s.ord++strValues [p]) 0)=τ6 at hD2 e3 ⊢;refine wj e3 (by simp;exact (kq3 831895782458587818478803755457) hN hnN hol) fun rA jr ys hrA hys hsy=>?_;have hD3:=hD2.new (o:=G3 (strValues ys) jr) (P:=(·=G3 (strValues ys) jr)) hrA rfl;generalize G5 τ6 rA (G3 (strValues ys) jr)=τ7 at hD3 ⊢;rw [show List.map (fun x:Str×Tok=>x.1) (s.ord++[p])=nmL s.ord++[p.1] from by simp [nmL]] at hys;have hysok:∀ q∈ys,PyData.strOk q.1=true:=fun q hq'=>by
        have h1:q.1∈nmL s.ord++[p.1]:=hys.mem_iff.mp (O3 (f:=(·.1)) hq');rw [show nmL s.ord++[p.1]=nmL (s.ord++[p]) from by simp [nmL]] at h1;refine G8 (List.mem_map.mp h1) fun q' h2 h3=>?_;rw [← h3];exact hokN q' h2
       have elA:=hD3.is (a:=lA) (o:=G3 (stV ll) kl) (by exact mC mH);refine G6 (sZ (cl:=[(G4 "grown",L+3)]) ⟨by kernel_rfl,by kernel_rfl,(by intro p hp;rw [I7] at hp;subst hp;kernel_rfl),by kernel_rfl,by kernel_rfl,by kernel_rfl⟩ (by kernel_rfl) (by kernel_rfl) ?_);walk_at "nm";let J7:Addr→PN:=fun acc i τ2 m2=>∃ (ms:List (Addr×St)) (j2:Nat),Cells τ2 ((ecl acc (G3 (ms.map fun q=>.ref q.1) j2))::(msC ms++((ecl rA (G3 (strValues ys) jr))::(ecl lA (G3 (stV ll) kl))::(ll.flatMap St.cells++RS))))∧ms.map (·.2)=(ll.take i).filter (fun e=>(nmL e.ord).isPerm (nmL s.ord++[p.1]))∧ms.length≤i∧vl m2 "grown" (.ref rA);refine R0 _ _ _ (Iters.list hq elA) (Q0 J7 ?_ ?_ ?_ ?_)
       ·intro acc hacc;refine cR [] 0 (hD3.new (o:=G3 [] 0) (P:=(·=G3 [] 0)) hacc rfl) rfl (K9 _) ?_
        (try unfold vl);unfold aH
        rw [if_pos (by kernel_rfl)];walk_at "mv"
       ·intro acc i τ2 m2 zQ x hx;refine ao zQ fun ms j2 hCm O=>?_;clear zQ;rw [I7] at hx;rw [hx];have e:=hCm.is (a:=lA) (o:=G3 (stV ll) kl) (by exact mC (mR (mC mH)));rw [e,elA]
       ·intro acc L' i v τ2 m2 hi hv zS;refine eN zS fun ms j2 hCm hms hml q1=>?_;clear zS;obtain ⟨e,he,rfl⟩:∃ e,ll[i]? = some e∧v=.ref e.t:=by
         rw [S9] at hv;cases z:ll[i]? with
         | none=>rw [z] at hv;cases hv
         | some e=>rw [z] at hv;cases hv;exact (H6 e rfl rfl)
        have hem:e∈ll:=aW he;have hil:i<256:=by have:=(List.getElem?_eq_some_iff.mp he).1;exact q3
        refine M6 (hGl.ok e hem) fun hOe hle O=>?_;have hmt:(ll.take (i+1)).filter (fun e=>(nmL e.ord).isPerm (nmL s.ord++[p.1]))=(ll.take i).filter (fun e=>(nmL e.ord).isPerm (nmL s.ord++[p.1]))++if (nmL e.ord).isPerm (nmL s.ord++[p.1])=true then [e] else []:=by
         rw [aC,he,List.filter_append];cases hz:(nmL e.ord).isPerm (nmL s.ord++[p.1]) <;> simp [List.filter,hz]
        have et:=hCm.is (a:=e.t) (o:=H4 e.items) (H9 _ (O6 _ (H9 _ (H9 _ (O2 _ (List.mem_flatMap.mpr (H6 e hem (by simp))))))));have eeo:=hCm.is (a:=e.o) (o:=G3 (strValues e.ord) e.j) (H9 _ (O6 _ (H9 _ (H9 _ (O2 _ (List.mem_flatMap.mpr (H6 e hem (by simp))))))));refine eE (c:=(cx w os A fd505 505 L).comp _ _ L') hq et rfl rfl ?_;refine M4 (I8 (M4 (I8 (aj ?_))));refine jE (J0 (K8 (I9 (.builtin "sorted") (I2 rfl (G7 ?_)))));walk_at "nm";refine H5 (wj eeo ((kq3 831895782441526846084184940993) hN hnN hle) fun qA jq zs hqA hzs hsz=>?_);have hCm2:=hCm.new (o:=G3 (strValues zs) jq) (P:=(·=G3 (strValues zs) jq)) hqA rfl;generalize G5 τ2 qA (G3 (strValues zs) jq)=τ8 at hCm2 ⊢;have eqA:=hCm2.is (a:=qA) (o:=G3 (strValues zs) jq) (by exact mH);have erA:=hCm2.is (a:=rA) (o:=G3 (strValues ys) jr) (by exact mC (mC (mR mH)));have hzsok:∀ q∈zs,PyData.strOk q.1=true:=fun q hq'=>by
         have h1:q.1∈nmL e.ord:=hzs.mem_iff.mp (O3 (f:=(·.1)) hq');refine G8 (List.mem_map.mp h1) fun q' h2 h3=>?_;rw [← h3];exact mY hR hOe q' h2
        walk_at "nm";refine um eqA erA hzsok hysok hu (I6 ?_);have hdec:decide (List.map (fun x:Str×Tok=>x.1) zs=List.map (fun x:Str×Tok=>x.1) ys)=(nmL e.ord).isPerm (nmL s.ord++[p.1]):=by
         rw [Bool.eq_iff_iff,decide_eq_true_iff,List.isPerm_iff];exact Dv hsz hsy hzs hys
        rw [hdec];cases hz:(nmL e.ord).isPerm (nmL s.ord++[p.1])
        ·refine bF rfl ?_;exact cR ms j2 (hCm2.cnt (by exact SubC.c (.c .h) (.p (.c .h) (.c (.c .h) (.c (.c .h) (.p (.c .h) (.t (.c .w)))))))) (by rw [hmt,hz,hms];simp) ((kq2 707061141569) hml) (by walk_at "mv")
        ·refine bT rfl ?_;refine U6 (G7 ?_);walk_at "nm";refine G7 ?_;walk_at "nm";refine H5 ⟨leB rfl,fun ta hta=>?_⟩;have hCm3:=hCm2.new (o:=H4 [.ref e.o,.int (e.c:Int) e.tok]) (P:=(·=H4 e.items)) hta rfl;generalize G5 τ8 ta (H4 [.ref e.o,.int (e.c:Int) e.tok])=τ9 at hCm3 ⊢;have eacc:=hCm3.is (a:=acc) (o:=G3 (ms.map fun q=>.ref q.1) j2) (by exact mC (mC mH));refine V4 eacc (mpl ((kq2 24759169735636731952570126401) hml hil)) fun j3=>(cR (ms++[(ta,e)]) j3 ?_ (by rw [hmt,hz,N6,hms];simp) (by simp;assumption) (by walk_at "mv"))
         have z:=(hCm3.cnt (L':=(ecl acc (G3 (ms.map fun q=>.ref q.1) j2))::(ecl ta (H4 e.items))::(msC ms++((ecl rA (G3 (strValues ys) jr))::(ecl lA (G3 (stV ll) kl))::(ll.flatMap St.cells++RS)))) (by exact SubC.c (.c (.c .h)) (.c .h (.p (.c .h) (.c (.c .h) (.c (.c .h) (.p (.c .h) (.t (.c .w))))))))).put (P':=(·=G3 ((ms++[(ta,e)]).map fun q=>.ref q.1) j3)) (o:=G3 (ms.map (fun q=>Value.ref q.1)++[.ref ta]) j3) (by simp);refine z.cnt ?_;rw [Gb];exact SubC.c .h (.s (.p (.c .h) (.k (.c .h (.z .r)))))
       ·intro acc τ2 m2 zY;refine eN zY fun ms j2 hCm hms hml q1=>?_;clear zY;refine ⟨fun p hp=>?_,?_⟩
        ·rw [I7] at hp;subst hp;refine q1.trans (Eq.symm ?_);walk_at "mv"
        rw [I3,aD] at hms;rw [I3] at hml;have hmsll:∀ q∈ms,q.2∈ll:=fun q hq'=>by
         have:q.2∈ms.map (·.2):=O3 hq';rw [hms] at this;exact (List.mem_filter.mp this).1
        refine dM fun m5 em=>?_;have o1:vl m5 "first" (.ref fa):=K7 em (by walk_at "mv");have o2:vl m5 "second" (.ref sa):=K7 em (by walk_at "mv");have o3:vl m5 "later" (.ref lA):=K7 em (by walk_at "mv");have o4:vl m5 "order" (.ref s.o):=K7 em (by walk_at "mv");have o5:vl m5 "count" (.int (s.c:Int) s.tok):=K7 em (by walk_at "mv");have o6:vl m5 "place" (.str p.1 p.2):=K7 em (by walk_at "mv");have o7:vl m5 "more" (.ref acc):=K7 em (by walk_at "mv");clear em q1 n1 n2 n3 n4 n5;refine G6 (K6 (J0 ?_));walk_at "nm";refine V6 (H5 ⟨leB rfl,fun ea hea=>?_⟩);have hE1:=hCm.keep (o:=G3 [] 0) hea;have eea:G5 τ2 ea (G3 [] 0) ea=some (G3 [] 0):=I4;generalize G5 τ2 ea (G3 [] 0)=τ3' at hE1 eea ⊢;have eacc:=hE1.is (a:=acc) (o:=G3 (ms.map fun q=>.ref q.1) j2) (by exact mH);have elA':=hE1.is (a:=lA) (o:=G3 (stV ll) kl) (by exact mC (mR (mC mH)));have hmsat:∀ q∈ms,τ3' q.1=some (H4 q.2.items)∧τ3' q.2.o=some (G3 (strValues q.2.ord) q.2.j):=fun q hq'=>by
         have e1:=hE1.is (a:=q.1) (o:=H4 q.2.items) (H9 _ (O2 _ (O3 hq')));have e2:=hE1.is (a:=q.2.o) (o:=G3 (strValues q.2.ord) q.2.j) (H9 _ (O6 _ (H9 _ (H9 _ (O2 _ (List.mem_flatMap.mpr (H6 q.2 (hmsll q hq') (by simp))))))));exact ⟨e1,e2⟩
        have hmsok:∀ q∈ms,∀ p∈q.2.ord,PyData.strOk p.1=true:=fun q hq'=>mY hR (hGl.ok q.2 (hmsll q hq')).1;refine sI (da:=.list (ms.map fun q=>q.2.dat)) (db:=.list []) (.list eacc (ms_rd ms hmsat)) (.list eea .nil) (by rw [PyData.canLay0];exact wK ms hmsok) (by simp [PyData.canLay0,PyData.canLayAll0]) hu (by have:=vq ms;simp only [PyData.depth];exact q2) (I6 ?_);have eo':=hE1.is (a:=s.o) (o:=G3 (strValues s.ord) s.j) (H9 _ (O6 _ (H9 _ (H9 _ (O6 _ hRo)))));cases ms with
        | nil =>
         have hno:∀ e∈ll,¬ (nmL e.ord).Perm (nmL s.ord++[p.1]):=fun e he hp'=>by
          have:e∈ll.filter (fun e=>(nmL e.ord).isPerm (nmL s.ord++[p.1])):=List.mem_filter.mpr ⟨he,List.isPerm_iff.mpr hp'⟩;rw [← hms] at this;cases this
         refine W8 (show PyData.eqv (.list (([]:List (Addr×St)).map fun q=>q.2.dat)) (.list [])=true from by simp [PyData.eqv,PyData.eqvAll]) ?_;refine G6 (O7 (N7 ?_));walk_at "nm";refine T8 elA' F.plainAttrs_list F.slot_list_append F.type_list_append (I2 rfl (G7 (U6 (G7 (M3 ?_)))));walk_at "nm";refine V6 (G7 ?_);walk_at "nm";refine H5 ⟨leB rfl,fun pB hpB=>?_⟩;have hE2:=hE1.keep (o:=G3 [.str p.1 p.2] 0) hpB;have f1:G5 τ3' pB (G3 [.str p.1 p.2] 0) s.o=some (G3 (strValues s.ord) s.j):=O9 hpB eo';have f2:G5 τ3' pB (G3 [.str p.1 p.2] 0) pB=some (G3 (strValues [p]) 0):=I4;generalize G5 τ3' pB (G3 [.str p.1 p.2] 0)=τ5' at hE2 f1 f2 ⊢;refine jK f1 f2 (by rw [Q8,Q8];simp;exact q1) fun gB hgB=>?_;have hE3:=hE2.new (o:=G3 (strValues s.ord++strValues [p]) 0) (P:=(·=G3 (strValues (s.ord++[p])) 0)) hgB (by rw [bx]);generalize G5 τ5' gB (G3 (strValues s.ord++strValues [p]) 0)=τ6' at hE3 ⊢;refine G7 ?_;walk_at "nm";refine H5 ⟨leB rfl,fun ta hta=>?_⟩;have hE4:=hE3.new (o:=H4 [.ref gB,.int (s.c:Int) s.tok]) (P:=(·=H4 (St.items ⟨ta,gB,s.ord++[p],0,s.c,s.tok⟩))) hta rfl;generalize G5 τ6' ta (H4 [.ref gB,.int (s.c:Int) s.tok])=τ7' at hE4 ⊢;have elA2:=hE4.is (a:=lA) (o:=G3 (stV ll) kl) (by exact mC (mC (mC (mR (mC mH)))));refine H5 (V4 elA2 (mpl (lq (by assumption))) fun k3=>G9 (G9 (I2_8 k3 (ll++[⟨ta,gB,s.ord++[p],0,s.c,s.tok⟩]) ?_ ⟨fun e he=>?_,?_⟩ ?_ o1 o2 o3 o4 o5)))
         ·have z:=(hE4.cnt (L':=(ecl lA (G3 (stV ll) kl))::(ecl ta (H4 (St.items ⟨ta,gB,s.ord++[p],0,s.c,s.tok⟩)))::(ecl gB (G3 (strValues (s.ord++[p])) 0))::(ll.flatMap St.cells++RS)) (by exact SubC.c (.c (.c (.c (.r (.c .h))))) (.c .h (.c .h (.p (.c (.r (.c .h))) (.t (.c (.r (.c .w))))))))).put (P':=(·=G3 (stV (ll++[⟨ta,gB,s.ord++[p],0,s.c,s.tok⟩])) k3)) (o:=G3 (stV ll++[.ref ta]) k3) (by simp [stV]);refine z.cnt ?_;rw [St.cells_snoc];exact SubC.c .h (.s (.p (.c (.c .h)) (.k (.c .h (.k (.c .h (.z .r)))))))
         ·rcases List.mem_append.mp he with z | z
          ·exact hGl.ok e z
          ·rw [I7] at z;subst z;exact ⟨by show Z3 _ _ (nmL (s.ord++[p]));rw [show nmL (s.ord++[p])=nmL s.ord++[p.1] from by simp [nmL]];exact hon,by simp [hol],hc1⟩
         ·rw [List.pairwise_append];refine ⟨hGl.np,List.pairwise_singleton _ _,fun a ha b hb=>?_⟩;rw [I7] at hb;subst hb;show ¬ (nmL a.ord).Perm (nmL (s.ord++[p]));rw [show nmL (s.ord++[p])=nmL s.ord++[p.1] from by simp [nmL]];exact hno a ha
         ·rw [kJ,hWl,hWb,Nat.mul_add,Nat.add_assoc];congr 2;unfold U8;rw [O4,bB,List.sum_cons,List.sum_nil,Nat.add_zero,show nmL (s.ord++[p])=nmL s.ord++[p.1] from by simp [nmL]]
        | cons q ms =>
         refine Q7 (show PyData.eqv (.list ((q::ms).map fun q=>q.2.dat)) (.list [])=false from by simp [PyData.eqv,PyData.eqvAll]) ?_;refine eN (List.filter_eq_cons_iff.mp hms.symm) fun l1 l2 hl12 hno hye O=>?_;have hperm:(nmL q.2.ord).Perm (nmL s.ord++[p.1]):=List.isPerm_iff.mp hye;refine M6 (hGl.ok q.2 (hmsll q K4)) fun hOq hlq hcq=>?_;obtain ⟨eq1,eq2⟩:=hmsat q K4;have eqt:=hE1.is (a:=q.2.t) (o:=H4 q.2.items) (H9 _ (O6 _ (H9 _ (H9 _ (O2 _ (List.mem_flatMap.mpr (H6 q.2 (hmsll q K4) (by simp))))))));have hfl:ll.flatMap St.cells=l1.flatMap St.cells++((ecl q.2.t (H4 q.2.items))::(ecl q.2.o (G3 (strValues q.2.ord) q.2.j))::l2.flatMap St.cells):=by rw [hl12,eO,List.flatMap_cons];rfl
         have hl12len:l1.length+l2.length+1≤256:=by
          have z:=congrArg List.length hl12;rw [bW,R8] at z;exact (kq3 27222599755481812523215004534065007428001) hll z
         refine G6 (O7 (N7 ?_));walk_at "nm";refine T8 elA' F.plainAttrs_list F.slot_list_remove F.type_list_remove (I2 rfl (G7 (T5 ?_ fun O O=>.inl rfl)));walk_at "nm";refine J9 fun O=>⟨(I5 "list" _ (TyAt.ref eacc rfl) list_getitem_lookup),?_⟩
         refine Y5 (j:=0) (x:=.ref q.1) eacc (mpl ((kq2 25961871165351457620710492874211745) hll hml)) (by show seqIndex? ((0:Nat):Int) _=some 0;exact Z8 (by simp)) (by simp) ?_;have hqok:∀ p∈q.2.ord,PyData.strOk p.1=true:=mY hR hOq;refine H5 (zy (pre:=l1.map fun e=>.ref e.t) (post:=l2.map fun e=>.ref e.t) (y:=.ref q.2.t) (n:=kl) (by rw [elA',hl12];simp [stV]) (by simp;exact q1) hu (oJ eqt eq2) (oJ eq1 eq2) (pY _ hqok) (pY _ hqok) (Ds _ _) (by rw [xD];simp) (fun z hz=>?_) fun k3=>?_)
         ·refine G8 (List.mem_map.mp hz) fun e he zG1=>?_;obtain rfl:=zG1;have hell:e∈ll:=by rw [hl12];exact O2 _ he
          have g1:=hE1.is (a:=e.t) (o:=H4 e.items) (H9 _ (O6 _ (H9 _ (H9 _ (O2 _ (List.mem_flatMap.mpr (H6 e hell (by simp))))))));have g2:=hE1.is (a:=e.o) (o:=G3 (strValues e.ord) e.j) (H9 _ (O6 _ (H9 _ (H9 _ (O2 _ (List.mem_flatMap.mpr (H6 e hell (by simp))))))));refine M8 _ (oJ g1 g2) (pY _ (mY hR (hGl.ok e hell).1)) ?_;rw [xD,decide_eq_false (fun hnm=>?_),Bool.false_and];refine hno e he (List.isPerm_iff.mpr ?_);rw [show nmL e.ord=nmL q.2.ord from hnm];exact hperm
         let L5:List H7:=(ecl lA (G3 (stV (l1++l2)) k3))::(ecl acc (G3 ((q::ms).map fun q=>.ref q.1) j2))::(ecl q.1 (H4 q.2.items))::(ecl q.2.o (G3 (strValues q.2.ord) q.2.j))::(l1.flatMap St.cells++(l2.flatMap St.cells++RS))
         have hE2:Cells (G5 τ3' lA (G3 (l1.map (fun e=>Value.ref e.t)++l2.map fun e=>.ref e.t) k3)) L5:=by
          have z:=(hE1.cnt (L':=(ecl lA (G3 (stV ll) kl))::(ecl acc (G3 ((q::ms).map fun q=>.ref q.1) j2))::(ecl q.1 (H4 q.2.items))::(ecl q.2.o (G3 (strValues q.2.ord) q.2.j))::(l1.flatMap St.cells++(l2.flatMap St.cells++RS))) (by
           rw [hfl]
           (intro p;simp only [N6,eO,O4,bB,List.flatMap_cons,List.flatMap_nil,bz,aX,X4,cO,dq,qR];exact (kq0 30078646600084242266881577315170912169685180091457 [_,_,_,_,_,_,_,_,_,_])))).put (P':=(·=G3 (stV (l1++l2)) k3)) (o:=G3 (l1.map (fun e=>Value.ref e.t)++l2.map fun e=>.ref e.t) k3) (by simp [stV])
          exact z
         generalize G5 τ3' lA (G3 (l1.map (fun e=>Value.ref e.t)++l2.map fun e=>.ref e.t) k3)=τ5' at hE2 ⊢;have elA2:=hE2.is (a:=lA) (o:=G3 (stV (l1++l2)) k3) (by exact mH);have eacc2:=hE2.is (a:=acc) (o:=G3 ((q::ms).map fun q=>.ref q.1) j2) (by exact mC mH);have eq12:=hE2.is (a:=q.1) (o:=H4 q.2.items) (by exact mC (mC mH));refine G6 (O7 (N7 ?_));walk_at "nm";refine T8 elA2 F.plainAttrs_list F.slot_list_append F.type_list_append (I2 rfl (G7 (U6 (G7 (T5 (T5 ?_ fun O O=>.inl rfl) fun O O=>.inl rfl)))));walk_at "nm";refine J9 fun O=>⟨(I5 "list" _ (TyAt.ref eacc2 rfl) list_getitem_lookup),?_⟩
         refine Y5 (j:=0) (x:=.ref q.1) eacc2 (mpl ((kq2 25961871165351457620710492874211745) hll hml)) (by show seqIndex? ((0:Nat):Int) _=some 0;exact Z8 (by simp)) (by simp) ?_;refine J9 fun O=>⟨(I5 "tuple" _ (TyAt.ref eq12 rfl) F.slot_tuple_getitem.lookup),?_⟩
         refine rD (j:=0) (x:=.ref q.2.o) eq12 (by simp [St.items]) (by decide) (by decide) (by rfl) rfl ?_;refine G7 (M3 (T5 (T5 ?_ fun O O=>.inl rfl) fun O O=>.inl rfl));walk_at "nm";refine J9 fun O=>⟨(I5 "list" _ (TyAt.ref eacc2 rfl) list_getitem_lookup),?_⟩
         refine Y5 (j:=0) (x:=.ref q.1) eacc2 (mpl ((kq2 25961871165351457620710492874211745) hll hml)) (by show seqIndex? ((0:Nat):Int) _=some 0;exact Z8 (by simp)) (by simp) ?_;refine J9 fun O=>⟨(I5 "tuple" _ (TyAt.ref eq12 rfl) F.slot_tuple_getitem.lookup),?_⟩
         refine rD (j:=1) (x:=.int (q.2.c:Int) q.2.tok) eq12 (by simp [St.items]) (by decide) (by decide) (by rfl) rfl ?_;walk_at "nm";refine Y4 fun tk2=>?_;rw [← cW];refine H5 ⟨leB rfl,fun ta hta=>?_⟩;have hE4:=hE2.new (o:=H4 [.ref q.2.o,.int ((q.2.c+s.c:Nat):Int) tk2]) (P:=(·=H4 (St.items ⟨ta,q.2.o,q.2.ord,q.2.j,q.2.c+s.c,tk2⟩))) hta rfl;generalize G5 τ5' ta (H4 [.ref q.2.o,.int ((q.2.c+s.c:Nat):Int) tk2])=τ7' at hE4 ⊢;have elA3:=hE4.is (a:=lA) (o:=G3 (stV (l1++l2)) k3) (by exact mC mH);refine H5 (V4 elA3 (by rw [I3,bW];exact (kq2 811308473916715387115008776751169) hl12len) fun k4=>G9 (G9 (I2_8 k4 (l1++l2++[⟨ta,q.2.o,q.2.ord,q.2.j,q.2.c+s.c,tk2⟩]) ?_ ⟨fun e he=>?_,?_⟩ ?_ o1 o2 o3 o4 o5)))
         ·have z:=(hE4.cnt (L':=(ecl lA (G3 (stV (l1++l2)) k3))::(ecl ta (H4 (St.items ⟨ta,q.2.o,q.2.ord,q.2.j,q.2.c+s.c,tk2⟩)))::(ecl q.2.o (G3 (strValues q.2.ord) q.2.j))::(l1.flatMap St.cells++(l2.flatMap St.cells++RS))) (by exact SubC.c (.c .h) (.c .h (.c (.c (.c .h)) (.p (.c (.c .h)) (.p (.c (.c .h)) (.t (.c (.c .w))))))))).put (P':=(·=G3 (stV (l1++l2++[⟨ta,q.2.o,q.2.ord,q.2.j,q.2.c+s.c,tk2⟩])) k4)) (o:=G3 (stV (l1++l2)++[.ref ta]) k4) (by simp [stV]);refine z.cnt ?_;rw [St.cells_snoc];rw [eO];exact SubC.c .h (.s (.s (.p (.c (.c .h)) (.p (.c (.c .h)) (.k (.c .h (.k (.c .h (.z .r)))))))))
         ·rcases List.mem_append.mp he with z | z
          ·refine hGl.ok e ?_;rw [hl12];rcases List.mem_append.mp z with z | z
           ·exact O2 _ z
           ·exact O6 _ (H9 _ z)
          ·rw [I7] at z;subst z;exact ⟨hOq,hlq,by show 1≤q.2.c+s.c;exact (kq2 706558316592) hc1⟩
         ·have hnp:=hGl.np;rw [hl12,List.pairwise_append,List.pairwise_cons] at hnp;refine M6 hnp fun k1 zN1 k5=>?_;clear hnp;obtain ⟨k2,k3'⟩:=zN1;rw [List.pairwise_append,List.pairwise_append];refine ⟨⟨k1,k3',fun a ha b hb=>k5 a ha b (H9 _ hb)⟩,List.pairwise_singleton _ _,fun a ha b hb=>?_⟩;rw [I7] at hb;subst hb;rcases List.mem_append.mp ha with z | z
          ·exact k5 a z q.2 K4
          ·exact fun hp'=>k2 a z hp'.symm
         ·have e1:U8 first second ll=U8 first second l1+(q.2.c*Vof (nmL first) (nmL second) (nmL q.2.ord)+U8 first second l2):=by
           rw [hl12,kJ];rfl
          have e2:U8 first second [(⟨ta,q.2.o,q.2.ord,q.2.j,q.2.c+s.c,tk2⟩:St)]=q.2.c*Vof (nmL first) (nmL second) (nmL q.2.ord)+s.c*Vof (nmL first) (nmL second) (nmL s.ord++[p.1]):=by
           unfold U8;rw [O4,bB,List.sum_cons,List.sum_nil,Nat.add_zero,← DR hperm,Nat.add_mul]
          rw [kJ,kJ,e2,hWb,Nat.mul_add];exact (kq0 30014359849662920261125827560078904385 [_,_,_,_,_,_,_]) hWl e1
      ·intro τ' m' zO1;refine E2_8 zO1 fun kl ll hCS hGl hWl n1 n2 n3 n4 n5=>?_;clear zO1;refine G9 ⟨rfl,(lC kl ll ?_ hGl ?_ n1 n2 n3)⟩
       ·rw [← hRS] at hCS;exact hCS.cnt (by exact SubC.c .h (.p .h (.c (.c .h) (.p (.c .h) (.t (.c .w))))))
       ·rw [Q8,show wl.length=(nmL wl).length from (I3 _).symm,aD] at hWl;rw [hWl,hWn,hstep]
     ·intro fl τ4 m4 zP1;obtain ⟨zQ1,zz⟩:=zP1;refine E2_6 zz fun kl ll hCS hGl hWl n1 n2 n3=>?_;clear zz;obtain rfl:=zQ1;exact G9 (lC kl ll hCS hGl hWl n1 n2 n3)
    ·intro τ3 m3 zR1;refine E2_6 zR1 fun kl ll hCS hGl hWl p1 p2 p3=>?_;clear zR1;rw [I3,aD,hW] at hWl;exact G9 ⟨rfl,(lC kl ll (hCS.cnt (by exact SubC.c .h (.p .h (.t (.c (.r .w)))))) hGl hWl p1 p2 p3)⟩
   ·intro fl τ3 m3 zS1;obtain ⟨zT1,zz⟩:=zS1;refine E2_6 zz fun kl ll hCS hGl hWl p1 p2 p3=>?_;clear zz;obtain rfl:=zT1;refine G6 (K3 ?_);walk_at "nm";exact G9 (dX lA kl ll hCS hGl hWl (by walk_at "mv") (by walk_at "mv") (by walk_at "mv"))
  ·intro τ' m' zU1;refine fW zU1 fun sA ks sl hCs hG hW n1 n2 n3=>?_;clear zU1;rw [jU ns.length] at hG;exact G9 ⟨rfl,(dX sA ks sl hCs hG hW n1 n2 n3)⟩
 ·intro fl τ' m' zV1;obtain ⟨zW1,zz⟩:=zV1;refine fW zz fun sA ks sl hCs hG hW n1 n2 n3=>?_;clear zz;obtain rfl:=zW1;have hperm:∀ s∈sl,(nmL s.ord).Perm ns:=fun s hs=>by
   refine M6 (hG.ok s hs) fun h1 h2 O=>?_;exact P.perm h1 (by rw [show (nmL s.ord).length=s.ord.length from I3 _];exact h2)
  have hV1:1≤V0:=by rw [← hV0];exact P.pos
  obtain ⟨s,rfl⟩:∃ s,sl=[s]:=by
   cases sl with
   | nil=>simp [U8] at hW;exact ((kq1 25435885616) hV1 hW).elim
   | cons a l =>
    cases l with
    | nil=>exact ⟨a,rfl⟩
    | cons b l =>
     have:=(List.pairwise_cons.mp hG.np).1 b K4;exact absurd ((hperm a K4).trans (hperm b (H9 _ K4)).symm) this
  refine M6 (hG.ok s K4) fun hO hol hc1=>?_;have hol':(nmL s.ord).length=ns.length:=by rw [show (nmL s.ord).length=s.ord.length from I3 _];exact hol
  have hcV:s.c=V0:=by
   have h1:=P.one hO hol';unfold U8 at hW;simp only [O4,bB,List.sum_cons,List.sum_nil,Nat.add_zero,h1,Nat.mul_one] at hW;exact hW
  have esA:=hCs.is (a:=sA) (o:=G3 (stV [s]) ks) (by exact mH);refine G6 (Y9 (iQ (cl:=[(G4 "second",L+2),(G4 "first",L+1)]) ⟨by kernel_rfl,by kernel_rfl,(by
   intro p hp;rcases List.mem_cons.mp hp with h | h
   ·subst h;kernel_rfl
   ·rw [I7] at h;subst h;kernel_rfl),by kernel_rfl,by kernel_rfl,by kernel_rfl⟩ ?_))
  walk_at "nm";let J8:Addr→PN:=fun acc i τ2 m2=>vl m2 "first" (.ref fa)∧vl m2 "second" (.ref sa)∧((i=0∧∃ j2,Cells τ2 ((ecl acc (G3 [] j2))::(ecl sA (G3 (stV [s]) ks))::(ecl s.t (H4 s.items))::(ecl s.o (G3 (strValues s.ord) s.j))::L2))∨(i=1∧∃ ta j2,Cells τ2 ((ecl acc (G3 [.ref ta] j2))::(ecl ta (H4 [.int (s.c:Int) s.tok,.ref s.o]))::(ecl sA (G3 (stV [s]) ks))::(ecl s.t (H4 s.items))::(ecl s.o (G3 (strValues s.ord) s.j))::L2)))
  refine R0 _ _ _ (Iters.list hq esA) (Q0 J8 ?_ ?_ ?_ ?_)
  ·intro acc hacc;refine ⟨?_,?_,.inl ⟨rfl,⟨0,hCs.new (o:=G3 [] 0) (P:=(·=G3 [] 0)) hacc rfl⟩⟩⟩
   ·(try unfold vl);unfold aH
    rw [if_pos (by kernel_rfl)];walk_at "mv"
   ·(try unfold vl);unfold aH
    rw [if_pos (by kernel_rfl)];walk_at "mv"
  ·intro acc i τ2 m2 zY1 x hx;refine M6 zY1 fun O O h=>?_;clear zY1;rw [I7] at hx;rw [hx];rcases h with ⟨_,j2,hCm⟩ | ⟨_,ta,j2,hCm⟩
   ·have e:=hCm.is (a:=sA) (o:=G3 (stV [s]) ks) (by exact mC mH);rw [e,esA]
   ·have e:=hCm.is (a:=sA) (o:=G3 (stV [s]) ks) (by exact mC (mC mH));rw [e,esA]
  ·intro acc L' i v τ2 m2 hi hv zB2;refine M6 zB2 fun q1 q2 h=>?_;clear zB2;rcases h with ⟨rfl,j2,hCm⟩ | ⟨rfl,_⟩
   ·have hv:v=.ref s.t:=by simpa using hv.symm
    subst hv;have et:=hCm.is (a:=s.t) (o:=H4 s.items) (by exact mC (mC mH));refine eE (c:=(cx w os A fd505 505 L).comp _ _ L') hq et rfl rfl ?_;refine M4 (I8 (M4 (I8 (aj ?_))));refine jE (J0 (K8 (I9 (.ref 500) (I2 (by kernel_rfl) (G7 ?_)))));walk_at "nm";refine G7 ?_;walk_at "nm";refine G7 ?_;walk_at "nm";have hC3:Cells τ2 (inC fa sa s.o first second s.ord jf js s.j++[(ecl acc (G3 [] j2)),(ecl sA (G3 (stV [s]) ks)),(ecl s.t (H4 s.items))]):=by
     refine hCm.cnt ?_;rw [← hF2];unfold inC F2;exact SubC.k (.c (.c (.c (.c (.c .h)))) (.k (.c (.c (.c (.c (.c .h)))) (.k (.c (.c (.c (.c .h))) (.z .r))))))
    refine H5 (V7 (c:=(cx w os A fd505 505 L).comp _ _ L') (tX fa sa s.o first second s.ord jf js s.j r hR hO) hr7 hC3 (fun v τ4 L'' hC4 hv=>?_) fun O O O O h=>h.elim);refine E3_4 hv fun wA wl jw zD2 zE2 hwn hwm=>?_;clear hv;obtain rfl:=zD2;obtain rfl:=zE2;have hwl:wl=[]:=by
     cases wl with
     | nil=>rfl
     | cons x xs=>exact absurd ((hwm x.1).mp (by simp [nmL])) (P.noMore hO hol' x.1)
    subst hwl;have hC5:Cells τ4 ((ecl acc (G3 [] j2))::(ecl wA (G3 (strValues []) jw))::(ecl sA (G3 (stV [s]) ks))::(ecl s.t (H4 s.items))::(ecl s.o (G3 (strValues s.ord) s.j))::L2):=by
     refine hC4.cnt ?_;rw [← hF2];unfold inC F2;exact SubC.c (.r .h) (.c (.l .h) (.c (.r .h) (.c (.r .h) (.c (.l (.c (.c .h))) (.c (.l .h) (.c (.l .h) .n))))))
    refine V6 (H5 ⟨leB rfl,fun ea hea=>?_⟩);have hC6:=hC5.keep (o:=G3 [] 0) hea;have eea:G5 τ4 ea (G3 [] 0) ea=some (G3 (strValues []) 0):=I4;generalize G5 τ4 ea (G3 [] 0)=τ5 at hC6 eea ⊢;have ewA:=hC6.is (a:=wA) (o:=G3 (strValues []) jw) (by exact mC mH);refine um ewA eea (fun O h=>by cases h) (fun O h=>by cases h) hu (I6 ?_);refine iT rfl ?_;refine U6 (G7 ?_);walk_at "nm";refine G7 ?_;walk_at "nm";refine H5 ⟨leB rfl,fun ta hta=>?_⟩;have hC7:=hC6.new (o:=H4 [.int (s.c:Int) s.tok,.ref s.o]) (P:=(·=H4 [.int (s.c:Int) s.tok,.ref s.o])) hta rfl;generalize G5 τ5 ta (H4 [.int (s.c:Int) s.tok,.ref s.o])=τ6 at hC7 ⊢;have eacc:=hC7.is (a:=acc) (o:=G3 [] j2) (by exact mC mH);refine V4 eacc (by simp) fun j3=>⟨by walk_at "mv",by walk_at "mv",.inr ⟨rfl,(fc ta j3 ?_)⟩⟩
    have z:=(hC7.cnt (L':=(ecl acc (G3 [] j2))::(ecl ta (H4 [.int (s.c:Int) s.tok,.ref s.o]))::(ecl sA (G3 (stV [s]) ks))::(ecl s.t (H4 s.items))::(ecl s.o (G3 (strValues s.ord) s.j))::L2) (by exact SubC.c (.c .h) (.c .h (.c (.c .h) (.c (.c .h) (.c (.c .h) (.t (.c .w)))))))).put (P':=(·=G3 [.ref ta] j3)) (o:=G3 ([]++[.ref ta]) j3) rfl;exact z
   ·simp at hi
  ·intro acc τ2 m2 zH2;refine M6 zH2 fun q1 q2 h=>?_;clear zH2;refine ⟨fun p hp=>?_,?_⟩
   ·rcases List.mem_cons.mp hp with e | hp
    ·subst e;exact q2.trans n2.symm
    ·rw [I7] at hp;subst hp;exact q1.trans n1.symm
   ·rcases h with ⟨h,_⟩ | ⟨_,ta,j2,hCm⟩
    ·simp at h
    ·refine hQ (H6 τ2 (fun O O e=>e) (H6 _ (hCm.cnt (L':=[(ecl acc (G3 [.ref ta] j2)),(ecl ta (H4 [.int (V0:Int) s.tok,.ref s.o])),(ecl s.o (G3 (strValues s.ord) s.j))]++L2) ?_) (I7_4 acc j2 ta s.tok s.o s.ord s.j rfl hO hol (by rw [hV0,hF2]))));rw [← hcV];exact SubC.k (.c .h (.k (.c .h (.k (.c (.c (.c .h)) (.z (.t (.c (.c .w)))))))))
theorem vI:∀ (l:List Nat) (k ρ:Nat),S6 k (l++[ρ])=S6 k l++if ρ=2 then [] else [M5 (k+l.length)]
 | [],k,ρ=>by rw [aX,cL];simp [S6]
 | a::l,k,ρ=>by
  rw [bz,cL,cL,vI l,W4,R8,show k+1+l.length=k+(l.length+1) from by exact (kq2 25423459813247489)]
theorem tY:∀ (l:List Nat) (k ρ:Nat),S7 k (l++[ρ])=S7 k l++if ρ=1 then [] else [M5 (k+l.length)]
 | [],k,ρ=>by rw [aX,cQ];simp [S7]
 | a::l,k,ρ=>by
  rw [bz,cQ,cQ,tY l,W4,R8,show k+1+l.length=k+(l.length+1) from by exact (kq2 25423459813247489)]
theorem row_F (xs:List Int):∀ k,k≤xs.length→W5 2 xs k=S6 0 ((xs.take k).map rho)
 | 0,_=>rfl
 | k+1,h=>by
  have hk:xs[k]? = some xs[k]:=Z6 (by assumption);rw [show W5 2 xs (k+1)=W5 2 xs k++(match xs[k]? with | some x=>gW 2 x k | none=>[]) from rfl,hk,row_F xs k q6,aC,hk,N6,show (some xs[k]).toList=[xs[k]] from rfl,O4,bB,vI];congr 1;show (bif xs[k].fmod 3 != 2 then [M5 k] else [])=_;obtain ⟨h1,h2⟩:=ph xs[k];rw [h1,I3,eQ,Nat.min_eq_left q6,Nat.zero_add];by_cases e:rho xs[k]=2
  ·rw [e];rfl
  ·rw [if_neg e,show (((rho xs[k]:Nat):Int) != 2)=true from by rw [bne_iff_ne];exact (kq1 27921088947931515329) e];rfl
theorem row_S (xs:List Int):∀ k,k≤xs.length→W5 1 xs k=S7 0 ((xs.take k).map rho)
 | 0,_=>rfl
 | k+1,h=>by
  have hk:xs[k]? = some xs[k]:=Z6 (by assumption);rw [show W5 1 xs (k+1)=W5 1 xs k++(match xs[k]? with | some x=>gW 1 x k | none=>[]) from rfl,hk,row_S xs k q6,aC,hk,N6,show (some xs[k]).toList=[xs[k]] from rfl,O4,bB,tY];congr 1;show (bif xs[k].fmod 3 != 1 then [M5 k] else [])=_;obtain ⟨h1,h2⟩:=ph xs[k];rw [h1,I3,eQ,Nat.min_eq_left q6,Nat.zero_add];by_cases e:rho xs[k]=1
  ·rw [e];rfl
  ·rw [if_neg e,show (((rho xs[k]:Nat):Int) != 1)=true from by rw [bne_iff_ne];exact (kq1 27266703932807681) e];rfl
theorem wy (lack:Int) (xs:List Int) (hl:lack=2∨lack=1):W5 lack xs xs.length=if lack=2 then S6 0 (xs.map rho) else S7 0 (xs.map rho):=by
 rcases hl with rfl | rfl
 ·rw [row_F xs _ (K9 _),aD];rfl
 ·rw [row_S xs _ (K9 _),aD];rfl
theorem rho_lt (xs:List Int):∀ ρ∈xs.map rho,ρ<3:=fun ρ h=>by
 refine G8 (List.mem_map.mp h) fun x O zB=>?_;obtain rfl:=zB;exact (ph x).2
theorem wH:∀ k,k<8→(reprText (M5 k)).length≤1000∧PyData.strOk (M5 k)=true:=by decide +kernel
theorem Ce {first second:List (Str×Tok)} {ρs:List Nat} (h8:ρs.length≤8) (h1:nmL first=S6 0 ρs) (h2:nmL second=S7 0 ρs):Rows first second gR where
 l1:=by
  have:(nmL first).length=first.length:=I3 _
  rw [← this,h1,qN];have:∀ l:List Nat,(l.map M7).sum≤l.length:=fun l=>by
   induction l with
   | nil=>exact K9 _
   | cons a l ih =>
    rw [O4,List.sum_cons,R8];have:M7 a≤1:=by unfold M7;split <;> lia
    exact (kq3 23725053035210199105) ih this
  have:=this ρs;exact q3
 l2:=by
  have:(nmL second).length=second.length:=I3 _;rw [← this,h2,rC];have:∀ l:List Nat,(l.map M9).sum≤l.length:=fun l=>by
   induction l with
   | nil=>exact K9 _
   | cons a l ih =>
    rw [O4,List.sum_cons,R8];have:M9 a≤1:=by unfold M9;split <;> lia
    exact (kq3 23725053035210199105) ih this
  have:=this ρs;exact q3
 r1:=by rw [h1];exact rQ ρs 0 ((kq1 712983950533057) h8)
 r2:=by rw [h2];exact ru ρs 0 ((kq1 712983950533057) h8)
 ok:=fun p hp=>by
  rcases List.mem_append.mp hp with z | z
  ·have:p.1∈nmL first:=O3 (f:=(·.1)) z
   rw [h1] at this;refine R4 (jP _ _ _ this) fun i O b e=>?_;rw [e];exact wH i ((kq2 24515438650201874881) h8 b)
  ·have:p.1∈nmL second:=O3 (f:=(·.1)) z;rw [h2] at this;refine R4 (jJ _ _ _ this) fun i O b e=>?_;rw [e];exact wH i ((kq2 24515438650201874881) h8 b)
theorem readC {w:World} {os:OsState} (lack:Int) (folder up:Str) (tl tf tu:Tok) (na:Addr) (l:List (Int×Tok)) (n:Nat) (h8:l.length≤8) (hok:qy folder up=true) (hfo:folder.length≤1000) (hup:up.length≤100) :
  U4 w os 6 (.ref 481) ⟨[.ref na,.int lack tl,.str folder tf,.str up tu],[]⟩ [(ecl na (G3 (H8 l) n))]
   (fun v L'=>∃ r n' res,v=.ref r∧res.map (·.1)=W5 lack (l.map (·.1)) l.length∧L'=(ecl r (G3 (strValues res) n'))::[(ecl na (G3 (H8 l) n))]):=by
 intro τ hC;have hl:=hC.is (a:=na) (o:=G3 (H8 l) n) (by exact mH);have z:=read_ (w:=w) (os:=os) lack folder up tl tf tu na l n τ hl h8 hok hfo hup;refine (Spec.less z fun v τ' ⟨r,n',res,h1,h2,h3,h4⟩=>⟨τ',fun O O e=>e,_,?_,r,n',res,h1,h4,rfl⟩).exc fun O O h=>h.elim;rw [h3];exact hC.new (P:=(·=G3 (strValues res) n')) h2 rfl
noncomputable def jO (xs:List (Int×Tok)) (t1 t2 t3:Tok):List (Int×Tok):=xs.take 8++[(4,t1),(8,t2),(3,t3)].drop xs.length
theorem yq (xs:List (Int×Tok)) (t1 t2 t3:Tok):(jO xs t1 t2 t3).length≤8:=by
 unfold jO;rw [bW,eQ,List.length_drop];simp only [R8,lL];lia
noncomputable abbrev fsV (fs:List (Addr×List (Str×Tok)×Nat)):List Value:=fs.map fun f=>.ref f.1
noncomputable abbrev fsC (fs:List (Addr×List (Str×Tok)×Nat)):List H7:=fs.map fun f=>(ecl f.1 (G3 (strValues f.2.1) f.2.2))
theorem yZ (fs:List (Addr×List (Str×Tok)×Nat)) (f:Addr×List (Str×Tok)×Nat):fsC (fs++[f])=fsC fs++[(ecl f.1 (G3 (strValues f.2.1) f.2.2))]:=by simp [fsC]
noncomputable def fL (n:Nat) (a b:List (Str×Tok)):PyData:=.list [.tuple [.int (n:Int),.list [.list (a.map fun p=>.str p.1),.list (b.map fun p=>.str p.1)]]]
theorem xu (n:Nat) {a b:List (Str×Tok)} (ha:∀ p∈a,PyData.strOk p.1=true) (hb:∀ p∈b,PyData.strOk p.1=true):(fL n a b).canLay0=true:=by
 unfold fL;simp only [PyData.canLay0,PyData.canLayAll0,ig a ha,ig b hb,Bool.and_self]
theorem Fz (n:Nat) (a b:List (Str×Tok)):(fL n a b).depth≤100:=by
 have h:∀ l:List (Str×Tok),PyData.depthAll (l.map fun p=>.str p.1)≤0:=by
  intro l;induction l with
  | nil=>simp [PyData.depthAll]
  | cons p r ih=>simp [PyData.depthAll,PyData.depth] at ih ⊢;assumption
 have:=h a;have:=h b;unfold fL;simp only [PyData.depth,PyData.depthAll];lia
theorem yo (n:Nat) {a b a' b':List (Str×Tok)} (ha:nmL a=nmL a') (hb:nmL b=nmL b'):PyData.eqv (fL n a b) (fL n a' b')=true:=by
 unfold fL;simp only [PyData.eqv,PyData.eqvAll,nq,Bool.and_true,Bool.and_eq_true,decide_eq_true_iff];exact ⟨by simp,ha,hb⟩
theorem law_ {w:World} {os:OsState} (l:Addr) (xs:List (Int×Tok)) (n:Nat) (hxs:xs.length≤63) :
  U4 w os 12 (.ref 515) ⟨[.ref l],[]⟩ [(ecl l (G3 (H8 xs) n))] (fun v L'=>v=.bool true∧L'=[(ecl l (G3 (H8 xs) n))]):=by
 intro τ hC;refine Z7 (RX:=fun v τ'=>∃ L',Cells τ' L'∧False) k515 cd515 rfl (binds:=[(G4 "script",.ref l)]) (V9 (fun P=>by kernel_rfl)) fun A L hr=>?_;let c0:Cx:=cx w os A fd515 515 L;show W c0 (execs _ c0.env) _ (upd (fun O=>none) (G4 "script") (.ref l)) _ _;refine W7 fun Q X hQ=>?_;have hq:(cx w os A fd515 515 L).A.handled=none:=hr.quiet;have hr11:Room 11 (cx w os A fd515 515 L).A:=hr;have hu:(cx w os A fd515 515 L).A.units≤9000:=by have:=hr.units;exact (kq1 25353352030358997941207570034113) this
 have hxl:(H8 xs).length=xs.length:=by unfold H8;rw [I3]
 have el:=hC.is (a:=l) (o:=G3 (H8 xs) n) (by exact mH);refine G6 (K3 (M3 (pL ?_)));walk_at "nm";refine lz (gr (J9 fun O=>?_));refine jR l (H8 xs) n none (some (8:Int)) (H8 (xs.take 8)) rfl el ((kq2 24759169735673924711482457505) hxs hxl) IsPart.none (IsPart.int _ _) ?_ (fun b1 hb1=>?_)
 ·rw [show (8:Int)=((8:Nat):Int) from rfl,slicePick_upto'];simp [H8,List.map_take]
 have hC1:=hC.keep (o:=G3 (H8 (xs.take 8)) 0) hb1;have eb1:G5 τ b1 (G3 (H8 (xs.take 8)) 0) b1=some (G3 (H8 (xs.take 8)) 0):=I4;generalize G5 τ b1 (G3 (H8 (xs.take 8)) 0)=τ1 at hC1 eb1 ⊢;refine pL (V6 (G7 (J9 fun t1=>G7 (J9 fun t2=>G7 (J9 fun t3=>H5 ⟨leB rfl,fun b2 hb2=>?_⟩)))));have hC2:=hC1.keep (o:=G3 [.int 4 t1,.int 8 t2,.int 3 t3] 0) hb2;have eb1':G5 τ1 b2 (G3 [.int 4 t1,.int 8 t2,.int 3 t3] 0) b1=some (G3 (H8 (xs.take 8)) 0):=O9 hb2 eb1;have eb2:G5 τ1 b2 (G3 [.int 4 t1,.int 8 t2,.int 3 t3] 0) b2=some (G3 (H8 [(4,t1),(8,t2),(3,t3)]) 0):=I4;generalize G5 τ1 b2 (G3 [.int 4 t1,.int 8 t2,.int 3 t3] 0)=τ2 at hC2 eb1' eb2 ⊢;have el2:=hC2.is (a:=l) (o:=G3 (H8 xs) n) (by exact mH);refine gr (K8 (I9 (.builtin "len") (I2 rfl (G7 ?_))));walk_at "nm";refine H5 (cY el2 ((kq2 24759169735673924711482457505) hxs hxl) fun O=>lz ?_);refine jR b2 (H8 [(4,t1),(8,t2),(3,t3)]) 0 (some (((H8 xs).length:Nat):Int)) none (H8 ([(4,t1),(8,t2),(3,t3)].drop xs.length)) rfl eb2 (by simp [H8]) (IsPart.int _ _) IsPart.none ?_ (fun b3 hb3=>?_)
 ·rw [hxl,slicePick_from'];simp [H8,List.map_drop]
 have hC3:=hC2.keep (o:=G3 (H8 ([(4,t1),(8,t2),(3,t3)].drop xs.length)) 0) hb3;have eb1'':G5 τ2 b3 (G3 (H8 ([(4,t1),(8,t2),(3,t3)].drop xs.length)) 0) b1=some (G3 (H8 (xs.take 8)) 0):=O9 hb3 eb1';have eb3:G5 τ2 b3 (G3 (H8 ([(4,t1),(8,t2),(3,t3)].drop xs.length)) 0) b3=some (G3 (H8 ([(4,t1),(8,t2),(3,t3)].drop xs.length)) 0):=I4;generalize G5 τ2 b3 (G3 (H8 ([(4,t1),(8,t2),(3,t3)].drop xs.length)) 0)=τ3 at hC3 eb1'' eb3 ⊢;refine jK eb1'' eb3 (by unfold H8;rw [I3,I3,eQ,List.length_drop];simp only [R8,lL];lia) fun nA hnA=>?_;have hC4:Cells (G5 τ3 nA (G3 (H8 (xs.take 8)++H8 ([(4,t1),(8,t2),(3,t3)].drop xs.length)) 0)) [(ecl nA (G3 (H8 (jO xs t1 t2 t3)) 0)),(ecl l (G3 (H8 xs) n))]:=(hC3.new (P:=(·=G3 (H8 (jO xs t1 t2 t3)) 0)) hnA (by unfold jO H8;rw [N6])).cnt (by exact SubC.r);generalize G5 τ3 nA (G3 (H8 (xs.take 8)++H8 ([(4,t1),(8,t2),(3,t3)].drop xs.length)) 0)=τ4 at hC4 ⊢;have hn8:=yq xs t1 t2 t3;generalize jO xs t1 t2 t3=nl at hC4 hn8;clear eb1'' eb3 hC3 hnA eb1' eb2 hC2 el2 eb1 hC1 el hC hb1 hb2 hb3;have hnvl:(H8 nl).length=nl.length:=by unfold H8;rw [I3]
 refine G6 (K3 (K8 (I9 (.ref 481) (I2 (by kernel_rfl) (G7 ?_)))));walk_at "nm";refine G7 (J9 fun O=>G7 (O8 fun O=>G7 (O8 fun O=>H5 ?_)));refine V7 (F:=[(ecl l (G3 (H8 xs) n))]) (readC 2 (G4 "/u/v") (G4 "../..") _ _ _ nA nl 0 hn8 Gd (by decide +kernel) (by decide +kernel)) (hr11.less (leB rfl)) hC4 (fun v τ5 L' hC5 hv=>?_) fun O O O O h=>h.elim;refine dG hv fun fA fn first zD hfirst zE=>?_;clear hv
 obtain rfl:=zD;obtain rfl:=zE;refine G6 (K3 (K8 (I9 (.ref 481) (I2 (by kernel_rfl) (G7 ?_)))));walk_at "nm";refine G7 (J9 fun O=>G7 (O8 fun O=>G7 (O8 fun O=>H5 ?_)));let L4:List H7:=[(ecl nA (G3 (H8 nl) 0))]++[(ecl fA (G3 (strValues first) fn)),(ecl l (G3 (H8 xs) n))]
 have hC6:Cells τ5 L4:=hC5.cnt (by exact SubC.k (.c (.l (.c .h)) (.z (.c (.l .h) (.c (.r .h) .n)))));refine V7 (readC 1 (G4 "/u") (G4 "..") _ _ _ nA nl 0 hn8 DQ (by decide +kernel) (by decide +kernel)) (hr11.less (leB rfl)) hC6 (fun v τ8 L' hC7 hv=>?_) fun O O O O h=>h.elim;refine dG hv fun sA sn second zF hsecond zG=>?_;clear hv;obtain rfl:=zF;obtain rfl:=zG;generalize hnn:0=nn at hC7;have hC8:Cells τ8 ([(ecl fA (G3 (strValues first) fn)),(ecl sA (G3 (strValues second) sn)),(ecl nA (G3 (H8 nl) nn)),(ecl l (G3 (H8 xs) n))]):=hC7.cnt (by exact SubC.c (.r .h) (.c (.l .h) (.c (.l .h) (.c (.r .h) .n))));generalize hL3:([(ecl fA (G3 (strValues first) fn)),(ecl sA (G3 (strValues second) sn)),(ecl nA (G3 (H8 nl) nn)),(ecl l (G3 (H8 xs) n))]:List H7)=L3 at hC8;have hL3n:(ecl nA (G3 (H8 nl) nn))∈L3:=by rw [← hL3];simp
 have hL3f:(ecl fA (G3 (strValues first) fn))∈L3:=by rw [← hL3];simp
 have hL3s:(ecl sA (G3 (strValues second) sn))∈L3:=by rw [← hL3];simp
 have ena:∀ {τ':PH},Cells τ' L3→τ' nA=some (G3 (H8 nl) nn):=fun h=>by
  refine G8 (h.at_ _ hL3n) fun O e zH=>?_;obtain rfl:=zH;exact e
 have h8:(nl.map (·.1)).length≤8:=by rw [I3];exact hn8
 have hρl:((nl.map (·.1)).map rho).length=nl.length:=by rw [I3,I3]
 have hF:nmL first=S6 0 ((nl.map (·.1)).map rho):=by
  have z:=wy 2 (nl.map (·.1)) (.inl rfl);rw [if_pos rfl,I3] at z;exact hfirst.trans z
 have hS:nmL second=S7 0 ((nl.map (·.1)).map rho):=by
  have z:=wy 1 (nl.map (·.1)) (.inr rfl);rw [if_neg (by decide),I3] at z;exact hsecond.trans z
 have hρ3:=rho_lt (nl.map (·.1));have hRows:=Ce (by rw [hρl];exact hn8) hF hS;have hokF:∀ p∈first,PyData.strOk p.1=true:=fun p hp=>(hRows.ok p (O2 _ hp)).2
 have hokS:∀ p∈second,PyData.strOk p.1=true:=fun p hp=>(hRows.ok p (O6 _ hp)).2;refine dM fun m1 em=>?_;have o1:vl m1 "numbers" (.ref nA):=K7 em (by walk_at "mv");have o2:vl m1 "first" (.ref fA):=K7 em (by walk_at "mv");have o3:vl m1 "second" (.ref sA):=K7 em (by walk_at "mv");clear em hC4 hC5 hC6 hC7;refine G6 (K6 (J0 ?_));walk_at "nm";let J1:PV:=fun v τ' m'=>m'=m1∧∃ acc us j2,v=.ref acc∧us.map (·.1)=W5 2 (nl.map (·.1)) nl.length∧Cells τ' ((ecl acc (G3 (strValues us) j2))::L3);refine W.mono (Q':=J1) (X':=NoX) ?_ ?_ fun O O O h=>h.elim
 ·refine iQ (cl:=[(G4 "numbers",L+1)]) ⟨by kernel_rfl,by kernel_rfl,(by intro p hp;rw [I7] at hp;subst hp;kernel_rfl),by kernel_rfl,by kernel_rfl,by kernel_rfl⟩ (K8 (I9 (.type "range") (I2 rfl (G7 (K8 (I9 (.builtin "len") (I2 rfl (G7 ?_))))))));walk_at "nm";refine H5 (cY (ena hC8) ((kq2 23612184272455143662017) hn8 hnvl) fun O=>H5 (iM fun rr w1 w2 w3 hrr=>?_));rw [hnvl];have hC5:=hC8.keep (o:=aG 0 ((nl.length:Nat):Int) 1 w1 w2 w3) hrr;have err:G5 τ8 rr (aG 0 ((nl.length:Nat):Int) 1 w1 w2 w3) rr=some (aG 0 ((nl.length:Nat):Int) 1 w1 w2 w3):=I4;generalize G5 τ8 rr (aG 0 ((nl.length:Nat):Int) 1 w1 w2 w3)=τ5 at hC5 err ⊢;let J3:Addr→PN:=fun acc s τ6 m6=>∃ us j2,Cells τ6 ((ecl acc (G3 (strValues us) j2))::L3)∧us.length≤s∧us.map (·.1)=W5 2 (nl.map (·.1)) s∧vl m6 "numbers" (.ref nA);refine R0 _ _ _ (gD hq err (kq0 166643633 []) (kq1 166627249) ((kq1 5862606194538133987777) hn8)) (Q0 J3 ?_ ?_ ?_ ?_)
  ·intro acc hacc;refine cR [] 0 (hC5.new (o:=G3 [] 0) (P:=(·=G3 (strValues []) 0)) hacc rfl) (K9 _) rfl ?_
   (try unfold vl);unfold aH
   rw [if_pos (by kernel_rfl)];walk_at "mv"
  ·rintro acc s τ6 m6 _ b hb;cases hb
  ·intro acc L' s v τ6 m6 hs2 zB zI;refine U0 zB fun tv2 zC=>?_;clear zB;obtain rfl:=zC;refine eN zI fun us j2 hCm husl hus q1=>?_;clear zI;have hsn:s<nl.length:=by assumption
   obtain ⟨g,hg⟩:∃ g,nl[s]? = some g:=⟨_,Z6 hsn⟩
   have hgm:(nl.map (·.1))[s]? = some g.1:=by rw [S9,hg];rfl
   have hrow:W5 2 (nl.map (·.1)) (s+1)=W5 2 (nl.map (·.1)) s++(bif g.1.fmod 3 != 2 then [M5 s] else []):=by
    rw [show W5 2 (nl.map (·.1)) (s+1)=W5 2 (nl.map (·.1)) s++(match (nl.map (·.1))[s]? with | some x=>gW 2 x s | none=>[]) from rfl,hgm];rfl
   have en6:τ6 nA=some (G3 (H8 nl) nn):=by
    have e:=hCm.is (a:=nA) (o:=G3 (H8 nl) nn) (H9 _ hL3n);exact e
   rw [Int.zero_add ((s:Nat):Int)];refine I8 (jE (J0 (M3 (T5 ?_ fun O O=>.inl rfl))));walk_at "nm";walk_at "nm";refine ⟨(I5 "list" _ (TyAt.ref en6 rfl) list_getitem_lookup),Y5 en6 ((kq2 23612184272455143662017) hn8 hnvl) (Z8 ((kq3 23128032008257) hnvl hsn)) (iH hg) ?_⟩;refine J9 fun O=>gw (by decide) fun O=>J9 fun O=>iW (I6 ?_);cases hz:(g.1.fmod 3 != 2)
   ·refine bF rfl ?_;refine cR us j2 hCm ((kq2 707061141569) husl) ?_ (by walk_at "mv");rw [hrow,hus,hz,cond_false,X4]
   ·refine bT rfl ?_;refine M3 (O8 fun O=>T5 (O8 fun O=>?_) fun O O=>.inl rfl);walk_at "nm";refine ⟨(I5 "str" _ TyAt.str F.slot_str_getitem.lookup),rM (by simp;lia) (qL s q3) fun O=>?_⟩;refine gk (by rw [sizeLine_eq];show (G4 "/").length+1≤_;decide) fun t9=>?_;have eacc:=hCm.is (a:=acc) (o:=G3 (strValues us) j2) (by exact mH);refine V4 eacc (svl ((kq3 773724054239774997324898753) hn8 husl hsn)) fun j3=>(cR (us++[(M5 s,t9)]) j3 ?_ (by simp;assumption) ?_ (by walk_at "mv"))
    ·exact hCm.put (P':=(·=G3 (strValues (us++[(M5 s,t9)])) j3)) (by rw [bx];rfl)
    ·rw [N6,hus,hrow,hz];rfl
  ·intro acc τ6 m6 zL;refine eN zL fun us j2 hCm husl hus q1=>?_;clear zL;refine ⟨fun p hp=>?_,?_⟩
   ·rw [I7] at hp;subst hp;refine q1.trans (Eq.symm ?_);walk_at "mv"
   ·rw [jU nl.length] at hus;exact ⟨rfl,(lG acc us j2 rfl hus hCm)⟩
 intro v τ' m' zM;obtain ⟨hmm,zz⟩:=zM;refine dG zz fun acc us j2 zN hus hCa=>?_;clear zz;obtain rfl:=zN;subst m';have eacc:=hCa.is (a:=acc) (o:=G3 (strValues us) j2) (by exact mH);have erow:=hCa.is (a:=fA) (o:=G3 (strValues first) fn) (H9 _ hL3f);have husok:∀ p∈us,PyData.strOk p.1=true:=fun p hp=>by
  have h1:p.1∈us.map (·.1):=O3 (f:=(·.1)) hp;rw [hus,← hfirst] at h1;refine G8 (List.mem_map.mp h1) fun q h2 h3=>?_;rw [← h3];exact hokF q h2
 refine qK erow eacc hokF husok hu (I6 ?_);rw [show List.map (fun x:Str×Tok=>x.1) us=List.map (fun x:Str×Tok=>x.1) first from hus.trans hfirst.symm,decide_eq_true rfl];refine Q7 rfl ?_;refine G9 ?_;have hC9:=hCa.tail;clear hCa eacc erow hus husok;refine G6 (K6 (J0 ?_));walk_at "nm";let J2:PV:=fun v τ' m'=>m'=m1∧∃ acc us j2,v=.ref acc∧us.map (·.1)=W5 1 (nl.map (·.1)) nl.length∧Cells τ' ((ecl acc (G3 (strValues us) j2))::L3);refine W.mono (Q':=J2) (X':=NoX) ?_ ?_ fun O O O h=>h.elim
 ·refine iQ (cl:=[(G4 "numbers",L+1)]) ⟨by kernel_rfl,by kernel_rfl,(by intro p hp;rw [I7] at hp;subst hp;kernel_rfl),by kernel_rfl,by kernel_rfl,by kernel_rfl⟩ (K8 (I9 (.type "range") (I2 rfl (G7 (K8 (I9 (.builtin "len") (I2 rfl (G7 ?_))))))));walk_at "nm";refine H5 (cY (ena hC9) ((kq2 23612184272455143662017) hn8 hnvl) fun O=>H5 (iM fun rr w1 w2 w3 hrr=>?_));rw [hnvl];have hC5:=hC9.keep (o:=aG 0 ((nl.length:Nat):Int) 1 w1 w2 w3) hrr;have err:G5 τ' rr (aG 0 ((nl.length:Nat):Int) 1 w1 w2 w3) rr=some (aG 0 ((nl.length:Nat):Int) 1 w1 w2 w3):=I4;generalize G5 τ' rr (aG 0 ((nl.length:Nat):Int) 1 w1 w2 w3)=τ5 at hC5 err ⊢;let J4:Addr→PN:=fun acc s τ6 m6=>∃ us j2,Cells τ6 ((ecl acc (G3 (strValues us) j2))::L3)∧us.length≤s∧us.map (·.1)=W5 1 (nl.map (·.1)) s∧vl m6 "numbers" (.ref nA);refine R0 _ _ _ (gD hq err (kq0 166643633 []) (kq1 166627249) ((kq1 5862606194538133987777) hn8)) (Q0 J4 ?_ ?_ ?_ ?_)
  ·intro acc hacc;refine cR [] 0 (hC5.new (o:=G3 [] 0) (P:=(·=G3 (strValues []) 0)) hacc rfl) (K9 _) rfl ?_
   (try unfold vl);unfold aH
   rw [if_pos (by kernel_rfl)];walk_at "mv"
  ·rintro acc s τ6 m6 _ b hb;cases hb
  ·intro acc L' s v τ6 m6 hs2 zD zQ;refine U0 zD fun tv2 zE=>?_;clear zD;obtain rfl:=zE;refine eN zQ fun us j2 hCm husl hus q1=>?_;clear zQ;have hsn:s<nl.length:=by assumption
   obtain ⟨g,hg⟩:∃ g,nl[s]? = some g:=⟨_,Z6 hsn⟩
   have hgm:(nl.map (·.1))[s]? = some g.1:=by rw [S9,hg];rfl
   have hrow:W5 1 (nl.map (·.1)) (s+1)=W5 1 (nl.map (·.1)) s++(bif g.1.fmod 3 != 1 then [M5 s] else []):=by
    rw [show W5 1 (nl.map (·.1)) (s+1)=W5 1 (nl.map (·.1)) s++(match (nl.map (·.1))[s]? with | some x=>gW 1 x s | none=>[]) from rfl,hgm];rfl
   have en6:τ6 nA=some (G3 (H8 nl) nn):=by
    have e:=hCm.is (a:=nA) (o:=G3 (H8 nl) nn) (H9 _ hL3n);exact e
   rw [Int.zero_add ((s:Nat):Int)];refine I8 (jE (J0 (M3 (T5 ?_ fun O O=>.inl rfl))));walk_at "nm";walk_at "nm";refine ⟨(I5 "list" _ (TyAt.ref en6 rfl) list_getitem_lookup),Y5 en6 ((kq2 23612184272455143662017) hn8 hnvl) (Z8 ((kq3 23128032008257) hnvl hsn)) (iH hg) ?_⟩;refine J9 fun O=>gw (by decide) fun O=>J9 fun O=>iW (I6 ?_);cases hz:(g.1.fmod 3 != 1)
   ·refine bF rfl ?_;refine cR us j2 hCm ((kq2 707061141569) husl) ?_ (by walk_at "mv");rw [hrow,hus,hz,cond_false,X4]
   ·refine bT rfl ?_;refine M3 (O8 fun O=>T5 (O8 fun O=>?_) fun O O=>.inl rfl);walk_at "nm";refine ⟨(I5 "str" _ TyAt.str F.slot_str_getitem.lookup),rM (by simp;lia) (qL s q3) fun O=>?_⟩;refine gk (by rw [sizeLine_eq];show (G4 "/").length+1≤_;decide) fun t9=>?_;have eacc:=hCm.is (a:=acc) (o:=G3 (strValues us) j2) (by exact mH);refine V4 eacc (svl ((kq3 773724054239774997324898753) hn8 husl hsn)) fun j3=>(cR (us++[(M5 s,t9)]) j3 ?_ (by simp;assumption) ?_ (by walk_at "mv"))
    ·exact hCm.put (P':=(·=G3 (strValues (us++[(M5 s,t9)])) j3)) (by rw [bx];rfl)
    ·rw [N6,hus,hrow,hz];rfl
  ·intro acc τ6 m6 zT;refine eN zT fun us j2 hCm husl hus q1=>?_;clear zT;refine ⟨fun p hp=>?_,?_⟩
   ·rw [I7] at hp;subst hp;refine q1.trans (Eq.symm ?_);walk_at "mv"
   ·rw [jU nl.length] at hus;exact ⟨rfl,(lG acc us j2 rfl hus hCm)⟩
 intro v τ' m' zU;obtain ⟨hmm,zz⟩:=zU;refine dG zz fun acc us j2 zV hus hCa=>?_;clear zz;obtain rfl:=zV;subst m';have eacc:=hCa.is (a:=acc) (o:=G3 (strValues us) j2) (by exact mH);have erow:=hCa.is (a:=sA) (o:=G3 (strValues second) sn) (H9 _ hL3s);have husok:∀ p∈us,PyData.strOk p.1=true:=fun p hp=>by
  have h1:p.1∈us.map (·.1):=O3 (f:=(·.1)) hp;rw [hus,← hsecond] at h1;refine G8 (List.mem_map.mp h1) fun q h2 h3=>?_;rw [← h3];exact hokS q h2
 refine qK erow eacc hokS husok hu (I6 ?_);rw [show List.map (fun x:Str×Tok=>x.1) us=List.map (fun x:Str×Tok=>x.1) second from hus.trans hsecond.symm,decide_eq_true rfl];refine Q7 rfl ?_;refine G9 ?_;have hC10:=hCa.tail;clear hCa eacc erow hus husok;have hl1:=hRows.l1;have hl2:=hRows.l2;generalize hρs:(nl.map (·.1)).map rho=ρs at hρl hF hS hρ3;have hρ8:ρs.length≤8:=by rw [hρl];exact hn8
 have hρs':(nl.map fun p=>rho p.1)=ρs:=by rw [← hρs,fZ];rfl
 have hnd:(nmL second).Nodup:=qX hRows.r2;have hfl:(nmL first).length=first.length:=I3 _
 have hsl:(nmL second).length=second.length:=I3 _;let L6:List H7:=[(ecl sA (G3 (strValues second) sn))]++[(ecl fA (G3 (strValues first) fn)),(ecl nA (G3 (H8 nl) nn)),(ecl l (G3 (H8 xs) n))]
 have hD1:Cells τ' L6:=by
  rw [← hL3] at hC10;exact hC10.cnt (by exact SubC.k (.c (.c .h) (.z .r)))
 refine G6 (K3 (N7 (K8 (I9 (.ref 362) (I2 (by kernel_rfl) (G7 (aL (G7 ?_))))))));walk_at "nm";refine G7 ?_;walk_at "nm";refine G7 (qu (H5 ?_));refine V7 (smMake fA sA second sn hl2 hnd) (hr11.less (leB rfl)) hD1 (fun v τ9 L' hD2 hv=>?_) fun O O O O h=>h.elim;refine E6_3 hv fun x dx e j p bs zY hbs zZ=>?_;clear hv;obtain rfl:=zY;obtain rfl:=zZ;let L7:List H7:=smC w x dx fA sA second sn .none .none e j p bs++[(ecl fA (G3 (strValues first) fn)),(ecl nA (G3 (H8 nl) nn)),(ecl l (G3 (H8 xs) n))]
 have hD2:Cells τ9 L7:=hD2;have hD3:Cells τ9 (((ecl fA (G3 (strValues first) fn))::smC w x dx fA sA second sn .none .none e j p bs)++[(ecl nA (G3 (H8 nl) nn)),(ecl l (G3 (H8 xs) n))]):=hD2.cnt (by unfold smC;exact SubC.k (.c (.r .h) .r));have ex:=hD3.is (a:=x) (o:=instObj 362 dx) (by delta smC;exact mL (mC (mL mH)));refine G8 (hD3.at_ (dx,fC (Y6 fA sA .none .none e j p)) (by delta smC;exact mL (mC (mL (mC mH))))) fun od edx hf=>?_;refine bU (f:=330) ex edx hf (by kernel_rfl) (by kernel_rfl) (aq (by kernel_rfl) ?_);refine V7 (Cq x dx fA sA first second fn sn e j p bs hl1 hl2 hbs hnd gR ⟨hRows.r1,hRows.r2⟩ (Q9 0 0 ρs) (by have:=nJ ρs 0 0;exact (kq3 757977915397887369665) hn8 hρl this) (qt ρs 0 0) (fun y=>by
  rw [oH ρs 0 0 0 y hρ3 ((kq2 23363059192479490497) hn8 hρl),← hF,← hS];simp)) (hr11.less (leB rfl)) hD3 (fun v τ10 L' hD4 hv=>?_) fun O O O O h=>h.elim
 refine E3_4 hv fun ca ol ck zB1 hol hol40 zC1=>?_;clear hv;obtain rfl:=zB1;obtain rfl:=zC1;have hops:ol.map Ot.o=(eH ρs).cs:=by
  rw [hol,← Ak ρs hρ3,show cP 0 0 ρs=⟨first.length,second.length,0⟩ from by
   unfold cP;rw [← qN ρs 0,← rC ρs 0,← hF,← hS,hfl,hsl,Nat.zero_add,Nat.zero_add]]
 clear hol hD1 hD2 hD3 ex edx hf;refine G6 (K6 (J0 ?_));walk_at "nm";refine K8 (I9 (.ref 488) (I2 (by kernel_rfl) (G7 ?_)));walk_at "nm";have hD5:Cells τ10 ([(ecl nA (G3 (H8 nl) nn))]++((ecl l (G3 (H8 xs) n))::(ecl ca (G3 (otV ol) ck))::(ol.map Ot.cell++F2 fA sA first second fn sn))):=hD4.cnt (by (simp only [F2,smC];exact SubC.k (.c (.r .h) (.z (.c (.r .h) (.c (.l .h) (.p (.l .h) (.c (.l .h) (.c (.l .h) .n)))))))));refine H5 (V7 (codes_ nA nl nn (lq (by assumption))) (hr11.less (leB rfl)) hD5 (fun v τ11 L' hD6 hv=>?_) fun O O O O h=>h.elim);refine E3_5 hv fun cb ol2 ck2 zD1 hol2 O htag2 zE1=>?_;clear hv;obtain rfl:=zD1;obtain rfl:=zE1;rw [hρs'] at hol2;have htag:∀ o∈ol.map Ot.o,PyData.strOk o.tag=true:=fun o ho=>by
  rw [hops,← hol2] at ho;refine G8 (List.mem_map.mp ho) fun z hz zF1=>?_;obtain rfl:=zF1;exact htag2 z hz
 have eca:=hD6.is (a:=ca) (o:=G3 (otV ol) ck) (by exact mR (mC mH));have ecb:=hD6.is (a:=cb) (o:=G3 (otV ol2) ck2) (by exact mL mH);have rd1:Rd τ11 (.ref ca) (o5D (ol.map Ot.o)):=qx eca fun y hy=>hD6.tup (O6 _ (H9 _ (H9 _ (O2 _ (O3 hy)))));have rd2:Rd τ11 (.ref cb) (o5D (ol2.map Ot.o)):=qx ecb fun y hy=>hD6.tup (O2 _ (H9 _ (O2 _ (O3 hy))));refine rN rd1 rd2 (nW htag) (nW (by rw [hol2,← hops];exact htag)) hu (by have:=xn (ol.map Ot.o);exact q1) (I6 ?_);rw [show PyData.eqv (o5D (ol.map Ot.o)) (o5D (ol2.map Ot.o))=true from (qI _ _).mpr (by rw [hops,hol2])];refine Q7 rfl ?_;refine G9 ?_;let L11:List H7:=F2 fA sA first second fn sn++((ecl nA (G3 (H8 nl) nn))::(ecl l (G3 (H8 xs) n))::(ecl ca (G3 (otV ol) ck))::ol.map Ot.cell)
 have hD7:Cells τ11 L11:=hD6.cnt (by (simp only [F2,smC];exact SubC.k (.c (.r (.c (.c (.r .h)))) (.k (.c (.r (.c (.c (.r .h)))) (.z (.c (.l (.c (.r .h))) (.c (.r .h) (.c (.r .h) (.t (.r .h)))))))))));clear rd1 rd2 ecb eca htag2 hol2 hD6 hD5 hD4;have hP:Places (nmL first) (nmL second) (iB ρs.length) gR:=by rw [hF,hS];exact yz ρs hρ8
 have hpl:(iB ρs.length).length=nl.length:=by unfold iB;rw [I3,List.length_range,hρl]
 refine O1 (Aw ρs hρ3 hρ8) fun hway hway2=>?_;rw [← hF,← hS] at hway hway2;have ena7:=hD7.is (a:=nA) (o:=G3 (H8 nl) nn) (by exact mR mH);refine G6 (K3 (K8 (I9 (.ref 505) (I2 (by kernel_rfl) (G7 ?_)))));walk_at "nm";refine G7 ?_;walk_at "nm";refine G7 (K8 (I9 (.builtin "len") (I2 rfl (G7 ?_))));walk_at "nm";refine H5 (cY ena7 ((kq2 23612184272455143662017) hn8 hnvl) fun tN=>H5 ?_);rw [hnvl,← hpl];refine V7 (Am fA sA first second fn sn tN (iB ρs.length) gR hRows hP (by rw [hpl];exact hn8) hway2) (hr11.less (leB rfl)) hD7 (fun v τ12 L' hD8 hv=>?_) fun O O O O h=>h.elim;refine E7_4 hv fun ta tn tt tk oA ord oj zJ1 hO hordl zK1=>?_;clear hv;obtain rfl:=zJ1;obtain rfl:=zK1;have hO':=hP.readF hO (by rw [show (nmL ord).length=ord.length from I3 _];exact hordl);have hD9:Cells τ12 ((ecl ta (G3 [.ref tt] tn))::(ecl tt (H4 [.int (Vof (nmL first) (nmL second) []:Int) tk,.ref oA]))::(ecl oA (G3 (strValues ord) oj))::(ecl fA (G3 (strValues first) fn))::(ecl sA (G3 (strValues second) sn))::(ecl l (G3 (H8 xs) n))::(ecl ca (G3 (otV ol) ck))::ol.map Ot.cell):=hD8.cnt (by (simp only [F2,smC];exact SubC.c (.l (.l .h)) (.c (.l (.l .h)) (.c (.l (.l .h)) (.c (.l (.r .h)) (.c (.l (.r .h)) (.c (.r (.c .h)) (.c (.r (.c .h)) (.t (.r (.c .w)))))))))));clear hD8 hD7 ena7;generalize Vof (nmL first) (nmL second) []=V0 at hway hway2 hD9;refine dM fun m2 em=>?_;have p1:vl m2 "first" (.ref fA):=K7 em (by walk_at "mv");have p2:vl m2 "second" (.ref sA):=K7 em (by walk_at "mv");have p3:vl m2 "codes" (.ref ca):=K7 em (by walk_at "mv");have p4:vl m2 "told" (.ref ta):=K7 em (by walk_at "mv");clear em o1 o2 o3;generalize hL9:((ecl tt (H4 [.int (V0:Int) tk,.ref oA]))::(ecl oA (G3 (strValues ord) oj))::(ecl fA (G3 (strValues first) fn))::(ecl sA (G3 (strValues second) sn))::(ecl l (G3 (H8 xs) n))::(ecl ca (G3 (otV ol) ck))::ol.map Ot.cell:List H7)=L9 at hD9;have k1:(ecl tt (H4 [.int (V0:Int) tk,.ref oA]))∈L9:=by rw [← hL9];simp
 have k2:(ecl oA (G3 (strValues ord) oj))∈L9:=by rw [← hL9];simp
 have k3:(ecl fA (G3 (strValues first) fn))∈L9:=by rw [← hL9];simp
 have k4:(ecl sA (G3 (strValues second) sn))∈L9:=by rw [← hL9];simp
 have hord8:ord.length≤8:=by rw [hordl,hpl];exact hn8
 have eta:=hD9.is (a:=ta) (o:=G3 [.ref tt] tn) (by exact mH);refine G6 (sZ (cl:=[(G4 "second",L+3),(G4 "first",L+2)]) ⟨by kernel_rfl,by kernel_rfl,(by
   intro p hp;rcases List.mem_cons.mp hp with h | h
   ·subst h;kernel_rfl
   ·rw [I7] at h;subst h;kernel_rfl),by kernel_rfl,by kernel_rfl,by kernel_rfl⟩ (by kernel_rfl) (by kernel_rfl) ?_)
 walk_at "nm";let J5:Addr→PN:=fun acc i τ2 m3=>vl m3 "first" (.ref fA)∧vl m3 "second" (.ref sA)∧((i=0∧∃ j2,Cells τ2 ((ecl acc (G3 [] j2))::(ecl ta (G3 [.ref tt] tn))::L9))∨(i=1∧∃ j2 u g gn fs,Cells τ2 ((ecl acc (G3 [.ref u] j2))::(ecl u (H4 [.int (V0:Int) tk,.ref g]))::(ecl g (G3 (fsV fs) gn))::(fsC fs++((ecl ta (G3 [.ref tt] tn))::L9)))∧fs.map (fun f=>nmL f.2.1)=[nmL first,nmL second]))
 refine R0 _ _ _ (Iters.list hq eta) (Q0 J5 ?_ ?_ ?_ ?_)
 ·intro acc hacc;refine ⟨?_,?_,.inl ⟨rfl,⟨0,hD9.new (o:=G3 [] 0) (P:=(·=G3 [] 0)) hacc rfl⟩⟩⟩
  ·(try unfold vl);unfold aH
   rw [if_pos (by kernel_rfl)];walk_at "mv"
  ·(try unfold vl);unfold aH
   rw [if_pos (by kernel_rfl)];walk_at "mv"
 ·intro acc i τ2 m3 zM1 x hx;refine M6 zM1 fun O O h=>?_;clear zM1;rw [I7] at hx;rw [hx];rcases h with ⟨_,j2,hCm⟩ | ⟨_,j2,u,g,gn,fs,hCm,_⟩
  ·have e:=hCm.is (a:=ta) (o:=G3 [.ref tt] tn) (by exact mC mH);rw [e,eta]
  ·have e:=hCm.is (a:=ta) (o:=G3 [.ref tt] tn) (by exact mC (mC (mC (mR mH))));rw [e,eta]
 ·intro acc L1 i v τ2 m3 hi hv zP1;refine M6 zP1 fun q1 q2 h=>?_;clear zP1;rcases h with ⟨rfl,j2,hCm⟩ | ⟨rfl,_⟩
  ·have hv:v=.ref tt:=by simpa using hv.symm
   subst hv;have ett:=hCm.is (a:=tt) (o:=H4 [.int (V0:Int) tk,.ref oA]) (H9 _ (H9 _ k1));refine eE (c:=(cx w os A fd515 515 L).comp _ _ L1) hq ett rfl rfl ?_;refine M4 (I8 (M4 (I8 (aj ?_))));refine rm ?_;refine bT rfl ?_;refine U6 (G7 ?_);walk_at "nm";refine G7 (iQ (cl:=[(G4 "order",L1+1)]) ⟨by kernel_rfl,by kernel_rfl,(by intro p hp;rw [I7] at hp;subst hp;kernel_rfl),by kernel_rfl,by kernel_rfl,by kernel_rfl⟩ (U6 (G7 ?_)));walk_at "nm";refine G7 ?_;walk_at "nm";refine H5 ⟨leB rfl,fun tp htp=>?_⟩;have hCt:=hCm.keep (o:=H4 [.ref fA,.ref sA]) htp;have etp:G5 τ2 tp (H4 [.ref fA,.ref sA]) tp=some (H4 [.ref fA,.ref sA]):=I4;generalize G5 τ2 tp (H4 [.ref fA,.ref sA])=τ3 at hCt etp ⊢;generalize hLL:((ecl acc (G3 [] j2))::(ecl ta (G3 [.ref tt] tn))::L9:List H7)=LL at hCt;have k2':(ecl oA (G3 (strValues ord) oj))∈LL:=by rw [← hLL];exact H9 _ (H9 _ k2)
   have k3':(ecl fA (G3 (strValues first) fn))∈LL:=by rw [← hLL];exact H9 _ (H9 _ k3)
   have k4':(ecl sA (G3 (strValues second) sn))∈LL:=by rw [← hLL];exact H9 _ (H9 _ k4)
   let J6:Addr→PN:=fun acc2 k τ4 m4=>vl m4 "order" (.ref oA)∧τ4 tp=some (H4 [.ref fA,.ref sA])∧∃ fs j3,Cells τ4 ((ecl acc2 (G3 (fsV fs) j3))::(fsC fs++LL))∧fs.length=k∧fs.map (fun f=>nmL f.2.1)=[nmL first,nmL second].take k;refine R0 _ _ _ (Iters.tuple (c:=(cx w os A fd515 515 L).comp _ _ L1) hq etp) (Q0 J6 ?_ ?_ ?_ ?_)
   ·intro acc2 hacc2;refine ⟨?_,O9 hacc2 etp,(X8 [] 0 (hCt.new (o:=G3 [] 0) (P:=(·=G3 (fsV []) 0)) hacc2 rfl) rfl rfl)⟩
    (try unfold vl);unfold aH
    rw [if_pos (by kernel_rfl)];walk_at "mv"
   ·intro acc2 k τ4 m4 zR1 x hx;refine M6 zR1 fun O et4 O=>?_;clear zR1;rw [I7] at hx;rw [hx,et4,etp]
   ·intro acc2 L2 k v τ4 m4 hk hv zS1;obtain ⟨r1,et4,zz⟩:=zS1;refine aV zz fun fs j3 hCf hfsl hfs=>?_;clear zz;have hk2:k<2:=hk;obtain ⟨ra,rl,rn,rfl,hrm,hrr,htake⟩:∃ ra rl rn,v=.ref ra∧(ecl ra (G3 (strValues rl) rn))∈LL∧(nmL ord).filter (fun x=>decide (x∈nmL rl))=nmL rl∧[nmL first,nmL second].take (k+1)=[nmL first,nmL second].take k++[nmL rl]:=by
     have h01:k=0∨k=1:=by exact (kq1 31191004410972609) hk2
     rcases h01 with rfl | rfl
     ·exact gG fA first fn (by simpa using hv.symm) k3' hO'.1 rfl
     ·exact gG sA second sn (by simpa using hv.symm) k4' hO'.2 rfl
    have eoA:=hCf.is (a:=oA) (o:=G3 (strValues ord) oj) (H9 _ (O6 _ k2'));refine I8 (rm ?_);refine bT rfl ?_;refine iQ (cl:=[(G4 "row",L2+1)]) ⟨by kernel_rfl,by kernel_rfl,(by intro p hp;rw [I7] at hp;subst hp;kernel_rfl),by kernel_rfl,by kernel_rfl,by kernel_rfl⟩ ?_;walk_at "nm";let J7:Addr→PN:=fun acc3 t τ5 m5=>vl m5 "row" (.ref ra)∧τ5 tp=some (H4 [.ref fA,.ref sA])∧∃ us j4,Cells τ5 ((ecl acc3 (G3 (strValues us) j4))::(ecl acc2 (G3 (fsV fs) j3))::(fsC fs++LL))∧us.length≤t∧nmL us=((nmL ord).take t).filter (fun x=>decide (x∈nmL rl));refine R0 _ _ _ (Iters.list (c:=((cx w os A fd515 515 L).comp _ _ L1).comp _ _ L2) hq eoA) (Q0 J7 ?_ ?_ ?_ ?_)
    ·intro acc3 hacc3;refine ⟨?_,O9 hacc3 et4,(X8 [] 0 (hCf.new (o:=G3 [] 0) (P:=(·=G3 (strValues []) 0)) hacc3 rfl) (K9 _) rfl)⟩
     (try unfold vl);unfold aH
     rw [if_pos (by kernel_rfl)];walk_at "mv"
    ·intro acc3 t τ5 m5 zU1 x hx;obtain ⟨_,_,zz⟩:=zU1;refine ao zz fun us j4 hCu O=>?_;clear zz;rw [I7] at hx;rw [hx];have e:=hCu.is (a:=oA) (o:=G3 (strValues ord) oj) (H9 _ (H9 _ (O6 _ k2')));rw [e,eoA]
    ·intro acc3 L3' t v τ5 m5 ht hv zW1;obtain ⟨s1,et5,zz⟩:=zW1;refine aV zz fun us j4 hCu husl hus=>?_;clear zz;refine G8 (gZ hv) fun p hp zX1=>?_;obtain rfl:=zX1;have htl:t<8:=by have:=(List.getElem?_eq_some_iff.mp hp).1;exact q3
     have era:=hCu.is (a:=ra) (o:=G3 (strValues rl) rn) (H9 _ (H9 _ (O6 _ hrm)));have hstep:((nmL ord).take (t+1)).filter (fun x=>decide (x∈nmL rl))=((nmL ord).take t).filter (fun x=>decide (x∈nmL rl))++if p.1∈nmL rl then [p.1] else []:=by
      rw [aC,show (nmL ord)[t]? = some p.1 from by unfold nmL;rw [S9,hp];rfl,List.filter_append];congr 1;by_cases hz:p.1∈nmL rl
      ·rw [if_pos hz];simp [List.filter,hz]
      ·rw [if_neg hz];simp [List.filter,hz]
     refine I8 (jE (J0 ?_));walk_at "nm";walk_at "nm";refine Dt era (I6 ?_);by_cases hz:p.1∈nmL rl
     ·refine bT (show decide (p.1∈List.map (fun x:Str×Tok=>x.1) rl)=true from decide_eq_true hz) ?_;walk_at "nm";have eacc:=hCu.is (a:=acc3) (o:=G3 (strValues us) j4) (by exact mH);have hne:tp≠acc3:=fun e=>by
       rw [e] at et5;rw [eacc] at et5;have z:=congrArg Obj.cls (aO et5);injection z with z
       exact absurd z (by decide)
      refine V4 eacc (svl ((kq2 23612184272419957067841) husl htl)) fun j5=>⟨by walk_at "mv",P0 hne et5,(X8 (us++[p]) j5 ?_ (by simp;assumption) ?_)⟩
      ·exact hCu.put (P':=(·=G3 (strValues (us++[p])) j5)) (by rw [bx];rfl)
      ·rw [hstep,if_pos hz,← hus];simp [nmL]
     ·refine bF (show decide (p.1∈List.map (fun x:Str×Tok=>x.1) rl)=false from decide_eq_false hz) ?_;exact ⟨by walk_at "mv",et5,(X8 us j4 hCu ((kq2 707061141569) husl) (by rw [hstep,if_neg hz,X4];exact hus))⟩
    ·intro acc3 τ5 m5 zA2;obtain ⟨s1,et5,zz⟩:=zA2;refine aV zz fun us j4 hCu husl hus=>?_;clear zz;refine ⟨fun p hp=>?_,?_⟩
     ·rw [I7] at hp;subst hp;refine s1.trans (Eq.symm ?_);walk_at "mv"
     rw [show (strValues ord).length=(nmL ord).length from by rw [Q8];exact (I3 _).symm,aD,hrr] at hus;have eacc2:=hCu.is (a:=acc2) (o:=G3 (fsV fs) j3) (by exact mC mH);have hne:tp≠acc2:=fun e=>by
      rw [e] at et5;rw [eacc2] at et5;have z:=congrArg Obj.cls (aO et5);injection z with z
      exact absurd z (by decide)
     refine V4 eacc2 (mpl ((kq2 23612184272419755743297) hfsl hk2)) fun j5=>⟨by walk_at "mv",P0 hne et5,(X8 (fs++[(acc3,us,j4)]) j5 ?_ (by simp [hfsl]) ?_)⟩
     ·have z:=(hCu.cnt (L':=(ecl acc2 (G3 (fsV fs) j3))::(ecl acc3 (G3 (strValues us) j4))::(fsC fs++LL)) (by exact SubC.c (.c .h) .r)).put (P':=(·=G3 (fsV (fs++[(acc3,us,j4)])) j5)) (o:=G3 (fsV fs++[.ref acc3]) j5) (by simp [fsV]);refine z.cnt ?_;rw [yZ];exact SubC.c .h (.s (.p (.c .h) (.k (.c .h (.z .r)))))
     ·rw [htake,N6,hfs];show _++[nmL us]=_;rw [hus]
   ·intro acc2 τ4 m4 zC2;obtain ⟨r1,et4,zz⟩:=zC2;refine aV zz fun fs j3 hCf hfsl hfs=>?_;clear zz;refine ⟨fun p hp=>?_,?_⟩
    ·rw [I7] at hp;subst hp;refine r1.trans (Eq.symm ?_);walk_at "mv"
    refine H5 ⟨leB rfl,fun u hu'=>?_⟩;rw [← hLL] at hCf;have hCu:=hCf.new (o:=H4 [.int (V0:Int) tk,.ref acc2]) (P:=(·=H4 [.int (V0:Int) tk,.ref acc2])) hu' rfl;generalize G5 τ4 u (H4 [.int (V0:Int) tk,.ref acc2])=τ5 at hCu ⊢;have eacc:=hCu.is (a:=acc) (o:=G3 [] j2) (by exact mC (mC (mR mH)));refine V4 eacc (by simp) fun j5=>⟨by walk_at "mv",by walk_at "mv",.inr ⟨by simp,(I5_2 j5 u acc2 j3 fs ?_ hfs)⟩⟩
    have z:=(hCu.cnt (L':=(ecl acc (G3 [] j2))::(ecl u (H4 [.int (V0:Int) tk,.ref acc2]))::(ecl acc2 (G3 (fsV fs) j3))::(fsC fs++((ecl ta (G3 [.ref tt] tn))::L9))) (by exact SubC.c (.c (.c (.r .h))) .r)).put (P':=(·=G3 [.ref u] j5)) (o:=G3 ([]++[.ref u]) j5) rfl;exact z
  ·simp at hi
 ·intro acc τ2 m3 zE2;refine M6 zE2 fun q1 q2 h=>?_;clear zE2;refine ⟨fun p hp=>?_,?_⟩
  ·rcases List.mem_cons.mp hp with e | hp
   ·subst e;exact q2.trans p2.symm
   ·rw [I7] at hp;subst hp;exact q1.trans p1.symm
  rcases h with ⟨h,_⟩ | ⟨_,j2,u,g,gn,fs,hCm,hfs⟩
  ·simp at h
  refine dM fun m4 em=>?_;have o1:vl m4 "first" (.ref fA):=K7 em (by walk_at "mv");have o2:vl m4 "second" (.ref sA):=K7 em (by walk_at "mv");have o3:vl m4 "codes" (.ref ca):=K7 em (by walk_at "mv");have o4:vl m4 "read" (.ref acc):=K7 em (by walk_at "mv");clear em;have hcok:∀ o∈ol,o.o.i1≤o.o.i2∧o.o.j1≤o.o.j2∧o.o.i2≤8∧o.o.j2≤8:=fun o ho=>by
   have z:=xC ρs ⟨[],0,0⟩ 0 ⟨fun o h=>(by cases h),K9 _,K9 _⟩;have y:=z.1 o.o (by
    show o.o∈(eH ρs).cs;rw [← hops];exact O3 ho)
   exact (kq6 44162888919530122803288826496672992398163031061026608604294816193) hn8 hρl y
  let L13:List H7:=((ecl ca (G3 (otV ol) ck))::ol.map Ot.cell)++((ecl acc (G3 [.ref u] j2))::(ecl u (H4 [.int (V0:Int) tk,.ref g]))::(ecl g (G3 (fsV fs) gn))::(fsC fs++[(ecl fA (G3 (strValues first) fn)),(ecl sA (G3 (strValues second) sn)),(ecl l (G3 (H8 xs) n))]))
  have hE1:Cells τ2 L13:=by
   rw [← hL9] at hCm;exact hCm.cnt (by exact SubC.k (.c (.c (.c (.c (.r (.c (.c (.c (.c (.c (.c .h)))))))))) (.p (.c (.c (.c (.r (.c (.c (.c (.c (.c (.c .w)))))))))) (.c .h (.c .h (.c .h (.p .h (.c (.c (.c (.c .h))) (.c (.c (.c (.c .h))) (.c (.c (.c (.c .h))) .n))))))))))
  refine G6 (Y9 (nC ?_));walk_at "nm";refine V6 (G7 (U6 (G7 (K8 (I9 (.ref 510) (I2 (by kernel_rfl) (G7 ?_)))))));walk_at "nm";refine H5 (V7 (Ar ca ol ck hol40 hcok) (hr11.less (leB rfl)) hE1 (fun v τ3 L' hE2 hv=>?_) fun O O O O h=>h.elim);refine G8 hv fun tpas zF2 zG2=>?_;clear hv;obtain rfl:=zF2;obtain rfl:=zG2;rw [hops,← hway];refine G7 (V6 (G7 ?_));walk_at "nm";refine G7 ?_;walk_at "nm";refine H5 ⟨leB rfl,fun ra hra=>?_⟩;have hE3:=hE2.new (o:=G3 [.ref fA,.ref sA] 0) (P:=(·=G3 [.ref fA,.ref sA] 0)) hra rfl;generalize G5 τ3 ra (G3 [.ref fA,.ref sA] 0)=τ4 at hE3 ⊢;refine H5 ⟨leB rfl,fun rt hrt=>?_⟩;have hE4:=hE3.new (o:=H4 [.int (V0:Int) tpas,.ref ra]) (P:=(·=H4 [.int (V0:Int) tpas,.ref ra])) hrt rfl;generalize G5 τ4 rt (H4 [.int (V0:Int) tpas,.ref ra])=τ5 at hE4 ⊢;refine H5 ⟨leB rfl,fun rl hrl=>?_⟩;have hE5:=hE4.new (o:=G3 [.ref rt] 0) (P:=(·=G3 [.ref rt] 0)) hrl rfl;generalize G5 τ5 rl (G3 [.ref rt] 0)=τ6 at hE5 ⊢;obtain ⟨f1,f2,rfl,hf1,hf2⟩:∃ f1 f2,fs=[f1,f2]∧nmL f1.2.1=nmL first∧nmL f2.2.1=nmL second:=by
   cases fs with
   | nil=>cases hfs
   | cons f1 fs =>
    cases fs with
    | nil=>simp at hfs
    | cons f2 fs =>
     cases fs with
     | nil =>
      simp at hfs;exact X8 f1 f2 rfl hfs.1 hfs.2
     | cons f3 fs=>simp at hfs
  have okN:∀ (l l':List (Str×Tok)),nmL l=nmL l'→(∀ p∈l',PyData.strOk p.1=true)→∀ p∈l,PyData.strOk p.1=true:=fun l l' e h p hp=>by
   have h1:p.1∈nmL l:=O3 (f:=(·.1)) hp;rw [e] at h1;refine G8 (List.mem_map.mp h1) fun q h2 h3=>?_;rw [← h3];exact h q h2
  have g1:=hE5.is (a:=acc) (o:=G3 [.ref u] j2) (by exact mC (mC (mC (mR mH))));have g2:=hE5.is (a:=u) (o:=H4 [.int (V0:Int) tk,.ref g]) (by exact mC (mC (mC (mR (mC mH)))));have g3:=hE5.is (a:=g) (o:=G3 (fsV [f1,f2]) gn) (by exact mC (mC (mC (mR (mC (mC mH))))));have g4:=hE5.is (a:=f1.1) (o:=G3 (strValues f1.2.1) f1.2.2) (by simp);have g5:=hE5.is (a:=f2.1) (o:=G3 (strValues f2.2.1) f2.2.2) (by simp);have g6:=hE5.is (a:=rl) (o:=G3 [.ref rt] 0) (by exact mH);have g7:=hE5.is (a:=rt) (o:=H4 [.int (V0:Int) tpas,.ref ra]) (by exact mC mH);have g8:=hE5.is (a:=ra) (o:=G3 [.ref fA,.ref sA] 0) (by exact mC (mC mH));have g9:=hE5.is (a:=fA) (o:=G3 (strValues first) fn) (by exact mC (mC (mC (mR (mC (mC (mC (mR mH))))))));have g10:=hE5.is (a:=sA) (o:=G3 (strValues second) sn) (by exact mC (mC (mC (mR (mC (mC (mC (mR (mC mH)))))))));have rdA:Rd τ6 (.ref acc) (fL V0 f1.2.1 f2.2.1):=.list g1 (.cons (.tuple g2 (.cons (.int _ _) (.cons (.list g3 (.cons (.list g4 (dC _)) (.cons (.list g5 (dC _)) .nil))) .nil))) .nil);have rdB:Rd τ6 (.ref rl) (fL V0 first second):=.list g6 (.cons (.tuple g7 (.cons (.int _ _) (.cons (.list g8 (.cons (.list g9 (dC _)) (.cons (.list g10 (dC _)) .nil))) .nil))) .nil);refine sI rdA rdB (xu _ (okN _ _ hf1 hokF) (okN _ _ hf2 hokS)) (xu _ hokF hokS) hu (Fz _ _ _) ?_;rw [yo _ hf1 hf2];exact hQ (H6 τ6 (fun O O e=>e) (M8 _ (hE5.cnt (L':=[(ecl l (G3 (H8 xs) n))]) (by exact SubC.c (.c (.c (.c (.r (.c (.c (.c (.r (.c (.c .h)))))))))) .n)) rfl rfl))
theorem CQ {q:Program} {nm:Str} {d:DefRec} {kwd:List (Str×Expr)} (h:defOf q nm=some (d,kwd)):d.name=nm:=by
 unfold defOf at h;split at h
 ·rename_i e q';have:=List.find?_some q';split at h
  ·cases h;exact beq_iff_eq.mp this
  ·cases h
 ·have:=List.find?_some h;exact beq_iff_eq.mp this
theorem CN {vs:List Value} {ns:List Int} (h:IntsAre vs ns):∃ xs:List (Int×Tok),vs=H8 xs∧xs.length=ns.length:=by
 induction h with
 | nil=>exact (H6 [] rfl rfl)
 | cons n t _ ih =>
  refine G8 ih fun xs h1 h2=>?_;clear ih;exact H6 ((n,t)::xs) (by rw [h1];rfl) (by simp [h2])
theorem Ba {w:World} {s:Shared} {l:Addr} {xs:List (Int×Tok)} {n:Nat} (X:(H3 w.params).In s.heap) (hg:s.gens=#[]) (hl:s.heap.get? l=some (G3 (H8 xs) n)) (h516:516≤l) (hlen:xs.length≤63) {Q:Value→Shared→Prop} {E:Value→Shared→Prop}
  (h:∀ s',(∀ b o,s.heap.get? b=some o→s'.heap.get? b=some o)→s'.os=s.os→s'.gens=#[]→Q (.bool true) s'):wpAny (model pw w) callerA (PySem.call (.ref 515) [.ref l]) Q E s:=by
 have hτ:∀ b o,G5 noH l (G3 (H8 xs) n) b=some o→b=l∧o=G3 (H8 xs) n:=fun b o e=>by
  unfold G5 noH at e;split at e
  ·rename_i hb;cases e;exact ⟨hb,rfl⟩
  ·cases e
 have hC:Cells (G5 noH l (G3 (H8 xs) n)) [(ecl l (G3 (H8 xs) n))]:=Cells.nil.new (P:=(·=G3 (H8 xs) n)) rfl rfl;have sp:=law_ (w:=w) (os:=s.os) l xs n hlen _ hC;have hfrs:frs callerA=[]:=rfl;have at0:HAt w s.os callerA (G5 noH l (G3 (H8 xs) n)) s:=⟨X,fun b o e=>by
  obtain ⟨rfl,rfl⟩:=hτ b o e;exact hl,fun b o e=>by
  obtain ⟨rfl,rfl⟩:=hτ b o e;exact h516,hg,rfl,(H6 [] rfl (fun env he=>(by cases he))),fun b o e=>by rw [hfrs];exact cV⟩
 refine wpAny_call (codeAny_mono (sp callerA s ⟨by decide,by decide,rfl⟩ at0) fun r s' hb=>?_);cases r with
 | ok fl =>
  cases fl with
  | ret v =>
   obtain ⟨τ',st,L',hL,zB,zC⟩:=hb;obtain rfl:=zB;obtain rfl:=zC;refine h s' (fun b o e=>?_) st.at_.os st.at_.gens;by_cases hbl:b=l
   ·subst hbl;rw [hl] at e;cases e;refine G8 (hL.at_ (ecl b (G3 (H8 xs) n)) (by simp)) fun O e1 zD=>?_;obtain rfl:=zD;exact st.at_.keep _ _ e1
   ·refine (st.keep b o e ?_).exact (by rw [hfrs];exact cV);unfold G5 noH;rw [if_neg hbl]
  | _=>cases hb
 | error e =>
  obtain ⟨τ',st,L',hL,hf⟩:=hb;exact hf.elim
set_option maxHeartbeats 0 in
theorem fin:PySem.Challenge.rw_il0103_01.Holds:=by
 refine hd fun d kwd hdef=>?_;intro w s0 s1 mg mb G y fa o pm cd doc dV kV ho hdt hcd hD hmg hg args vals as L hpre hlay hrd hwl hlo;refine bR (z_facts (K:=H3) (as:=asL) (fun P=>by kernel_rfl) y) fun ZA ZI ZN ZT=>?_;have KX:(H3 w.params).In s1.heap:=InK.keeps w s0.heap s1.heap ZI L.keeps;refine Ground.open G ?_;intro T B D TE TW;rw [CQ hdef] at hmg;have h515:vl mg "law" (.ref 515):=mg_of KX T.g (by kernel_rfl);rw [h515] at hmg;have hfa:fa=515:=(Value.ref.inj (aO hmg)).symm;subst hfa;clear hdef hcd hD hdt ho
 wrow_args hpre hlay hrd hwl hlo
 rename_i ns _ _ _ _ _ _ la vs _ hL _ _ _ hI _ hlen _;obtain ⟨hat,hsz⟩:=script_at L;have hol:=script_obj L hL;refine G8 (CN hI) fun xs zE hxs=>?_;obtain rfl:=zE;refine Ba (n:=0) KX hg hol (by rw [hat,ZN];exact K9 _) ((kq2 25961486745686197090856041617295341) hlen hxs) fun s' hk hos hgs=>?_;refine ⟨.inl (I3_5 (.bool true) (.bool true) [] rfl (fun O=>rfl) (.bool true) ?_ (fun O=>⟨List.nodup_nil,fun a ha=>(by cases ha)⟩)),.of_keep hk,hos,.of_eq hgs⟩
 wrow_post
end Mine
theorem PySem.Challenge.cw_il0103_01_holds : PySem.Challenge.rw_il0103_01.Holds :=
  Mine.fin
